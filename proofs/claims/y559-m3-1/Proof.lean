import JvmDerived
import JvmDerived.Pilot.@@N@@Statement
import JvmDerived.Pilot.@@N@@Code
set_option linter.unusedVariables false
set_option linter.unusedSimpArgs false
namespace Jvm.Pilot.@@N@@
open Jvm Jvm.ClassFile Sem Op Lib Jvm.Free Jvm.Stand Jvm.LawKit Jvm.RoadKit Bundle Jvm.Pilot.@@N@@.Jvm.D
section OwnKit
variable {p : Program} {l : Launch} {e : Env} {R : Room} {s : State} {m : MethodId} {args : Array Value} {below : List Frame} {meth : Method} {c : Code} {T : State} {locs : List Loc} {cells slots : Nat}
/-- the contract of a body at given arguments and a given heap -/
def own_Con (l : Launch) (Z : State) (y : MethodName) (bytes : ByteArray) (maxL : Nat) (ret : Option FieldType) (ws : List Jvm.Cond) (rm : Room) (as' : Array Value) (h0 : Heap) (Q : Option Value → Heap → List Loc → Prop) : Prop :=
  MetFree l y (head1 (Jvm.Cond.code y bytes maxL ret :: ws) rm) (fun a U => a = as' ∧ Z.Warmed39 U.vm ∧ U.heap = h0) (fun _ _ _ _ _ => True) (fun _ U o U' => ∃ v L, o = .returned v ∧ Q v U'.heap L ∧ FrameEnd U o U' L rm.cells rm.slots)
/-- G holds of a state where the walk is owed; it goes backwards over steps -/
def own_Bk (p : Program) (e : Env) (below : List Frame) (G : State → Prop) : Prop := ∀ S S', (∀ t, Steps p.tables e below S' t → Steps p.tables e below S t) → G S' → G S
/-- a walk may end where its body returns -/
def own_Rt (p : Program) (l : Launch) (e : Env) (rm : Room) (s : State) (m : MethodId) (as' : Array Value) (below : List Frame) (meth : Method) (c : Code) (ret : Option FieldType) (Q : Option Value → Heap → List Loc → Prop) (G : State → Prop) : Prop :=
  ∀ T locs cells slots v S, Stand p l e rm s m as' below meth c T locs cells slots → cells ≤ rm.cells → slots ≤ rm.slots → (ret = none → v = none) → Q v T.heap locs →
    (∀ fs, (∀ (f : JFrame) (acts : List Action), f.method = m → f.locked = none → f.entered = [] → (doReturn e (T.setTop f) acts v).1 = T.setFrames fs) → Steps p.tables e below S (T.setFrames fs)) → G S
theorem own_intro {Z : State} {y : MethodName} {bytes : ByteArray} {maxL : Nat} {ret : Option FieldType} {ws : List Jvm.Cond} {rm : Room} {as' : Array Value} {h0 : Heap} {Q : Option Value → Heap → List Loc → Prop} (hpn : plainFor y = true)
    (H : ∀ (p : Program) (e : Env) (s : State) (m : MethodId) (below : List Frame) (meth : Method) (c : Code) (s₁ : State) (G : State → Prop), p.tables.exec = Jvm.exec → c.code = bytes → c.maxLocals = maxL → s.vm.findClass y.cls = some m.cls → meth.name = y.name → meth.sig.returnType = ret → Z.Warmed39 s.vm →
      Stand p l e rm s m as' below meth c s₁ [] 0 0 → s₁.heap = h0 → own_Bk p e below G → own_Rt p l e rm s m as' below meth c ret Q G → G (s₁.setTop (entryFrame m as' maxL))) : own_Con l Z y bytes maxL ret ws rm as' h0 Q := by
  refine MetFree.of_bodySF hpn hisR ?_
  intro p e s m args below meth c s₁ Bd hml hP hK
  obtain ⟨rfl, hZ, hh⟩ := hP
  refine H p e s m below meth c s₁ (fun S => ∃ s₂ o, Steps p.tables e below S s₂ ∧ s₂.status = .running ∧ Ended s₂ below o ∧ ∃ v L, o = .returned v ∧ Q v s₂.heap L ∧ FrameEnd s o s₂ L rm.cells rm.slots) Bd.exec Bd.bytes hml (findClass_of_methodNamed Bd.named) (name_of_methodNamed Bd.named Bd.method).1 Bd.returns hZ (Stand.of_body Bd) (by rw [← hh, Bd.state]; rfl) ?_ ?_
  · rintro S S' st ⟨s₂, o, h1, h2⟩
    exact ⟨s₂, o, st _ h1, h2⟩
  · intro T locs cells slots v S X hc hs hv hQ hst
    obtain ⟨fs, hr, hrun, hended, hW, hsame⟩ := X.leave (v := v) (fun h => hv (Bd.returns ▸ h))
    exact ⟨_, _, hst fs hr, hrun, hended, v, locs, rfl, hQ, ⟨_, rfl⟩, hW, hsame.mono hc hs⟩
section Rets
variable {Q : Option Value → Heap → List Loc → Prop} {G : State → Prop} {ret : Option FieldType} {pc : Nat} {Ls : Array Slot} {rest : List Value}
theorem own_retV (hR : own_Rt p l e R s m args below meth c none Q G) (hret : meth.sig.returnType = none) (X : Stand p l e R s m args below meth c T locs cells slots) (hx : p.tables.exec = Jvm.exec) (hd : decode c.code pc = .ok (.return_, 1)) (hc : cells ≤ R.cells) (hs : slots ≤ R.slots) (hQ : Q none T.heap locs) : G (T.setTop (mkF m pc Ls [])) :=
  hR T locs cells slots none _ X hc hs (fun _ => rfl) hQ fun fs hr => X.returnOut hx hret hd hr
theorem own_retA {t : FieldType} {v : Value} (hR : own_Rt p l e R s m args below meth c (some t) Q G) (hret : meth.sig.returnType = some t) (ht : t.isReference = true) (hv : v.isRef = true) (X : Stand p l e R s m args below meth c T locs cells slots) (hx : p.tables.exec = Jvm.exec) (hd : decode c.code pc = .ok (.areturn, 1)) (hc : cells ≤ R.cells) (hs : slots ≤ R.slots) (hQ : Q (some v) T.heap locs) : G (T.setTop (mkF m pc Ls (v :: rest))) :=
  hR T locs cells slots (some v) _ X hc hs (fun h => nomatch h) hQ fun fs hr => retOut X hx hret (by cases t <;> simp_all [FieldType.isReference, narrow]) (Or.inr (Or.inr (Or.inr (Or.inr ⟨rfl, ht, hv⟩)))) hd hr
theorem own_retI {z : Int32} (hR : own_Rt p l e R s m args below meth c (some .int) Q G) (hret : meth.sig.returnType = some .int) (X : Stand p l e R s m args below meth c T locs cells slots) (hx : p.tables.exec = Jvm.exec) (hd : decode c.code pc = .ok (.ireturn, 1)) (hc : cells ≤ R.cells) (hs : slots ≤ R.slots) (hQ : Q (some (.int z)) T.heap locs) : G (T.setTop (mkF m pc Ls (.int z :: rest))) :=
  hR T locs cells slots (some (.int z)) _ X hc hs (fun h => nomatch h) hQ fun fs hr => retOut X hx hret rfl (Or.inl ⟨rfl, Or.inl rfl, z, rfl⟩) hd hr
theorem own_retL {z : Int64} (hR : own_Rt p l e R s m args below meth c (some .long) Q G) (hret : meth.sig.returnType = some .long) (X : Stand p l e R s m args below meth c T locs cells slots) (hx : p.tables.exec = Jvm.exec) (hd : decode c.code pc = .ok (.lreturn, 1)) (hc : cells ≤ R.cells) (hs : slots ≤ R.slots) (hQ : Q (some (.long z)) T.heap locs) : G (T.setTop (mkF m pc Ls (.long z :: rest))) :=
  hR T locs cells slots (some (.long z)) _ X hc hs (fun h => nomatch h) hQ fun fs hr => retOut X hx hret rfl (Or.inr (Or.inl ⟨rfl, rfl, z, rfl⟩)) hd hr
theorem own_retN {z : Int32} {t : FieldType} (hR : own_Rt p l e R s m args below meth c (some t) Q G) (hret : meth.sig.returnType = some t) (ht : t = .boolean ∨ t = .byte ∨ t = .char ∨ t = .short) (X : Stand p l e R s m args below meth c T locs cells slots) (hx : p.tables.exec = Jvm.exec) (hd : decode c.code pc = .ok (.ireturn, 1)) (hc : cells ≤ R.cells) (hs : slots ≤ R.slots) (hQ : Q (some (.int (nar t z))) T.heap locs) : G (T.setTop (mkF m pc Ls (.int z :: rest))) :=
  hR T locs cells slots (some (.int (nar t z))) _ X hc hs (fun h => nomatch h) hQ fun fs hr => retN X hx hret ht hd hr
end Rets
section Calls
variable {Z : State} {a0 : Array Value} {own : String} {index : Nat} {y z : MethodName} {bytes : ByteArray} {maxL : Nat} {ret : Option FieldType} {rm : Room} {as' : Array Value} {h : Heap} {Q : Option Value → Heap → List Loc → Prop} {G : State → Prop} {pc : Nat} {Ls : Array Slot} {stk argsL rest : List Value}
theorem own_callS (X : Stand p l e R s m args below meth c T locs cells slots) (hx : p.tables.exec = Jvm.exec) (hZ : Z.Warmed39 s.vm) (hG : own_Bk p e below G) (hown : s.vm.findClass own = some m.cls)
    (w1 : (Jvm.Cond.methodLink own index y).before a0 Z = true) (w2 : (Jvm.Cond.static y).before a0 Z = true) (w3 : (Jvm.Cond.initialized y.cls).before a0 Z = true) (w4 : (Jvm.Cond.code y bytes maxL ret).before a0 Z = true)
    (hy : y.cls ≠ "java/lang/invoke/MethodHandle" ∧ y.cls ≠ "java/lang/invoke/VarHandle") (W : Nat) (hM : own_Con l Z y bytes maxL ret [] rm as' h Q) (hf : rm.frames + 1 ≤ R.frames) (hlo : W + (maxL + 11) + rm.locals ≤ R.locals) (eT : T.heap = h)
    (hsize : Ls.size = c.maxLocals) (hlen : ∀ sig, parseMethodDescriptor y.desc = some sig → argsL.length = sig.parameters.length) (has : argsL.toArray = as') (hst : stk = argsL.reverse ++ rest) (hW : (rest.map fun v => v.category).sum ≤ W)
    (hd : decode c.code pc = .ok (.invokestatic index, 3)) (hc : cells + rm.cells ≤ R.cells) (hs : slots + rm.slots ≤ R.slots)
    (k : ∀ T' h' v L, Stand p l e R s m args below meth c T' (locs ++ L) (cells + rm.cells) (slots + rm.slots) → T'.heap = h' → Q v h' L → G (T'.setTop (mkF m (pc + 3) Ls (v.toList ++ rest)))) : G (T.setTop (mkF m pc Ls stk)) := by
  obtain ⟨v, _, ⟨T1, L1, k1, n1⟩, -, X1, ⟨L, hQ, rfl, rfl, rfl⟩, st⟩ := Jvm.LawKit.callS X hx (y := y) hown (mvT hZ w1) (mvT hZ w2) (mvT hZ w3) (mvT hZ w4) hy (backOf (W := W) hM hZ w4 w3 hf hlo) (g := mkF m pc Ls stk) rfl hsize (argsL := argsL) (rest := rest) hlen hst (by show 2 * 0 + _ ≤ _; rw [Nat.mul_zero, Nat.zero_add]; exact hW) hd (fun _ _ => ⟨has, eT, hc, hs⟩)
  exact hG _ _ st (k T1 _ v L X1 rfl hQ)
theorem own_callI (X : Stand p l e R s m args below meth c T locs cells slots) (hx : p.tables.exec = Jvm.exec) (hZ : Z.Warmed39 s.vm) (hG : own_Bk p e below G) (hown : s.vm.findClass own = some m.cls) (hy1 : y.name = "<init>")
    (w1 : (Jvm.Cond.methodLink own index y).before a0 Z = true) (w2 : (Jvm.Cond.instanceMethod y).before a0 Z = true) (w3 : (Jvm.Cond.initialized y.cls).before a0 Z = true) (w4 : (Jvm.Cond.code y bytes maxL none).before a0 Z = true)
    (hy : y.cls ≠ "java/lang/invoke/MethodHandle" ∧ y.cls ≠ "java/lang/invoke/VarHandle") (W : Nat) (hM : own_Con l Z y bytes maxL none [] rm as' h Q) (hf : rm.frames + 1 ≤ R.frames) (hlo : W + (maxL + 11) + rm.locals ≤ R.locals) (eT : T.heap = h)
    (hsize : Ls.size = c.maxLocals) (hlen : ∀ sig, parseMethodDescriptor y.desc = some sig → argsL.length = sig.parameters.length) {a : Addr} (has : (.ref a :: argsL).toArray = as') (hst : stk = argsL.reverse ++ .ref a :: rest) (hW : (rest.map fun v => v.category).sum ≤ W)
    (hd : decode c.code pc = .ok (.invokespecial index, 3)) (hc : cells + rm.cells ≤ R.cells) (hs : slots + rm.slots ≤ R.slots)
    (k : ∀ T' h' v L, Stand p l e R s m args below meth c T' (locs ++ L) (cells + rm.cells) (slots + rm.slots) → T'.heap = h' → Q v h' L → G (T'.setTop (mkF m (pc + 3) Ls (v.toList ++ rest)))) : G (T.setTop (mkF m pc Ls stk)) := by
  obtain ⟨v, _, ⟨T1, L1, k1, n1⟩, -, X1, ⟨L, hQ, rfl, rfl, rfl⟩, st⟩ := X.specialBack hx (y := y) hy1 hown (mvT hZ w1) (mvT hZ w2) (mvT hZ w4) hy (backOf (W := W) hM hZ w4 w3 hf hlo) (g := mkF m pc Ls stk) rfl hsize (Steps.refl _) (a := a) (argsL := argsL) (rest := rest) hlen hst (by show 2 * 0 + _ ≤ _; rw [Nat.mul_zero, Nat.zero_add]; exact hW) hd (fun _ _ => ⟨has, eT, hc, hs⟩)
  exact hG _ _ (fun t kk => st.trans kk) (k T1 _ v L X1 rfl hQ)
theorem own_callV {C : String} (X : Stand p l e R s m args below meth c T locs cells slots) (hx : p.tables.exec = Jvm.exec) (hZ : Z.Warmed39 s.vm) (hG : own_Bk p e below G) (hown : s.vm.findClass own = some m.cls)
    (w1 : (Jvm.Cond.methodLink own index y).before a0 Z = true) (w2 : (Jvm.Cond.declares y).before a0 Z = true) (w3 : (Jvm.Cond.selects C y y).before a0 Z = true) (w4 : (Jvm.Cond.instanceMethod y).before a0 Z = true) (w5 : (Jvm.Cond.initialized y.cls).before a0 Z = true) (w6 : (Jvm.Cond.code y bytes maxL ret).before a0 Z = true)
    (hy : y.cls ≠ "java/lang/invoke/MethodHandle" ∧ y.cls ≠ "java/lang/invoke/VarHandle") (W : Nat) (hM : own_Con l Z y bytes maxL ret [] rm as' h Q) (hf : rm.frames + 1 ≤ R.frames) (hlo : W + (maxL + 11) + rm.locals ≤ R.locals) (eT : T.heap = h) {b : Addr} (E : Exa Z h b C)
    (hsize : Ls.size = c.maxLocals) (hlen : ∀ sig, parseMethodDescriptor y.desc = some sig → argsL.length = sig.parameters.length) (has : (.ref b :: argsL).toArray = as') (hst : stk = argsL.reverse ++ .ref b :: rest) (hW : (rest.map fun v => v.category).sum ≤ W)
    (hd : decode c.code pc = .ok (.invokevirtual index, 3)) (hc : cells + rm.cells ≤ R.cells) (hs : slots + rm.slots ≤ R.slots)
    (k : ∀ T' h' v L, Stand p l e R s m args below meth c T' (locs ++ L) (cells + rm.cells) (slots + rm.slots) → T'.heap = h' → Q v h' L → G (T'.setTop (mkF m (pc + 3) Ls (v.toList ++ rest)))) : G (T.setTop (mkF m pc Ls stk)) := by
  obtain ⟨cq, kq, qa, qb, qc⟩ := isOf hZ eT E
  obtain ⟨v, _, ⟨T1, L1, k1, n1⟩, -, X1, ⟨L, hQ, rfl, rfl, rfl⟩, st⟩ := X.virtualBack hx (y := y) (z := y) hown (mvT hZ w1) (mvT hZ w2) (notFace_of_selects (args := #[]) (mvT hZ w3)) (mvT hZ w3) (mvT hZ w4) hy (backOf (W := W) hM hZ w6 w5 hf hlo) qa qc (g := mkF m pc Ls stk) rfl hsize (Steps.refl _) (argsL := argsL) (rest := rest) hlen hst (by show 2 * 0 + _ ≤ _; rw [Nat.mul_zero, Nat.zero_add]; exact hW) hd (fun _ _ => ⟨has, eT, hc, hs⟩)
  exact hG _ _ (fun t kk => st.trans kk) (k T1 _ v L X1 rfl hQ)
theorem own_callP (X : Stand p l e R s m args below meth c T locs cells slots) (hx : p.tables.exec = Jvm.exec) (hZ : Z.Warmed39 s.vm) (hG : own_Bk p e below G) (hown : s.vm.findClass own = some m.cls)
    (w1 : (Jvm.Cond.methodLink own index y).before a0 Z = true) (w2 : (Jvm.Cond.instanceMethod y).before a0 Z = true) (w3 : (Jvm.Cond.selects y.cls y y).before a0 Z = true) (wp : (Jvm.Cond.privateMethod y).before a0 Z = true) (w5 : (Jvm.Cond.initialized y.cls).before a0 Z = true) (w6 : (Jvm.Cond.code y bytes maxL ret).before a0 Z = true)
    (hy : y.cls ≠ "java/lang/invoke/MethodHandle" ∧ y.cls ≠ "java/lang/invoke/VarHandle") (W : Nat) (hM : own_Con l Z y bytes maxL ret [] rm as' h Q) (hf : rm.frames + 1 ≤ R.frames) (hlo : W + (maxL + 11) + rm.locals ≤ R.locals) (eT : T.heap = h) {b : Addr} {C : String} (E : Exa Z h b C)
    (hsize : Ls.size = c.maxLocals) (hlen : ∀ sig, parseMethodDescriptor y.desc = some sig → argsL.length = sig.parameters.length) (has : (.ref b :: argsL).toArray = as') (hst : stk = argsL.reverse ++ .ref b :: rest) (hW : (rest.map fun v => v.category).sum ≤ W)
    (hd : decode c.code pc = .ok (.invokevirtual index, 3)) (hc : cells + rm.cells ≤ R.cells) (hs : slots + rm.slots ≤ R.slots)
    (k : ∀ T' h' v L, Stand p l e R s m args below meth c T' (locs ++ L) (cells + rm.cells) (slots + rm.slots) → T'.heap = h' → Q v h' L → G (T'.setTop (mkF m (pc + 3) Ls (v.toList ++ rest)))) : G (T.setTop (mkF m pc Ls stk)) := by
  obtain ⟨cell, hc1, hc2⟩ := (Ins.self E).cell
  obtain ⟨v, _, ⟨T1, L1, k1, n1⟩, -, X1, ⟨L, hQ, rfl, rfl, rfl⟩, st⟩ := X.privateBack hx (y := y) hown (mvT hZ w1) (mvT hZ w2) (mvT hZ w3) (Cond.privateMethod_at (mvP hZ wp (args := #[]))) (mvT hZ w6) hy (backOf (W := W) hM hZ w6 w5 hf hlo) (g := mkF m pc Ls stk) rfl hsize (Steps.refl _) (a := b) (by rw [eT]; exact hc1) hc2 (argsL := argsL) (rest := rest) hlen hst (by show 2 * 0 + _ ≤ _; rw [Nat.mul_zero, Nat.zero_add]; exact hW) hd (fun _ _ => ⟨has, eT, hc, hs⟩)
  exact hG _ _ (fun t kk => st.trans kk) (k T1 _ v L X1 rfl hQ)
theorem own_callF {C : String} {count : Nat} (X : Stand p l e R s m args below meth c T locs cells slots) (hx : p.tables.exec = Jvm.exec) (hZ : Z.Warmed39 s.vm) (hG : own_Bk p e below G) (hown : s.vm.findClass own = some m.cls)
    (w1 : (Jvm.Cond.methodLink own index z).before a0 Z = true) (w2 : (Jvm.Cond.declares z).before a0 Z = true) (wf : ∀ s' : State, Z.Warmed39 s'.vm → (Jvm.Cond.interfaceMethod z.cls z.cls z.name z.desc).before args s' = true) (w3 : (Jvm.Cond.selects C z y).before a0 Z = true) (w4 : (Jvm.Cond.instanceMethod y).before a0 Z = true) (wp : (Jvm.Cond.publicMethod y).before a0 Z = true) (wu : (Jvm.Cond.unhidden C z.name z.desc).before a0 Z = true) (wc : (Jvm.Cond.castable C z.cls).before a0 Z = true) (w5 : (Jvm.Cond.initialized y.cls).before a0 Z = true) (w6 : (Jvm.Cond.code y bytes maxL ret).before a0 Z = true)
    (hy : z.cls ≠ "java/lang/invoke/MethodHandle" ∧ z.cls ≠ "java/lang/invoke/VarHandle") (W : Nat) (hM : own_Con l Z y bytes maxL ret [] rm as' h Q) (hf : rm.frames + 1 ≤ R.frames) (hlo : W + (maxL + 11) + rm.locals ≤ R.locals) (eT : T.heap = h) {b : Addr} (E : Exa Z h b C)
    (hsize : Ls.size = c.maxLocals) (hlen : ∀ sig, parseMethodDescriptor z.desc = some sig → argsL.length = sig.parameters.length) (has : (.ref b :: argsL).toArray = as') (hst : stk = argsL.reverse ++ .ref b :: rest) (hW : (rest.map fun v => v.category).sum ≤ W)
    (hd : decode c.code pc = .ok (.invokeinterface index count, 5)) (hc : cells + rm.cells ≤ R.cells) (hs : slots + rm.slots ≤ R.slots)
    (k : ∀ T' h' v L, Stand p l e R s m args below meth c T' (locs ++ L) (cells + rm.cells) (slots + rm.slots) → T'.heap = h' → Q v h' L → G (T'.setTop (mkF m (pc + 5) Ls (v.toList ++ rest)))) : G (T.setTop (mkF m pc Ls stk)) := by
  obtain ⟨cq, kq, qa, qb, qc⟩ := isOf hZ eT E
  obtain ⟨v, _, ⟨T1, L1, k1, n1⟩, -, X1, ⟨L, hQ, rfl, rfl, rfl⟩, st⟩ := X.interfaceBack hx (xi := z) (y := y) hown (mvT hZ w1) (mvT hZ w2) (wf s hZ) (mvT hZ w3) (mvT hZ w4) (mvT hZ wp) (mvT hZ wu) (mvT hZ wc) hy (backOf (W := W) hM hZ w6 w5 hf hlo) qa qb qc (g := mkF m pc Ls stk) rfl hsize (Steps.refl _) (argsL := argsL) (rest := rest) hlen hst (by show 2 * 0 + _ ≤ _; rw [Nat.mul_zero, Nat.zero_add]; exact hW) hd (fun _ _ => ⟨has, eT, hc, hs⟩)
  exact hG _ _ (fun t kk => st.trans kk) (k T1 _ v L X1 rfl hQ)
end Calls
theorem own_entry {G : State → Prop} {n : Nat} {Ls : Array Slot} (q : entryFrame m args n = mkF m 0 Ls []) (k : G (T.setTop (mkF m 0 Ls []))) : G (T.setTop (entryFrame m args n)) := q ▸ k
abbrev own_Old (Z : State) (h : Heap) : Prop := Old Z Z.heap.size h
abbrev own_Fr (Z : State) (L : List Loc) : Prop := Fr Z.heap.size L
theorem own_ge {Z : State} {h : Heap} (O : own_Old Z h) {b : Addr} (q : h.size ≤ b) : Z.heap.size ≤ b := Nat.le_trans O.2.1 q
theorem own_sta {Z : State} {h : Heap} {C n d : String} {v : Value} (S : Sta Z Z.heap C n d v) (O : own_Old Z h) : Sta Z h C n d v := S.ext O.2
theorem own_ne {h : Heap} {a b : Addr} (q : a < h.size) (r : h.size ≤ b) : a ≠ b := Nat.ne_of_lt (Nat.lt_of_lt_of_le q r)
end OwnKit
theorem own_toInt {i : Nat} (h : i < 2147483648) : (Int32.ofNat i).toInt = i := Int32.toInt_ofNat_of_lt (by omega)
theorem own_clamp {i : Nat} (h : i < 2147483648) : (Int32.ofNat i).toNatClampNeg = i := by
  show ((Int32.ofNat i).toInt).toNat = i
  rw [own_toInt h]; rfl
theorem own_inc (i : Nat) : Int32.ofNat i + 1 = Int32.ofNat (i + 1) := (Int32.ofNat_add i 1).symm
theorem own_nn {i : Nat} (h : i < 2147483648) : ¬ Int32.ofNat i < 0 := by
  rw [Int32.lt_iff_toInt_lt, own_toInt h]; simp
theorem own_lt {i n : Nat} (h : i < n) (hn : n < 2147483648) : Int32.ofNat i < Int32.ofNat n := by
  rw [Int32.lt_iff_toInt_lt, own_toInt (by omega), own_toInt hn]; omega
theorem own_nlt {i n : Nat} (h : n ≤ i) (hi : i < 2147483648) : ¬ Int32.ofNat i < Int32.ofNat n := by
  rw [Int32.lt_iff_toInt_lt, own_toInt hi, own_toInt (by omega)]; omega
theorem own_ofNat_inj {i n : Nat} (hi : i < 2147483648) (hn : n < 2147483648) (h : Int32.ofNat i = Int32.ofNat n) : i = n := by
  have := congrArg Int32.toInt h
  rw [own_toInt hi, own_toInt hn] at this; omega
theorem own_getD_set {α : Type} (vs : List α) (i j : Nat) (x d : α) (h : i < vs.length) : (vs.set i x).getD j d = if j = i then x else vs.getD j d := by
  simp only [List.getD_eq_getElem?_getD, List.getElem?_set]
  by_cases e : i = j
  · subst e; simp [h]
  · simp [e, Ne.symm e]
theorem own_getD_map {α β : Type} (f : α → β) (cs : List α) (j : Nat) (d : β) (e : α) (h : j < cs.length) : (cs.map f).getD j d = f (cs.getD j e) := by
  simp [List.getD_eq_getElem?_getD, List.getElem?_map, h]
theorem own_mapEq {α β : Type} (f : α → β) (cs : List α) (vs : List β) (d : β) (e : α) (hl : vs.length = cs.length) (h : ∀ j, j < cs.length → vs.getD j d = f (cs.getD j e)) : vs = cs.map f := by
  apply List.ext_getElem (by simpa using hl)
  intro j h1 h2
  have q := h j (by simpa using h2)
  have h3 : j < cs.length := by simpa using h2
  simp [List.getD_eq_getElem?_getD, h1, h3] at q
  simpa using q
theorem own_narR {t : FieldType} {v : Value} (ht : t.isReference = true) (hv : v.isRef = true) : narrow t v = v := by cases t <;> simp_all [FieldType.isReference, narrow]
theorem own_nb (x : Int32) : nar .byte x.toInt8.toInt32 = x.toInt8.toInt32 := by
  show x.toInt8.toInt32.toInt8.toInt32 = _
  rw [Int8.toInt8_toInt32]
theorem own_nc (x : Int32) : nar .char x.toUInt32.toUInt16.toUInt32.toInt32 = x.toUInt32.toUInt16.toUInt32.toInt32 := by
  simp only [nar, UInt32.toUInt32_toInt32, UInt16.toUInt16_toUInt32]
theorem own_getD_mem {α : Type} (cs : List α) (i : Nat) (d : α) (h : i < cs.length) : cs.getD i d ∈ cs := by
  rw [List.getD_eq_getElem?_getD, List.getElem?_eq_getElem h]; exact List.getElem_mem h
theorem own_alln {α : Type} {P : α → Prop} : ∀ c ∈ ([] : List α), P c := fun _ q => nomatch q
theorem own_allc {α : Type} {P : α → Prop} {x : α} {L : List α} (q : P x) (r : ∀ c ∈ L, P c) : ∀ c ∈ x :: L, P c := fun c z => (List.mem_cons.mp z).elim (fun u => u ▸ q) (r c)
theorem own_and255 (x : Int32) : 0 ≤ (x &&& 255).toInt ∧ (x &&& 255).toInt ≤ 255 := by
  rw [c_mask x 255 8 (by decide) (by decide)]
  have h1 := Int.emod_nonneg x.toInt (show ((2 ^ 8 : Nat) : Int) ≠ 0 by decide)
  have h2 := Int.emod_lt_of_pos x.toInt (show (0 : Int) < ((2 ^ 8 : Nat) : Int) by decide)
  omega
theorem own_mask8 {x c : Int32} (h : (x &&& 255).toUInt32.toUInt16.toUInt32.toInt32 = c) : 0 ≤ c.toInt ∧ c.toInt ≤ 255 := by
  rw [i2c_mask] at h; subst h; exact own_and255 x
theorem own_narC {c : Int32} (h : 0 ≤ c.toInt ∧ c.toInt ≤ 65535) : nar .char c = c := by
  apply Int32.toInt_inj.mp
  have q := c_i2c c
  show c.toUInt32.toUInt16.toUInt32.toInt32.toInt = c.toInt
  omega
theorem own_le255 {c : Int32} (h : 0 ≤ c.toInt ∧ c.toInt ≤ 255) : ¬ ((255 : Int32) < c) := by
  rw [Int32.lt_iff_toInt_lt]
  have : (255 : Int32).toInt = 255 := by decide
  omega
theorem own_nar8 {c : Int32} (h : 0 ≤ c.toInt ∧ c.toInt ≤ 255) : ¬ ((255 : Int32) < nar .char c) := by
  rw [own_narC ⟨h.1, by omega⟩]; exact own_le255 h
theorem own_setNext {vs : List Value} {cs : List Int32} {i : Nat} (f : Int32 → Value) (d x : Value) (hi : i < vs.length) (hx : x = f (cs.getD i 0)) (hv : ∀ j, j < i → vs.getD j d = f (cs.getD j 0)) : ∀ j, j < i + 1 → (vs.set i x).getD j d = f (cs.getD j 0) := by
  intro j hj
  rw [own_getD_set _ _ _ _ _ hi]
  by_cases e : j = i
  · subst e; rw [if_pos rfl]; exact hx
  · rw [if_neg e]; exact hv j (by omega)
theorem own_fitR {t : FieldType} {v : Value} (ht : t.isReference = true) (hv : v.isRef = true) : fits t v = true := by
  rcases ref_cases hv with rfl | ⟨a, rfl⟩ <;> cases t <;> simp_all [FieldType.isReference, fits]
theorem own_fitC {c : Int32} (h : 0 ≤ c.toInt ∧ c.toInt ≤ 65535) : fits .char (.int c) = true := by
  have q := fits_nar_char c
  rw [own_narC h] at q; exact q
theorem own_zero1 : (0 : Int32) + (1 : Int32) = (1 : Int32) := by decide
theorem own_emptyArv {s : State} {args : Array Value} {t : Term} {a : Addr} {cl : Cell} {ty : FieldType} {dv : Value} (hf : Fit s) (ev : t.eval args s none [] s = some (.ref a)) (A : Arr s s.heap a cl ty) (hl : (Term.length t).eval args s none [] s = some (.int (0 : Int32))) : Arv s s.heap a cl.cls ty (0 : Int32) [] dv := by
  obtain ⟨x, cl', e1, e2, -⟩ := Term.length_spec hl
  cases ev.symm.trans e1
  have hc : s.arrayAt? a = some cl := A.fin (Vm.Alike.refl _)
  cases e2.symm.trans hc
  have h31 := Jvm.Free.SBG.length_lt e1 hc hl
  have e : (Term.length t).eval args s none [] s = some (.int (Int32.ofNat cl.slots.size)) := by simp [Term.eval, e1, hc, h31]
  have q : Int32.ofNat cl.slots.size = (0 : Int32) := by simpa using Option.some.inj (e.symm.trans hl)
  exact Arv.start hf A h31 q (by decide) rfl trivial
theorem own_sz {x n : Int32} (h : ((1 : Int32) + (x &&& (3 : Int32))) = n) : 1 ≤ n.toInt ∧ n.toInt ≤ 4 := by
  have q : (x &&& (3 : Int32)).toInt = x.toInt % (2 ^ 2 : Nat) := c_mask x 3 2 (by decide) (by decide)
  have e := c_iadd 1 (x &&& (3 : Int32)); rw [h] at e
  have e1 : (1 : Int32).toInt = 1 := by decide
  have r := rng32 n
  omega
theorem own_sz0 {n : Int32} (h : 1 ≤ n.toInt ∧ n.toInt ≤ 4) : n ≠ 0 := fun e => by rw [e] at h; exact absurd h.1 (by decide)
theorem own_ixr {x n r : Int32} (h : 1 ≤ n.toInt ∧ n.toInt ≤ 4) (hr : ((x &&& (2147483647 : Int32)) % n) = r) : 0 ≤ r.toInt ∧ r.toInt < n.toInt := by
  have q := c_and x 2147483647 (by decide)
  have c := (c_iremV (x &&& 2147483647) n).1 q.1 (by omega)
  rw [hr] at c
  exact ⟨c.1, c.2.1⟩
theorem own_szb {n k : Int32} {m : Int} (h : ¬ (k < n)) (hk : k.toInt = m) : n.toInt ≤ m := by
  rw [Int32.lt_iff_toInt_lt] at h; omega
theorem own_ix1 {i n : Int32} (h0 : 0 ≤ i.toInt) (h1 : i.toInt < n.toInt) (h2 : n.toInt ≤ 1) : i = (0 : Int32) := Int32.toInt_inj.mp (by have : (0 : Int32).toInt = 0 := (by decide); omega)
theorem own_ix2 {i n : Int32} (h0 : 0 ≤ i.toInt) (h1 : i.toInt < n.toInt) (h2 : n.toInt ≤ 2) : i = (0 : Int32) ∨ i = (1 : Int32) := by
  have e0 : (0 : Int32).toInt = 0 := by decide
  have e1 : (1 : Int32).toInt = 1 := by decide
  simp only [← Int32.toInt_inj]; omega
theorem own_ix3 {i n : Int32} (h0 : 0 ≤ i.toInt) (h1 : i.toInt < n.toInt) (h2 : n.toInt ≤ 3) : i = (0 : Int32) ∨ i = (1 : Int32) ∨ i = (2 : Int32) := by
  have e0 : (0 : Int32).toInt = 0 := by decide
  have e1 : (1 : Int32).toInt = 1 := by decide
  have e2 : (2 : Int32).toInt = 2 := by decide
  simp only [← Int32.toInt_inj]; omega
theorem own_ix4 {i n : Int32} (h0 : 0 ≤ i.toInt) (h1 : i.toInt < n.toInt) (h2 : n.toInt ≤ 4) : i = (0 : Int32) ∨ i = (1 : Int32) ∨ i = (2 : Int32) ∨ i = (3 : Int32) := by
  have e0 : (0 : Int32).toInt = 0 := by decide
  have e1 : (1 : Int32).toInt = 1 := by decide
  have e2 : (2 : Int32).toInt = 2 := by decide
  have e3 : (3 : Int32).toInt = 3 := by decide
  simp only [← Int32.toInt_inj]; omega

theorem own_d1_0 : decode method_2_code 0 = .ok (.iconst 2, 1) := by decide +kernel
theorem own_d1_1 : decode method_2_code 1 = .ok (.newarray .char, 2) := by decide +kernel
theorem own_d1_3 : decode method_2_code 3 = .ok (.astore_n 2, 1) := by decide +kernel
theorem own_d1_4 : decode method_2_code 4 = .ok (.aload_n 2, 1) := by decide +kernel
theorem own_d1_5 : decode method_2_code 5 = .ok (.iconst 0, 1) := by decide +kernel
theorem own_d1_6 : decode method_2_code 6 = .ok (.iload_n 0, 1) := by decide +kernel
theorem own_d1_7 : decode method_2_code 7 = .ok (.castore, 1) := by decide +kernel
theorem own_d1_8 : decode method_2_code 8 = .ok (.aload_n 2, 1) := by decide +kernel
theorem own_d1_9 : decode method_2_code 9 = .ok (.iconst 1, 1) := by decide +kernel
theorem own_d1_10 : decode method_2_code 10 = .ok (.iload_n 1, 1) := by decide +kernel
theorem own_d1_11 : decode method_2_code 11 = .ok (.castore, 1) := by decide +kernel
theorem own_d1_12 : decode method_2_code 12 = .ok (.new 7, 3) := by decide +kernel
theorem own_d1_15 : decode method_2_code 15 = .ok (.dup, 1) := by decide +kernel
theorem own_d1_16 : decode method_2_code 16 = .ok (.aload_n 2, 1) := by decide +kernel
theorem own_d1_17 : decode method_2_code 17 = .ok (.invokespecial 9, 3) := by decide +kernel
theorem own_d1_20 : decode method_2_code 20 = .ok (.areturn, 1) := by decide +kernel
theorem own_d2_0 : decode jdk_42_method_3_code 0 = .ok (.aload_n 0, 1) := by decide +kernel
theorem own_d2_1 : decode jdk_42_method_3_code 1 = .ok (.aload_n 1, 1) := by decide +kernel
theorem own_d2_2 : decode jdk_42_method_3_code 2 = .ok (.iconst 0, 1) := by decide +kernel
theorem own_d2_3 : decode jdk_42_method_3_code 3 = .ok (.aload_n 1, 1) := by decide +kernel
theorem own_d2_4 : decode jdk_42_method_3_code 4 = .ok (.arraylength, 1) := by decide +kernel
theorem own_d2_5 : decode jdk_42_method_3_code 5 = .ok (.aconst_null, 1) := by decide +kernel
theorem own_d2_6 : decode jdk_42_method_3_code 6 = .ok (.invokespecial 27, 3) := by decide +kernel
theorem own_d2_9 : decode jdk_42_method_3_code 9 = .ok (.return_, 1) := by decide +kernel
theorem own_d3_0 : decode jdk_42_method_149_code 0 = .ok (.aload_n 0, 1) := by decide +kernel
theorem own_d3_1 : decode jdk_42_method_149_code 1 = .ok (.invokespecial 1, 3) := by decide +kernel
theorem own_d3_4 : decode jdk_42_method_149_code 4 = .ok (.iload_n 3, 1) := by decide +kernel
theorem own_d3_5 : decode jdk_42_method_149_code 5 = .ok (.ifCond .ne 22, 3) := by decide +kernel
theorem own_d3_27 : decode jdk_42_method_149_code 27 = .ok (.getstatic 38, 3) := by decide +kernel
theorem own_d3_30 : decode jdk_42_method_149_code 30 = .ok (.ifCond .eq 28, 3) := by decide +kernel
theorem own_d3_33 : decode jdk_42_method_149_code 33 = .ok (.aload_n 1, 1) := by decide +kernel
theorem own_d3_34 : decode jdk_42_method_149_code 34 = .ok (.iload_n 2, 1) := by decide +kernel
theorem own_d3_35 : decode jdk_42_method_149_code 35 = .ok (.iload_n 3, 1) := by decide +kernel
theorem own_d3_36 : decode jdk_42_method_149_code 36 = .ok (.invokestatic 177, 3) := by decide +kernel
theorem own_d3_39 : decode jdk_42_method_149_code 39 = .ok (.astore 5, 2) := by decide +kernel
theorem own_d3_41 : decode jdk_42_method_149_code 41 = .ok (.aload_n 0, 1) := by decide +kernel
theorem own_d3_42 : decode jdk_42_method_149_code 42 = .ok (.aload 5, 2) := by decide +kernel
theorem own_d3_44 : decode jdk_42_method_149_code 44 = .ok (.iload_n 3, 1) := by decide +kernel
theorem own_d3_45 : decode jdk_42_method_149_code 45 = .ok (.invokestatic 47, 3) := by decide +kernel
theorem own_d3_48 : decode jdk_42_method_149_code 48 = .ok (.putfield 15, 3) := by decide +kernel
theorem own_d3_51 : decode jdk_42_method_149_code 51 = .ok (.aload_n 0, 1) := by decide +kernel
theorem own_d3_52 : decode jdk_42_method_149_code 52 = .ok (.aload 5, 2) := by decide +kernel
theorem own_d3_54 : decode jdk_42_method_149_code 54 = .ok (.putfield 9, 3) := by decide +kernel
theorem own_d3_57 : decode jdk_42_method_149_code 57 = .ok (.return_, 1) := by decide +kernel
theorem own_d5_0 : decode jdk_52_method_16_code 0 = .ok (.iload_n 2, 1) := by decide +kernel
theorem own_d5_1 : decode jdk_52_method_16_code 1 = .ok (.newarray .byte, 2) := by decide +kernel
theorem own_d5_3 : decode jdk_52_method_16_code 3 = .ok (.astore_n 3, 1) := by decide +kernel
theorem own_d5_4 : decode jdk_52_method_16_code 4 = .ok (.aload_n 0, 1) := by decide +kernel
theorem own_d5_5 : decode jdk_52_method_16_code 5 = .ok (.iload_n 1, 1) := by decide +kernel
theorem own_d5_6 : decode jdk_52_method_16_code 6 = .ok (.aload_n 3, 1) := by decide +kernel
theorem own_d5_7 : decode jdk_52_method_16_code 7 = .ok (.iconst 0, 1) := by decide +kernel
theorem own_d5_8 : decode jdk_52_method_16_code 8 = .ok (.iload_n 2, 1) := by decide +kernel
theorem own_d5_9 : decode jdk_52_method_16_code 9 = .ok (.invokestatic 115, 3) := by decide +kernel
theorem own_d5_12 : decode jdk_52_method_16_code 12 = .ok (.istore 4, 2) := by decide +kernel
theorem own_d5_14 : decode jdk_52_method_16_code 14 = .ok (.iload 4, 2) := by decide +kernel
theorem own_d5_16 : decode jdk_52_method_16_code 16 = .ok (.iload_n 2, 1) := by decide +kernel
theorem own_d5_17 : decode jdk_52_method_16_code 17 = .ok (.if_icmp .eq 40, 3) := by decide +kernel
theorem own_d5_57 : decode jdk_52_method_16_code 57 = .ok (.aload_n 3, 1) := by decide +kernel
theorem own_d5_58 : decode jdk_52_method_16_code 58 = .ok (.areturn, 1) := by decide +kernel
theorem own_d6_0 : decode jdk_52_method_21_code 0 = .ok (.iconst 0, 1) := by decide +kernel
theorem own_d6_1 : decode jdk_52_method_21_code 1 = .ok (.istore 5, 2) := by decide +kernel
theorem own_d6_3 : decode jdk_52_method_21_code 3 = .ok (.iload 5, 2) := by decide +kernel
theorem own_d6_5 : decode jdk_52_method_21_code 5 = .ok (.iload 4, 2) := by decide +kernel
theorem own_d6_7 : decode jdk_52_method_21_code 7 = .ok (.if_icmp .ge 37, 3) := by decide +kernel
theorem own_d6_10 : decode jdk_52_method_21_code 10 = .ok (.aload_n 0, 1) := by decide +kernel
theorem own_d6_11 : decode jdk_52_method_21_code 11 = .ok (.iload_n 1, 1) := by decide +kernel
theorem own_d6_12 : decode jdk_52_method_21_code 12 = .ok (.caload, 1) := by decide +kernel
theorem own_d6_13 : decode jdk_52_method_21_code 13 = .ok (.istore 6, 2) := by decide +kernel
theorem own_d6_15 : decode jdk_52_method_21_code 15 = .ok (.iload 6, 2) := by decide +kernel
theorem own_d6_17 : decode jdk_52_method_21_code 17 = .ok (.sipush 255, 3) := by decide +kernel
theorem own_d6_20 : decode jdk_52_method_21_code 20 = .ok (.if_icmp .le 6, 3) := by decide +kernel
theorem own_d6_26 : decode jdk_52_method_21_code 26 = .ok (.aload_n 2, 1) := by decide +kernel
theorem own_d6_27 : decode jdk_52_method_21_code 27 = .ok (.iload_n 3, 1) := by decide +kernel
theorem own_d6_28 : decode jdk_52_method_21_code 28 = .ok (.iload 6, 2) := by decide +kernel
theorem own_d6_30 : decode jdk_52_method_21_code 30 = .ok (.i2b, 1) := by decide +kernel
theorem own_d6_31 : decode jdk_52_method_21_code 31 = .ok (.bastore, 1) := by decide +kernel
theorem own_d6_32 : decode jdk_52_method_21_code 32 = .ok (.iinc 1 1, 3) := by decide +kernel
theorem own_d6_35 : decode jdk_52_method_21_code 35 = .ok (.iinc 3 1, 3) := by decide +kernel
theorem own_d6_38 : decode jdk_52_method_21_code 38 = .ok (.iinc 5 1, 3) := by decide +kernel
theorem own_d6_41 : decode jdk_52_method_21_code 41 = .ok (.goto (-38), 3) := by decide +kernel
theorem own_d6_44 : decode jdk_52_method_21_code 44 = .ok (.iload 4, 2) := by decide +kernel
theorem own_d6_46 : decode jdk_52_method_21_code 46 = .ok (.ireturn, 1) := by decide +kernel
theorem own_d7_0 : decode jdk_52_method_15_code 0 = .ok (.iload_n 1, 1) := by decide +kernel
theorem own_d7_1 : decode jdk_52_method_15_code 1 = .ok (.aload_n 0, 1) := by decide +kernel
theorem own_d7_2 : decode jdk_52_method_15_code 2 = .ok (.arraylength, 1) := by decide +kernel
theorem own_d7_3 : decode jdk_52_method_15_code 3 = .ok (.isub, 1) := by decide +kernel
theorem own_d7_4 : decode jdk_52_method_15_code 4 = .ok (.bipush 31, 2) := by decide +kernel
theorem own_d7_6 : decode jdk_52_method_15_code 6 = .ok (.iushr, 1) := by decide +kernel
theorem own_d7_7 : decode jdk_52_method_15_code 7 = .ok (.i2b, 1) := by decide +kernel
theorem own_d7_8 : decode jdk_52_method_15_code 8 = .ok (.ireturn, 1) := by decide +kernel
theorem own_d8_0 : decode jdk_38_method_2_code 0 = .ok (.aload_n 0, 1) := by decide +kernel
theorem own_d8_1 : decode jdk_38_method_2_code 1 = .ok (.invokespecial 1, 3) := by decide +kernel
theorem own_d8_4 : decode jdk_38_method_2_code 4 = .ok (.aload_n 0, 1) := by decide +kernel
theorem own_d8_5 : decode jdk_38_method_2_code 5 = .ok (.getstatic 39, 3) := by decide +kernel
theorem own_d8_8 : decode jdk_38_method_2_code 8 = .ok (.putfield 9, 3) := by decide +kernel
theorem own_d8_11 : decode jdk_38_method_2_code 11 = .ok (.return_, 1) := by decide +kernel
theorem own_d9_0 : decode jdk_39_method_1_code 0 = .ok (.aload_n 0, 1) := by decide +kernel
theorem own_d9_1 : decode jdk_39_method_1_code 1 = .ok (.invokespecial 1, 3) := by decide +kernel
theorem own_d9_4 : decode jdk_39_method_1_code 4 = .ok (.aload_n 0, 1) := by decide +kernel
theorem own_d9_5 : decode jdk_39_method_1_code 5 = .ok (.iconst 0, 1) := by decide +kernel
theorem own_d9_6 : decode jdk_39_method_1_code 6 = .ok (.putfield 7, 3) := by decide +kernel
theorem own_d9_9 : decode jdk_39_method_1_code 9 = .ok (.return_, 1) := by decide +kernel
theorem own_d10_0 : decode jdk_22_method_1_code 0 = .ok (.aload_n 0, 1) := by decide +kernel
theorem own_d10_1 : decode jdk_22_method_1_code 1 = .ok (.invokespecial 1, 3) := by decide +kernel
theorem own_d10_4 : decode jdk_22_method_1_code 4 = .ok (.return_, 1) := by decide +kernel
theorem own_d11_0 : decode jdk_38_method_25_code 0 = .ok (.aload_n 0, 1) := by decide +kernel
theorem own_d11_1 : decode jdk_38_method_25_code 1 = .ok (.dup, 1) := by decide +kernel
theorem own_d11_2 : decode jdk_38_method_25_code 2 = .ok (.getfield 63, 3) := by decide +kernel
theorem own_d11_5 : decode jdk_38_method_25_code 5 = .ok (.iconst 1, 1) := by decide +kernel
theorem own_d11_6 : decode jdk_38_method_25_code 6 = .ok (.iadd, 1) := by decide +kernel
theorem own_d11_7 : decode jdk_38_method_25_code 7 = .ok (.putfield 63, 3) := by decide +kernel
theorem own_d11_10 : decode jdk_38_method_25_code 10 = .ok (.aload_n 0, 1) := by decide +kernel
theorem own_d11_11 : decode jdk_38_method_25_code 11 = .ok (.aload_n 1, 1) := by decide +kernel
theorem own_d11_12 : decode jdk_38_method_25_code 12 = .ok (.aload_n 0, 1) := by decide +kernel
theorem own_d11_13 : decode jdk_38_method_25_code 13 = .ok (.getfield 9, 3) := by decide +kernel
theorem own_d11_16 : decode jdk_38_method_25_code 16 = .ok (.aload_n 0, 1) := by decide +kernel
theorem own_d11_17 : decode jdk_38_method_25_code 17 = .ok (.getfield 48, 3) := by decide +kernel
theorem own_d11_20 : decode jdk_38_method_25_code 20 = .ok (.invokevirtual 131, 3) := by decide +kernel
theorem own_d11_23 : decode jdk_38_method_25_code 23 = .ok (.iconst 1, 1) := by decide +kernel
theorem own_d11_24 : decode jdk_38_method_25_code 24 = .ok (.ireturn, 1) := by decide +kernel
theorem own_d12_0 : decode jdk_38_method_24_code 0 = .ok (.iload_n 3, 1) := by decide +kernel
theorem own_d12_1 : decode jdk_38_method_24_code 1 = .ok (.aload_n 2, 1) := by decide +kernel
theorem own_d12_2 : decode jdk_38_method_24_code 2 = .ok (.arraylength, 1) := by decide +kernel
theorem own_d12_3 : decode jdk_38_method_24_code 3 = .ok (.if_icmp .ne 8, 3) := by decide +kernel
theorem own_d12_6 : decode jdk_38_method_24_code 6 = .ok (.aload_n 0, 1) := by decide +kernel
theorem own_d12_7 : decode jdk_38_method_24_code 7 = .ok (.invokevirtual 129, 3) := by decide +kernel
theorem own_d12_10 : decode jdk_38_method_24_code 10 = .ok (.astore_n 2, 1) := by decide +kernel
theorem own_d12_11 : decode jdk_38_method_24_code 11 = .ok (.aload_n 2, 1) := by decide +kernel
theorem own_d12_12 : decode jdk_38_method_24_code 12 = .ok (.iload_n 3, 1) := by decide +kernel
theorem own_d12_13 : decode jdk_38_method_24_code 13 = .ok (.aload_n 1, 1) := by decide +kernel
theorem own_d12_14 : decode jdk_38_method_24_code 14 = .ok (.aastore, 1) := by decide +kernel
theorem own_d12_15 : decode jdk_38_method_24_code 15 = .ok (.aload_n 0, 1) := by decide +kernel
theorem own_d12_16 : decode jdk_38_method_24_code 16 = .ok (.iload_n 3, 1) := by decide +kernel
theorem own_d12_17 : decode jdk_38_method_24_code 17 = .ok (.iconst 1, 1) := by decide +kernel
theorem own_d12_18 : decode jdk_38_method_24_code 18 = .ok (.iadd, 1) := by decide +kernel
theorem own_d12_19 : decode jdk_38_method_24_code 19 = .ok (.putfield 48, 3) := by decide +kernel
theorem own_d12_22 : decode jdk_38_method_24_code 22 = .ok (.return_, 1) := by decide +kernel
theorem own_d13_0 : decode jdk_38_method_7_code 0 = .ok (.aload_n 0, 1) := by decide +kernel
theorem own_d13_1 : decode jdk_38_method_7_code 1 = .ok (.aload_n 0, 1) := by decide +kernel
theorem own_d13_2 : decode jdk_38_method_7_code 2 = .ok (.getfield 48, 3) := by decide +kernel
theorem own_d13_5 : decode jdk_38_method_7_code 5 = .ok (.iconst 1, 1) := by decide +kernel
theorem own_d13_6 : decode jdk_38_method_7_code 6 = .ok (.iadd, 1) := by decide +kernel
theorem own_d13_7 : decode jdk_38_method_7_code 7 = .ok (.invokevirtual 69, 3) := by decide +kernel
theorem own_d13_10 : decode jdk_38_method_7_code 10 = .ok (.areturn, 1) := by decide +kernel
theorem own_d14_0 : decode jdk_38_method_6_code 0 = .ok (.aload_n 0, 1) := by decide +kernel
theorem own_d14_1 : decode jdk_38_method_6_code 1 = .ok (.getfield 9, 3) := by decide +kernel
theorem own_d14_4 : decode jdk_38_method_6_code 4 = .ok (.arraylength, 1) := by decide +kernel
theorem own_d14_5 : decode jdk_38_method_6_code 5 = .ok (.istore_n 2, 1) := by decide +kernel
theorem own_d14_6 : decode jdk_38_method_6_code 6 = .ok (.iload_n 2, 1) := by decide +kernel
theorem own_d14_7 : decode jdk_38_method_6_code 7 = .ok (.ifCond .gt 13, 3) := by decide +kernel
theorem own_d14_10 : decode jdk_38_method_6_code 10 = .ok (.aload_n 0, 1) := by decide +kernel
theorem own_d14_11 : decode jdk_38_method_6_code 11 = .ok (.getfield 9, 3) := by decide +kernel
theorem own_d14_14 : decode jdk_38_method_6_code 14 = .ok (.getstatic 39, 3) := by decide +kernel
theorem own_d14_17 : decode jdk_38_method_6_code 17 = .ok (.if_acmp .eq 28, 3) := by decide +kernel
theorem own_d14_45 : decode jdk_38_method_6_code 45 = .ok (.aload_n 0, 1) := by decide +kernel
theorem own_d14_46 : decode jdk_38_method_6_code 46 = .ok (.bipush 10, 2) := by decide +kernel
theorem own_d14_48 : decode jdk_38_method_6_code 48 = .ok (.iload_n 1, 1) := by decide +kernel
theorem own_d14_49 : decode jdk_38_method_6_code 49 = .ok (.invokestatic 79, 3) := by decide +kernel
theorem own_d14_52 : decode jdk_38_method_6_code 52 = .ok (.anewarray 7, 3) := by decide +kernel
theorem own_d14_55 : decode jdk_38_method_6_code 55 = .ok (.dup_x1, 1) := by decide +kernel
theorem own_d14_56 : decode jdk_38_method_6_code 56 = .ok (.putfield 9, 3) := by decide +kernel
theorem own_d14_59 : decode jdk_38_method_6_code 59 = .ok (.areturn, 1) := by decide +kernel
theorem own_d15_0 : decode jdk_29_method_65_code 0 = .ok (.iload_n 0, 1) := by decide +kernel
theorem own_d15_1 : decode jdk_29_method_65_code 1 = .ok (.iload_n 1, 1) := by decide +kernel
theorem own_d15_2 : decode jdk_29_method_65_code 2 = .ok (.if_icmp .lt 7, 3) := by decide +kernel
theorem own_d15_5 : decode jdk_29_method_65_code 5 = .ok (.iload_n 0, 1) := by decide +kernel
theorem own_d15_6 : decode jdk_29_method_65_code 6 = .ok (.goto 4, 3) := by decide +kernel
theorem own_d15_10 : decode jdk_29_method_65_code 10 = .ok (.ireturn, 1) := by decide +kernel
theorem own_d16_0 : decode jdk_42_method_139_code 0 = .ok (.getstatic 38, 3) := by decide +kernel
theorem own_d16_3 : decode jdk_42_method_139_code 3 = .ok (.ifCond .eq 23, 3) := by decide +kernel
theorem own_d16_6 : decode jdk_42_method_139_code 6 = .ok (.iload_n 0, 1) := by decide +kernel
theorem own_d16_7 : decode jdk_42_method_139_code 7 = .ok (.invokestatic 1015, 3) := by decide +kernel
theorem own_d16_10 : decode jdk_42_method_139_code 10 = .ok (.ifCond .eq 16, 3) := by decide +kernel
theorem own_d16_13 : decode jdk_42_method_139_code 13 = .ok (.new 10, 3) := by decide +kernel
theorem own_d16_16 : decode jdk_42_method_139_code 16 = .ok (.dup, 1) := by decide +kernel
theorem own_d16_17 : decode jdk_42_method_139_code 17 = .ok (.iload_n 0, 1) := by decide +kernel
theorem own_d16_18 : decode jdk_42_method_139_code 18 = .ok (.invokestatic 1018, 3) := by decide +kernel
theorem own_d16_21 : decode jdk_42_method_139_code 21 = .ok (.iconst 0, 1) := by decide +kernel
theorem own_d16_22 : decode jdk_42_method_139_code 22 = .ok (.invokespecial 209, 3) := by decide +kernel
theorem own_d16_25 : decode jdk_42_method_139_code 25 = .ok (.areturn, 1) := by decide +kernel
theorem own_d17_0 : decode jdk_43_method_3_code 0 = .ok (.iload_n 0, 1) := by decide +kernel
theorem own_d17_1 : decode jdk_43_method_3_code 1 = .ok (.sipush 255, 3) := by decide +kernel
theorem own_d17_4 : decode jdk_43_method_3_code 4 = .ok (.if_icmp .gt 7, 3) := by decide +kernel
theorem own_d17_7 : decode jdk_43_method_3_code 7 = .ok (.iconst 1, 1) := by decide +kernel
theorem own_d17_8 : decode jdk_43_method_3_code 8 = .ok (.goto 4, 3) := by decide +kernel
theorem own_d17_12 : decode jdk_43_method_3_code 12 = .ok (.ireturn, 1) := by decide +kernel
theorem own_d18_0 : decode jdk_43_method_46_code 0 = .ok (.iconst 1, 1) := by decide +kernel
theorem own_d18_1 : decode jdk_43_method_46_code 1 = .ok (.newarray .byte, 2) := by decide +kernel
theorem own_d18_3 : decode jdk_43_method_46_code 3 = .ok (.dup, 1) := by decide +kernel
theorem own_d18_4 : decode jdk_43_method_46_code 4 = .ok (.iconst 0, 1) := by decide +kernel
theorem own_d18_5 : decode jdk_43_method_46_code 5 = .ok (.iload_n 0, 1) := by decide +kernel
theorem own_d18_6 : decode jdk_43_method_46_code 6 = .ok (.i2b, 1) := by decide +kernel
theorem own_d18_7 : decode jdk_43_method_46_code 7 = .ok (.bastore, 1) := by decide +kernel
theorem own_d18_8 : decode jdk_43_method_46_code 8 = .ok (.areturn, 1) := by decide +kernel
theorem own_d19_0 : decode jdk_42_method_151_code 0 = .ok (.aload_n 0, 1) := by decide +kernel
theorem own_d19_1 : decode jdk_42_method_151_code 1 = .ok (.invokespecial 1, 3) := by decide +kernel
theorem own_d19_4 : decode jdk_42_method_151_code 4 = .ok (.aload_n 0, 1) := by decide +kernel
theorem own_d19_5 : decode jdk_42_method_151_code 5 = .ok (.aload_n 1, 1) := by decide +kernel
theorem own_d19_6 : decode jdk_42_method_151_code 6 = .ok (.putfield 9, 3) := by decide +kernel
theorem own_d19_9 : decode jdk_42_method_151_code 9 = .ok (.aload_n 0, 1) := by decide +kernel
theorem own_d19_10 : decode jdk_42_method_151_code 10 = .ok (.iload_n 2, 1) := by decide +kernel
theorem own_d19_11 : decode jdk_42_method_151_code 11 = .ok (.putfield 15, 3) := by decide +kernel
theorem own_d19_14 : decode jdk_42_method_151_code 14 = .ok (.return_, 1) := by decide +kernel
theorem own_d20_0 : decode prog_40_method_1_code 0 = .ok (.aload_n 0, 1) := by decide +kernel
theorem own_d20_1 : decode prog_40_method_1_code 1 = .ok (.invokespecial 1, 3) := by decide +kernel
theorem own_d20_4 : decode prog_40_method_1_code 4 = .ok (.aload_n 0, 1) := by decide +kernel
theorem own_d20_5 : decode prog_40_method_1_code 5 = .ok (.aload_n 1, 1) := by decide +kernel
theorem own_d20_6 : decode prog_40_method_1_code 6 = .ok (.putfield 7, 3) := by decide +kernel
theorem own_d20_9 : decode prog_40_method_1_code 9 = .ok (.aload_n 0, 1) := by decide +kernel
theorem own_d20_10 : decode prog_40_method_1_code 10 = .ok (.iload_n 2, 1) := by decide +kernel
theorem own_d20_11 : decode prog_40_method_1_code 11 = .ok (.putfield 13, 3) := by decide +kernel
theorem own_d20_14 : decode prog_40_method_1_code 14 = .ok (.aload_n 0, 1) := by decide +kernel
theorem own_d20_15 : decode prog_40_method_1_code 15 = .ok (.aload_n 3, 1) := by decide +kernel
theorem own_d20_16 : decode prog_40_method_1_code 16 = .ok (.putfield 17, 3) := by decide +kernel
theorem own_d20_19 : decode prog_40_method_1_code 19 = .ok (.return_, 1) := by decide +kernel
theorem own_d21_0 : decode jdk_30_method_1_code 0 = .ok (.aload_n 0, 1) := by decide +kernel
theorem own_d21_1 : decode jdk_30_method_1_code 1 = .ok (.invokespecial 1, 3) := by decide +kernel
theorem own_d21_4 : decode jdk_30_method_1_code 4 = .ok (.return_, 1) := by decide +kernel
theorem own_d22_0 : decode prog_40_method_3_code 0 = .ok (.aload_n 0, 1) := by decide +kernel
theorem own_d22_1 : decode prog_40_method_3_code 1 = .ok (.getfield 17, 3) := by decide +kernel
theorem own_d22_4 : decode prog_40_method_3_code 4 = .ok (.iload_n 1, 1) := by decide +kernel
theorem own_d22_5 : decode prog_40_method_3_code 5 = .ok (.invokeinterface 21 2, 5) := by decide +kernel
theorem own_d22_10 : decode prog_40_method_3_code 10 = .ok (.checkcast 27, 3) := by decide +kernel
theorem own_d22_13 : decode prog_40_method_3_code 13 = .ok (.areturn, 1) := by decide +kernel
theorem own_d23_0 : decode jdk_38_method_20_code 0 = .ok (.iload_n 1, 1) := by decide +kernel
theorem own_d23_1 : decode jdk_38_method_20_code 1 = .ok (.aload_n 0, 1) := by decide +kernel
theorem own_d23_2 : decode jdk_38_method_20_code 2 = .ok (.getfield 48, 3) := by decide +kernel
theorem own_d23_5 : decode jdk_38_method_20_code 5 = .ok (.invokestatic 118, 3) := by decide +kernel
theorem own_d23_8 : decode jdk_38_method_20_code 8 = .ok (.pop, 1) := by decide +kernel
theorem own_d23_9 : decode jdk_38_method_20_code 9 = .ok (.aload_n 0, 1) := by decide +kernel
theorem own_d23_10 : decode jdk_38_method_20_code 10 = .ok (.iload_n 1, 1) := by decide +kernel
theorem own_d23_11 : decode jdk_38_method_20_code 11 = .ok (.invokevirtual 123, 3) := by decide +kernel
theorem own_d23_14 : decode jdk_38_method_20_code 14 = .ok (.areturn, 1) := by decide +kernel
theorem own_d24_0 : decode jdk_31_method_17_code 0 = .ok (.iload_n 0, 1) := by decide +kernel
theorem own_d24_1 : decode jdk_31_method_17_code 1 = .ok (.iload_n 1, 1) := by decide +kernel
theorem own_d24_2 : decode jdk_31_method_17_code 2 = .ok (.aconst_null, 1) := by decide +kernel
theorem own_d24_3 : decode jdk_31_method_17_code 3 = .ok (.invokestatic 105, 3) := by decide +kernel
theorem own_d24_6 : decode jdk_31_method_17_code 6 = .ok (.ireturn, 1) := by decide +kernel
theorem own_d25_0 : decode jdk_41_method_11_code 0 = .ok (.iload_n 0, 1) := by decide +kernel
theorem own_d25_1 : decode jdk_41_method_11_code 1 = .ok (.ifCond .lt 8, 3) := by decide +kernel
theorem own_d25_4 : decode jdk_41_method_11_code 4 = .ok (.iload_n 0, 1) := by decide +kernel
theorem own_d25_5 : decode jdk_41_method_11_code 5 = .ok (.iload_n 1, 1) := by decide +kernel
theorem own_d25_6 : decode jdk_41_method_11_code 6 = .ok (.if_icmp .lt 10, 3) := by decide +kernel
theorem own_d25_16 : decode jdk_41_method_11_code 16 = .ok (.iload_n 0, 1) := by decide +kernel
theorem own_d25_17 : decode jdk_41_method_11_code 17 = .ok (.ireturn, 1) := by decide +kernel
theorem own_d26_0 : decode jdk_38_method_18_code 0 = .ok (.aload_n 0, 1) := by decide +kernel
theorem own_d26_1 : decode jdk_38_method_18_code 1 = .ok (.getfield 9, 3) := by decide +kernel
theorem own_d26_4 : decode jdk_38_method_18_code 4 = .ok (.iload_n 1, 1) := by decide +kernel
theorem own_d26_5 : decode jdk_38_method_18_code 5 = .ok (.aaload, 1) := by decide +kernel
theorem own_d26_6 : decode jdk_38_method_18_code 6 = .ok (.areturn, 1) := by decide +kernel
theorem own_d27_0 : decode jdk_42_method_66_code 0 = .ok (.aload_n 0, 1) := by decide +kernel
theorem own_d27_1 : decode jdk_42_method_66_code 1 = .ok (.aload_n 1, 1) := by decide +kernel
theorem own_d27_2 : decode jdk_42_method_66_code 2 = .ok (.if_acmp .ne 5, 3) := by decide +kernel
theorem own_d27_5 : decode jdk_42_method_66_code 5 = .ok (.iconst 1, 1) := by decide +kernel
theorem own_d27_6 : decode jdk_42_method_66_code 6 = .ok (.ireturn, 1) := by decide +kernel
theorem own_pd0 : parseMethodDescriptor "()V" = some ⟨[], none⟩ := by decide +kernel
set_option maxRecDepth 65536 in
set_option maxHeartbeats 40000000 in
theorem own_rec (l : Launch) (Z : State) (a0 : Array Value) (hw : ∀ d ∈ tables_1, d.before a0 Z = true) (a : Addr) (h0 : Heap) (O0 : own_Old Z h0) :
    own_Con l Z (⟨"java/lang/Record", "<init>", "()V"⟩ : MethodName) jdk_30_method_1_code 1 none [] ({ frames := 1, cells := 0, slots := 0, locals := 12 } : Room) #[(.ref a)] h0 (fun rv rh rL => rv = none ∧ own_Fr Z rL ∧ h0 = rh) := by
  refine own_intro (plainFor_of_name (by first | (simp [plainName, overriddenIn]; done) | decide +kernel)) ?_
  intro p e s m below meth c s₁ G hx hby hml hown hnm hret hZ X0 e0 hG hR
  have N0 := Fr.nil Z.heap.size
  refine own_entry (Ls := #[.val (.ref a)]) (by first | (simp [entryFrame, mkF, argsToLocals, Value.category]; done) | rfl) ?_
  show G (s₁.setTop (mkF m 0 #[.val (.ref a)] []))
  refine hG _ _ (fun t_ k_ => XS.aloadN X0.here hx rfl (hb hby own_d21_0) rfl rfl k_) ?_
  show G (s₁.setTop (mkF m 1 #[.val (.ref a)] [(.ref a)]))
  obtain ⟨T1, X1, e1, st1⟩ := initO X0 hx hZ hown (hw _ (List.mem_of_getElem? (i := 115) rfl)) (hw _ (List.mem_of_getElem? (i := 17) rfl)) (hw _ (List.mem_of_getElem? (i := 18) rfl)) e0 (g := (mkF m 1 #[.val (.ref a)] [(.ref a)])) rfl (by rw [hml]; rfl) rfl (hb hby own_d21_1) (by decide) (W := 0) (by show 2 * 0 + _ ≤ _; exact Nat.le_of_eq rfl) (by decide)
  refine hG _ _ st1 ?_
  show G (T1.setTop (mkF m 4 #[.val (.ref a)] []))
  exact own_retV hR hret X1 hx (hb hby own_d21_4) (by decide) (by decide) (by rw [e1]; exact ⟨rfl, N0, rfl⟩)
theorem own_pd1 : parseMethodDescriptor "([CI[BII)I" = some ⟨[(.array .char), .int, (.array .byte), .int, .int], some .int⟩ := by decide +kernel
set_option maxRecDepth 65536 in
set_option maxHeartbeats 40000000 in
theorem own_cmp5 (l : Launch) (Z : State) (a0 : Array Value) (hw : ∀ d ∈ tables_1, d.before a0 Z = true) (a : Addr) (b : Addr) (ka : ClassId) (kb : ClassId) (cs : List Int32) (h0 : Heap) (O0 : own_Old Z h0) (g0_V : Arv Z h0 a ka .char (Int32.ofNat cs.length) (cs.map Value.int) (.int (0 : Int32))) (g1_V : Arv Z h0 b kb .byte (Int32.ofNat cs.length) [] (.int (0 : Int32))) (g2_G : Z.heap.size ≤ b) (g3_hne : a ≠ b) (g4_hlen : cs.length < 2147483648) (g5_hcs : ∀ c ∈ cs, ¬ ((255 : Int32) < c)) :
    own_Con l Z (⟨"java/lang/StringUTF16", "compress", "([CI[BII)I"⟩ : MethodName) jdk_52_method_21_code 7 (some .int) [] ({ frames := 0, cells := 0, slots := 0, locals := 0 } : Room) #[(.ref a), (.int (0 : Int32)), (.ref b), (.int (0 : Int32)), (.int (Int32.ofNat cs.length))] h0 (fun rv rh rL => rv = some (.int (Int32.ofNat cs.length)) ∧ own_Fr Z rL ∧ Keep h0 rh [b] ∧ (Arv Z rh b kb .byte (Int32.ofNat cs.length) (cs.map fun c => Value.int c.toInt8.toInt32) (.int (0 : Int32)))) := by
  refine own_intro (plainFor_of_name (by first | (simp [plainName, overriddenIn]; done) | decide +kernel)) ?_
  intro p e s m below meth c s₁ G hx hby hml hown hnm hret hZ X0 e0 hG hR
  have N0 := Fr.nil Z.heap.size
  refine own_entry (Ls := #[.val (.ref a), .val (.int (0 : Int32)), .val (.ref b), .val (.int (0 : Int32)), .val (.int (Int32.ofNat cs.length)), .unset, .unset]) (by first | (simp [entryFrame, mkF, argsToLocals, Value.category]; done) | rfl) ?_
  show G (s₁.setTop (mkF m 0 #[.val (.ref a), .val (.int (0 : Int32)), .val (.ref b), .val (.int (0 : Int32)), .val (.int (Int32.ofNat cs.length)), .unset, .unset] []))
  refine hG _ _ (fun t_ k_ => XS.iconst X0.here hx rfl (hb hby own_d6_0) k_) ?_
  show G (s₁.setTop (mkF m 1 #[.val (.ref a), .val (.int (0 : Int32)), .val (.ref b), .val (.int (0 : Int32)), .val (.int (Int32.ofNat cs.length)), .unset, .unset] [(.int (0 : Int32))]))
  refine hG _ _ (fun t_ k_ => XS.istore X0.here hx rfl (hb hby own_d6_1) rfl (l' := #[.val (.ref a), .val (.int (0 : Int32)), .val (.ref b), .val (.int (0 : Int32)), .val (.int (Int32.ofNat cs.length)), .val (.int (0 : Int32)), .unset]) rfl k_) ?_
  show G (s₁.setTop (mkF m 3 #[.val (.ref a), .val (.int (0 : Int32)), .val (.ref b), .val (.int (0 : Int32)), .val (.int (Int32.ofNat cs.length)), .val (.int (0 : Int32)), .unset] []))
  have loop : ∀ (r i : Nat) (T : State) (locs : List Loc) (hT : Heap) (vs : List Value) (ch : Slot), r + i = cs.length → Stand p l e ({ frames := 0, cells := 0, slots := 0, locals := 0 } : Room) s m #[(.ref a), (.int (0 : Int32)), (.ref b), (.int (0 : Int32)), (.int (Int32.ofNat cs.length))] below meth c T locs 0 0 → T.heap = hT → Keep h0 hT [b] → own_Old Z hT → own_Fr Z locs → Arv Z hT b kb .byte (Int32.ofNat cs.length) vs (.int (0 : Int32)) → vs.length = cs.length → (∀ j, j < i → vs.getD j (.int (0 : Int32)) = Value.int (cs.getD j 0).toInt8.toInt32) → One ch → G (T.setTop (mkF m 3 #[.val (.ref a), .val (.int (Int32.ofNat i)), .val (.ref b), .val (.int (Int32.ofNat i)), .val (.int (Int32.ofNat cs.length)), .val (.int (Int32.ofNat i)), ch] [])) := by
    intro r
    induction r with
    | zero =>
      intro i T locs hT vs ch hri X eT K O N V hl hv hch
      have hi : i = cs.length := by omega
      subst hi
      have hvs := own_mapEq (fun c : Int32 => Value.int c.toInt8.toInt32) cs vs (.int (0 : Int32)) 0 hl hv
      rw [hvs] at V
      refine hG _ _ (fun t_ k_ => XS.iload X.here hx rfl (hb hby own_d6_3) rfl k_) ?_
      show G (T.setTop (mkF m 5 #[.val (.ref a), .val (.int (Int32.ofNat cs.length)), .val (.ref b), .val (.int (Int32.ofNat cs.length)), .val (.int (Int32.ofNat cs.length)), .val (.int (Int32.ofNat cs.length)), ch] [(.int (Int32.ofNat cs.length))]))
      refine hG _ _ (fun t_ k_ => XS.iload X.here hx rfl (hb hby own_d6_5) rfl k_) ?_
      show G (T.setTop (mkF m 7 #[.val (.ref a), .val (.int (Int32.ofNat cs.length)), .val (.ref b), .val (.int (Int32.ofNat cs.length)), .val (.int (Int32.ofNat cs.length)), .val (.int (Int32.ofNat cs.length)), ch] [(.int (Int32.ofNat cs.length)), (.int (Int32.ofNat cs.length))]))
      refine hG _ _ (fun t_ k_ => XS.icmpYes X.here hx rfl (pc0 := 7) (pc' := 44) rfl (hb hby own_d6_7) rfl (flt (own_nlt (Nat.le_refl _) g4_hlen)).2.1 (by decide) (by decide) k_) ?_
      show G (T.setTop (mkF m 44 #[.val (.ref a), .val (.int (Int32.ofNat cs.length)), .val (.ref b), .val (.int (Int32.ofNat cs.length)), .val (.int (Int32.ofNat cs.length)), .val (.int (Int32.ofNat cs.length)), ch] []))
      refine hG _ _ (fun t_ k_ => XS.iload X.here hx rfl (hb hby own_d6_44) rfl k_) ?_
      show G (T.setTop (mkF m 46 #[.val (.ref a), .val (.int (Int32.ofNat cs.length)), .val (.ref b), .val (.int (Int32.ofNat cs.length)), .val (.int (Int32.ofNat cs.length)), .val (.int (Int32.ofNat cs.length)), ch] [(.int (Int32.ofNat cs.length))]))
      exact own_retI hR hret X hx (hb hby own_d6_46) (by decide) (by decide) (by rw [eT]; exact ⟨rfl, N, K, V⟩)
    | succ r ih =>
      intro i T locs hT vs ch hri X eT K O N V hl hv hch
      have hi : i < cs.length := by omega
      refine hG _ _ (fun t_ k_ => XS.iload X.here hx rfl (hb hby own_d6_3) rfl k_) ?_
      show G (T.setTop (mkF m 5 #[.val (.ref a), .val (.int (Int32.ofNat i)), .val (.ref b), .val (.int (Int32.ofNat i)), .val (.int (Int32.ofNat cs.length)), .val (.int (Int32.ofNat i)), ch] [(.int (Int32.ofNat i))]))
      refine hG _ _ (fun t_ k_ => XS.iload X.here hx rfl (hb hby own_d6_5) rfl k_) ?_
      show G (T.setTop (mkF m 7 #[.val (.ref a), .val (.int (Int32.ofNat i)), .val (.ref b), .val (.int (Int32.ofNat i)), .val (.int (Int32.ofNat cs.length)), .val (.int (Int32.ofNat i)), ch] [(.int (Int32.ofNat cs.length)), (.int (Int32.ofNat i))]))
      refine hG _ _ (fun t_ k_ => XS.icmpNo X.here hx rfl (hb hby own_d6_7) rfl (tlt (own_lt hi g4_hlen)).2.1 k_) ?_
      show G (T.setTop (mkF m 10 #[.val (.ref a), .val (.int (Int32.ofNat i)), .val (.ref b), .val (.int (Int32.ofNat i)), .val (.int (Int32.ofNat cs.length)), .val (.int (Int32.ofNat i)), ch] []))
      refine hG _ _ (fun t_ k_ => XS.aloadN X.here hx rfl (hb hby own_d6_10) rfl rfl k_) ?_
      show G (T.setTop (mkF m 11 #[.val (.ref a), .val (.int (Int32.ofNat i)), .val (.ref b), .val (.int (Int32.ofNat i)), .val (.int (Int32.ofNat cs.length)), .val (.int (Int32.ofNat i)), ch] [(.ref a)]))
      refine hG _ _ (fun t_ k_ => XS.iloadN X.here hx rfl (hb hby own_d6_11) rfl k_) ?_
      show G (T.setTop (mkF m 12 #[.val (.ref a), .val (.int (Int32.ofNat i)), .val (.ref b), .val (.int (Int32.ofNat i)), .val (.int (Int32.ofNat cs.length)), .val (.int (Int32.ofNat i)), ch] [(.int (Int32.ofNat i)), (.ref a)]))
      obtain ⟨c1, Ar1, q1, S1, M1, H1, G1⟩ := id (g0_V.keep K (ninS g3_hne nin0))
      have hin1 : ¬ ((Int32.ofNat i) < 0 ∨ c1.slots.size ≤ (Int32.ofNat i).toNatClampNeg) := inb_of S1 ⟨own_nn (by omega), own_lt hi g4_hlen⟩
      refine hG _ _ (X.caload hx (j := (Int32.ofNat i)) (v := (.int (cs.getD i 0))) (by rw [eT]; exact Ar1.1) (State.isArrayOf_alike hZ.alike Ar1.2.1) Ar1.2.2 hin1 (Has.at H1 hin1 (by rw [own_clamp (by omega)]; exact own_getD_map Value.int cs i _ 0 hi)) (g := (mkF m 12 #[.val (.ref a), .val (.int (Int32.ofNat i)), .val (.ref b), .val (.int (Int32.ofNat i)), .val (.int (Int32.ofNat cs.length)), .val (.int (Int32.ofNat i)), ch] [(.int (Int32.ofNat i)), (.ref a)])) rfl rfl (hb hby own_d6_12)) ?_
      show G (T.setTop (mkF m 13 #[.val (.ref a), .val (.int (Int32.ofNat i)), .val (.ref b), .val (.int (Int32.ofNat i)), .val (.int (Int32.ofNat cs.length)), .val (.int (Int32.ofNat i)), ch] [(.int (cs.getD i 0))]))
      refine hG _ _ (fun t_ k_ => XS.istoreS X.here hx rfl (hb hby own_d6_13) rfl rfl hch k_) ?_
      show G (T.setTop (mkF m 15 #[.val (.ref a), .val (.int (Int32.ofNat i)), .val (.ref b), .val (.int (Int32.ofNat i)), .val (.int (Int32.ofNat cs.length)), .val (.int (Int32.ofNat i)), .val (.int (cs.getD i 0))] []))
      refine hG _ _ (fun t_ k_ => XS.iload X.here hx rfl (hb hby own_d6_15) rfl k_) ?_
      show G (T.setTop (mkF m 17 #[.val (.ref a), .val (.int (Int32.ofNat i)), .val (.ref b), .val (.int (Int32.ofNat i)), .val (.int (Int32.ofNat cs.length)), .val (.int (Int32.ofNat i)), .val (.int (cs.getD i 0))] [(.int (cs.getD i 0))]))
      refine hG _ _ (fun t_ k_ => XS.sipush X.here hx rfl (hb hby own_d6_17) k_) ?_
      show G (T.setTop (mkF m 20 #[.val (.ref a), .val (.int (Int32.ofNat i)), .val (.ref b), .val (.int (Int32.ofNat i)), .val (.int (Int32.ofNat cs.length)), .val (.int (Int32.ofNat i)), .val (.int (cs.getD i 0))] [(.int (255 : Int32)), (.int (cs.getD i 0))]))
      refine hG _ _ (fun t_ k_ => XS.icmpYes X.here hx rfl (pc0 := 20) (pc' := 26) rfl (hb hby own_d6_20) rfl (flt (g5_hcs _ (own_getD_mem cs i 0 hi))).2.2.2 (by decide) (by decide) k_) ?_
      show G (T.setTop (mkF m 26 #[.val (.ref a), .val (.int (Int32.ofNat i)), .val (.ref b), .val (.int (Int32.ofNat i)), .val (.int (Int32.ofNat cs.length)), .val (.int (Int32.ofNat i)), .val (.int (cs.getD i 0))] []))
      refine hG _ _ (fun t_ k_ => XS.aloadN X.here hx rfl (hb hby own_d6_26) rfl rfl k_) ?_
      show G (T.setTop (mkF m 27 #[.val (.ref a), .val (.int (Int32.ofNat i)), .val (.ref b), .val (.int (Int32.ofNat i)), .val (.int (Int32.ofNat cs.length)), .val (.int (Int32.ofNat i)), .val (.int (cs.getD i 0))] [(.ref b)]))
      refine hG _ _ (fun t_ k_ => XS.iloadN X.here hx rfl (hb hby own_d6_27) rfl k_) ?_
      show G (T.setTop (mkF m 28 #[.val (.ref a), .val (.int (Int32.ofNat i)), .val (.ref b), .val (.int (Int32.ofNat i)), .val (.int (Int32.ofNat cs.length)), .val (.int (Int32.ofNat i)), .val (.int (cs.getD i 0))] [(.int (Int32.ofNat i)), (.ref b)]))
      refine hG _ _ (fun t_ k_ => XS.iload X.here hx rfl (hb hby own_d6_28) rfl k_) ?_
      show G (T.setTop (mkF m 30 #[.val (.ref a), .val (.int (Int32.ofNat i)), .val (.ref b), .val (.int (Int32.ofNat i)), .val (.int (Int32.ofNat cs.length)), .val (.int (Int32.ofNat i)), .val (.int (cs.getD i 0))] [(.int (cs.getD i 0)), (.int (Int32.ofNat i)), (.ref b)]))
      refine hG _ _ (fun t_ k_ => XS.i2b X.here hx rfl (hb hby own_d6_30) rfl k_) ?_
      show G (T.setTop (mkF m 31 #[.val (.ref a), .val (.int (Int32.ofNat i)), .val (.ref b), .val (.int (Int32.ofNat i)), .val (.int (Int32.ofNat cs.length)), .val (.int (Int32.ofNat i)), .val (.int (cs.getD i 0))] [(.int ((cs.getD i 0).toInt8.toInt32)), (.int (Int32.ofNat i)), (.ref b)]))
      obtain ⟨c2, Ar2, q2, S2, M2, H2, G2⟩ := id V
      obtain ⟨T2, h2, X2, e2, W2, st2⟩ := stB X hx hZ eT Ar2 (j := (Int32.ofNat i)) (inb_of S2 ⟨own_nn (by omega), own_lt hi g4_hlen⟩) (g := (mkF m 31 #[.val (.ref a), .val (.int (Int32.ofNat i)), .val (.ref b), .val (.int (Int32.ofNat i)), .val (.int (Int32.ofNat cs.length)), .val (.int (Int32.ofNat i)), .val (.int (cs.getD i 0))] [(.int ((cs.getD i 0).toInt8.toInt32)), (.int (Int32.ofNat i)), (.ref b)])) rfl rfl (hb hby own_d6_31)
      refine hG _ _ st2 ?_
      have K2 : Keep h0 h2 [b] := K.wr W2 (Or.inl (List.mem_of_getElem? (i := 0) rfl))
      have O2 : own_Old Z h2 := O.wr W2 g2_G
      have V2 : Arv Z h2 b kb .byte (Int32.ofNat cs.length) (vs.set i (.int (nar .byte ((cs.getD i 0).toInt8.toInt32)))) (.int (0 : Int32)) := Arv.set Ar2 q2 S2 M2 H2 G2 (fits_nar_byte _) W2 i (own_clamp (by omega)) (by omega)
      have N2 := Fr.snoc X2 N g2_G
      show G (T2.setTop (mkF m 32 #[.val (.ref a), .val (.int (Int32.ofNat i)), .val (.ref b), .val (.int (Int32.ofNat i)), .val (.int (Int32.ofNat cs.length)), .val (.int (Int32.ofNat i)), .val (.int (cs.getD i 0))] []))
      refine hG _ _ (fun t_ k_ => XS.iinc X2.here hx rfl (hb hby own_d6_32) rfl (l' := #[.val (.ref a), .val (.int ((Int32.ofNat i) + (1 : Int32))), .val (.ref b), .val (.int (Int32.ofNat i)), .val (.int (Int32.ofNat cs.length)), .val (.int (Int32.ofNat i)), .val (.int (cs.getD i 0))]) rfl k_) ?_
      show G (T2.setTop (mkF m 35 #[.val (.ref a), .val (.int ((Int32.ofNat i) + (1 : Int32))), .val (.ref b), .val (.int (Int32.ofNat i)), .val (.int (Int32.ofNat cs.length)), .val (.int (Int32.ofNat i)), .val (.int (cs.getD i 0))] []))
      refine hG _ _ (fun t_ k_ => XS.iinc X2.here hx rfl (hb hby own_d6_35) rfl (l' := #[.val (.ref a), .val (.int ((Int32.ofNat i) + (1 : Int32))), .val (.ref b), .val (.int ((Int32.ofNat i) + (1 : Int32))), .val (.int (Int32.ofNat cs.length)), .val (.int (Int32.ofNat i)), .val (.int (cs.getD i 0))]) rfl k_) ?_
      show G (T2.setTop (mkF m 38 #[.val (.ref a), .val (.int ((Int32.ofNat i) + (1 : Int32))), .val (.ref b), .val (.int ((Int32.ofNat i) + (1 : Int32))), .val (.int (Int32.ofNat cs.length)), .val (.int (Int32.ofNat i)), .val (.int (cs.getD i 0))] []))
      refine hG _ _ (fun t_ k_ => XS.iinc X2.here hx rfl (hb hby own_d6_38) rfl (l' := #[.val (.ref a), .val (.int ((Int32.ofNat i) + (1 : Int32))), .val (.ref b), .val (.int ((Int32.ofNat i) + (1 : Int32))), .val (.int (Int32.ofNat cs.length)), .val (.int ((Int32.ofNat i) + (1 : Int32))), .val (.int (cs.getD i 0))]) rfl k_) ?_
      show G (T2.setTop (mkF m 41 #[.val (.ref a), .val (.int ((Int32.ofNat i) + (1 : Int32))), .val (.ref b), .val (.int ((Int32.ofNat i) + (1 : Int32))), .val (.int (Int32.ofNat cs.length)), .val (.int ((Int32.ofNat i) + (1 : Int32))), .val (.int (cs.getD i 0))] []))
      refine hG _ _ (fun t_ k_ => XS.goto X2.here hx rfl (pc0 := 41) (pc' := 3) rfl (hb hby own_d6_41) (by decide) (by decide) k_) ?_
      show G (T2.setTop (mkF m 3 #[.val (.ref a), .val (.int ((Int32.ofNat i) + (1 : Int32))), .val (.ref b), .val (.int ((Int32.ofNat i) + (1 : Int32))), .val (.int (Int32.ofNat cs.length)), .val (.int ((Int32.ofNat i) + (1 : Int32))), .val (.int (cs.getD i 0))] []))
      rw [own_inc i]
      exact ih (i + 1) _ _ _ _ _ (by omega) X2 e2 K2 O2 N2 V2 (by rw [List.length_set]; exact hl) (own_setNext (fun c => Value.int c.toInt8.toInt32) _ _ (by omega) (by rw [own_nb]) hv) (One.val rfl)
  exact loop cs.length 0 _ _ _ _ _ rfl X0 e0 (Keep.refl h0 [b]) O0 N0 (g1_V.pad (pad_rep [] (.int (0 : Int32)) cs.length)) (by simp) (fun j hj => absurd hj (Nat.not_lt_zero j)) One.u
theorem own_pd2 : parseMethodDescriptor "([CII)[B" = some ⟨[(.array .char), .int, .int], some (.array .byte)⟩ := by decide +kernel
set_option maxRecDepth 65536 in
set_option maxHeartbeats 40000000 in
theorem own_cmp3 (l : Launch) (Z : State) (a0 : Array Value) (hw : ∀ d ∈ tables_1, d.before a0 Z = true) (a : Addr) (ka : ClassId) (cs : List Int32) (h0 : Heap) (O0 : own_Old Z h0) (g0_V : Arv Z h0 a ka .char (Int32.ofNat cs.length) (cs.map Value.int) (.int (0 : Int32))) (g1_hcap : cs.length ≤ 2) (g2_hcs : ∀ c ∈ cs, ¬ ((255 : Int32) < c)) :
    own_Con l Z (⟨"java/lang/StringUTF16", "compress", "([CII)[B"⟩ : MethodName) jdk_52_method_16_code 6 (some (.array .byte)) [] ({ frames := 1, cells := 1, slots := 2, locals := 18 } : Room) #[(.ref a), (.int (0 : Int32)), (.int (Int32.ofNat cs.length))] h0 (fun rv rh rL => ∃ (t : Addr) (kt : ClassId), rv = some (.ref t) ∧ own_Fr Z rL ∧ Keep h0 rh [] ∧ h0.size ≤ t ∧ (Arv Z rh t kt .byte (Int32.ofNat cs.length) (cs.map fun c => Value.int c.toInt8.toInt32) (.int (0 : Int32)))) := by
  refine own_intro (plainFor_of_name (by first | (simp [plainName, overriddenIn]; done) | decide +kernel)) ?_
  intro p e s m below meth c s₁ G hx hby hml hown hnm hret hZ X0 e0 hG hR
  have N0 := Fr.nil Z.heap.size
  refine own_entry (Ls := #[.val (.ref a), .val (.int (0 : Int32)), .val (.int (Int32.ofNat cs.length)), .unset, .unset, .unset]) (by first | (simp [entryFrame, mkF, argsToLocals, Value.category]; done) | rfl) ?_
  show G (s₁.setTop (mkF m 0 #[.val (.ref a), .val (.int (0 : Int32)), .val (.int (Int32.ofNat cs.length)), .unset, .unset, .unset] []))
  refine hG _ _ (fun t_ k_ => XS.iloadN X0.here hx rfl (hb hby own_d5_0) rfl k_) ?_
  show G (s₁.setTop (mkF m 1 #[.val (.ref a), .val (.int (0 : Int32)), .val (.int (Int32.ofNat cs.length)), .unset, .unset, .unset] [(.int (Int32.ofNat cs.length))]))
  obtain ⟨T1, h1, k1, X1, e1, E1, A1, st1⟩ := newP X0 hx hZ (hw _ (List.mem_of_getElem? (i := 24) rfl)) e0 (g := (mkF m 1 #[.val (.ref a), .val (.int (0 : Int32)), .val (.int (Int32.ofNat cs.length)), .unset, .unset, .unset] [(.int (Int32.ofNat cs.length))])) rfl (hb hby own_d5_1) rfl (own_nn (by omega)) (cap := 2) (by rw [own_clamp (by omega)]; exact g1_hcap) (by decide) (by decide) (by decide)
  obtain ⟨b1, z1⟩ : ∃ z, z = h0.size := ⟨_, rfl⟩
  rw [← z1] at A1 st1
  refine hG _ _ st1 ?_
  have K1 : Keep h0 h1 [] := (Keep.refl h0 []).ext E1
  have O1 : own_Old Z h1 := O0.ext E1
  have V1 : Arv Z h1 b1 k1 .byte (Int32.ofNat cs.length) [] (.int (0 : Int32)) := Arv.new A1 (own_nn (by omega))
  show G (T1.setTop (mkF m 3 #[.val (.ref a), .val (.int (0 : Int32)), .val (.int (Int32.ofNat cs.length)), .unset, .unset, .unset] [(.ref b1)]))
  refine hG _ _ (fun t_ k_ => XS.astoreN X1.here hx rfl (hb hby own_d5_3) rfl rfl (l' := #[.val (.ref a), .val (.int (0 : Int32)), .val (.int (Int32.ofNat cs.length)), .val (.ref b1), .unset, .unset]) rfl k_) ?_
  show G (T1.setTop (mkF m 4 #[.val (.ref a), .val (.int (0 : Int32)), .val (.int (Int32.ofNat cs.length)), .val (.ref b1), .unset, .unset] []))
  refine hG _ _ (fun t_ k_ => XS.aloadN X1.here hx rfl (hb hby own_d5_4) rfl rfl k_) ?_
  show G (T1.setTop (mkF m 5 #[.val (.ref a), .val (.int (0 : Int32)), .val (.int (Int32.ofNat cs.length)), .val (.ref b1), .unset, .unset] [(.ref a)]))
  refine hG _ _ (fun t_ k_ => XS.iloadN X1.here hx rfl (hb hby own_d5_5) rfl k_) ?_
  show G (T1.setTop (mkF m 6 #[.val (.ref a), .val (.int (0 : Int32)), .val (.int (Int32.ofNat cs.length)), .val (.ref b1), .unset, .unset] [(.int (0 : Int32)), (.ref a)]))
  refine hG _ _ (fun t_ k_ => XS.aloadN X1.here hx rfl (hb hby own_d5_6) rfl rfl k_) ?_
  show G (T1.setTop (mkF m 7 #[.val (.ref a), .val (.int (0 : Int32)), .val (.int (Int32.ofNat cs.length)), .val (.ref b1), .unset, .unset] [(.ref b1), (.int (0 : Int32)), (.ref a)]))
  refine hG _ _ (fun t_ k_ => XS.iconst X1.here hx rfl (hb hby own_d5_7) k_) ?_
  show G (T1.setTop (mkF m 8 #[.val (.ref a), .val (.int (0 : Int32)), .val (.int (Int32.ofNat cs.length)), .val (.ref b1), .unset, .unset] [(.int (0 : Int32)), (.ref b1), (.int (0 : Int32)), (.ref a)]))
  refine hG _ _ (fun t_ k_ => XS.iloadN X1.here hx rfl (hb hby own_d5_8) rfl k_) ?_
  show G (T1.setTop (mkF m 9 #[.val (.ref a), .val (.int (0 : Int32)), .val (.int (Int32.ofNat cs.length)), .val (.ref b1), .unset, .unset] [(.int (Int32.ofNat cs.length)), (.int (0 : Int32)), (.ref b1), (.int (0 : Int32)), (.ref a)]))
  have f3 := (g0_V.ext E1)
  refine own_callS X1 hx hZ hG hown (hw _ (List.mem_of_getElem? (i := 25) rfl)) (hw _ (List.mem_of_getElem? (i := 26) rfl)) (hw _ (List.mem_of_getElem? (i := 22) rfl)) (hw _ (List.mem_of_getElem? (i := 27) rfl)) (by decide) 0 (own_cmp5 l Z a0 hw a b1 ka k1 cs h1 O1 f3 V1 (own_ge O0 (Nat.le_of_eq z1.symm)) (own_ne g0_V.lt (Nat.le_of_eq z1.symm)) (by omega) g2_hcs) (by decide) (by decide) e1 (by rw [hml]; rfl) (lenOf own_pd1 rfl) (argsL := [(.ref a), (.int (0 : Int32)), (.ref b1), (.int (0 : Int32)), (.int (Int32.ofNat cs.length))]) (rest := []) rfl rfl (Nat.le_of_eq rfl) (hb hby own_d5_9) (by decide) (by decide) ?_
  intro T2 h2 v2 L2 X2 e2 q2
  obtain ⟨rfl, M2, J2, r2_0⟩ := q2
  have N2 := Fr.app N0 M2
  have K2 : Keep h0 h2 [] := K1.trans J2 (allS (Or.inr (Nat.le_trans (Keep.refl h0 []).1 (Nat.le_of_eq z1.symm))) all0)
  have O2 : own_Old Z h2 := O1.keep J2 (allS (own_ge O0 (Nat.le_of_eq z1.symm)) all0)
  show G (T2.setTop (mkF m 12 #[.val (.ref a), .val (.int (0 : Int32)), .val (.int (Int32.ofNat cs.length)), .val (.ref b1), .unset, .unset] [(.int (Int32.ofNat cs.length))]))
  refine hG _ _ (fun t_ k_ => XS.istore X2.here hx rfl (hb hby own_d5_12) rfl (l' := #[.val (.ref a), .val (.int (0 : Int32)), .val (.int (Int32.ofNat cs.length)), .val (.ref b1), .val (.int (Int32.ofNat cs.length)), .unset]) rfl k_) ?_
  show G (T2.setTop (mkF m 14 #[.val (.ref a), .val (.int (0 : Int32)), .val (.int (Int32.ofNat cs.length)), .val (.ref b1), .val (.int (Int32.ofNat cs.length)), .unset] []))
  refine hG _ _ (fun t_ k_ => XS.iload X2.here hx rfl (hb hby own_d5_14) rfl k_) ?_
  show G (T2.setTop (mkF m 16 #[.val (.ref a), .val (.int (0 : Int32)), .val (.int (Int32.ofNat cs.length)), .val (.ref b1), .val (.int (Int32.ofNat cs.length)), .unset] [(.int (Int32.ofNat cs.length))]))
  refine hG _ _ (fun t_ k_ => XS.iloadN X2.here hx rfl (hb hby own_d5_16) rfl k_) ?_
  show G (T2.setTop (mkF m 17 #[.val (.ref a), .val (.int (0 : Int32)), .val (.int (Int32.ofNat cs.length)), .val (.ref b1), .val (.int (Int32.ofNat cs.length)), .unset] [(.int (Int32.ofNat cs.length)), (.int (Int32.ofNat cs.length))]))
  refine hG _ _ (fun t_ k_ => XS.icmpYes X2.here hx rfl (pc0 := 17) (pc' := 57) rfl (hb hby own_d5_17) rfl (teq (rfl : (Int32.ofNat cs.length) = (Int32.ofNat cs.length))).1 (by decide) (by decide) k_) ?_
  show G (T2.setTop (mkF m 57 #[.val (.ref a), .val (.int (0 : Int32)), .val (.int (Int32.ofNat cs.length)), .val (.ref b1), .val (.int (Int32.ofNat cs.length)), .unset] []))
  refine hG _ _ (fun t_ k_ => XS.aloadN X2.here hx rfl (hb hby own_d5_57) rfl rfl k_) ?_
  show G (T2.setTop (mkF m 58 #[.val (.ref a), .val (.int (0 : Int32)), .val (.int (Int32.ofNat cs.length)), .val (.ref b1), .val (.int (Int32.ofNat cs.length)), .unset] [(.ref b1)]))
  exact own_retA hR hret rfl rfl X2 hx (hb hby own_d5_58) (by decide) (by decide) (by rw [e2]; exact ⟨b1, k1, rfl, N2, K2, (Nat.le_trans (Keep.refl h0 []).1 (Nat.le_of_eq z1.symm)), r2_0⟩)
theorem own_pd3 : parseMethodDescriptor "([BI)B" = some ⟨[(.array .byte), .int], some .byte⟩ := by decide +kernel
set_option maxRecDepth 65536 in
set_option maxHeartbeats 40000000 in
theorem own_coder (l : Launch) (Z : State) (a0 : Array Value) (hw : ∀ d ∈ tables_1, d.before a0 Z = true) (t : Addr) (n : Int32) (kt : ClassId) (n2 : Int32) (vs : List Value) (r : Int32) (h0 : Heap) (O0 : own_Old Z h0) (g0_V : Arv Z h0 t kt .byte n2 vs (.int (0 : Int32))) (g1_hr : nar .byte ((((n - n2).toUInt32 >>> ((31 : Int32) &&& 31).toUInt32).toInt32).toInt8.toInt32) = r) :
    own_Con l Z (⟨"java/lang/StringUTF16", "coderFromArrayLen", "([BI)B"⟩ : MethodName) jdk_52_method_15_code 2 (some .byte) [] ({ frames := 0, cells := 0, slots := 0, locals := 0 } : Room) #[(.ref t), (.int n)] h0 (fun rv rh rL => rv = some (.int r) ∧ own_Fr Z rL ∧ h0 = rh) := by
  refine own_intro (plainFor_of_name (by first | (simp [plainName, overriddenIn]; done) | decide +kernel)) ?_
  intro p e s m below meth c s₁ G hx hby hml hown hnm hret hZ X0 e0 hG hR
  have N0 := Fr.nil Z.heap.size
  refine own_entry (Ls := #[.val (.ref t), .val (.int n)]) (by first | (simp [entryFrame, mkF, argsToLocals, Value.category]; done) | rfl) ?_
  show G (s₁.setTop (mkF m 0 #[.val (.ref t), .val (.int n)] []))
  refine hG _ _ (fun t_ k_ => XS.iloadN X0.here hx rfl (hb hby own_d7_0) rfl k_) ?_
  show G (s₁.setTop (mkF m 1 #[.val (.ref t), .val (.int n)] [(.int n)]))
  refine hG _ _ (fun t_ k_ => XS.aloadN X0.here hx rfl (hb hby own_d7_1) rfl rfl k_) ?_
  show G (s₁.setTop (mkF m 2 #[.val (.ref t), .val (.int n)] [(.ref t), (.int n)]))
  obtain ⟨c1, Ar1, -, S1, M1, -, -⟩ := id g0_V
  refine hG _ _ (X0.arraylength hx (by rw [e0]; exact Ar1.1) (State.isArrayOf_alike hZ.alike Ar1.2.1) (g := (mkF m 2 #[.val (.ref t), .val (.int n)] [(.ref t), (.int n)])) rfl rfl (hb hby own_d7_2)) ?_
  rw [len_of S1 M1]
  show G (s₁.setTop (mkF m 3 #[.val (.ref t), .val (.int n)] [(.int n2), (.int n)]))
  refine hG _ _ (fun t_ k_ => XS.isub X0.here hx rfl (hb hby own_d7_3) rfl k_) ?_
  show G (s₁.setTop (mkF m 4 #[.val (.ref t), .val (.int n)] [(.int (n - n2))]))
  refine hG _ _ (fun t_ k_ => XS.bipush X0.here hx rfl (hb hby own_d7_4) k_) ?_
  show G (s₁.setTop (mkF m 6 #[.val (.ref t), .val (.int n)] [(.int (31 : Int32)), (.int (n - n2))]))
  refine hG _ _ (fun t_ k_ => XS.iushr X0.here hx rfl (hb hby own_d7_6) rfl k_) ?_
  show G (s₁.setTop (mkF m 7 #[.val (.ref t), .val (.int n)] [(.int (((n - n2).toUInt32 >>> ((31 : Int32) &&& 31).toUInt32).toInt32))]))
  refine hG _ _ (fun t_ k_ => XS.i2b X0.here hx rfl (hb hby own_d7_7) rfl k_) ?_
  show G (s₁.setTop (mkF m 8 #[.val (.ref t), .val (.int n)] [(.int ((((n - n2).toUInt32 >>> ((31 : Int32) &&& 31).toUInt32).toInt32).toInt8.toInt32))]))
  exact own_retN hR hret (by simp) X0 hx (hb hby own_d7_8) (by decide) (by decide) (by rw [e0]; exact ⟨(by rw [g1_hr]), N0, rfl⟩)
theorem own_pd4 : parseMethodDescriptor "([CIILjava/lang/Void;)V" = some ⟨[(.array .char), .int, .int, (.object "java/lang/Void")], none⟩ := by decide +kernel
set_option maxRecDepth 65536 in
set_option maxHeartbeats 40000000 in
theorem own_str4 (l : Launch) (Z : State) (a0 : Array Value) (hw : ∀ d ∈ tables_1, d.before a0 Z = true) (a : Addr) (u : Addr) (ku : ClassId) (cs : List Int32) (cpt : Int32) (v0 : Value) (v1 : Value) (h0 : Heap) (O0 : own_Old Z h0) (g0_E : Exa Z h0 a "java/lang/String") (g1_F : Fld Z h0 a "java/lang/String" "coder" "B" v0) (g2_F : Fld Z h0 a "java/lang/String" "value" "[B" v1) (g3_G : Z.heap.size ≤ a) (g4_V : Arv Z h0 u ku .char (Int32.ofNat cs.length) (cs.map Value.int) (.int (0 : Int32))) (g5_hpos : 0 < cs.length) (g6_hcap : cs.length ≤ 2) (g7_hcs : ∀ c ∈ cs, ¬ ((255 : Int32) < c)) (g8_S : Sta Z Z.heap "java/lang/String" "COMPACT_STRINGS" "Z" (.int cpt)) (g9_hcpt : ¬ (cpt = (0 : Int32))) :
    own_Con l Z (⟨"java/lang/String", "<init>", "([CIILjava/lang/Void;)V"⟩ : MethodName) jdk_42_method_149_code 6 none [] ({ frames := 2, cells := 1, slots := 2, locals := 35 } : Room) #[(.ref a), (.ref u), (.int (0 : Int32)), (.int (Int32.ofNat cs.length)), .null] h0 (fun rv rh rL => ∃ (t : Addr) (kt : ClassId), rv = none ∧ own_Fr Z rL ∧ Keep h0 rh [a] ∧ h0.size ≤ t ∧ (Exa Z rh a "java/lang/String") ∧ (Fld Z rh a "java/lang/String" "coder" "B" (.int (0 : Int32))) ∧ (Fld Z rh a "java/lang/String" "value" "[B" (.ref t)) ∧ (Arv Z rh t kt .byte (Int32.ofNat cs.length) (cs.map fun c => Value.int c.toInt8.toInt32) (.int (0 : Int32)))) := by
  refine own_intro (plainFor_of_name (by first | (simp [plainName, overriddenIn]; done) | decide +kernel)) ?_
  intro p e s m below meth c s₁ G hx hby hml hown hnm hret hZ X0 e0 hG hR
  have N0 := Fr.nil Z.heap.size
  refine own_entry (Ls := #[.val (.ref a), .val (.ref u), .val (.int (0 : Int32)), .val (.int (Int32.ofNat cs.length)), .val .null, .unset]) (by first | (simp [entryFrame, mkF, argsToLocals, Value.category]; done) | rfl) ?_
  show G (s₁.setTop (mkF m 0 #[.val (.ref a), .val (.ref u), .val (.int (0 : Int32)), .val (.int (Int32.ofNat cs.length)), .val .null, .unset] []))
  refine hG _ _ (fun t_ k_ => XS.aloadN X0.here hx rfl (hb hby own_d3_0) rfl rfl k_) ?_
  show G (s₁.setTop (mkF m 1 #[.val (.ref a), .val (.ref u), .val (.int (0 : Int32)), .val (.int (Int32.ofNat cs.length)), .val .null, .unset] [(.ref a)]))
  obtain ⟨T1, X1, e1, st1⟩ := initO X0 hx hZ hown (hw _ (List.mem_of_getElem? (i := 16) rfl)) (hw _ (List.mem_of_getElem? (i := 17) rfl)) (hw _ (List.mem_of_getElem? (i := 18) rfl)) e0 (g := (mkF m 1 #[.val (.ref a), .val (.ref u), .val (.int (0 : Int32)), .val (.int (Int32.ofNat cs.length)), .val .null, .unset] [(.ref a)])) rfl (by rw [hml]; rfl) rfl (hb hby own_d3_1) (by decide) (W := 0) (by show 2 * 0 + _ ≤ _; exact Nat.le_of_eq rfl) (by decide)
  refine hG _ _ st1 ?_
  show G (T1.setTop (mkF m 4 #[.val (.ref a), .val (.ref u), .val (.int (0 : Int32)), .val (.int (Int32.ofNat cs.length)), .val .null, .unset] []))
  refine hG _ _ (fun t_ k_ => XS.iloadN X1.here hx rfl (hb hby own_d3_4) rfl k_) ?_
  show G (T1.setTop (mkF m 5 #[.val (.ref a), .val (.ref u), .val (.int (0 : Int32)), .val (.int (Int32.ofNat cs.length)), .val .null, .unset] [(.int (Int32.ofNat cs.length))]))
  refine hG _ _ (fun t_ k_ => XS.ifYes X1.here hx rfl (pc0 := 5) (pc' := 27) rfl (hb hby own_d3_5) rfl ((if0 _ _).trans (feq (fun q => Nat.ne_of_gt g5_hpos (own_ofNat_inj (by omega) (by decide) q))).2) (by decide) (by decide) k_) ?_
  show G (T1.setTop (mkF m 27 #[.val (.ref a), .val (.ref u), .val (.int (0 : Int32)), .val (.int (Int32.ofNat cs.length)), .val .null, .unset] []))
  obtain ⟨T2, X2, e2, st2⟩ := getS2 X1 hx hZ hown (host := "") (Or.inl (hw _ (List.mem_of_getElem? (i := 19) rfl))) Via.refl e1 (own_sta g8_S O0) (g := (mkF m 27 #[.val (.ref a), .val (.ref u), .val (.int (0 : Int32)), .val (.int (Int32.ofNat cs.length)), .val .null, .unset] [])) rfl (hb hby own_d3_27)
  refine hG _ _ st2 ?_
  show G (T2.setTop (mkF m 30 #[.val (.ref a), .val (.ref u), .val (.int (0 : Int32)), .val (.int (Int32.ofNat cs.length)), .val .null, .unset] [(.int cpt)]))
  refine hG _ _ (fun t_ k_ => XS.ifNo X2.here hx rfl (hb hby own_d3_30) rfl ((if0 _ _).trans (feq g9_hcpt).1) k_) ?_
  show G (T2.setTop (mkF m 33 #[.val (.ref a), .val (.ref u), .val (.int (0 : Int32)), .val (.int (Int32.ofNat cs.length)), .val .null, .unset] []))
  refine hG _ _ (fun t_ k_ => XS.aloadN X2.here hx rfl (hb hby own_d3_33) rfl rfl k_) ?_
  show G (T2.setTop (mkF m 34 #[.val (.ref a), .val (.ref u), .val (.int (0 : Int32)), .val (.int (Int32.ofNat cs.length)), .val .null, .unset] [(.ref u)]))
  refine hG _ _ (fun t_ k_ => XS.iloadN X2.here hx rfl (hb hby own_d3_34) rfl k_) ?_
  show G (T2.setTop (mkF m 35 #[.val (.ref a), .val (.ref u), .val (.int (0 : Int32)), .val (.int (Int32.ofNat cs.length)), .val .null, .unset] [(.int (0 : Int32)), (.ref u)]))
  refine hG _ _ (fun t_ k_ => XS.iloadN X2.here hx rfl (hb hby own_d3_35) rfl k_) ?_
  show G (T2.setTop (mkF m 36 #[.val (.ref a), .val (.ref u), .val (.int (0 : Int32)), .val (.int (Int32.ofNat cs.length)), .val .null, .unset] [(.int (Int32.ofNat cs.length)), (.int (0 : Int32)), (.ref u)]))
  refine own_callS X2 hx hZ hG hown (hw _ (List.mem_of_getElem? (i := 20) rfl)) (hw _ (List.mem_of_getElem? (i := 21) rfl)) (hw _ (List.mem_of_getElem? (i := 22) rfl)) (hw _ (List.mem_of_getElem? (i := 23) rfl)) (by decide) 0 (own_cmp3 l Z a0 hw u ku cs h0 O0 g4_V g6_hcap g7_hcs) (by decide) (by decide) e2 (by rw [hml]; rfl) (lenOf own_pd2 rfl) (argsL := [(.ref u), (.int (0 : Int32)), (.int (Int32.ofNat cs.length))]) (rest := []) rfl rfl (Nat.le_of_eq rfl) (hb hby own_d3_36) (by decide) (by decide) ?_
  intro T3 h3 v3 L3 X3 e3 q3
  obtain ⟨t_3, kt_3, rfl, M3, J3, y3_0, r3_0⟩ := q3
  have N3 := Fr.app N0 M3
  have K3 : Keep h0 h3 [a] := (Keep.refl h0 [a]).trans J3 all0
  have O3 : own_Old Z h3 := O0.keep J3 all0
  show G (T3.setTop (mkF m 39 #[.val (.ref a), .val (.ref u), .val (.int (0 : Int32)), .val (.int (Int32.ofNat cs.length)), .val .null, .unset] [(.ref t_3)]))
  refine hG _ _ (fun t_ k_ => XS.astore X3.here hx rfl (hb hby own_d3_39) rfl rfl (l' := #[.val (.ref a), .val (.ref u), .val (.int (0 : Int32)), .val (.int (Int32.ofNat cs.length)), .val .null, .val (.ref t_3)]) rfl k_) ?_
  show G (T3.setTop (mkF m 41 #[.val (.ref a), .val (.ref u), .val (.int (0 : Int32)), .val (.int (Int32.ofNat cs.length)), .val .null, .val (.ref t_3)] []))
  refine hG _ _ (fun t_ k_ => XS.aloadN X3.here hx rfl (hb hby own_d3_41) rfl rfl k_) ?_
  show G (T3.setTop (mkF m 42 #[.val (.ref a), .val (.ref u), .val (.int (0 : Int32)), .val (.int (Int32.ofNat cs.length)), .val .null, .val (.ref t_3)] [(.ref a)]))
  refine hG _ _ (fun t_ k_ => XS.aload X3.here hx rfl (hb hby own_d3_42) rfl rfl k_) ?_
  show G (T3.setTop (mkF m 44 #[.val (.ref a), .val (.ref u), .val (.int (0 : Int32)), .val (.int (Int32.ofNat cs.length)), .val .null, .val (.ref t_3)] [(.ref t_3), (.ref a)]))
  refine hG _ _ (fun t_ k_ => XS.iloadN X3.here hx rfl (hb hby own_d3_44) rfl k_) ?_
  show G (T3.setTop (mkF m 45 #[.val (.ref a), .val (.ref u), .val (.int (0 : Int32)), .val (.int (Int32.ofNat cs.length)), .val .null, .val (.ref t_3)] [(.int (Int32.ofNat cs.length)), (.ref t_3), (.ref a)]))
  refine own_callS X3 hx hZ hG hown (hw _ (List.mem_of_getElem? (i := 28) rfl)) (hw _ (List.mem_of_getElem? (i := 29) rfl)) (hw _ (List.mem_of_getElem? (i := 22) rfl)) (hw _ (List.mem_of_getElem? (i := 30) rfl)) (by decide) 1 (own_coder l Z a0 hw t_3 (Int32.ofNat cs.length) kt_3 (Int32.ofNat cs.length) (cs.map fun c => Value.int c.toInt8.toInt32) (0 : Int32) h3 O3 r3_0 (by rw [Int32.sub_self]; rfl)) (by decide) (by decide) e3 (by rw [hml]; rfl) (lenOf own_pd3 rfl) (argsL := [(.ref t_3), (.int (Int32.ofNat cs.length))]) (rest := [(.ref a)]) rfl rfl (Nat.le_of_eq rfl) (hb hby own_d3_45) (by decide) (by decide) ?_
  intro T4 h4 v4 L4 X4 e4 q4
  obtain ⟨rfl, M4, rfl⟩ := q4
  have N4 := Fr.app N3 M4
  show G (T4.setTop (mkF m 48 #[.val (.ref a), .val (.ref u), .val (.int (0 : Int32)), .val (.int (Int32.ofNat cs.length)), .val .null, .val (.ref t_3)] [(.int (0 : Int32)), (.ref a)]))
  have f6 := (g1_F.keep J3 nin0)
  have f7 := (g0_E.keep J3)
  obtain ⟨T5, h5, X5, e5, W5, st5⟩ := putFN X4 hx hZ hown (hw _ (List.mem_of_getElem? (i := 31) rfl)) Via.refl e4 f6 f7 (Or.inr ⟨(hw _ (List.mem_of_getElem? (i := 32) rfl)), rfl, hnm⟩) (hw _ (List.mem_of_getElem? (i := 7) rfl)) (ty := .byte) (v' := (.int (0 : Int32))) (by decide) rfl rfl (g := (mkF m 48 #[.val (.ref a), .val (.ref u), .val (.int (0 : Int32)), .val (.int (Int32.ofNat cs.length)), .val .null, .val (.ref t_3)] [(.int (0 : Int32)), (.ref a)])) rfl rfl (hb hby own_d3_48)
  refine hG _ _ st5 ?_
  have K5 : Keep h0 h5 [a] := K3.wr W5 (Or.inl (List.mem_of_getElem? (i := 0) rfl))
  have O5 : own_Old Z h5 := O3.wr W5 g3_G
  have N5 := Fr.snoc X5 N4 g3_G
  show G (T5.setTop (mkF m 51 #[.val (.ref a), .val (.ref u), .val (.int (0 : Int32)), .val (.int (Int32.ofNat cs.length)), .val .null, .val (.ref t_3)] []))
  refine hG _ _ (fun t_ k_ => XS.aloadN X5.here hx rfl (hb hby own_d3_51) rfl rfl k_) ?_
  show G (T5.setTop (mkF m 52 #[.val (.ref a), .val (.ref u), .val (.int (0 : Int32)), .val (.int (Int32.ofNat cs.length)), .val .null, .val (.ref t_3)] [(.ref a)]))
  refine hG _ _ (fun t_ k_ => XS.aload X5.here hx rfl (hb hby own_d3_52) rfl rfl k_) ?_
  show G (T5.setTop (mkF m 54 #[.val (.ref a), .val (.ref u), .val (.int (0 : Int32)), .val (.int (Int32.ofNat cs.length)), .val .null, .val (.ref t_3)] [(.ref t_3), (.ref a)]))
  have f9 := ((g2_F.keep J3 nin0).other W5 (Or.inr (slot_ne (Or.inr (hw _ (List.mem_of_getElem? (i := 34) rfl))) (Or.inr (hw _ (List.mem_of_getElem? (i := 32) rfl))) (by decide) (t := (.array .byte)) (t' := .byte) (by decide) (by decide))))
  have f10 := (f7.wr W5)
  obtain ⟨T8, h8, X8, e8, W8, st8⟩ := putF X5 hx hZ hown (host := "") (Or.inl (hw _ (List.mem_of_getElem? (i := 33) rfl))) Via.refl e5 f9 f10 (Or.inr ⟨(hw _ (List.mem_of_getElem? (i := 34) rfl)), rfl, hnm⟩) (hw _ (List.mem_of_getElem? (i := 7) rfl)) (ty := (.array .byte)) (by decide) rfl rfl (g := (mkF m 54 #[.val (.ref a), .val (.ref u), .val (.int (0 : Int32)), .val (.int (Int32.ofNat cs.length)), .val .null, .val (.ref t_3)] [(.ref t_3), (.ref a)])) rfl rfl (hb hby own_d3_54)
  refine hG _ _ st8 ?_
  have K8 : Keep h0 h8 [a] := K5.wr W8 (Or.inl (List.mem_of_getElem? (i := 0) rfl))
  have O8 : own_Old Z h8 := O5.wr W8 g3_G
  have N8 := Fr.snoc X8 N5 g3_G
  show G (T8.setTop (mkF m 57 #[.val (.ref a), .val (.ref u), .val (.int (0 : Int32)), .val (.int (Int32.ofNat cs.length)), .val .null, .val (.ref t_3)] []))
  have f11 := (f10.wr W8)
  have f12 := ((f6.same W5).other W8 (Or.inr (slot_ne (Or.inr (hw _ (List.mem_of_getElem? (i := 32) rfl))) (Or.inr (hw _ (List.mem_of_getElem? (i := 34) rfl))) (by decide) (t := .byte) (t' := (.array .byte)) (by decide) (by decide))))
  have f13 := ((r3_0.other W5 (Ne.symm (own_ne g0_E.lt y3_0))).other W8 (Ne.symm (own_ne g0_E.lt y3_0)))
  exact own_retV hR hret X8 hx (hb hby own_d3_57) (by decide) (by decide) (by rw [e8]; exact ⟨t_3, kt_3, rfl, N8, K8, (Nat.le_trans (Keep.refl h0 [a]).1 y3_0), f11, f12, (f9.same W8), f13⟩)
theorem own_pd5 : parseMethodDescriptor "([C)V" = some ⟨[(.array .char)], none⟩ := by decide +kernel
set_option maxRecDepth 65536 in
set_option maxHeartbeats 40000000 in
theorem own_str1 (l : Launch) (Z : State) (a0 : Array Value) (hw : ∀ d ∈ tables_1, d.before a0 Z = true) (a : Addr) (u : Addr) (ku : ClassId) (cs : List Int32) (cpt : Int32) (v0 : Value) (v1 : Value) (h0 : Heap) (O0 : own_Old Z h0) (g0_E : Exa Z h0 a "java/lang/String") (g1_F : Fld Z h0 a "java/lang/String" "coder" "B" v0) (g2_F : Fld Z h0 a "java/lang/String" "value" "[B" v1) (g3_G : Z.heap.size ≤ a) (g4_V : Arv Z h0 u ku .char (Int32.ofNat cs.length) (cs.map Value.int) (.int (0 : Int32))) (g5_hpos : 0 < cs.length) (g6_hcap : cs.length ≤ 2) (g7_hcs : ∀ c ∈ cs, ¬ ((255 : Int32) < c)) (g8_S : Sta Z Z.heap "java/lang/String" "COMPACT_STRINGS" "Z" (.int cpt)) (g9_hcpt : ¬ (cpt = (0 : Int32))) :
    own_Con l Z (⟨"java/lang/String", "<init>", "([C)V"⟩ : MethodName) jdk_42_method_3_code 2 none [] ({ frames := 3, cells := 1, slots := 2, locals := 52 } : Room) #[(.ref a), (.ref u)] h0 (fun rv rh rL => ∃ (t : Addr) (kt : ClassId), rv = none ∧ own_Fr Z rL ∧ Keep h0 rh [a] ∧ h0.size ≤ t ∧ (Exa Z rh a "java/lang/String") ∧ (Fld Z rh a "java/lang/String" "coder" "B" (.int (0 : Int32))) ∧ (Fld Z rh a "java/lang/String" "value" "[B" (.ref t)) ∧ (Arv Z rh t kt .byte (Int32.ofNat cs.length) (cs.map fun c => Value.int c.toInt8.toInt32) (.int (0 : Int32)))) := by
  refine own_intro (plainFor_of_name (by first | (simp [plainName, overriddenIn]; done) | decide +kernel)) ?_
  intro p e s m below meth c s₁ G hx hby hml hown hnm hret hZ X0 e0 hG hR
  have N0 := Fr.nil Z.heap.size
  refine own_entry (Ls := #[.val (.ref a), .val (.ref u)]) (by first | (simp [entryFrame, mkF, argsToLocals, Value.category]; done) | rfl) ?_
  show G (s₁.setTop (mkF m 0 #[.val (.ref a), .val (.ref u)] []))
  refine hG _ _ (fun t_ k_ => XS.aloadN X0.here hx rfl (hb hby own_d2_0) rfl rfl k_) ?_
  show G (s₁.setTop (mkF m 1 #[.val (.ref a), .val (.ref u)] [(.ref a)]))
  refine hG _ _ (fun t_ k_ => XS.aloadN X0.here hx rfl (hb hby own_d2_1) rfl rfl k_) ?_
  show G (s₁.setTop (mkF m 2 #[.val (.ref a), .val (.ref u)] [(.ref u), (.ref a)]))
  refine hG _ _ (fun t_ k_ => XS.iconst X0.here hx rfl (hb hby own_d2_2) k_) ?_
  show G (s₁.setTop (mkF m 3 #[.val (.ref a), .val (.ref u)] [(.int (0 : Int32)), (.ref u), (.ref a)]))
  refine hG _ _ (fun t_ k_ => XS.aloadN X0.here hx rfl (hb hby own_d2_3) rfl rfl k_) ?_
  show G (s₁.setTop (mkF m 4 #[.val (.ref a), .val (.ref u)] [(.ref u), (.int (0 : Int32)), (.ref u), (.ref a)]))
  obtain ⟨c1, Ar1, -, S1, M1, -, -⟩ := id g4_V
  refine hG _ _ (X0.arraylength hx (by rw [e0]; exact Ar1.1) (State.isArrayOf_alike hZ.alike Ar1.2.1) (g := (mkF m 4 #[.val (.ref a), .val (.ref u)] [(.ref u), (.int (0 : Int32)), (.ref u), (.ref a)])) rfl rfl (hb hby own_d2_4)) ?_
  rw [len_of S1 M1]
  show G (s₁.setTop (mkF m 5 #[.val (.ref a), .val (.ref u)] [(.int (Int32.ofNat cs.length)), (.int (0 : Int32)), (.ref u), (.ref a)]))
  refine hG _ _ (fun t_ k_ => XS.aconstNull X0.here hx rfl (hb hby own_d2_5) k_) ?_
  show G (s₁.setTop (mkF m 6 #[.val (.ref a), .val (.ref u)] [.null, (.int (Int32.ofNat cs.length)), (.int (0 : Int32)), (.ref u), (.ref a)]))
  refine own_callI X0 hx hZ hG hown rfl (hw _ (List.mem_of_getElem? (i := 12) rfl)) (hw _ (List.mem_of_getElem? (i := 13) rfl)) (hw _ (List.mem_of_getElem? (i := 8) rfl)) (hw _ (List.mem_of_getElem? (i := 15) rfl)) (by decide) 0 (own_str4 l Z a0 hw a u ku cs cpt v0 v1 h0 O0 g0_E g1_F g2_F g3_G g4_V g5_hpos g6_hcap g7_hcs g8_S g9_hcpt) (by decide) (by decide) e0 (by rw [hml]; rfl) (lenOf own_pd4 rfl) (argsL := [(.ref u), (.int (0 : Int32)), (.int (Int32.ofNat cs.length)), .null]) (rest := []) rfl rfl (Nat.le_of_eq rfl) (hb hby own_d2_6) (by decide) (by decide) ?_
  intro T2 h2 v2 L2 X2 e2 q2
  obtain ⟨t_2, kt_2, rfl, M2, J2, y2_0, r2_0, r2_1, r2_2, r2_3⟩ := q2
  have N2 := Fr.app N0 M2
  have K2 : Keep h0 h2 [a] := (Keep.refl h0 [a]).trans J2 (allS (Or.inl (List.mem_of_getElem? (i := 0) rfl)) all0)
  have O2 : own_Old Z h2 := O0.keep J2 (allS g3_G all0)
  show G (T2.setTop (mkF m 9 #[.val (.ref a), .val (.ref u)] []))
  exact own_retV hR hret X2 hx (hb hby own_d2_9) (by decide) (by decide) (by rw [e2]; exact ⟨t_2, kt_2, rfl, N2, K2, (Nat.le_trans (Keep.refl h0 [a]).1 y2_0), r2_0, r2_1, r2_2, r2_3⟩)
theorem own_pd6 : parseMethodDescriptor "([BB)V" = some ⟨[(.array .byte), .byte], none⟩ := by decide +kernel
set_option maxRecDepth 65536 in
set_option maxHeartbeats 40000000 in
theorem own_strb0 (l : Launch) (Z : State) (a0 : Array Value) (hw : ∀ d ∈ tables_1, d.before a0 Z = true) (a : Addr) (b : Addr) (v0 : Value) (v1 : Value) (h0 : Heap) (O0 : own_Old Z h0) (g0_E : Exa Z h0 a "java/lang/String") (g1_F : Fld Z h0 a "java/lang/String" "coder" "B" v0) (g2_F : Fld Z h0 a "java/lang/String" "value" "[B" v1) (g3_G : Z.heap.size ≤ a) :
    own_Con l Z (⟨"java/lang/String", "<init>", "([BB)V"⟩ : MethodName) jdk_42_method_151_code 3 none [] ({ frames := 1, cells := 0, slots := 0, locals := 12 } : Room) #[(.ref a), (.ref b), (.int (0 : Int32))] h0 (fun rv rh rL => rv = none ∧ own_Fr Z rL ∧ Keep h0 rh [a] ∧ (Exa Z rh a "java/lang/String") ∧ (Fld Z rh a "java/lang/String" "coder" "B" (.int (0 : Int32))) ∧ (Fld Z rh a "java/lang/String" "value" "[B" (.ref b))) := by
  refine own_intro (plainFor_of_name (by first | (simp [plainName, overriddenIn]; done) | decide +kernel)) ?_
  intro p e s m below meth c s₁ G hx hby hml hown hnm hret hZ X0 e0 hG hR
  have N0 := Fr.nil Z.heap.size
  refine own_entry (Ls := #[.val (.ref a), .val (.ref b), .val (.int (0 : Int32))]) (by first | (simp [entryFrame, mkF, argsToLocals, Value.category]; done) | rfl) ?_
  show G (s₁.setTop (mkF m 0 #[.val (.ref a), .val (.ref b), .val (.int (0 : Int32))] []))
  refine hG _ _ (fun t_ k_ => XS.aloadN X0.here hx rfl (hb hby own_d19_0) rfl rfl k_) ?_
  show G (s₁.setTop (mkF m 1 #[.val (.ref a), .val (.ref b), .val (.int (0 : Int32))] [(.ref a)]))
  obtain ⟨T1, X1, e1, st1⟩ := initO X0 hx hZ hown (hw _ (List.mem_of_getElem? (i := 16) rfl)) (hw _ (List.mem_of_getElem? (i := 17) rfl)) (hw _ (List.mem_of_getElem? (i := 18) rfl)) e0 (g := (mkF m 1 #[.val (.ref a), .val (.ref b), .val (.int (0 : Int32))] [(.ref a)])) rfl (by rw [hml]; rfl) rfl (hb hby own_d19_1) (by decide) (W := 0) (by show 2 * 0 + _ ≤ _; exact Nat.le_of_eq rfl) (by decide)
  refine hG _ _ st1 ?_
  show G (T1.setTop (mkF m 4 #[.val (.ref a), .val (.ref b), .val (.int (0 : Int32))] []))
  refine hG _ _ (fun t_ k_ => XS.aloadN X1.here hx rfl (hb hby own_d19_4) rfl rfl k_) ?_
  show G (T1.setTop (mkF m 5 #[.val (.ref a), .val (.ref b), .val (.int (0 : Int32))] [(.ref a)]))
  refine hG _ _ (fun t_ k_ => XS.aloadN X1.here hx rfl (hb hby own_d19_5) rfl rfl k_) ?_
  show G (T1.setTop (mkF m 6 #[.val (.ref a), .val (.ref b), .val (.int (0 : Int32))] [(.ref b), (.ref a)]))
  obtain ⟨T2, h2, X2, e2, W2, st2⟩ := putF X1 hx hZ hown (host := "") (Or.inl (hw _ (List.mem_of_getElem? (i := 33) rfl))) Via.refl e1 g2_F g0_E (Or.inr ⟨(hw _ (List.mem_of_getElem? (i := 34) rfl)), rfl, hnm⟩) (hw _ (List.mem_of_getElem? (i := 7) rfl)) (ty := (.array .byte)) (by decide) rfl rfl (g := (mkF m 6 #[.val (.ref a), .val (.ref b), .val (.int (0 : Int32))] [(.ref b), (.ref a)])) rfl rfl (hb hby own_d19_6)
  refine hG _ _ st2 ?_
  have K2 : Keep h0 h2 [a] := (Keep.refl h0 [a]).wr W2 (Or.inl (List.mem_of_getElem? (i := 0) rfl))
  have O2 : own_Old Z h2 := O0.wr W2 g3_G
  have N2 := Fr.snoc X2 N0 g3_G
  show G (T2.setTop (mkF m 9 #[.val (.ref a), .val (.ref b), .val (.int (0 : Int32))] []))
  refine hG _ _ (fun t_ k_ => XS.aloadN X2.here hx rfl (hb hby own_d19_9) rfl rfl k_) ?_
  show G (T2.setTop (mkF m 10 #[.val (.ref a), .val (.ref b), .val (.int (0 : Int32))] [(.ref a)]))
  refine hG _ _ (fun t_ k_ => XS.iloadN X2.here hx rfl (hb hby own_d19_10) rfl k_) ?_
  show G (T2.setTop (mkF m 11 #[.val (.ref a), .val (.ref b), .val (.int (0 : Int32))] [(.int (0 : Int32)), (.ref a)]))
  have f4 := (g1_F.other W2 (Or.inr (slot_ne (Or.inr (hw _ (List.mem_of_getElem? (i := 32) rfl))) (Or.inr (hw _ (List.mem_of_getElem? (i := 34) rfl))) (by decide) (t := .byte) (t' := (.array .byte)) (by decide) (by decide))))
  have f5 := (g0_E.wr W2)
  obtain ⟨T3, h3, X3, e3, W3, st3⟩ := putFN X2 hx hZ hown (hw _ (List.mem_of_getElem? (i := 31) rfl)) Via.refl e2 f4 f5 (Or.inr ⟨(hw _ (List.mem_of_getElem? (i := 32) rfl)), rfl, hnm⟩) (hw _ (List.mem_of_getElem? (i := 7) rfl)) (ty := .byte) (v' := (.int (0 : Int32))) (by decide) rfl rfl (g := (mkF m 11 #[.val (.ref a), .val (.ref b), .val (.int (0 : Int32))] [(.int (0 : Int32)), (.ref a)])) rfl rfl (hb hby own_d19_11)
  refine hG _ _ st3 ?_
  have K3 : Keep h0 h3 [a] := K2.wr W3 (Or.inl (List.mem_of_getElem? (i := 0) rfl))
  have O3 : own_Old Z h3 := O2.wr W3 g3_G
  have N3 := Fr.snoc X3 N2 g3_G
  show G (T3.setTop (mkF m 14 #[.val (.ref a), .val (.ref b), .val (.int (0 : Int32))] []))
  have f6 := (f5.wr W3)
  have f7 := ((g2_F.same W2).other W3 (Or.inr (slot_ne (Or.inr (hw _ (List.mem_of_getElem? (i := 34) rfl))) (Or.inr (hw _ (List.mem_of_getElem? (i := 32) rfl))) (by decide) (t := (.array .byte)) (t' := .byte) (by decide) (by decide))))
  exact own_retV hR hret X3 hx (hb hby own_d19_14) (by decide) (by decide) (by rw [e3]; exact ⟨rfl, N3, K3, f6, (f4.same W3), f7⟩)
theorem own_pd7 : parseMethodDescriptor "(C)Z" = some ⟨[.char], some .boolean⟩ := by decide +kernel
set_option maxRecDepth 65536 in
set_option maxHeartbeats 40000000 in
theorem own_can1 (l : Launch) (Z : State) (a0 : Array Value) (hw : ∀ d ∈ tables_1, d.before a0 Z = true) (ch : Int32) (h0 : Heap) (O0 : own_Old Z h0) (g0_hch : ¬ ((255 : Int32) < ch)) :
    own_Con l Z (⟨"java/lang/StringLatin1", "canEncode", "(C)Z"⟩ : MethodName) jdk_43_method_3_code 1 (some .boolean) [] ({ frames := 0, cells := 0, slots := 0, locals := 0 } : Room) #[(.int ch)] h0 (fun rv rh rL => rv = some (.int (1 : Int32)) ∧ own_Fr Z rL ∧ h0 = rh) := by
  refine own_intro (plainFor_of_name (by first | (simp [plainName, overriddenIn]; done) | decide +kernel)) ?_
  intro p e s m below meth c s₁ G hx hby hml hown hnm hret hZ X0 e0 hG hR
  have N0 := Fr.nil Z.heap.size
  refine own_entry (Ls := #[.val (.int ch)]) (by first | (simp [entryFrame, mkF, argsToLocals, Value.category]; done) | rfl) ?_
  show G (s₁.setTop (mkF m 0 #[.val (.int ch)] []))
  refine hG _ _ (fun t_ k_ => XS.iloadN X0.here hx rfl (hb hby own_d17_0) rfl k_) ?_
  show G (s₁.setTop (mkF m 1 #[.val (.int ch)] [(.int ch)]))
  refine hG _ _ (fun t_ k_ => XS.sipush X0.here hx rfl (hb hby own_d17_1) k_) ?_
  show G (s₁.setTop (mkF m 4 #[.val (.int ch)] [(.int (255 : Int32)), (.int ch)]))
  refine hG _ _ (fun t_ k_ => XS.icmpNo X0.here hx rfl (hb hby own_d17_4) rfl (flt g0_hch).2.2.1 k_) ?_
  show G (s₁.setTop (mkF m 7 #[.val (.int ch)] []))
  refine hG _ _ (fun t_ k_ => XS.iconst X0.here hx rfl (hb hby own_d17_7) k_) ?_
  show G (s₁.setTop (mkF m 8 #[.val (.int ch)] [(.int (1 : Int32))]))
  refine hG _ _ (fun t_ k_ => XS.goto X0.here hx rfl (pc0 := 8) (pc' := 12) rfl (hb hby own_d17_8) (by decide) (by decide) k_) ?_
  show G (s₁.setTop (mkF m 12 #[.val (.int ch)] [(.int (1 : Int32))]))
  exact own_retN hR hret (by simp) X0 hx (hb hby own_d17_12) (by decide) (by decide) (by rw [e0]; exact ⟨rfl, N0, rfl⟩)
theorem own_pd8 : parseMethodDescriptor "(C)[B" = some ⟨[.char], some (.array .byte)⟩ := by decide +kernel
set_option maxRecDepth 65536 in
set_option maxHeartbeats 40000000 in
theorem own_tob1 (l : Launch) (Z : State) (a0 : Array Value) (hw : ∀ d ∈ tables_1, d.before a0 Z = true) (ch : Int32) (h0 : Heap) (O0 : own_Old Z h0) :
    own_Con l Z (⟨"java/lang/StringLatin1", "toBytes", "(C)[B"⟩ : MethodName) jdk_43_method_46_code 1 (some (.array .byte)) [] ({ frames := 0, cells := 1, slots := 1, locals := 0 } : Room) #[(.int ch)] h0 (fun rv rh rL => ∃ (t : Addr) (kt : ClassId), rv = some (.ref t) ∧ own_Fr Z rL ∧ Keep h0 rh [] ∧ h0.size ≤ t ∧ (Arv Z rh t kt .byte (1 : Int32) [(.int (nar .byte (ch.toInt8.toInt32)))] (.int (0 : Int32)))) := by
  refine own_intro (plainFor_of_name (by first | (simp [plainName, overriddenIn]; done) | decide +kernel)) ?_
  intro p e s m below meth c s₁ G hx hby hml hown hnm hret hZ X0 e0 hG hR
  have N0 := Fr.nil Z.heap.size
  refine own_entry (Ls := #[.val (.int ch)]) (by first | (simp [entryFrame, mkF, argsToLocals, Value.category]; done) | rfl) ?_
  show G (s₁.setTop (mkF m 0 #[.val (.int ch)] []))
  refine hG _ _ (fun t_ k_ => XS.iconst X0.here hx rfl (hb hby own_d18_0) k_) ?_
  show G (s₁.setTop (mkF m 1 #[.val (.int ch)] [(.int (1 : Int32))]))
  obtain ⟨T1, h1, k1, X1, e1, E1, A1, st1⟩ := newP X0 hx hZ (hw _ (List.mem_of_getElem? (i := 24) rfl)) e0 (g := (mkF m 1 #[.val (.int ch)] [(.int (1 : Int32))])) rfl (hb hby own_d18_1) rfl (by decide) (cap := 1) (by decide) (by decide) (by decide) (by decide)
  obtain ⟨b1, z1⟩ : ∃ z, z = h0.size := ⟨_, rfl⟩
  rw [← z1] at A1 st1
  refine hG _ _ st1 ?_
  have K1 : Keep h0 h1 [] := (Keep.refl h0 []).ext E1
  have O1 : own_Old Z h1 := O0.ext E1
  have V1 : Arv Z h1 b1 k1 .byte (1 : Int32) [(.int (0 : Int32))] (.int (0 : Int32)) := (Arv.new A1 (by decide)).pad (pad_rep [] (.int (0 : Int32)) 1)
  show G (T1.setTop (mkF m 3 #[.val (.int ch)] [(.ref b1)]))
  refine hG _ _ (fun t_ k_ => XS.dup X1.here hx rfl (hb hby own_d18_3) rfl rfl k_) ?_
  show G (T1.setTop (mkF m 4 #[.val (.int ch)] [(.ref b1), (.ref b1)]))
  refine hG _ _ (fun t_ k_ => XS.iconst X1.here hx rfl (hb hby own_d18_4) k_) ?_
  show G (T1.setTop (mkF m 5 #[.val (.int ch)] [(.int (0 : Int32)), (.ref b1), (.ref b1)]))
  refine hG _ _ (fun t_ k_ => XS.iloadN X1.here hx rfl (hb hby own_d18_5) rfl k_) ?_
  show G (T1.setTop (mkF m 6 #[.val (.int ch)] [(.int ch), (.int (0 : Int32)), (.ref b1), (.ref b1)]))
  refine hG _ _ (fun t_ k_ => XS.i2b X1.here hx rfl (hb hby own_d18_6) rfl k_) ?_
  show G (T1.setTop (mkF m 7 #[.val (.int ch)] [(.int (ch.toInt8.toInt32)), (.int (0 : Int32)), (.ref b1), (.ref b1)]))
  obtain ⟨c2, Ar2, q2, S2, M2, H2, G2⟩ := id V1
  obtain ⟨T2, h2, X2, e2, W2, st2⟩ := stB X1 hx hZ e1 Ar2 (j := (0 : Int32)) (inb_of S2 ⟨by decide, by decide⟩) (g := (mkF m 7 #[.val (.int ch)] [(.int (ch.toInt8.toInt32)), (.int (0 : Int32)), (.ref b1), (.ref b1)])) rfl rfl (hb hby own_d18_7)
  refine hG _ _ st2 ?_
  have K2 : Keep h0 h2 [] := K1.wr W2 (Or.inr (Nat.le_trans (Keep.refl h0 []).1 (Nat.le_of_eq z1.symm)))
  have O2 : own_Old Z h2 := O1.wr W2 (own_ge O0 (Nat.le_of_eq z1.symm))
  have V2 : Arv Z h2 b1 k1 .byte (1 : Int32) [(.int (nar .byte (ch.toInt8.toInt32)))] (.int (0 : Int32)) := Arv.set Ar2 q2 S2 M2 H2 G2 (fits_nar_byte _) W2 0 rfl (Nat.le_of_ble_eq_true rfl)
  have N2 := Fr.snoc X2 N0 (own_ge O0 (Nat.le_of_eq z1.symm))
  show G (T2.setTop (mkF m 8 #[.val (.int ch)] [(.ref b1)]))
  exact own_retA hR hret rfl rfl X2 hx (hb hby own_d18_8) (by decide) (by decide) (by rw [e2]; exact ⟨b1, k1, rfl, N2, K2, (Nat.le_trans (Keep.refl h0 []).1 (Nat.le_of_eq z1.symm)), V2⟩)
theorem own_pd9 : parseMethodDescriptor "(C)Ljava/lang/String;" = some ⟨[.char], some (.object "java/lang/String")⟩ := by decide +kernel
set_option maxRecDepth 65536 in
set_option maxHeartbeats 40000000 in
theorem own_val1 (l : Launch) (Z : State) (a0 : Array Value) (hw : ∀ d ∈ tables_1, d.before a0 Z = true) (ch : Int32) (cpt : Int32) (h0 : Heap) (O0 : own_Old Z h0) (g0_hch : ¬ ((255 : Int32) < ch)) (g1_S : Sta Z Z.heap "java/lang/String" "COMPACT_STRINGS" "Z" (.int cpt)) (g2_hcpt : ¬ (cpt = (0 : Int32))) :
    own_Con l Z (⟨"java/lang/String", "valueOf", "(C)Ljava/lang/String;"⟩ : MethodName) jdk_42_method_139_code 1 (some (.object "java/lang/String")) [] ({ frames := 2, cells := 2, slots := 5, locals := 27 } : Room) #[(.int ch)] h0 (fun rv rh rL => ∃ (t : Addr) (b : Addr) (kb : ClassId), rv = some (.ref t) ∧ own_Fr Z rL ∧ Keep h0 rh [] ∧ h0.size ≤ t ∧ h0.size ≤ b ∧ (Exa Z rh t "java/lang/String") ∧ (Fld Z rh t "java/lang/String" "coder" "B" (.int (0 : Int32))) ∧ (Fld Z rh t "java/lang/String" "value" "[B" (.ref b)) ∧ (Arv Z rh b kb .byte (1 : Int32) [(.int (nar .byte (ch.toInt8.toInt32)))] (.int (0 : Int32)))) := by
  refine own_intro (plainFor_of_name (by first | (simp [plainName, overriddenIn]; done) | decide +kernel)) ?_
  intro p e s m below meth c s₁ G hx hby hml hown hnm hret hZ X0 e0 hG hR
  have N0 := Fr.nil Z.heap.size
  refine own_entry (Ls := #[.val (.int ch)]) (by first | (simp [entryFrame, mkF, argsToLocals, Value.category]; done) | rfl) ?_
  show G (s₁.setTop (mkF m 0 #[.val (.int ch)] []))
  obtain ⟨T1, X1, e1, st1⟩ := getS2 X0 hx hZ hown (host := "") (Or.inl (hw _ (List.mem_of_getElem? (i := 19) rfl))) Via.refl e0 (own_sta g1_S O0) (g := (mkF m 0 #[.val (.int ch)] [])) rfl (hb hby own_d16_0)
  refine hG _ _ st1 ?_
  show G (T1.setTop (mkF m 3 #[.val (.int ch)] [(.int cpt)]))
  refine hG _ _ (fun t_ k_ => XS.ifNo X1.here hx rfl (hb hby own_d16_3) rfl ((if0 _ _).trans (feq g2_hcpt).1) k_) ?_
  show G (T1.setTop (mkF m 6 #[.val (.int ch)] []))
  refine hG _ _ (fun t_ k_ => XS.iloadN X1.here hx rfl (hb hby own_d16_6) rfl k_) ?_
  show G (T1.setTop (mkF m 7 #[.val (.int ch)] [(.int ch)]))
  refine own_callS X1 hx hZ hG hown (hw _ (List.mem_of_getElem? (i := 96) rfl)) (hw _ (List.mem_of_getElem? (i := 97) rfl)) (hw _ (List.mem_of_getElem? (i := 98) rfl)) (hw _ (List.mem_of_getElem? (i := 99) rfl)) (by decide) 0 (own_can1 l Z a0 hw ch h0 O0 g0_hch) (by decide) (by decide) e1 (by rw [hml]; rfl) (lenOf own_pd7 rfl) (argsL := [(.int ch)]) (rest := []) rfl rfl (Nat.le_of_eq rfl) (hb hby own_d16_7) (by decide) (by decide) ?_
  intro T2 h2 v2 L2 X2 e2 q2
  obtain ⟨rfl, M2, rfl⟩ := q2
  have N2 := Fr.app N0 M2
  show G (T2.setTop (mkF m 10 #[.val (.int ch)] [(.int (1 : Int32))]))
  refine hG _ _ (fun t_ k_ => XS.ifNo X2.here hx rfl (hb hby own_d16_10) rfl ((if0 _ _).trans (feq (by decide)).1) k_) ?_
  show G (T2.setTop (mkF m 13 #[.val (.int ch)] []))
  obtain ⟨T3, h3, X3, e3, E3, A3, D3, -, st3⟩ := newO X2 hx hZ hown (hw _ (List.mem_of_getElem? (i := 100) rfl)) (hw _ (List.mem_of_getElem? (i := 7) rfl)) (hw _ (List.mem_of_getElem? (i := 8) rfl)) e2 (g := (mkF m 13 #[.val (.int ch)] [])) rfl (hb hby own_d16_13) (by decide) (by decide)
  obtain ⟨b3, z3⟩ : ∃ z, z = h0.size := ⟨_, rfl⟩
  rw [← z3] at A3 D3 st3
  refine hG _ _ st3 ?_
  have K3 : Keep h0 h3 [] := (Keep.refl h0 []).ext E3
  have O3 : own_Old Z h3 := O0.ext E3
  show G (T3.setTop (mkF m 16 #[.val (.int ch)] [(.ref b3)]))
  refine hG _ _ (fun t_ k_ => XS.dup X3.here hx rfl (hb hby own_d16_16) rfl rfl k_) ?_
  show G (T3.setTop (mkF m 17 #[.val (.int ch)] [(.ref b3), (.ref b3)]))
  refine hG _ _ (fun t_ k_ => XS.iloadN X3.here hx rfl (hb hby own_d16_17) rfl k_) ?_
  show G (T3.setTop (mkF m 18 #[.val (.int ch)] [(.int ch), (.ref b3), (.ref b3)]))
  refine own_callS X3 hx hZ hG hown (hw _ (List.mem_of_getElem? (i := 101) rfl)) (hw _ (List.mem_of_getElem? (i := 102) rfl)) (hw _ (List.mem_of_getElem? (i := 98) rfl)) (hw _ (List.mem_of_getElem? (i := 103) rfl)) (by decide) 2 (own_tob1 l Z a0 hw ch h3 O3) (by decide) (by decide) e3 (by rw [hml]; rfl) (lenOf own_pd8 rfl) (argsL := [(.int ch)]) (rest := [(.ref b3), (.ref b3)]) rfl rfl (Nat.le_of_eq rfl) (hb hby own_d16_18) (by decide) (by decide) ?_
  intro T4 h4 v4 L4 X4 e4 q4
  obtain ⟨t_4, kt_4, rfl, M4, J4, y4_0, r4_0⟩ := q4
  have N4 := Fr.app N2 M4
  have K4 : Keep h0 h4 [] := K3.trans J4 all0
  have O4 : own_Old Z h4 := O3.keep J4 all0
  show G (T4.setTop (mkF m 21 #[.val (.int ch)] [(.ref t_4), (.ref b3), (.ref b3)]))
  refine hG _ _ (fun t_ k_ => XS.iconst X4.here hx rfl (hb hby own_d16_21) k_) ?_
  show G (T4.setTop (mkF m 22 #[.val (.int ch)] [(.int (0 : Int32)), (.ref t_4), (.ref b3), (.ref b3)]))
  have f6 := (A3.keep J4)
  have f7 := ((D3 (Or.inr (hw _ (List.mem_of_getElem? (i := 32) rfl))) (ty := .byte) (by decide)).keep J4 nin0)
  have f8 := ((D3 (Or.inr (hw _ (List.mem_of_getElem? (i := 34) rfl))) (ty := (.array .byte)) (by decide)).keep J4 nin0)
  refine own_callI X4 hx hZ hG hown rfl (hw _ (List.mem_of_getElem? (i := 104) rfl)) (hw _ (List.mem_of_getElem? (i := 105) rfl)) (hw _ (List.mem_of_getElem? (i := 8) rfl)) (hw _ (List.mem_of_getElem? (i := 106) rfl)) (by decide) 1 (own_strb0 l Z a0 hw b3 t_4 (.int (0 : Int32)) .null h4 O4 f6 f7 f8 (own_ge O0 (Nat.le_of_eq z3.symm))) (by decide) (by decide) e4 (by rw [hml]; rfl) (lenOf own_pd6 rfl) (argsL := [(.ref t_4), (.int (0 : Int32))]) (rest := [(.ref b3)]) rfl rfl (Nat.le_of_eq rfl) (hb hby own_d16_22) (by decide) (by decide) ?_
  intro T5 h5 v5 L5 X5 e5 q5
  obtain ⟨rfl, M5, J5, r5_0, r5_1, r5_2⟩ := q5
  have N5 := Fr.app N4 M5
  have K5 : Keep h0 h5 [] := K4.trans J5 (allS (Or.inr (Nat.le_trans (Keep.refl h0 []).1 (Nat.le_of_eq z3.symm))) all0)
  have O5 : own_Old Z h5 := O4.keep J5 (allS (own_ge O0 (Nat.le_of_eq z3.symm)) all0)
  show G (T5.setTop (mkF m 25 #[.val (.int ch)] [(.ref b3)]))
  have f9 := (r4_0.keep J5 (ninS (Ne.symm (own_ne A3.lt y4_0)) nin0))
  exact own_retA hR hret rfl rfl X5 hx (hb hby own_d16_25) (by decide) (by decide) (by rw [e5]; exact ⟨b3, t_4, kt_4, rfl, N5, K5, (Nat.le_trans (Keep.refl h0 []).1 (Nat.le_of_eq z3.symm)), (Nat.le_trans K3.1 y4_0), r5_0, r5_1, r5_2, f9⟩)
theorem own_pd10 : parseMethodDescriptor "(Ljava/lang/Object;)Z" = some ⟨[(.object "java/lang/Object")], some .boolean⟩ := by decide +kernel
set_option maxRecDepth 65536 in
set_option maxHeartbeats 40000000 in
theorem own_eqs (l : Launch) (Z : State) (a0 : Array Value) (hw : ∀ d ∈ tables_1, d.before a0 Z = true) (a : Addr) (h0 : Heap) (O0 : own_Old Z h0) :
    own_Con l Z (⟨"java/lang/String", "equals", "(Ljava/lang/Object;)Z"⟩ : MethodName) jdk_42_method_66_code 3 (some .boolean) [] ({ frames := 0, cells := 0, slots := 0, locals := 0 } : Room) #[(.ref a), (.ref a)] h0 (fun rv rh rL => rv = some (.int (1 : Int32)) ∧ own_Fr Z rL ∧ h0 = rh) := by
  refine own_intro (plainFor_of_name (by first | (simp [plainName, overriddenIn]; done) | decide +kernel)) ?_
  intro p e s m below meth c s₁ G hx hby hml hown hnm hret hZ X0 e0 hG hR
  have N0 := Fr.nil Z.heap.size
  refine own_entry (Ls := #[.val (.ref a), .val (.ref a), .unset]) (by first | (simp [entryFrame, mkF, argsToLocals, Value.category]; done) | rfl) ?_
  show G (s₁.setTop (mkF m 0 #[.val (.ref a), .val (.ref a), .unset] []))
  refine hG _ _ (fun t_ k_ => XS.aloadN X0.here hx rfl (hb hby own_d27_0) rfl rfl k_) ?_
  show G (s₁.setTop (mkF m 1 #[.val (.ref a), .val (.ref a), .unset] [(.ref a)]))
  refine hG _ _ (fun t_ k_ => XS.aloadN X0.here hx rfl (hb hby own_d27_1) rfl rfl k_) ?_
  show G (s₁.setTop (mkF m 2 #[.val (.ref a), .val (.ref a), .unset] [(.ref a), (.ref a)]))
  refine hG _ _ (fun t_ k_ => Jvm.RoadKit.acmp (g := (mkF m 2 #[.val (.ref a), .val (.ref a), .unset] [(.ref a), (.ref a)])) X0 hx rfl rfl rfl (pc0 := 2) (pc' := 5) (same := true) rfl (hb hby own_d27_2) rfl (decide_eq_true rfl) (by decide) (by decide) k_) ?_
  show G (s₁.setTop (mkF m 5 #[.val (.ref a), .val (.ref a), .unset] []))
  refine hG _ _ (fun t_ k_ => XS.iconst X0.here hx rfl (hb hby own_d27_5) k_) ?_
  show G (s₁.setTop (mkF m 6 #[.val (.ref a), .val (.ref a), .unset] [(.int (1 : Int32))]))
  exact own_retN hR hret (by simp) X0 hx (hb hby own_d27_6) (by decide) (by decide) (by rw [e0]; exact ⟨rfl, N0, rfl⟩)
set_option maxRecDepth 65536 in
set_option maxHeartbeats 40000000 in
theorem own_acol (l : Launch) (Z : State) (a0 : Array Value) (hw : ∀ d ∈ tables_1, d.before a0 Z = true) (a : Addr) (h0 : Heap) (O0 : own_Old Z h0) :
    own_Con l Z (⟨"java/util/AbstractCollection", "<init>", "()V"⟩ : MethodName) jdk_22_method_1_code 1 none [] ({ frames := 1, cells := 0, slots := 0, locals := 12 } : Room) #[(.ref a)] h0 (fun rv rh rL => rv = none ∧ own_Fr Z rL ∧ h0 = rh) := by
  refine own_intro (plainFor_of_name (by first | (simp [plainName, overriddenIn]; done) | decide +kernel)) ?_
  intro p e s m below meth c s₁ G hx hby hml hown hnm hret hZ X0 e0 hG hR
  have N0 := Fr.nil Z.heap.size
  refine own_entry (Ls := #[.val (.ref a)]) (by first | (simp [entryFrame, mkF, argsToLocals, Value.category]; done) | rfl) ?_
  show G (s₁.setTop (mkF m 0 #[.val (.ref a)] []))
  refine hG _ _ (fun t_ k_ => XS.aloadN X0.here hx rfl (hb hby own_d10_0) rfl rfl k_) ?_
  show G (s₁.setTop (mkF m 1 #[.val (.ref a)] [(.ref a)]))
  obtain ⟨T1, X1, e1, st1⟩ := initO X0 hx hZ hown (hw _ (List.mem_of_getElem? (i := 53) rfl)) (hw _ (List.mem_of_getElem? (i := 17) rfl)) (hw _ (List.mem_of_getElem? (i := 18) rfl)) e0 (g := (mkF m 1 #[.val (.ref a)] [(.ref a)])) rfl (by rw [hml]; rfl) rfl (hb hby own_d10_1) (by decide) (W := 0) (by show 2 * 0 + _ ≤ _; exact Nat.le_of_eq rfl) (by decide)
  refine hG _ _ st1 ?_
  show G (T1.setTop (mkF m 4 #[.val (.ref a)] []))
  exact own_retV hR hret X1 hx (hb hby own_d10_4) (by decide) (by decide) (by rw [e1]; exact ⟨rfl, N0, rfl⟩)
set_option maxRecDepth 65536 in
set_option maxHeartbeats 40000000 in
theorem own_alis (l : Launch) (Z : State) (a0 : Array Value) (hw : ∀ d ∈ tables_1, d.before a0 Z = true) (a : Addr) (u0 : Value) (u1 : Value) (u2 : Value) (h0 : Heap) (O0 : own_Old Z h0) (g0_E : Exa Z h0 a "java/util/ArrayList") (g1_G : Z.heap.size ≤ a) (g2_F : Fld Z h0 a "java/util/AbstractList" "modCount" "I" u0) (g3_F : Fld Z h0 a "java/util/ArrayList" "elementData" "[Ljava/lang/Object;" u1) (g4_F : Fld Z h0 a "java/util/ArrayList" "size" "I" u2) :
    own_Con l Z (⟨"java/util/AbstractList", "<init>", "()V"⟩ : MethodName) jdk_39_method_1_code 1 none [] ({ frames := 2, cells := 0, slots := 0, locals := 24 } : Room) #[(.ref a)] h0 (fun rv rh rL => rv = none ∧ own_Fr Z rL ∧ Keep h0 rh [a] ∧ (Exa Z rh a "java/util/ArrayList") ∧ (Fld Z rh a "java/util/AbstractList" "modCount" "I" (.int (0 : Int32))) ∧ (Fld Z rh a "java/util/ArrayList" "elementData" "[Ljava/lang/Object;" u1) ∧ (Fld Z rh a "java/util/ArrayList" "size" "I" u2)) := by
  refine own_intro (plainFor_of_name (by first | (simp [plainName, overriddenIn]; done) | decide +kernel)) ?_
  intro p e s m below meth c s₁ G hx hby hml hown hnm hret hZ X0 e0 hG hR
  have N0 := Fr.nil Z.heap.size
  refine own_entry (Ls := #[.val (.ref a)]) (by first | (simp [entryFrame, mkF, argsToLocals, Value.category]; done) | rfl) ?_
  show G (s₁.setTop (mkF m 0 #[.val (.ref a)] []))
  refine hG _ _ (fun t_ k_ => XS.aloadN X0.here hx rfl (hb hby own_d9_0) rfl rfl k_) ?_
  show G (s₁.setTop (mkF m 1 #[.val (.ref a)] [(.ref a)]))
  refine own_callI X0 hx hZ hG hown rfl (hw _ (List.mem_of_getElem? (i := 47) rfl)) (hw _ (List.mem_of_getElem? (i := 48) rfl)) (hw _ (List.mem_of_getElem? (i := 51) rfl)) (hw _ (List.mem_of_getElem? (i := 52) rfl)) (by decide) 0 (own_acol l Z a0 hw a h0 O0) (by decide) (by decide) e0 (by rw [hml]; rfl) (lenOf own_pd0 rfl) (argsL := []) (rest := []) rfl rfl (Nat.le_of_eq rfl) (hb hby own_d9_1) (by decide) (by decide) ?_
  intro T1 h1 v1 L1 X1 e1 q1
  obtain ⟨rfl, M1, rfl⟩ := q1
  have N1 := Fr.app N0 M1
  show G (T1.setTop (mkF m 4 #[.val (.ref a)] []))
  refine hG _ _ (fun t_ k_ => XS.aloadN X1.here hx rfl (hb hby own_d9_4) rfl rfl k_) ?_
  show G (T1.setTop (mkF m 5 #[.val (.ref a)] [(.ref a)]))
  refine hG _ _ (fun t_ k_ => XS.iconst X1.here hx rfl (hb hby own_d9_5) k_) ?_
  show G (T1.setTop (mkF m 6 #[.val (.ref a)] [(.int (0 : Int32)), (.ref a)]))
  obtain ⟨T2, h2, X2, e2, W2, st2⟩ := putF X1 hx hZ hown (host := "") (Or.inl (hw _ (List.mem_of_getElem? (i := 54) rfl))) Via.refl e1 g2_F g0_E (Or.inl (hw _ (List.mem_of_getElem? (i := 55) rfl))) (hw _ (List.mem_of_getElem? (i := 36) rfl)) (ty := .int) (by decide) rfl rfl (g := (mkF m 6 #[.val (.ref a)] [(.int (0 : Int32)), (.ref a)])) rfl rfl (hb hby own_d9_6)
  refine hG _ _ st2 ?_
  have K2 : Keep h0 h2 [a] := (Keep.refl h0 [a]).wr W2 (Or.inl (List.mem_of_getElem? (i := 0) rfl))
  have O2 : own_Old Z h2 := O0.wr W2 g1_G
  have N2 := Fr.snoc X2 N1 g1_G
  show G (T2.setTop (mkF m 9 #[.val (.ref a)] []))
  have f3 := (g0_E.wr W2)
  have f4 := (g3_F.other W2 (Or.inr (slot_ne (Or.inl (hw _ (List.mem_of_getElem? (i := 58) rfl))) (Or.inl (hw _ (List.mem_of_getElem? (i := 55) rfl))) (by decide) (t := (.array (.object "java/lang/Object"))) (t' := .int) (by decide) (by decide))))
  have f5 := (g4_F.other W2 (Or.inr (slot_ne (Or.inl (hw _ (List.mem_of_getElem? (i := 67) rfl))) (Or.inl (hw _ (List.mem_of_getElem? (i := 55) rfl))) (by decide) (t := .int) (t' := .int) (by decide) (by decide))))
  exact own_retV hR hret X2 hx (hb hby own_d9_9) (by decide) (by decide) (by rw [e2]; exact ⟨rfl, N2, K2, f3, (g2_F.same W2), f4, f5⟩)
set_option maxRecDepth 65536 in
set_option maxHeartbeats 40000000 in
theorem own_anew (l : Launch) (Z : State) (a0 : Array Value) (hw : ∀ d ∈ tables_1, d.before a0 Z = true) (a : Addr) (dflt : Addr) (u0 : Value) (u1 : Value) (u2 : Value) (h0 : Heap) (O0 : own_Old Z h0) (g0_E : Exa Z h0 a "java/util/ArrayList") (g1_G : Z.heap.size ≤ a) (g2_S : Sta Z Z.heap "java/util/ArrayList" "DEFAULTCAPACITY_EMPTY_ELEMENTDATA" "[Ljava/lang/Object;" (.ref dflt)) (g3_F : Fld Z h0 a "java/util/AbstractList" "modCount" "I" u0) (g4_F : Fld Z h0 a "java/util/ArrayList" "elementData" "[Ljava/lang/Object;" u1) (g5_F : Fld Z h0 a "java/util/ArrayList" "size" "I" u2) :
    own_Con l Z (⟨"java/util/ArrayList", "<init>", "()V"⟩ : MethodName) jdk_38_method_2_code 1 none [] ({ frames := 3, cells := 0, slots := 0, locals := 36 } : Room) #[(.ref a)] h0 (fun rv rh rL => rv = none ∧ own_Fr Z rL ∧ Keep h0 rh [a] ∧ (Exa Z rh a "java/util/ArrayList") ∧ (Fld Z rh a "java/util/AbstractList" "modCount" "I" (.int (0 : Int32))) ∧ (Fld Z rh a "java/util/ArrayList" "elementData" "[Ljava/lang/Object;" (.ref dflt)) ∧ (Fld Z rh a "java/util/ArrayList" "size" "I" u2)) := by
  refine own_intro (plainFor_of_name (by first | (simp [plainName, overriddenIn]; done) | decide +kernel)) ?_
  intro p e s m below meth c s₁ G hx hby hml hown hnm hret hZ X0 e0 hG hR
  have N0 := Fr.nil Z.heap.size
  refine own_entry (Ls := #[.val (.ref a)]) (by first | (simp [entryFrame, mkF, argsToLocals, Value.category]; done) | rfl) ?_
  show G (s₁.setTop (mkF m 0 #[.val (.ref a)] []))
  refine hG _ _ (fun t_ k_ => XS.aloadN X0.here hx rfl (hb hby own_d8_0) rfl rfl k_) ?_
  show G (s₁.setTop (mkF m 1 #[.val (.ref a)] [(.ref a)]))
  refine own_callI X0 hx hZ hG hown rfl (hw _ (List.mem_of_getElem? (i := 41) rfl)) (hw _ (List.mem_of_getElem? (i := 42) rfl)) (hw _ (List.mem_of_getElem? (i := 45) rfl)) (hw _ (List.mem_of_getElem? (i := 46) rfl)) (by decide) 0 (own_alis l Z a0 hw a u0 u1 u2 h0 O0 g0_E g1_G g3_F g4_F g5_F) (by decide) (by decide) e0 (by rw [hml]; rfl) (lenOf own_pd0 rfl) (argsL := []) (rest := []) rfl rfl (Nat.le_of_eq rfl) (hb hby own_d8_1) (by decide) (by decide) ?_
  intro T1 h1 v1 L1 X1 e1 q1
  obtain ⟨rfl, M1, J1, r1_0, r1_1, r1_2, r1_3⟩ := q1
  have N1 := Fr.app N0 M1
  have K1 : Keep h0 h1 [a] := (Keep.refl h0 [a]).trans J1 (allS (Or.inl (List.mem_of_getElem? (i := 0) rfl)) all0)
  have O1 : own_Old Z h1 := O0.keep J1 (allS g1_G all0)
  show G (T1.setTop (mkF m 4 #[.val (.ref a)] []))
  refine hG _ _ (fun t_ k_ => XS.aloadN X1.here hx rfl (hb hby own_d8_4) rfl rfl k_) ?_
  show G (T1.setTop (mkF m 5 #[.val (.ref a)] [(.ref a)]))
  obtain ⟨T2, X2, e2, st2⟩ := getS2 X1 hx hZ hown (host := "") (Or.inl (hw _ (List.mem_of_getElem? (i := 56) rfl))) Via.refl e1 (own_sta g2_S O1) (g := (mkF m 5 #[.val (.ref a)] [(.ref a)])) rfl (hb hby own_d8_5)
  refine hG _ _ st2 ?_
  show G (T2.setTop (mkF m 8 #[.val (.ref a)] [(.ref dflt), (.ref a)]))
  obtain ⟨T3, h3, X3, e3, W3, st3⟩ := putF X2 hx hZ hown (host := "") (Or.inl (hw _ (List.mem_of_getElem? (i := 57) rfl))) Via.refl e2 r1_2 r1_0 (Or.inl (hw _ (List.mem_of_getElem? (i := 58) rfl))) (hw _ (List.mem_of_getElem? (i := 36) rfl)) (ty := (.array (.object "java/lang/Object"))) (by decide) rfl rfl (g := (mkF m 8 #[.val (.ref a)] [(.ref dflt), (.ref a)])) rfl rfl (hb hby own_d8_8)
  refine hG _ _ st3 ?_
  have K3 : Keep h0 h3 [a] := K1.wr W3 (Or.inl (List.mem_of_getElem? (i := 0) rfl))
  have O3 : own_Old Z h3 := O1.wr W3 g1_G
  have N3 := Fr.snoc X3 N1 g1_G
  show G (T3.setTop (mkF m 11 #[.val (.ref a)] []))
  have f4 := (r1_0.wr W3)
  have f5 := (r1_1.other W3 (Or.inr (slot_ne (Or.inl (hw _ (List.mem_of_getElem? (i := 55) rfl))) (Or.inl (hw _ (List.mem_of_getElem? (i := 58) rfl))) (by decide) (t := .int) (t' := (.array (.object "java/lang/Object"))) (by decide) (by decide))))
  have f6 := (r1_3.other W3 (Or.inr (slot_ne (Or.inl (hw _ (List.mem_of_getElem? (i := 67) rfl))) (Or.inl (hw _ (List.mem_of_getElem? (i := 58) rfl))) (by decide) (t := .int) (t' := (.array (.object "java/lang/Object"))) (by decide) (by decide))))
  exact own_retV hR hret X3 hx (hb hby own_d8_11) (by decide) (by decide) (by rw [e3]; exact ⟨rfl, N3, K3, f4, f5, (r1_2.same W3), f6⟩)
theorem own_pd11 : parseMethodDescriptor "(II)I" = some ⟨[.int, .int], some .int⟩ := by decide +kernel
set_option maxRecDepth 65536 in
set_option maxHeartbeats 40000000 in
theorem own_max10 (l : Launch) (Z : State) (a0 : Array Value) (hw : ∀ d ∈ tables_1, d.before a0 Z = true) (h0 : Heap) (O0 : own_Old Z h0) :
    own_Con l Z (⟨"java/lang/Math", "max", "(II)I"⟩ : MethodName) jdk_29_method_65_code 2 (some .int) [] ({ frames := 0, cells := 0, slots := 0, locals := 0 } : Room) #[(.int (10 : Int32)), (.int (1 : Int32))] h0 (fun rv rh rL => rv = some (.int (10 : Int32)) ∧ own_Fr Z rL ∧ h0 = rh) := by
  refine own_intro (Jvm.Free.JP.mathPlain rfl (by decide +kernel)) ?_
  intro p e s m below meth c s₁ G hx hby hml hown hnm hret hZ X0 e0 hG hR
  have N0 := Fr.nil Z.heap.size
  refine own_entry (Ls := #[.val (.int (10 : Int32)), .val (.int (1 : Int32))]) (by first | (simp [entryFrame, mkF, argsToLocals, Value.category]; done) | rfl) ?_
  show G (s₁.setTop (mkF m 0 #[.val (.int (10 : Int32)), .val (.int (1 : Int32))] []))
  refine hG _ _ (fun t_ k_ => XS.iloadN X0.here hx rfl (hb hby own_d15_0) rfl k_) ?_
  show G (s₁.setTop (mkF m 1 #[.val (.int (10 : Int32)), .val (.int (1 : Int32))] [(.int (10 : Int32))]))
  refine hG _ _ (fun t_ k_ => XS.iloadN X0.here hx rfl (hb hby own_d15_1) rfl k_) ?_
  show G (s₁.setTop (mkF m 2 #[.val (.int (10 : Int32)), .val (.int (1 : Int32))] [(.int (1 : Int32)), (.int (10 : Int32))]))
  refine hG _ _ (fun t_ k_ => XS.icmpNo X0.here hx rfl (hb hby own_d15_2) rfl (flt (by decide)).1 k_) ?_
  show G (s₁.setTop (mkF m 5 #[.val (.int (10 : Int32)), .val (.int (1 : Int32))] []))
  refine hG _ _ (fun t_ k_ => XS.iloadN X0.here hx rfl (hb hby own_d15_5) rfl k_) ?_
  show G (s₁.setTop (mkF m 6 #[.val (.int (10 : Int32)), .val (.int (1 : Int32))] [(.int (10 : Int32))]))
  refine hG _ _ (fun t_ k_ => XS.goto X0.here hx rfl (pc0 := 6) (pc' := 10) rfl (hb hby own_d15_6) (by decide) (by decide) k_) ?_
  show G (s₁.setTop (mkF m 10 #[.val (.int (10 : Int32)), .val (.int (1 : Int32))] [(.int (10 : Int32))]))
  exact own_retI hR hret X0 hx (hb hby own_d15_10) (by decide) (by decide) (by rw [e0]; exact ⟨rfl, N0, rfl⟩)
theorem own_pd12 : parseMethodDescriptor "(I)[Ljava/lang/Object;" = some ⟨[.int], some (.array (.object "java/lang/Object"))⟩ := by decide +kernel
set_option maxRecDepth 65536 in
set_option maxHeartbeats 40000000 in
theorem own_growI (l : Launch) (Z : State) (a0 : Array Value) (hw : ∀ d ∈ tables_1, d.before a0 Z = true) (a : Addr) (dflt : Addr) (kd : ClassId) (mc : Int32) (h0 : Heap) (O0 : own_Old Z h0) (g0_E : Exa Z h0 a "java/util/ArrayList") (g1_G : Z.heap.size ≤ a) (g2_S : Sta Z Z.heap "java/util/ArrayList" "DEFAULTCAPACITY_EMPTY_ELEMENTDATA" "[Ljava/lang/Object;" (.ref dflt)) (g3_hne : a ≠ dflt) (g4_F : Fld Z h0 a "java/util/AbstractList" "modCount" "I" (.int mc)) (g5_F : Fld Z h0 a "java/util/ArrayList" "elementData" "[Ljava/lang/Object;" (.ref dflt)) (g6_F : Fld Z h0 a "java/util/ArrayList" "size" "I" (.int (0 : Int32))) (g7_V : Arv Z h0 dflt kd (.object "java/lang/Object") (0 : Int32) [] .null) :
    own_Con l Z (⟨"java/util/ArrayList", "grow", "(I)[Ljava/lang/Object;"⟩ : MethodName) jdk_38_method_6_code 4 (some (.array (.object "java/lang/Object"))) [] ({ frames := 1, cells := 1, slots := 10, locals := 14 } : Room) #[(.ref a), (.int (1 : Int32))] h0 (fun rv rh rL => ∃ (t : Addr) (kt : ClassId), rv = some (.ref t) ∧ own_Fr Z rL ∧ Keep h0 rh [a] ∧ h0.size ≤ t ∧ (Exa Z rh a "java/util/ArrayList") ∧ (Fld Z rh a "java/util/AbstractList" "modCount" "I" (.int mc)) ∧ (Fld Z rh a "java/util/ArrayList" "elementData" "[Ljava/lang/Object;" (.ref t)) ∧ (Fld Z rh a "java/util/ArrayList" "size" "I" (.int (0 : Int32))) ∧ (Arv Z rh t kt (.object "java/lang/Object") (10 : Int32) [.null, .null, .null, .null, .null, .null, .null, .null, .null, .null] .null) ∧ (Ovr Z kt "java/lang/Object")) := by
  refine own_intro (plainFor_of_name (by first | (simp [plainName, overriddenIn]; done) | decide +kernel)) ?_
  intro p e s m below meth c s₁ G hx hby hml hown hnm hret hZ X0 e0 hG hR
  have N0 := Fr.nil Z.heap.size
  refine own_entry (Ls := #[.val (.ref a), .val (.int (1 : Int32)), .unset, .unset]) (by first | (simp [entryFrame, mkF, argsToLocals, Value.category]; done) | rfl) ?_
  show G (s₁.setTop (mkF m 0 #[.val (.ref a), .val (.int (1 : Int32)), .unset, .unset] []))
  refine hG _ _ (fun t_ k_ => XS.aloadN X0.here hx rfl (hb hby own_d14_0) rfl rfl k_) ?_
  show G (s₁.setTop (mkF m 1 #[.val (.ref a), .val (.int (1 : Int32)), .unset, .unset] [(.ref a)]))
  obtain ⟨T1, X1, e1, st1⟩ := getF X0 hx hZ hown (host := "") (Or.inl (hw _ (List.mem_of_getElem? (i := 57) rfl))) Via.refl e0 g5_F (g := (mkF m 1 #[.val (.ref a), .val (.int (1 : Int32)), .unset, .unset] [(.ref a)])) rfl rfl (hb hby own_d14_1)
  refine hG _ _ st1 ?_
  show G (T1.setTop (mkF m 4 #[.val (.ref a), .val (.int (1 : Int32)), .unset, .unset] [(.ref dflt)]))
  obtain ⟨c2, Ar2, -, S2, M2, -, -⟩ := id g7_V
  refine hG _ _ (X1.arraylength hx (by rw [e1]; exact Ar2.1) (State.isArrayOf_alike hZ.alike Ar2.2.1) (g := (mkF m 4 #[.val (.ref a), .val (.int (1 : Int32)), .unset, .unset] [(.ref dflt)])) rfl rfl (hb hby own_d14_4)) ?_
  rw [len_of S2 M2]
  show G (T1.setTop (mkF m 5 #[.val (.ref a), .val (.int (1 : Int32)), .unset, .unset] [(.int (0 : Int32))]))
  refine hG _ _ (fun t_ k_ => XS.istoreN X1.here hx rfl (hb hby own_d14_5) rfl (l' := #[.val (.ref a), .val (.int (1 : Int32)), .val (.int (0 : Int32)), .unset]) rfl k_) ?_
  show G (T1.setTop (mkF m 6 #[.val (.ref a), .val (.int (1 : Int32)), .val (.int (0 : Int32)), .unset] []))
  refine hG _ _ (fun t_ k_ => XS.iloadN X1.here hx rfl (hb hby own_d14_6) rfl k_) ?_
  show G (T1.setTop (mkF m 7 #[.val (.ref a), .val (.int (1 : Int32)), .val (.int (0 : Int32)), .unset] [(.int (0 : Int32))]))
  refine hG _ _ (fun t_ k_ => XS.ifNo X1.here hx rfl (hb hby own_d14_7) rfl ((if0 _ _).trans (flt (by decide)).2.2.1) k_) ?_
  show G (T1.setTop (mkF m 10 #[.val (.ref a), .val (.int (1 : Int32)), .val (.int (0 : Int32)), .unset] []))
  refine hG _ _ (fun t_ k_ => XS.aloadN X1.here hx rfl (hb hby own_d14_10) rfl rfl k_) ?_
  show G (T1.setTop (mkF m 11 #[.val (.ref a), .val (.int (1 : Int32)), .val (.int (0 : Int32)), .unset] [(.ref a)]))
  obtain ⟨T3, X3, e3, st3⟩ := getF X1 hx hZ hown (host := "") (Or.inl (hw _ (List.mem_of_getElem? (i := 57) rfl))) Via.refl e1 g5_F (g := (mkF m 11 #[.val (.ref a), .val (.int (1 : Int32)), .val (.int (0 : Int32)), .unset] [(.ref a)])) rfl rfl (hb hby own_d14_11)
  refine hG _ _ st3 ?_
  show G (T3.setTop (mkF m 14 #[.val (.ref a), .val (.int (1 : Int32)), .val (.int (0 : Int32)), .unset] [(.ref dflt)]))
  obtain ⟨T4, X4, e4, st4⟩ := getS2 X3 hx hZ hown (host := "") (Or.inl (hw _ (List.mem_of_getElem? (i := 56) rfl))) Via.refl e3 (own_sta g2_S O0) (g := (mkF m 14 #[.val (.ref a), .val (.int (1 : Int32)), .val (.int (0 : Int32)), .unset] [(.ref dflt)])) rfl (hb hby own_d14_14)
  refine hG _ _ st4 ?_
  show G (T4.setTop (mkF m 17 #[.val (.ref a), .val (.int (1 : Int32)), .val (.int (0 : Int32)), .unset] [(.ref dflt), (.ref dflt)]))
  refine hG _ _ (fun t_ k_ => Jvm.RoadKit.acmp (g := (mkF m 17 #[.val (.ref a), .val (.int (1 : Int32)), .val (.int (0 : Int32)), .unset] [(.ref dflt), (.ref dflt)])) X4 hx rfl rfl rfl (pc0 := 17) (pc' := 45) (same := true) rfl (hb hby own_d14_17) rfl (decide_eq_true rfl) (by decide) (by decide) k_) ?_
  show G (T4.setTop (mkF m 45 #[.val (.ref a), .val (.int (1 : Int32)), .val (.int (0 : Int32)), .unset] []))
  refine hG _ _ (fun t_ k_ => XS.aloadN X4.here hx rfl (hb hby own_d14_45) rfl rfl k_) ?_
  show G (T4.setTop (mkF m 46 #[.val (.ref a), .val (.int (1 : Int32)), .val (.int (0 : Int32)), .unset] [(.ref a)]))
  refine hG _ _ (fun t_ k_ => XS.bipush X4.here hx rfl (hb hby own_d14_46) k_) ?_
  show G (T4.setTop (mkF m 48 #[.val (.ref a), .val (.int (1 : Int32)), .val (.int (0 : Int32)), .unset] [(.int (10 : Int32)), (.ref a)]))
  refine hG _ _ (fun t_ k_ => XS.iloadN X4.here hx rfl (hb hby own_d14_48) rfl k_) ?_
  show G (T4.setTop (mkF m 49 #[.val (.ref a), .val (.int (1 : Int32)), .val (.int (0 : Int32)), .unset] [(.int (1 : Int32)), (.int (10 : Int32)), (.ref a)]))
  refine own_callS X4 hx hZ hG hown (hw _ (List.mem_of_getElem? (i := 83) rfl)) (hw _ (List.mem_of_getElem? (i := 84) rfl)) (hw _ (List.mem_of_getElem? (i := 85) rfl)) (hw _ (List.mem_of_getElem? (i := 86) rfl)) (by decide) 1 (own_max10 l Z a0 hw h0 O0) (by decide) (by decide) e4 (by rw [hml]; rfl) (lenOf own_pd11 rfl) (argsL := [(.int (10 : Int32)), (.int (1 : Int32))]) (rest := [(.ref a)]) rfl rfl (Nat.le_of_eq rfl) (hb hby own_d14_49) (by decide) (by decide) ?_
  intro T5 h5 v5 L5 X5 e5 q5
  obtain ⟨rfl, M5, rfl⟩ := q5
  have N5 := Fr.app N0 M5
  show G (T5.setTop (mkF m 52 #[.val (.ref a), .val (.int (1 : Int32)), .val (.int (0 : Int32)), .unset] [(.int (10 : Int32)), (.ref a)]))
  obtain ⟨T6, h6, k6, X6, e6, E6, A6, Ov6, st6⟩ := newR X5 hx hZ hown (hw _ (List.mem_of_getElem? (i := 87) rfl)) (hw _ (List.mem_of_getElem? (i := 88) rfl)) e5 (g := (mkF m 52 #[.val (.ref a), .val (.int (1 : Int32)), .val (.int (0 : Int32)), .unset] [(.int (10 : Int32)), (.ref a)])) rfl (hb hby own_d14_52) rfl (by decide) (cap := 10) (by decide) (by decide) (by decide) (by decide)
  obtain ⟨b6, z6⟩ : ∃ z, z = h0.size := ⟨_, rfl⟩
  rw [← z6] at A6 st6
  refine hG _ _ st6 ?_
  have K6 : Keep h0 h6 [a] := (Keep.refl h0 [a]).ext E6
  have O6 : own_Old Z h6 := O0.ext E6
  have V6 : Arv Z h6 b6 k6 (.object "java/lang/Object") (10 : Int32) [.null, .null, .null, .null, .null, .null, .null, .null, .null, .null] .null := (Arv.new A6 (by decide)).pad (pad_rep [] .null 10)
  show G (T6.setTop (mkF m 55 #[.val (.ref a), .val (.int (1 : Int32)), .val (.int (0 : Int32)), .unset] [(.ref b6), (.ref a)]))
  refine hG _ _ (fun t_ k_ => XS.dupX1 X6.here hx rfl (hb hby own_d14_55) rfl rfl rfl k_) ?_
  show G (T6.setTop (mkF m 56 #[.val (.ref a), .val (.int (1 : Int32)), .val (.int (0 : Int32)), .unset] [(.ref b6), (.ref a), (.ref b6)]))
  have f8 := (g5_F.ext E6)
  have f9 := (g0_E.ext E6)
  obtain ⟨T7, h7, X7, e7, W7, st7⟩ := putF X6 hx hZ hown (host := "") (Or.inl (hw _ (List.mem_of_getElem? (i := 57) rfl))) Via.refl e6 f8 f9 (Or.inl (hw _ (List.mem_of_getElem? (i := 58) rfl))) (hw _ (List.mem_of_getElem? (i := 36) rfl)) (ty := (.array (.object "java/lang/Object"))) (by decide) rfl rfl (g := (mkF m 56 #[.val (.ref a), .val (.int (1 : Int32)), .val (.int (0 : Int32)), .unset] [(.ref b6), (.ref a), (.ref b6)])) rfl rfl (hb hby own_d14_56)
  refine hG _ _ st7 ?_
  have K7 : Keep h0 h7 [a] := K6.wr W7 (Or.inl (List.mem_of_getElem? (i := 0) rfl))
  have O7 : own_Old Z h7 := O6.wr W7 g1_G
  have N7 := Fr.snoc X7 N5 g1_G
  show G (T7.setTop (mkF m 59 #[.val (.ref a), .val (.int (1 : Int32)), .val (.int (0 : Int32)), .unset] [(.ref b6)]))
  have f10 := (f9.wr W7)
  have f11 := ((g4_F.ext E6).other W7 (Or.inr (slot_ne (Or.inl (hw _ (List.mem_of_getElem? (i := 55) rfl))) (Or.inl (hw _ (List.mem_of_getElem? (i := 58) rfl))) (by decide) (t := .int) (t' := (.array (.object "java/lang/Object"))) (by decide) (by decide))))
  have f12 := ((g6_F.ext E6).other W7 (Or.inr (slot_ne (Or.inl (hw _ (List.mem_of_getElem? (i := 67) rfl))) (Or.inl (hw _ (List.mem_of_getElem? (i := 58) rfl))) (by decide) (t := .int) (t' := (.array (.object "java/lang/Object"))) (by decide) (by decide))))
  have f13 := (V6.other W7 (Ne.symm (own_ne g0_E.lt (Nat.le_of_eq z6.symm))))
  exact own_retA hR hret rfl rfl X7 hx (hb hby own_d14_59) (by decide) (by decide) (by rw [e7]; exact ⟨b6, k6, rfl, N7, K7, (Nat.le_trans (Keep.refl h0 [a]).1 (Nat.le_of_eq z6.symm)), f10, f11, (f8.same W7), f12, f13, Ov6⟩)
theorem own_pd13 : parseMethodDescriptor "()[Ljava/lang/Object;" = some ⟨[], some (.array (.object "java/lang/Object"))⟩ := by decide +kernel
set_option maxRecDepth 65536 in
set_option maxHeartbeats 40000000 in
theorem own_grow (l : Launch) (Z : State) (a0 : Array Value) (hw : ∀ d ∈ tables_1, d.before a0 Z = true) (a : Addr) (dflt : Addr) (kd : ClassId) (mc : Int32) (h0 : Heap) (O0 : own_Old Z h0) (g0_E : Exa Z h0 a "java/util/ArrayList") (g1_G : Z.heap.size ≤ a) (g2_S : Sta Z Z.heap "java/util/ArrayList" "DEFAULTCAPACITY_EMPTY_ELEMENTDATA" "[Ljava/lang/Object;" (.ref dflt)) (g3_hne : a ≠ dflt) (g4_F : Fld Z h0 a "java/util/AbstractList" "modCount" "I" (.int mc)) (g5_F : Fld Z h0 a "java/util/ArrayList" "elementData" "[Ljava/lang/Object;" (.ref dflt)) (g6_F : Fld Z h0 a "java/util/ArrayList" "size" "I" (.int (0 : Int32))) (g7_V : Arv Z h0 dflt kd (.object "java/lang/Object") (0 : Int32) [] .null) :
    own_Con l Z (⟨"java/util/ArrayList", "grow", "()[Ljava/lang/Object;"⟩ : MethodName) jdk_38_method_7_code 1 (some (.array (.object "java/lang/Object"))) [] ({ frames := 2, cells := 1, slots := 10, locals := 29 } : Room) #[(.ref a)] h0 (fun rv rh rL => ∃ (t : Addr) (kt : ClassId), rv = some (.ref t) ∧ own_Fr Z rL ∧ Keep h0 rh [a] ∧ h0.size ≤ t ∧ (Exa Z rh a "java/util/ArrayList") ∧ (Fld Z rh a "java/util/AbstractList" "modCount" "I" (.int mc)) ∧ (Fld Z rh a "java/util/ArrayList" "elementData" "[Ljava/lang/Object;" (.ref t)) ∧ (Fld Z rh a "java/util/ArrayList" "size" "I" (.int (0 : Int32))) ∧ (Arv Z rh t kt (.object "java/lang/Object") (10 : Int32) [.null, .null, .null, .null, .null, .null, .null, .null, .null, .null] .null) ∧ (Ovr Z kt "java/lang/Object")) := by
  refine own_intro (plainFor_of_name (by first | (simp [plainName, overriddenIn]; done) | decide +kernel)) ?_
  intro p e s m below meth c s₁ G hx hby hml hown hnm hret hZ X0 e0 hG hR
  have N0 := Fr.nil Z.heap.size
  refine own_entry (Ls := #[.val (.ref a)]) (by first | (simp [entryFrame, mkF, argsToLocals, Value.category]; done) | rfl) ?_
  show G (s₁.setTop (mkF m 0 #[.val (.ref a)] []))
  refine hG _ _ (fun t_ k_ => XS.aloadN X0.here hx rfl (hb hby own_d13_0) rfl rfl k_) ?_
  show G (s₁.setTop (mkF m 1 #[.val (.ref a)] [(.ref a)]))
  refine hG _ _ (fun t_ k_ => XS.aloadN X0.here hx rfl (hb hby own_d13_1) rfl rfl k_) ?_
  show G (s₁.setTop (mkF m 2 #[.val (.ref a)] [(.ref a), (.ref a)]))
  obtain ⟨T1, X1, e1, st1⟩ := getF X0 hx hZ hown (host := "") (Or.inl (hw _ (List.mem_of_getElem? (i := 66) rfl))) Via.refl e0 g6_F (g := (mkF m 2 #[.val (.ref a)] [(.ref a), (.ref a)])) rfl rfl (hb hby own_d13_2)
  refine hG _ _ st1 ?_
  show G (T1.setTop (mkF m 5 #[.val (.ref a)] [(.int (0 : Int32)), (.ref a)]))
  refine hG _ _ (fun t_ k_ => XS.iconst X1.here hx rfl (hb hby own_d13_5) k_) ?_
  show G (T1.setTop (mkF m 6 #[.val (.ref a)] [(.int (1 : Int32)), (.int (0 : Int32)), (.ref a)]))
  refine hG _ _ (fun t_ k_ => XS.iadd X1.here hx rfl (hb hby own_d13_6) rfl k_) ?_
  show G (T1.setTop (mkF m 7 #[.val (.ref a)] [(.int ((0 : Int32) + (1 : Int32))), (.ref a)]))
  rw [own_zero1]
  show G (T1.setTop (mkF m 7 #[.val (.ref a)] [(.int (1 : Int32)), (.ref a)]))
  refine own_callP X1 hx hZ hG hown (hw _ (List.mem_of_getElem? (i := 78) rfl)) (hw _ (List.mem_of_getElem? (i := 79) rfl)) (hw _ (List.mem_of_getElem? (i := 81) rfl)) (hw _ (List.mem_of_getElem? (i := 80) rfl)) (hw _ (List.mem_of_getElem? (i := 37) rfl)) (hw _ (List.mem_of_getElem? (i := 82) rfl)) (by decide) 0 (own_growI l Z a0 hw a dflt kd mc h0 O0 g0_E g1_G g2_S g3_hne g4_F g5_F g6_F g7_V) (by decide) (by decide) e1 g0_E (by rw [hml]; rfl) (lenOf own_pd12 rfl) (argsL := [(.int (1 : Int32))]) (rest := []) rfl rfl (Nat.le_of_eq rfl) (hb hby own_d13_7) (by decide) (by decide) ?_
  intro T2 h2 v2 L2 X2 e2 q2
  obtain ⟨t_2, kt_2, rfl, M2, J2, y2_0, r2_0, r2_1, r2_2, r2_3, r2_4, r2_5⟩ := q2
  have N2 := Fr.app N0 M2
  have K2 : Keep h0 h2 [a] := (Keep.refl h0 [a]).trans J2 (allS (Or.inl (List.mem_of_getElem? (i := 0) rfl)) all0)
  have O2 : own_Old Z h2 := O0.keep J2 (allS g1_G all0)
  show G (T2.setTop (mkF m 10 #[.val (.ref a)] [(.ref t_2)]))
  exact own_retA hR hret rfl rfl X2 hx (hb hby own_d13_10) (by decide) (by decide) (by rw [e2]; exact ⟨t_2, kt_2, rfl, N2, K2, (Nat.le_trans (Keep.refl h0 [a]).1 y2_0), r2_0, r2_1, r2_2, r2_3, r2_4, r2_5⟩)
theorem own_pd14 : parseMethodDescriptor "(Ljava/lang/Object;[Ljava/lang/Object;I)V" = some ⟨[(.object "java/lang/Object"), (.array (.object "java/lang/Object")), .int], none⟩ := by decide +kernel
set_option maxRecDepth 65536 in
set_option maxHeartbeats 40000000 in
theorem own_addi0 (l : Launch) (Z : State) (a0 : Array Value) (hw : ∀ d ∈ tables_1, d.before a0 Z = true) (a : Addr) (dflt : Addr) (kd : ClassId) (mc : Int32) (ev : Addr) (h0 : Heap) (O0 : own_Old Z h0) (g0_E : Exa Z h0 a "java/util/ArrayList") (g1_G : Z.heap.size ≤ a) (g2_S : Sta Z Z.heap "java/util/ArrayList" "DEFAULTCAPACITY_EMPTY_ELEMENTDATA" "[Ljava/lang/Object;" (.ref dflt)) (g3_hne : a ≠ dflt) (g4_F : Fld Z h0 a "java/util/AbstractList" "modCount" "I" (.int mc)) (g5_F : Fld Z h0 a "java/util/ArrayList" "elementData" "[Ljava/lang/Object;" (.ref dflt)) (g6_F : Fld Z h0 a "java/util/ArrayList" "size" "I" (.int (0 : Int32))) (g7_V : Arv Z h0 dflt kd (.object "java/lang/Object") (0 : Int32) [] .null) (g8_E : Exa Z h0 ev "java/lang/String") :
    own_Con l Z (⟨"java/util/ArrayList", "add", "(Ljava/lang/Object;[Ljava/lang/Object;I)V"⟩ : MethodName) jdk_38_method_24_code 4 none [] ({ frames := 3, cells := 1, slots := 10, locals := 41 } : Room) #[(.ref a), (.ref ev), (.ref dflt), (.int (0 : Int32))] h0 (fun rv rh rL => ∃ (t : Addr) (kt : ClassId), rv = none ∧ own_Fr Z rL ∧ Keep h0 rh [a] ∧ h0.size ≤ t ∧ (Exa Z rh a "java/util/ArrayList") ∧ (Fld Z rh a "java/util/AbstractList" "modCount" "I" (.int mc)) ∧ (Fld Z rh a "java/util/ArrayList" "elementData" "[Ljava/lang/Object;" (.ref t)) ∧ (Fld Z rh a "java/util/ArrayList" "size" "I" (.int (1 : Int32))) ∧ (Arv Z rh t kt (.object "java/lang/Object") (10 : Int32) [(.ref ev), .null, .null, .null, .null, .null, .null, .null, .null, .null] .null) ∧ (Ovr Z kt "java/lang/Object")) := by
  refine own_intro (plainFor_of_name (by first | (simp [plainName, overriddenIn]; done) | decide +kernel)) ?_
  intro p e s m below meth c s₁ G hx hby hml hown hnm hret hZ X0 e0 hG hR
  have N0 := Fr.nil Z.heap.size
  refine own_entry (Ls := #[.val (.ref a), .val (.ref ev), .val (.ref dflt), .val (.int (0 : Int32))]) (by first | (simp [entryFrame, mkF, argsToLocals, Value.category]; done) | rfl) ?_
  show G (s₁.setTop (mkF m 0 #[.val (.ref a), .val (.ref ev), .val (.ref dflt), .val (.int (0 : Int32))] []))
  refine hG _ _ (fun t_ k_ => XS.iloadN X0.here hx rfl (hb hby own_d12_0) rfl k_) ?_
  show G (s₁.setTop (mkF m 1 #[.val (.ref a), .val (.ref ev), .val (.ref dflt), .val (.int (0 : Int32))] [(.int (0 : Int32))]))
  refine hG _ _ (fun t_ k_ => XS.aloadN X0.here hx rfl (hb hby own_d12_1) rfl rfl k_) ?_
  show G (s₁.setTop (mkF m 2 #[.val (.ref a), .val (.ref ev), .val (.ref dflt), .val (.int (0 : Int32))] [(.ref dflt), (.int (0 : Int32))]))
  obtain ⟨c1, Ar1, -, S1, M1, -, -⟩ := id g7_V
  refine hG _ _ (X0.arraylength hx (by rw [e0]; exact Ar1.1) (State.isArrayOf_alike hZ.alike Ar1.2.1) (g := (mkF m 2 #[.val (.ref a), .val (.ref ev), .val (.ref dflt), .val (.int (0 : Int32))] [(.ref dflt), (.int (0 : Int32))])) rfl rfl (hb hby own_d12_2)) ?_
  rw [len_of S1 M1]
  show G (s₁.setTop (mkF m 3 #[.val (.ref a), .val (.ref ev), .val (.ref dflt), .val (.int (0 : Int32))] [(.int (0 : Int32)), (.int (0 : Int32))]))
  refine hG _ _ (fun t_ k_ => XS.icmpNo X0.here hx rfl (hb hby own_d12_3) rfl (teq (by decide)).2 k_) ?_
  show G (s₁.setTop (mkF m 6 #[.val (.ref a), .val (.ref ev), .val (.ref dflt), .val (.int (0 : Int32))] []))
  refine hG _ _ (fun t_ k_ => XS.aloadN X0.here hx rfl (hb hby own_d12_6) rfl rfl k_) ?_
  show G (s₁.setTop (mkF m 7 #[.val (.ref a), .val (.ref ev), .val (.ref dflt), .val (.int (0 : Int32))] [(.ref a)]))
  refine own_callP X0 hx hZ hG hown (hw _ (List.mem_of_getElem? (i := 73) rfl)) (hw _ (List.mem_of_getElem? (i := 74) rfl)) (hw _ (List.mem_of_getElem? (i := 76) rfl)) (hw _ (List.mem_of_getElem? (i := 75) rfl)) (hw _ (List.mem_of_getElem? (i := 37) rfl)) (hw _ (List.mem_of_getElem? (i := 77) rfl)) (by decide) 0 (own_grow l Z a0 hw a dflt kd mc h0 O0 g0_E g1_G g2_S g3_hne g4_F g5_F g6_F g7_V) (by decide) (by decide) e0 g0_E (by rw [hml]; rfl) (lenOf own_pd13 rfl) (argsL := []) (rest := []) rfl rfl (Nat.le_of_eq rfl) (hb hby own_d12_7) (by decide) (by decide) ?_
  intro T2 h2 v2 L2 X2 e2 q2
  obtain ⟨t_2, kt_2, rfl, M2, J2, y2_0, r2_0, r2_1, r2_2, r2_3, r2_4, r2_5⟩ := q2
  have N2 := Fr.app N0 M2
  have K2 : Keep h0 h2 [a] := (Keep.refl h0 [a]).trans J2 (allS (Or.inl (List.mem_of_getElem? (i := 0) rfl)) all0)
  have O2 : own_Old Z h2 := O0.keep J2 (allS g1_G all0)
  show G (T2.setTop (mkF m 10 #[.val (.ref a), .val (.ref ev), .val (.ref dflt), .val (.int (0 : Int32))] [(.ref t_2)]))
  refine hG _ _ (fun t_ k_ => XS.astoreN X2.here hx rfl (hb hby own_d12_10) rfl rfl (l' := #[.val (.ref a), .val (.ref ev), .val (.ref t_2), .val (.int (0 : Int32))]) rfl k_) ?_
  show G (T2.setTop (mkF m 11 #[.val (.ref a), .val (.ref ev), .val (.ref t_2), .val (.int (0 : Int32))] []))
  refine hG _ _ (fun t_ k_ => XS.aloadN X2.here hx rfl (hb hby own_d12_11) rfl rfl k_) ?_
  show G (T2.setTop (mkF m 12 #[.val (.ref a), .val (.ref ev), .val (.ref t_2), .val (.int (0 : Int32))] [(.ref t_2)]))
  refine hG _ _ (fun t_ k_ => XS.iloadN X2.here hx rfl (hb hby own_d12_12) rfl k_) ?_
  show G (T2.setTop (mkF m 13 #[.val (.ref a), .val (.ref ev), .val (.ref t_2), .val (.int (0 : Int32))] [(.int (0 : Int32)), (.ref t_2)]))
  refine hG _ _ (fun t_ k_ => XS.aloadN X2.here hx rfl (hb hby own_d12_13) rfl rfl k_) ?_
  show G (T2.setTop (mkF m 14 #[.val (.ref a), .val (.ref ev), .val (.ref t_2), .val (.int (0 : Int32))] [(.ref ev), (.int (0 : Int32)), (.ref t_2)]))
  obtain ⟨c3, Ar3, q3, S3, M3, H3, G3⟩ := id r2_4
  have f4 := (g8_E.keep J2)
  obtain ⟨T3, h3, X3, e3, W3, st3⟩ := stR X2 hx hZ e2 Ar3 (j := (0 : Int32)) (inb_of S3 ⟨by decide, by decide⟩) rfl (Sto.ofV Ar3 q3 r2_5 (Ins.of_exa f4 (hw _ (List.mem_of_getElem? (i := 89) rfl)))) (g := (mkF m 14 #[.val (.ref a), .val (.ref ev), .val (.ref t_2), .val (.int (0 : Int32))] [(.ref ev), (.int (0 : Int32)), (.ref t_2)])) rfl rfl (hb hby own_d12_14)
  refine hG _ _ st3 ?_
  have K3 : Keep h0 h3 [a] := K2.wr W3 (Or.inr (Nat.le_trans (Keep.refl h0 [a]).1 y2_0))
  have O3 : own_Old Z h3 := O2.wr W3 (own_ge O0 y2_0)
  have V3 : Arv Z h3 t_2 kt_2 (.object "java/lang/Object") (10 : Int32) [(.ref ev), .null, .null, .null, .null, .null, .null, .null, .null, .null] .null := Arv.set Ar3 q3 S3 M3 H3 G3 rfl W3 0 rfl (Nat.le_of_ble_eq_true rfl)
  have N3 := Fr.snoc X3 N2 (own_ge O0 y2_0)
  show G (T3.setTop (mkF m 15 #[.val (.ref a), .val (.ref ev), .val (.ref t_2), .val (.int (0 : Int32))] []))
  refine hG _ _ (fun t_ k_ => XS.aloadN X3.here hx rfl (hb hby own_d12_15) rfl rfl k_) ?_
  show G (T3.setTop (mkF m 16 #[.val (.ref a), .val (.ref ev), .val (.ref t_2), .val (.int (0 : Int32))] [(.ref a)]))
  refine hG _ _ (fun t_ k_ => XS.iloadN X3.here hx rfl (hb hby own_d12_16) rfl k_) ?_
  show G (T3.setTop (mkF m 17 #[.val (.ref a), .val (.ref ev), .val (.ref t_2), .val (.int (0 : Int32))] [(.int (0 : Int32)), (.ref a)]))
  refine hG _ _ (fun t_ k_ => XS.iconst X3.here hx rfl (hb hby own_d12_17) k_) ?_
  show G (T3.setTop (mkF m 18 #[.val (.ref a), .val (.ref ev), .val (.ref t_2), .val (.int (0 : Int32))] [(.int (1 : Int32)), (.int (0 : Int32)), (.ref a)]))
  refine hG _ _ (fun t_ k_ => XS.iadd X3.here hx rfl (hb hby own_d12_18) rfl k_) ?_
  show G (T3.setTop (mkF m 19 #[.val (.ref a), .val (.ref ev), .val (.ref t_2), .val (.int (0 : Int32))] [(.int ((0 : Int32) + (1 : Int32))), (.ref a)]))
  rw [show (0 : Int32) + (1 : Int32) = (1 : Int32) from by decide]
  show G (T3.setTop (mkF m 19 #[.val (.ref a), .val (.ref ev), .val (.ref t_2), .val (.int (0 : Int32))] [(.int (1 : Int32)), (.ref a)]))
  have f6 := (r2_3.other W3 (Or.inl (own_ne g0_E.lt y2_0)))
  have f7 := (r2_0.wr W3)
  obtain ⟨T5, h5, X5, e5, W5, st5⟩ := putF X3 hx hZ hown (host := "") (Or.inl (hw _ (List.mem_of_getElem? (i := 66) rfl))) Via.refl e3 f6 f7 (Or.inl (hw _ (List.mem_of_getElem? (i := 67) rfl))) (hw _ (List.mem_of_getElem? (i := 36) rfl)) (ty := .int) (by decide) rfl rfl (g := (mkF m 19 #[.val (.ref a), .val (.ref ev), .val (.ref t_2), .val (.int (0 : Int32))] [(.int (1 : Int32)), (.ref a)])) rfl rfl (hb hby own_d12_19)
  refine hG _ _ st5 ?_
  have K5 : Keep h0 h5 [a] := K3.wr W5 (Or.inl (List.mem_of_getElem? (i := 0) rfl))
  have O5 : own_Old Z h5 := O3.wr W5 g1_G
  have N5 := Fr.snoc X5 N3 g1_G
  show G (T5.setTop (mkF m 22 #[.val (.ref a), .val (.ref ev), .val (.ref t_2), .val (.int (0 : Int32))] []))
  have f8 := (f7.wr W5)
  have f9 := ((r2_1.other W3 (Or.inl (own_ne g0_E.lt y2_0))).other W5 (Or.inr (slot_ne (Or.inl (hw _ (List.mem_of_getElem? (i := 55) rfl))) (Or.inl (hw _ (List.mem_of_getElem? (i := 67) rfl))) (by decide) (t := .int) (t' := .int) (by decide) (by decide))))
  have f10 := ((r2_2.other W3 (Or.inl (own_ne g0_E.lt y2_0))).other W5 (Or.inr (slot_ne (Or.inl (hw _ (List.mem_of_getElem? (i := 58) rfl))) (Or.inl (hw _ (List.mem_of_getElem? (i := 67) rfl))) (by decide) (t := (.array (.object "java/lang/Object"))) (t' := .int) (by decide) (by decide))))
  have f11 := (V3.other W5 (Ne.symm (own_ne g0_E.lt y2_0)))
  exact own_retV hR hret X5 hx (hb hby own_d12_22) (by decide) (by decide) (by rw [e5]; exact ⟨t_2, kt_2, rfl, N5, K5, (Nat.le_trans (Keep.refl h0 [a]).1 y2_0), f8, f9, f10, (f6.same W5), f11, r2_5⟩)
set_option maxRecDepth 65536 in
set_option maxHeartbeats 40000000 in
theorem own_add0 (l : Launch) (Z : State) (a0 : Array Value) (hw : ∀ d ∈ tables_1, d.before a0 Z = true) (a : Addr) (dflt : Addr) (kd : ClassId) (mc : Int32) (ev : Addr) (h0 : Heap) (O0 : own_Old Z h0) (g0_E : Exa Z h0 a "java/util/ArrayList") (g1_G : Z.heap.size ≤ a) (g2_S : Sta Z Z.heap "java/util/ArrayList" "DEFAULTCAPACITY_EMPTY_ELEMENTDATA" "[Ljava/lang/Object;" (.ref dflt)) (g3_hne : a ≠ dflt) (g4_F : Fld Z h0 a "java/util/AbstractList" "modCount" "I" (.int mc)) (g5_F : Fld Z h0 a "java/util/ArrayList" "elementData" "[Ljava/lang/Object;" (.ref dflt)) (g6_F : Fld Z h0 a "java/util/ArrayList" "size" "I" (.int (0 : Int32))) (g7_V : Arv Z h0 dflt kd (.object "java/lang/Object") (0 : Int32) [] .null) (g8_E : Exa Z h0 ev "java/lang/String") :
    own_Con l Z (⟨"java/util/ArrayList", "add", "(Ljava/lang/Object;)Z"⟩ : MethodName) jdk_38_method_25_code 2 (some .boolean) [] ({ frames := 4, cells := 1, slots := 10, locals := 56 } : Room) #[(.ref a), (.ref ev)] h0 (fun rv rh rL => ∃ (t : Addr) (kt : ClassId), rv = some (.int (1 : Int32)) ∧ own_Fr Z rL ∧ Keep h0 rh [a] ∧ h0.size ≤ t ∧ (Exa Z rh a "java/util/ArrayList") ∧ (Fld Z rh a "java/util/AbstractList" "modCount" "I" (.int (mc + (1 : Int32)))) ∧ (Fld Z rh a "java/util/ArrayList" "elementData" "[Ljava/lang/Object;" (.ref t)) ∧ (Fld Z rh a "java/util/ArrayList" "size" "I" (.int (1 : Int32))) ∧ (Arv Z rh t kt (.object "java/lang/Object") (10 : Int32) [(.ref ev), .null, .null, .null, .null, .null, .null, .null, .null, .null] .null) ∧ (Ovr Z kt "java/lang/Object")) := by
  refine own_intro (plainFor_of_name (by first | (simp [plainName, overriddenIn]; done) | decide +kernel)) ?_
  intro p e s m below meth c s₁ G hx hby hml hown hnm hret hZ X0 e0 hG hR
  have N0 := Fr.nil Z.heap.size
  refine own_entry (Ls := #[.val (.ref a), .val (.ref ev)]) (by first | (simp [entryFrame, mkF, argsToLocals, Value.category]; done) | rfl) ?_
  show G (s₁.setTop (mkF m 0 #[.val (.ref a), .val (.ref ev)] []))
  refine hG _ _ (fun t_ k_ => XS.aloadN X0.here hx rfl (hb hby own_d11_0) rfl rfl k_) ?_
  show G (s₁.setTop (mkF m 1 #[.val (.ref a), .val (.ref ev)] [(.ref a)]))
  refine hG _ _ (fun t_ k_ => XS.dup X0.here hx rfl (hb hby own_d11_1) rfl rfl k_) ?_
  show G (s₁.setTop (mkF m 2 #[.val (.ref a), .val (.ref ev)] [(.ref a), (.ref a)]))
  obtain ⟨T1, X1, e1, st1⟩ := getF X0 hx hZ hown (host := "") (Or.inl (hw _ (List.mem_of_getElem? (i := 64) rfl))) (Via.of (hw _ (List.mem_of_getElem? (i := 65) rfl))) e0 g4_F (g := (mkF m 2 #[.val (.ref a), .val (.ref ev)] [(.ref a), (.ref a)])) rfl rfl (hb hby own_d11_2)
  refine hG _ _ st1 ?_
  show G (T1.setTop (mkF m 5 #[.val (.ref a), .val (.ref ev)] [(.int mc), (.ref a)]))
  refine hG _ _ (fun t_ k_ => XS.iconst X1.here hx rfl (hb hby own_d11_5) k_) ?_
  show G (T1.setTop (mkF m 6 #[.val (.ref a), .val (.ref ev)] [(.int (1 : Int32)), (.int mc), (.ref a)]))
  refine hG _ _ (fun t_ k_ => XS.iadd X1.here hx rfl (hb hby own_d11_6) rfl k_) ?_
  show G (T1.setTop (mkF m 7 #[.val (.ref a), .val (.ref ev)] [(.int (mc + (1 : Int32))), (.ref a)]))
  obtain ⟨T2, h2, X2, e2, W2, st2⟩ := putF X1 hx hZ hown (host := "") (Or.inl (hw _ (List.mem_of_getElem? (i := 64) rfl))) (Via.of (hw _ (List.mem_of_getElem? (i := 65) rfl))) e1 g4_F g0_E (Or.inl (hw _ (List.mem_of_getElem? (i := 55) rfl))) (hw _ (List.mem_of_getElem? (i := 36) rfl)) (ty := .int) (by decide) rfl rfl (g := (mkF m 7 #[.val (.ref a), .val (.ref ev)] [(.int (mc + (1 : Int32))), (.ref a)])) rfl rfl (hb hby own_d11_7)
  refine hG _ _ st2 ?_
  have K2 : Keep h0 h2 [a] := (Keep.refl h0 [a]).wr W2 (Or.inl (List.mem_of_getElem? (i := 0) rfl))
  have O2 : own_Old Z h2 := O0.wr W2 g1_G
  have N2 := Fr.snoc X2 N0 g1_G
  show G (T2.setTop (mkF m 10 #[.val (.ref a), .val (.ref ev)] []))
  refine hG _ _ (fun t_ k_ => XS.aloadN X2.here hx rfl (hb hby own_d11_10) rfl rfl k_) ?_
  show G (T2.setTop (mkF m 11 #[.val (.ref a), .val (.ref ev)] [(.ref a)]))
  refine hG _ _ (fun t_ k_ => XS.aloadN X2.here hx rfl (hb hby own_d11_11) rfl rfl k_) ?_
  show G (T2.setTop (mkF m 12 #[.val (.ref a), .val (.ref ev)] [(.ref ev), (.ref a)]))
  refine hG _ _ (fun t_ k_ => XS.aloadN X2.here hx rfl (hb hby own_d11_12) rfl rfl k_) ?_
  show G (T2.setTop (mkF m 13 #[.val (.ref a), .val (.ref ev)] [(.ref a), (.ref ev), (.ref a)]))
  have f4 := (g5_F.other W2 (Or.inr (slot_ne (Or.inl (hw _ (List.mem_of_getElem? (i := 58) rfl))) (Or.inl (hw _ (List.mem_of_getElem? (i := 55) rfl))) (by decide) (t := (.array (.object "java/lang/Object"))) (t' := .int) (by decide) (by decide))))
  obtain ⟨T3, X3, e3, st3⟩ := getF X2 hx hZ hown (host := "") (Or.inl (hw _ (List.mem_of_getElem? (i := 57) rfl))) Via.refl e2 f4 (g := (mkF m 13 #[.val (.ref a), .val (.ref ev)] [(.ref a), (.ref ev), (.ref a)])) rfl rfl (hb hby own_d11_13)
  refine hG _ _ st3 ?_
  show G (T3.setTop (mkF m 16 #[.val (.ref a), .val (.ref ev)] [(.ref dflt), (.ref ev), (.ref a)]))
  refine hG _ _ (fun t_ k_ => XS.aloadN X3.here hx rfl (hb hby own_d11_16) rfl rfl k_) ?_
  show G (T3.setTop (mkF m 17 #[.val (.ref a), .val (.ref ev)] [(.ref a), (.ref dflt), (.ref ev), (.ref a)]))
  have f6 := (g6_F.other W2 (Or.inr (slot_ne (Or.inl (hw _ (List.mem_of_getElem? (i := 67) rfl))) (Or.inl (hw _ (List.mem_of_getElem? (i := 55) rfl))) (by decide) (t := .int) (t' := .int) (by decide) (by decide))))
  obtain ⟨T5, X5, e5, st5⟩ := getF X3 hx hZ hown (host := "") (Or.inl (hw _ (List.mem_of_getElem? (i := 66) rfl))) Via.refl e3 f6 (g := (mkF m 17 #[.val (.ref a), .val (.ref ev)] [(.ref a), (.ref dflt), (.ref ev), (.ref a)])) rfl rfl (hb hby own_d11_17)
  refine hG _ _ st5 ?_
  show G (T5.setTop (mkF m 20 #[.val (.ref a), .val (.ref ev)] [(.int (0 : Int32)), (.ref dflt), (.ref ev), (.ref a)]))
  have f8 := (g0_E.wr W2)
  have f9 := (g7_V.other W2 (Ne.symm g3_hne))
  have f10 := (g8_E.wr W2)
  refine own_callP X5 hx hZ hG hown (hw _ (List.mem_of_getElem? (i := 68) rfl)) (hw _ (List.mem_of_getElem? (i := 69) rfl)) (hw _ (List.mem_of_getElem? (i := 71) rfl)) (hw _ (List.mem_of_getElem? (i := 70) rfl)) (hw _ (List.mem_of_getElem? (i := 37) rfl)) (hw _ (List.mem_of_getElem? (i := 72) rfl)) (by decide) 0 (own_addi0 l Z a0 hw a dflt kd (mc + (1 : Int32)) ev h2 O2 f8 g1_G g2_S g3_hne (g4_F.same W2) f4 f6 f9 f10) (by decide) (by decide) e5 f8 (by rw [hml]; rfl) (lenOf own_pd14 rfl) (argsL := [(.ref ev), (.ref dflt), (.int (0 : Int32))]) (rest := []) rfl rfl (Nat.le_of_eq rfl) (hb hby own_d11_20) (by decide) (by decide) ?_
  intro T7 h7 v7 L7 X7 e7 q7
  obtain ⟨t_7, kt_7, rfl, M7, J7, y7_0, r7_0, r7_1, r7_2, r7_3, r7_4, r7_5⟩ := q7
  have N7 := Fr.app N2 M7
  have K7 : Keep h0 h7 [a] := K2.trans J7 (allS (Or.inl (List.mem_of_getElem? (i := 0) rfl)) all0)
  have O7 : own_Old Z h7 := O2.keep J7 (allS g1_G all0)
  show G (T7.setTop (mkF m 23 #[.val (.ref a), .val (.ref ev)] []))
  refine hG _ _ (fun t_ k_ => XS.iconst X7.here hx rfl (hb hby own_d11_23) k_) ?_
  show G (T7.setTop (mkF m 24 #[.val (.ref a), .val (.ref ev)] [(.int (1 : Int32))]))
  exact own_retN hR hret (by simp) X7 hx (hb hby own_d11_24) (by decide) (by decide) (by rw [e7]; exact ⟨t_7, kt_7, rfl, N7, K7, (Nat.le_trans K2.1 y7_0), r7_0, r7_1, r7_2, r7_3, r7_4, r7_5⟩)
set_option maxRecDepth 65536 in
set_option maxHeartbeats 40000000 in
theorem own_addi1 (l : Launch) (Z : State) (a0 : Array Value) (hw : ∀ d ∈ tables_1, d.before a0 Z = true) (a : Addr) (d : Addr) (kt : ClassId) (mc : Int32) (ev : Addr) (x0 : Addr) (h0 : Heap) (O0 : own_Old Z h0) (g0_E : Exa Z h0 a "java/util/ArrayList") (g1_G : Z.heap.size ≤ a) (g2_G : Z.heap.size ≤ d) (g3_hne : a ≠ d) (g4_F : Fld Z h0 a "java/util/AbstractList" "modCount" "I" (.int mc)) (g5_F : Fld Z h0 a "java/util/ArrayList" "elementData" "[Ljava/lang/Object;" (.ref d)) (g6_F : Fld Z h0 a "java/util/ArrayList" "size" "I" (.int (1 : Int32))) (g7_V : Arv Z h0 d kt (.object "java/lang/Object") (10 : Int32) [(.ref x0), .null, .null, .null, .null, .null, .null, .null, .null, .null] .null) (g8_hov : Ovr Z kt "java/lang/Object") (g9_E : Exa Z h0 ev "java/lang/String") :
    own_Con l Z (⟨"java/util/ArrayList", "add", "(Ljava/lang/Object;[Ljava/lang/Object;I)V"⟩ : MethodName) jdk_38_method_24_code 4 none [] ({ frames := 0, cells := 0, slots := 0, locals := 0 } : Room) #[(.ref a), (.ref ev), (.ref d), (.int (1 : Int32))] h0 (fun rv rh rL => rv = none ∧ own_Fr Z rL ∧ Keep h0 rh [a, d] ∧ (Exa Z rh a "java/util/ArrayList") ∧ (Fld Z rh a "java/util/AbstractList" "modCount" "I" (.int mc)) ∧ (Fld Z rh a "java/util/ArrayList" "elementData" "[Ljava/lang/Object;" (.ref d)) ∧ (Fld Z rh a "java/util/ArrayList" "size" "I" (.int (2 : Int32))) ∧ (Arv Z rh d kt (.object "java/lang/Object") (10 : Int32) [(.ref x0), (.ref ev), .null, .null, .null, .null, .null, .null, .null, .null] .null)) := by
  refine own_intro (plainFor_of_name (by first | (simp [plainName, overriddenIn]; done) | decide +kernel)) ?_
  intro p e s m below meth c s₁ G hx hby hml hown hnm hret hZ X0 e0 hG hR
  have N0 := Fr.nil Z.heap.size
  refine own_entry (Ls := #[.val (.ref a), .val (.ref ev), .val (.ref d), .val (.int (1 : Int32))]) (by first | (simp [entryFrame, mkF, argsToLocals, Value.category]; done) | rfl) ?_
  show G (s₁.setTop (mkF m 0 #[.val (.ref a), .val (.ref ev), .val (.ref d), .val (.int (1 : Int32))] []))
  refine hG _ _ (fun t_ k_ => XS.iloadN X0.here hx rfl (hb hby own_d12_0) rfl k_) ?_
  show G (s₁.setTop (mkF m 1 #[.val (.ref a), .val (.ref ev), .val (.ref d), .val (.int (1 : Int32))] [(.int (1 : Int32))]))
  refine hG _ _ (fun t_ k_ => XS.aloadN X0.here hx rfl (hb hby own_d12_1) rfl rfl k_) ?_
  show G (s₁.setTop (mkF m 2 #[.val (.ref a), .val (.ref ev), .val (.ref d), .val (.int (1 : Int32))] [(.ref d), (.int (1 : Int32))]))
  obtain ⟨c1, Ar1, -, S1, M1, -, -⟩ := id g7_V
  refine hG _ _ (X0.arraylength hx (by rw [e0]; exact Ar1.1) (State.isArrayOf_alike hZ.alike Ar1.2.1) (g := (mkF m 2 #[.val (.ref a), .val (.ref ev), .val (.ref d), .val (.int (1 : Int32))] [(.ref d), (.int (1 : Int32))])) rfl rfl (hb hby own_d12_2)) ?_
  rw [len_of S1 M1]
  show G (s₁.setTop (mkF m 3 #[.val (.ref a), .val (.ref ev), .val (.ref d), .val (.int (1 : Int32))] [(.int (10 : Int32)), (.int (1 : Int32))]))
  refine hG _ _ (fun t_ k_ => XS.icmpYes X0.here hx rfl (pc0 := 3) (pc' := 11) rfl (hb hby own_d12_3) rfl (feq (by decide)).2 (by decide) (by decide) k_) ?_
  show G (s₁.setTop (mkF m 11 #[.val (.ref a), .val (.ref ev), .val (.ref d), .val (.int (1 : Int32))] []))
  refine hG _ _ (fun t_ k_ => XS.aloadN X0.here hx rfl (hb hby own_d12_11) rfl rfl k_) ?_
  show G (s₁.setTop (mkF m 12 #[.val (.ref a), .val (.ref ev), .val (.ref d), .val (.int (1 : Int32))] [(.ref d)]))
  refine hG _ _ (fun t_ k_ => XS.iloadN X0.here hx rfl (hb hby own_d12_12) rfl k_) ?_
  show G (s₁.setTop (mkF m 13 #[.val (.ref a), .val (.ref ev), .val (.ref d), .val (.int (1 : Int32))] [(.int (1 : Int32)), (.ref d)]))
  refine hG _ _ (fun t_ k_ => XS.aloadN X0.here hx rfl (hb hby own_d12_13) rfl rfl k_) ?_
  show G (s₁.setTop (mkF m 14 #[.val (.ref a), .val (.ref ev), .val (.ref d), .val (.int (1 : Int32))] [(.ref ev), (.int (1 : Int32)), (.ref d)]))
  obtain ⟨c2, Ar2, q2, S2, M2, H2, G2⟩ := id g7_V
  obtain ⟨T2, h2, X2, e2, W2, st2⟩ := stR X0 hx hZ e0 Ar2 (j := (1 : Int32)) (inb_of S2 ⟨by decide, by decide⟩) rfl (Sto.ofV Ar2 q2 g8_hov (Ins.of_exa g9_E (hw _ (List.mem_of_getElem? (i := 89) rfl)))) (g := (mkF m 14 #[.val (.ref a), .val (.ref ev), .val (.ref d), .val (.int (1 : Int32))] [(.ref ev), (.int (1 : Int32)), (.ref d)])) rfl rfl (hb hby own_d12_14)
  refine hG _ _ st2 ?_
  have K2 : Keep h0 h2 [a, d] := (Keep.refl h0 [a, d]).wr W2 (Or.inl (List.mem_of_getElem? (i := 1) rfl))
  have O2 : own_Old Z h2 := O0.wr W2 g2_G
  have V2 : Arv Z h2 d kt (.object "java/lang/Object") (10 : Int32) [(.ref x0), (.ref ev), .null, .null, .null, .null, .null, .null, .null, .null] .null := Arv.set Ar2 q2 S2 M2 H2 G2 rfl W2 1 rfl (Nat.le_of_ble_eq_true rfl)
  have N2 := Fr.snoc X2 N0 g2_G
  show G (T2.setTop (mkF m 15 #[.val (.ref a), .val (.ref ev), .val (.ref d), .val (.int (1 : Int32))] []))
  refine hG _ _ (fun t_ k_ => XS.aloadN X2.here hx rfl (hb hby own_d12_15) rfl rfl k_) ?_
  show G (T2.setTop (mkF m 16 #[.val (.ref a), .val (.ref ev), .val (.ref d), .val (.int (1 : Int32))] [(.ref a)]))
  refine hG _ _ (fun t_ k_ => XS.iloadN X2.here hx rfl (hb hby own_d12_16) rfl k_) ?_
  show G (T2.setTop (mkF m 17 #[.val (.ref a), .val (.ref ev), .val (.ref d), .val (.int (1 : Int32))] [(.int (1 : Int32)), (.ref a)]))
  refine hG _ _ (fun t_ k_ => XS.iconst X2.here hx rfl (hb hby own_d12_17) k_) ?_
  show G (T2.setTop (mkF m 18 #[.val (.ref a), .val (.ref ev), .val (.ref d), .val (.int (1 : Int32))] [(.int (1 : Int32)), (.int (1 : Int32)), (.ref a)]))
  refine hG _ _ (fun t_ k_ => XS.iadd X2.here hx rfl (hb hby own_d12_18) rfl k_) ?_
  show G (T2.setTop (mkF m 19 #[.val (.ref a), .val (.ref ev), .val (.ref d), .val (.int (1 : Int32))] [(.int ((1 : Int32) + (1 : Int32))), (.ref a)]))
  rw [show (1 : Int32) + (1 : Int32) = (2 : Int32) from by decide]
  show G (T2.setTop (mkF m 19 #[.val (.ref a), .val (.ref ev), .val (.ref d), .val (.int (1 : Int32))] [(.int (2 : Int32)), (.ref a)]))
  have f4 := (g6_F.other W2 (Or.inl g3_hne))
  have f5 := (g0_E.wr W2)
  obtain ⟨T3, h3, X3, e3, W3, st3⟩ := putF X2 hx hZ hown (host := "") (Or.inl (hw _ (List.mem_of_getElem? (i := 66) rfl))) Via.refl e2 f4 f5 (Or.inl (hw _ (List.mem_of_getElem? (i := 67) rfl))) (hw _ (List.mem_of_getElem? (i := 36) rfl)) (ty := .int) (by decide) rfl rfl (g := (mkF m 19 #[.val (.ref a), .val (.ref ev), .val (.ref d), .val (.int (1 : Int32))] [(.int (2 : Int32)), (.ref a)])) rfl rfl (hb hby own_d12_19)
  refine hG _ _ st3 ?_
  have K3 : Keep h0 h3 [a, d] := K2.wr W3 (Or.inl (List.mem_of_getElem? (i := 0) rfl))
  have O3 : own_Old Z h3 := O2.wr W3 g1_G
  have N3 := Fr.snoc X3 N2 g1_G
  show G (T3.setTop (mkF m 22 #[.val (.ref a), .val (.ref ev), .val (.ref d), .val (.int (1 : Int32))] []))
  have f6 := (f5.wr W3)
  have f7 := ((g4_F.other W2 (Or.inl g3_hne)).other W3 (Or.inr (slot_ne (Or.inl (hw _ (List.mem_of_getElem? (i := 55) rfl))) (Or.inl (hw _ (List.mem_of_getElem? (i := 67) rfl))) (by decide) (t := .int) (t' := .int) (by decide) (by decide))))
  have f8 := ((g5_F.other W2 (Or.inl g3_hne)).other W3 (Or.inr (slot_ne (Or.inl (hw _ (List.mem_of_getElem? (i := 58) rfl))) (Or.inl (hw _ (List.mem_of_getElem? (i := 67) rfl))) (by decide) (t := (.array (.object "java/lang/Object"))) (t' := .int) (by decide) (by decide))))
  have f9 := (V2.other W3 (Ne.symm g3_hne))
  exact own_retV hR hret X3 hx (hb hby own_d12_22) (by decide) (by decide) (by rw [e3]; exact ⟨rfl, N3, K3, f6, f7, f8, (f4.same W3), f9⟩)
set_option maxRecDepth 65536 in
set_option maxHeartbeats 40000000 in
theorem own_add1 (l : Launch) (Z : State) (a0 : Array Value) (hw : ∀ d ∈ tables_1, d.before a0 Z = true) (a : Addr) (d : Addr) (kt : ClassId) (mc : Int32) (ev : Addr) (x0 : Addr) (h0 : Heap) (O0 : own_Old Z h0) (g0_E : Exa Z h0 a "java/util/ArrayList") (g1_G : Z.heap.size ≤ a) (g2_G : Z.heap.size ≤ d) (g3_hne : a ≠ d) (g4_F : Fld Z h0 a "java/util/AbstractList" "modCount" "I" (.int mc)) (g5_F : Fld Z h0 a "java/util/ArrayList" "elementData" "[Ljava/lang/Object;" (.ref d)) (g6_F : Fld Z h0 a "java/util/ArrayList" "size" "I" (.int (1 : Int32))) (g7_V : Arv Z h0 d kt (.object "java/lang/Object") (10 : Int32) [(.ref x0), .null, .null, .null, .null, .null, .null, .null, .null, .null] .null) (g8_hov : Ovr Z kt "java/lang/Object") (g9_E : Exa Z h0 ev "java/lang/String") :
    own_Con l Z (⟨"java/util/ArrayList", "add", "(Ljava/lang/Object;)Z"⟩ : MethodName) jdk_38_method_25_code 2 (some .boolean) [] ({ frames := 1, cells := 0, slots := 0, locals := 15 } : Room) #[(.ref a), (.ref ev)] h0 (fun rv rh rL => rv = some (.int (1 : Int32)) ∧ own_Fr Z rL ∧ Keep h0 rh [a, d] ∧ (Exa Z rh a "java/util/ArrayList") ∧ (Fld Z rh a "java/util/AbstractList" "modCount" "I" (.int (mc + (1 : Int32)))) ∧ (Fld Z rh a "java/util/ArrayList" "elementData" "[Ljava/lang/Object;" (.ref d)) ∧ (Fld Z rh a "java/util/ArrayList" "size" "I" (.int (2 : Int32))) ∧ (Arv Z rh d kt (.object "java/lang/Object") (10 : Int32) [(.ref x0), (.ref ev), .null, .null, .null, .null, .null, .null, .null, .null] .null)) := by
  refine own_intro (plainFor_of_name (by first | (simp [plainName, overriddenIn]; done) | decide +kernel)) ?_
  intro p e s m below meth c s₁ G hx hby hml hown hnm hret hZ X0 e0 hG hR
  have N0 := Fr.nil Z.heap.size
  refine own_entry (Ls := #[.val (.ref a), .val (.ref ev)]) (by first | (simp [entryFrame, mkF, argsToLocals, Value.category]; done) | rfl) ?_
  show G (s₁.setTop (mkF m 0 #[.val (.ref a), .val (.ref ev)] []))
  refine hG _ _ (fun t_ k_ => XS.aloadN X0.here hx rfl (hb hby own_d11_0) rfl rfl k_) ?_
  show G (s₁.setTop (mkF m 1 #[.val (.ref a), .val (.ref ev)] [(.ref a)]))
  refine hG _ _ (fun t_ k_ => XS.dup X0.here hx rfl (hb hby own_d11_1) rfl rfl k_) ?_
  show G (s₁.setTop (mkF m 2 #[.val (.ref a), .val (.ref ev)] [(.ref a), (.ref a)]))
  obtain ⟨T1, X1, e1, st1⟩ := getF X0 hx hZ hown (host := "") (Or.inl (hw _ (List.mem_of_getElem? (i := 64) rfl))) (Via.of (hw _ (List.mem_of_getElem? (i := 65) rfl))) e0 g4_F (g := (mkF m 2 #[.val (.ref a), .val (.ref ev)] [(.ref a), (.ref a)])) rfl rfl (hb hby own_d11_2)
  refine hG _ _ st1 ?_
  show G (T1.setTop (mkF m 5 #[.val (.ref a), .val (.ref ev)] [(.int mc), (.ref a)]))
  refine hG _ _ (fun t_ k_ => XS.iconst X1.here hx rfl (hb hby own_d11_5) k_) ?_
  show G (T1.setTop (mkF m 6 #[.val (.ref a), .val (.ref ev)] [(.int (1 : Int32)), (.int mc), (.ref a)]))
  refine hG _ _ (fun t_ k_ => XS.iadd X1.here hx rfl (hb hby own_d11_6) rfl k_) ?_
  show G (T1.setTop (mkF m 7 #[.val (.ref a), .val (.ref ev)] [(.int (mc + (1 : Int32))), (.ref a)]))
  obtain ⟨T2, h2, X2, e2, W2, st2⟩ := putF X1 hx hZ hown (host := "") (Or.inl (hw _ (List.mem_of_getElem? (i := 64) rfl))) (Via.of (hw _ (List.mem_of_getElem? (i := 65) rfl))) e1 g4_F g0_E (Or.inl (hw _ (List.mem_of_getElem? (i := 55) rfl))) (hw _ (List.mem_of_getElem? (i := 36) rfl)) (ty := .int) (by decide) rfl rfl (g := (mkF m 7 #[.val (.ref a), .val (.ref ev)] [(.int (mc + (1 : Int32))), (.ref a)])) rfl rfl (hb hby own_d11_7)
  refine hG _ _ st2 ?_
  have K2 : Keep h0 h2 [a, d] := (Keep.refl h0 [a, d]).wr W2 (Or.inl (List.mem_of_getElem? (i := 0) rfl))
  have O2 : own_Old Z h2 := O0.wr W2 g1_G
  have N2 := Fr.snoc X2 N0 g1_G
  show G (T2.setTop (mkF m 10 #[.val (.ref a), .val (.ref ev)] []))
  refine hG _ _ (fun t_ k_ => XS.aloadN X2.here hx rfl (hb hby own_d11_10) rfl rfl k_) ?_
  show G (T2.setTop (mkF m 11 #[.val (.ref a), .val (.ref ev)] [(.ref a)]))
  refine hG _ _ (fun t_ k_ => XS.aloadN X2.here hx rfl (hb hby own_d11_11) rfl rfl k_) ?_
  show G (T2.setTop (mkF m 12 #[.val (.ref a), .val (.ref ev)] [(.ref ev), (.ref a)]))
  refine hG _ _ (fun t_ k_ => XS.aloadN X2.here hx rfl (hb hby own_d11_12) rfl rfl k_) ?_
  show G (T2.setTop (mkF m 13 #[.val (.ref a), .val (.ref ev)] [(.ref a), (.ref ev), (.ref a)]))
  have f4 := (g5_F.other W2 (Or.inr (slot_ne (Or.inl (hw _ (List.mem_of_getElem? (i := 58) rfl))) (Or.inl (hw _ (List.mem_of_getElem? (i := 55) rfl))) (by decide) (t := (.array (.object "java/lang/Object"))) (t' := .int) (by decide) (by decide))))
  obtain ⟨T3, X3, e3, st3⟩ := getF X2 hx hZ hown (host := "") (Or.inl (hw _ (List.mem_of_getElem? (i := 57) rfl))) Via.refl e2 f4 (g := (mkF m 13 #[.val (.ref a), .val (.ref ev)] [(.ref a), (.ref ev), (.ref a)])) rfl rfl (hb hby own_d11_13)
  refine hG _ _ st3 ?_
  show G (T3.setTop (mkF m 16 #[.val (.ref a), .val (.ref ev)] [(.ref d), (.ref ev), (.ref a)]))
  refine hG _ _ (fun t_ k_ => XS.aloadN X3.here hx rfl (hb hby own_d11_16) rfl rfl k_) ?_
  show G (T3.setTop (mkF m 17 #[.val (.ref a), .val (.ref ev)] [(.ref a), (.ref d), (.ref ev), (.ref a)]))
  have f6 := (g6_F.other W2 (Or.inr (slot_ne (Or.inl (hw _ (List.mem_of_getElem? (i := 67) rfl))) (Or.inl (hw _ (List.mem_of_getElem? (i := 55) rfl))) (by decide) (t := .int) (t' := .int) (by decide) (by decide))))
  obtain ⟨T5, X5, e5, st5⟩ := getF X3 hx hZ hown (host := "") (Or.inl (hw _ (List.mem_of_getElem? (i := 66) rfl))) Via.refl e3 f6 (g := (mkF m 17 #[.val (.ref a), .val (.ref ev)] [(.ref a), (.ref d), (.ref ev), (.ref a)])) rfl rfl (hb hby own_d11_17)
  refine hG _ _ st5 ?_
  show G (T5.setTop (mkF m 20 #[.val (.ref a), .val (.ref ev)] [(.int (1 : Int32)), (.ref d), (.ref ev), (.ref a)]))
  have f8 := (g0_E.wr W2)
  have f9 := (g7_V.other W2 (Ne.symm g3_hne))
  have f10 := (g9_E.wr W2)
  refine own_callP X5 hx hZ hG hown (hw _ (List.mem_of_getElem? (i := 68) rfl)) (hw _ (List.mem_of_getElem? (i := 69) rfl)) (hw _ (List.mem_of_getElem? (i := 71) rfl)) (hw _ (List.mem_of_getElem? (i := 70) rfl)) (hw _ (List.mem_of_getElem? (i := 37) rfl)) (hw _ (List.mem_of_getElem? (i := 72) rfl)) (by decide) 0 (own_addi1 l Z a0 hw a d kt (mc + (1 : Int32)) ev x0 h2 O2 f8 g1_G g2_G g3_hne (g4_F.same W2) f4 f6 f9 g8_hov f10) (by decide) (by decide) e5 f8 (by rw [hml]; rfl) (lenOf own_pd14 rfl) (argsL := [(.ref ev), (.ref d), (.int (1 : Int32))]) (rest := []) rfl rfl (Nat.le_of_eq rfl) (hb hby own_d11_20) (by decide) (by decide) ?_
  intro T7 h7 v7 L7 X7 e7 q7
  obtain ⟨rfl, M7, J7, r7_0, r7_1, r7_2, r7_3, r7_4⟩ := q7
  have N7 := Fr.app N2 M7
  have K7 : Keep h0 h7 [a, d] := K2.trans J7 (allS (Or.inl (List.mem_of_getElem? (i := 0) rfl)) (allS (Or.inl (List.mem_of_getElem? (i := 1) rfl)) all0))
  have O7 : own_Old Z h7 := O2.keep J7 (allS g1_G (allS g2_G all0))
  show G (T7.setTop (mkF m 23 #[.val (.ref a), .val (.ref ev)] []))
  refine hG _ _ (fun t_ k_ => XS.iconst X7.here hx rfl (hb hby own_d11_23) k_) ?_
  show G (T7.setTop (mkF m 24 #[.val (.ref a), .val (.ref ev)] [(.int (1 : Int32))]))
  exact own_retN hR hret (by simp) X7 hx (hb hby own_d11_24) (by decide) (by decide) (by rw [e7]; exact ⟨rfl, N7, K7, r7_0, r7_1, r7_2, r7_3, r7_4⟩)
set_option maxRecDepth 65536 in
set_option maxHeartbeats 40000000 in
theorem own_addi2 (l : Launch) (Z : State) (a0 : Array Value) (hw : ∀ d ∈ tables_1, d.before a0 Z = true) (a : Addr) (d : Addr) (kt : ClassId) (mc : Int32) (ev : Addr) (x0 : Addr) (x1 : Addr) (h0 : Heap) (O0 : own_Old Z h0) (g0_E : Exa Z h0 a "java/util/ArrayList") (g1_G : Z.heap.size ≤ a) (g2_G : Z.heap.size ≤ d) (g3_hne : a ≠ d) (g4_F : Fld Z h0 a "java/util/AbstractList" "modCount" "I" (.int mc)) (g5_F : Fld Z h0 a "java/util/ArrayList" "elementData" "[Ljava/lang/Object;" (.ref d)) (g6_F : Fld Z h0 a "java/util/ArrayList" "size" "I" (.int (2 : Int32))) (g7_V : Arv Z h0 d kt (.object "java/lang/Object") (10 : Int32) [(.ref x0), (.ref x1), .null, .null, .null, .null, .null, .null, .null, .null] .null) (g8_hov : Ovr Z kt "java/lang/Object") (g9_E : Exa Z h0 ev "java/lang/String") :
    own_Con l Z (⟨"java/util/ArrayList", "add", "(Ljava/lang/Object;[Ljava/lang/Object;I)V"⟩ : MethodName) jdk_38_method_24_code 4 none [] ({ frames := 0, cells := 0, slots := 0, locals := 0 } : Room) #[(.ref a), (.ref ev), (.ref d), (.int (2 : Int32))] h0 (fun rv rh rL => rv = none ∧ own_Fr Z rL ∧ Keep h0 rh [a, d] ∧ (Exa Z rh a "java/util/ArrayList") ∧ (Fld Z rh a "java/util/AbstractList" "modCount" "I" (.int mc)) ∧ (Fld Z rh a "java/util/ArrayList" "elementData" "[Ljava/lang/Object;" (.ref d)) ∧ (Fld Z rh a "java/util/ArrayList" "size" "I" (.int (3 : Int32))) ∧ (Arv Z rh d kt (.object "java/lang/Object") (10 : Int32) [(.ref x0), (.ref x1), (.ref ev), .null, .null, .null, .null, .null, .null, .null] .null)) := by
  refine own_intro (plainFor_of_name (by first | (simp [plainName, overriddenIn]; done) | decide +kernel)) ?_
  intro p e s m below meth c s₁ G hx hby hml hown hnm hret hZ X0 e0 hG hR
  have N0 := Fr.nil Z.heap.size
  refine own_entry (Ls := #[.val (.ref a), .val (.ref ev), .val (.ref d), .val (.int (2 : Int32))]) (by first | (simp [entryFrame, mkF, argsToLocals, Value.category]; done) | rfl) ?_
  show G (s₁.setTop (mkF m 0 #[.val (.ref a), .val (.ref ev), .val (.ref d), .val (.int (2 : Int32))] []))
  refine hG _ _ (fun t_ k_ => XS.iloadN X0.here hx rfl (hb hby own_d12_0) rfl k_) ?_
  show G (s₁.setTop (mkF m 1 #[.val (.ref a), .val (.ref ev), .val (.ref d), .val (.int (2 : Int32))] [(.int (2 : Int32))]))
  refine hG _ _ (fun t_ k_ => XS.aloadN X0.here hx rfl (hb hby own_d12_1) rfl rfl k_) ?_
  show G (s₁.setTop (mkF m 2 #[.val (.ref a), .val (.ref ev), .val (.ref d), .val (.int (2 : Int32))] [(.ref d), (.int (2 : Int32))]))
  obtain ⟨c1, Ar1, -, S1, M1, -, -⟩ := id g7_V
  refine hG _ _ (X0.arraylength hx (by rw [e0]; exact Ar1.1) (State.isArrayOf_alike hZ.alike Ar1.2.1) (g := (mkF m 2 #[.val (.ref a), .val (.ref ev), .val (.ref d), .val (.int (2 : Int32))] [(.ref d), (.int (2 : Int32))])) rfl rfl (hb hby own_d12_2)) ?_
  rw [len_of S1 M1]
  show G (s₁.setTop (mkF m 3 #[.val (.ref a), .val (.ref ev), .val (.ref d), .val (.int (2 : Int32))] [(.int (10 : Int32)), (.int (2 : Int32))]))
  refine hG _ _ (fun t_ k_ => XS.icmpYes X0.here hx rfl (pc0 := 3) (pc' := 11) rfl (hb hby own_d12_3) rfl (feq (by decide)).2 (by decide) (by decide) k_) ?_
  show G (s₁.setTop (mkF m 11 #[.val (.ref a), .val (.ref ev), .val (.ref d), .val (.int (2 : Int32))] []))
  refine hG _ _ (fun t_ k_ => XS.aloadN X0.here hx rfl (hb hby own_d12_11) rfl rfl k_) ?_
  show G (s₁.setTop (mkF m 12 #[.val (.ref a), .val (.ref ev), .val (.ref d), .val (.int (2 : Int32))] [(.ref d)]))
  refine hG _ _ (fun t_ k_ => XS.iloadN X0.here hx rfl (hb hby own_d12_12) rfl k_) ?_
  show G (s₁.setTop (mkF m 13 #[.val (.ref a), .val (.ref ev), .val (.ref d), .val (.int (2 : Int32))] [(.int (2 : Int32)), (.ref d)]))
  refine hG _ _ (fun t_ k_ => XS.aloadN X0.here hx rfl (hb hby own_d12_13) rfl rfl k_) ?_
  show G (s₁.setTop (mkF m 14 #[.val (.ref a), .val (.ref ev), .val (.ref d), .val (.int (2 : Int32))] [(.ref ev), (.int (2 : Int32)), (.ref d)]))
  obtain ⟨c2, Ar2, q2, S2, M2, H2, G2⟩ := id g7_V
  obtain ⟨T2, h2, X2, e2, W2, st2⟩ := stR X0 hx hZ e0 Ar2 (j := (2 : Int32)) (inb_of S2 ⟨by decide, by decide⟩) rfl (Sto.ofV Ar2 q2 g8_hov (Ins.of_exa g9_E (hw _ (List.mem_of_getElem? (i := 89) rfl)))) (g := (mkF m 14 #[.val (.ref a), .val (.ref ev), .val (.ref d), .val (.int (2 : Int32))] [(.ref ev), (.int (2 : Int32)), (.ref d)])) rfl rfl (hb hby own_d12_14)
  refine hG _ _ st2 ?_
  have K2 : Keep h0 h2 [a, d] := (Keep.refl h0 [a, d]).wr W2 (Or.inl (List.mem_of_getElem? (i := 1) rfl))
  have O2 : own_Old Z h2 := O0.wr W2 g2_G
  have V2 : Arv Z h2 d kt (.object "java/lang/Object") (10 : Int32) [(.ref x0), (.ref x1), (.ref ev), .null, .null, .null, .null, .null, .null, .null] .null := Arv.set Ar2 q2 S2 M2 H2 G2 rfl W2 2 rfl (Nat.le_of_ble_eq_true rfl)
  have N2 := Fr.snoc X2 N0 g2_G
  show G (T2.setTop (mkF m 15 #[.val (.ref a), .val (.ref ev), .val (.ref d), .val (.int (2 : Int32))] []))
  refine hG _ _ (fun t_ k_ => XS.aloadN X2.here hx rfl (hb hby own_d12_15) rfl rfl k_) ?_
  show G (T2.setTop (mkF m 16 #[.val (.ref a), .val (.ref ev), .val (.ref d), .val (.int (2 : Int32))] [(.ref a)]))
  refine hG _ _ (fun t_ k_ => XS.iloadN X2.here hx rfl (hb hby own_d12_16) rfl k_) ?_
  show G (T2.setTop (mkF m 17 #[.val (.ref a), .val (.ref ev), .val (.ref d), .val (.int (2 : Int32))] [(.int (2 : Int32)), (.ref a)]))
  refine hG _ _ (fun t_ k_ => XS.iconst X2.here hx rfl (hb hby own_d12_17) k_) ?_
  show G (T2.setTop (mkF m 18 #[.val (.ref a), .val (.ref ev), .val (.ref d), .val (.int (2 : Int32))] [(.int (1 : Int32)), (.int (2 : Int32)), (.ref a)]))
  refine hG _ _ (fun t_ k_ => XS.iadd X2.here hx rfl (hb hby own_d12_18) rfl k_) ?_
  show G (T2.setTop (mkF m 19 #[.val (.ref a), .val (.ref ev), .val (.ref d), .val (.int (2 : Int32))] [(.int ((2 : Int32) + (1 : Int32))), (.ref a)]))
  rw [show (2 : Int32) + (1 : Int32) = (3 : Int32) from by decide]
  show G (T2.setTop (mkF m 19 #[.val (.ref a), .val (.ref ev), .val (.ref d), .val (.int (2 : Int32))] [(.int (3 : Int32)), (.ref a)]))
  have f4 := (g6_F.other W2 (Or.inl g3_hne))
  have f5 := (g0_E.wr W2)
  obtain ⟨T3, h3, X3, e3, W3, st3⟩ := putF X2 hx hZ hown (host := "") (Or.inl (hw _ (List.mem_of_getElem? (i := 66) rfl))) Via.refl e2 f4 f5 (Or.inl (hw _ (List.mem_of_getElem? (i := 67) rfl))) (hw _ (List.mem_of_getElem? (i := 36) rfl)) (ty := .int) (by decide) rfl rfl (g := (mkF m 19 #[.val (.ref a), .val (.ref ev), .val (.ref d), .val (.int (2 : Int32))] [(.int (3 : Int32)), (.ref a)])) rfl rfl (hb hby own_d12_19)
  refine hG _ _ st3 ?_
  have K3 : Keep h0 h3 [a, d] := K2.wr W3 (Or.inl (List.mem_of_getElem? (i := 0) rfl))
  have O3 : own_Old Z h3 := O2.wr W3 g1_G
  have N3 := Fr.snoc X3 N2 g1_G
  show G (T3.setTop (mkF m 22 #[.val (.ref a), .val (.ref ev), .val (.ref d), .val (.int (2 : Int32))] []))
  have f6 := (f5.wr W3)
  have f7 := ((g4_F.other W2 (Or.inl g3_hne)).other W3 (Or.inr (slot_ne (Or.inl (hw _ (List.mem_of_getElem? (i := 55) rfl))) (Or.inl (hw _ (List.mem_of_getElem? (i := 67) rfl))) (by decide) (t := .int) (t' := .int) (by decide) (by decide))))
  have f8 := ((g5_F.other W2 (Or.inl g3_hne)).other W3 (Or.inr (slot_ne (Or.inl (hw _ (List.mem_of_getElem? (i := 58) rfl))) (Or.inl (hw _ (List.mem_of_getElem? (i := 67) rfl))) (by decide) (t := (.array (.object "java/lang/Object"))) (t' := .int) (by decide) (by decide))))
  have f9 := (V2.other W3 (Ne.symm g3_hne))
  exact own_retV hR hret X3 hx (hb hby own_d12_22) (by decide) (by decide) (by rw [e3]; exact ⟨rfl, N3, K3, f6, f7, f8, (f4.same W3), f9⟩)
set_option maxRecDepth 65536 in
set_option maxHeartbeats 40000000 in
theorem own_add2 (l : Launch) (Z : State) (a0 : Array Value) (hw : ∀ d ∈ tables_1, d.before a0 Z = true) (a : Addr) (d : Addr) (kt : ClassId) (mc : Int32) (ev : Addr) (x0 : Addr) (x1 : Addr) (h0 : Heap) (O0 : own_Old Z h0) (g0_E : Exa Z h0 a "java/util/ArrayList") (g1_G : Z.heap.size ≤ a) (g2_G : Z.heap.size ≤ d) (g3_hne : a ≠ d) (g4_F : Fld Z h0 a "java/util/AbstractList" "modCount" "I" (.int mc)) (g5_F : Fld Z h0 a "java/util/ArrayList" "elementData" "[Ljava/lang/Object;" (.ref d)) (g6_F : Fld Z h0 a "java/util/ArrayList" "size" "I" (.int (2 : Int32))) (g7_V : Arv Z h0 d kt (.object "java/lang/Object") (10 : Int32) [(.ref x0), (.ref x1), .null, .null, .null, .null, .null, .null, .null, .null] .null) (g8_hov : Ovr Z kt "java/lang/Object") (g9_E : Exa Z h0 ev "java/lang/String") :
    own_Con l Z (⟨"java/util/ArrayList", "add", "(Ljava/lang/Object;)Z"⟩ : MethodName) jdk_38_method_25_code 2 (some .boolean) [] ({ frames := 1, cells := 0, slots := 0, locals := 15 } : Room) #[(.ref a), (.ref ev)] h0 (fun rv rh rL => rv = some (.int (1 : Int32)) ∧ own_Fr Z rL ∧ Keep h0 rh [a, d] ∧ (Exa Z rh a "java/util/ArrayList") ∧ (Fld Z rh a "java/util/AbstractList" "modCount" "I" (.int (mc + (1 : Int32)))) ∧ (Fld Z rh a "java/util/ArrayList" "elementData" "[Ljava/lang/Object;" (.ref d)) ∧ (Fld Z rh a "java/util/ArrayList" "size" "I" (.int (3 : Int32))) ∧ (Arv Z rh d kt (.object "java/lang/Object") (10 : Int32) [(.ref x0), (.ref x1), (.ref ev), .null, .null, .null, .null, .null, .null, .null] .null)) := by
  refine own_intro (plainFor_of_name (by first | (simp [plainName, overriddenIn]; done) | decide +kernel)) ?_
  intro p e s m below meth c s₁ G hx hby hml hown hnm hret hZ X0 e0 hG hR
  have N0 := Fr.nil Z.heap.size
  refine own_entry (Ls := #[.val (.ref a), .val (.ref ev)]) (by first | (simp [entryFrame, mkF, argsToLocals, Value.category]; done) | rfl) ?_
  show G (s₁.setTop (mkF m 0 #[.val (.ref a), .val (.ref ev)] []))
  refine hG _ _ (fun t_ k_ => XS.aloadN X0.here hx rfl (hb hby own_d11_0) rfl rfl k_) ?_
  show G (s₁.setTop (mkF m 1 #[.val (.ref a), .val (.ref ev)] [(.ref a)]))
  refine hG _ _ (fun t_ k_ => XS.dup X0.here hx rfl (hb hby own_d11_1) rfl rfl k_) ?_
  show G (s₁.setTop (mkF m 2 #[.val (.ref a), .val (.ref ev)] [(.ref a), (.ref a)]))
  obtain ⟨T1, X1, e1, st1⟩ := getF X0 hx hZ hown (host := "") (Or.inl (hw _ (List.mem_of_getElem? (i := 64) rfl))) (Via.of (hw _ (List.mem_of_getElem? (i := 65) rfl))) e0 g4_F (g := (mkF m 2 #[.val (.ref a), .val (.ref ev)] [(.ref a), (.ref a)])) rfl rfl (hb hby own_d11_2)
  refine hG _ _ st1 ?_
  show G (T1.setTop (mkF m 5 #[.val (.ref a), .val (.ref ev)] [(.int mc), (.ref a)]))
  refine hG _ _ (fun t_ k_ => XS.iconst X1.here hx rfl (hb hby own_d11_5) k_) ?_
  show G (T1.setTop (mkF m 6 #[.val (.ref a), .val (.ref ev)] [(.int (1 : Int32)), (.int mc), (.ref a)]))
  refine hG _ _ (fun t_ k_ => XS.iadd X1.here hx rfl (hb hby own_d11_6) rfl k_) ?_
  show G (T1.setTop (mkF m 7 #[.val (.ref a), .val (.ref ev)] [(.int (mc + (1 : Int32))), (.ref a)]))
  obtain ⟨T2, h2, X2, e2, W2, st2⟩ := putF X1 hx hZ hown (host := "") (Or.inl (hw _ (List.mem_of_getElem? (i := 64) rfl))) (Via.of (hw _ (List.mem_of_getElem? (i := 65) rfl))) e1 g4_F g0_E (Or.inl (hw _ (List.mem_of_getElem? (i := 55) rfl))) (hw _ (List.mem_of_getElem? (i := 36) rfl)) (ty := .int) (by decide) rfl rfl (g := (mkF m 7 #[.val (.ref a), .val (.ref ev)] [(.int (mc + (1 : Int32))), (.ref a)])) rfl rfl (hb hby own_d11_7)
  refine hG _ _ st2 ?_
  have K2 : Keep h0 h2 [a, d] := (Keep.refl h0 [a, d]).wr W2 (Or.inl (List.mem_of_getElem? (i := 0) rfl))
  have O2 : own_Old Z h2 := O0.wr W2 g1_G
  have N2 := Fr.snoc X2 N0 g1_G
  show G (T2.setTop (mkF m 10 #[.val (.ref a), .val (.ref ev)] []))
  refine hG _ _ (fun t_ k_ => XS.aloadN X2.here hx rfl (hb hby own_d11_10) rfl rfl k_) ?_
  show G (T2.setTop (mkF m 11 #[.val (.ref a), .val (.ref ev)] [(.ref a)]))
  refine hG _ _ (fun t_ k_ => XS.aloadN X2.here hx rfl (hb hby own_d11_11) rfl rfl k_) ?_
  show G (T2.setTop (mkF m 12 #[.val (.ref a), .val (.ref ev)] [(.ref ev), (.ref a)]))
  refine hG _ _ (fun t_ k_ => XS.aloadN X2.here hx rfl (hb hby own_d11_12) rfl rfl k_) ?_
  show G (T2.setTop (mkF m 13 #[.val (.ref a), .val (.ref ev)] [(.ref a), (.ref ev), (.ref a)]))
  have f4 := (g5_F.other W2 (Or.inr (slot_ne (Or.inl (hw _ (List.mem_of_getElem? (i := 58) rfl))) (Or.inl (hw _ (List.mem_of_getElem? (i := 55) rfl))) (by decide) (t := (.array (.object "java/lang/Object"))) (t' := .int) (by decide) (by decide))))
  obtain ⟨T3, X3, e3, st3⟩ := getF X2 hx hZ hown (host := "") (Or.inl (hw _ (List.mem_of_getElem? (i := 57) rfl))) Via.refl e2 f4 (g := (mkF m 13 #[.val (.ref a), .val (.ref ev)] [(.ref a), (.ref ev), (.ref a)])) rfl rfl (hb hby own_d11_13)
  refine hG _ _ st3 ?_
  show G (T3.setTop (mkF m 16 #[.val (.ref a), .val (.ref ev)] [(.ref d), (.ref ev), (.ref a)]))
  refine hG _ _ (fun t_ k_ => XS.aloadN X3.here hx rfl (hb hby own_d11_16) rfl rfl k_) ?_
  show G (T3.setTop (mkF m 17 #[.val (.ref a), .val (.ref ev)] [(.ref a), (.ref d), (.ref ev), (.ref a)]))
  have f6 := (g6_F.other W2 (Or.inr (slot_ne (Or.inl (hw _ (List.mem_of_getElem? (i := 67) rfl))) (Or.inl (hw _ (List.mem_of_getElem? (i := 55) rfl))) (by decide) (t := .int) (t' := .int) (by decide) (by decide))))
  obtain ⟨T5, X5, e5, st5⟩ := getF X3 hx hZ hown (host := "") (Or.inl (hw _ (List.mem_of_getElem? (i := 66) rfl))) Via.refl e3 f6 (g := (mkF m 17 #[.val (.ref a), .val (.ref ev)] [(.ref a), (.ref d), (.ref ev), (.ref a)])) rfl rfl (hb hby own_d11_17)
  refine hG _ _ st5 ?_
  show G (T5.setTop (mkF m 20 #[.val (.ref a), .val (.ref ev)] [(.int (2 : Int32)), (.ref d), (.ref ev), (.ref a)]))
  have f8 := (g0_E.wr W2)
  have f9 := (g7_V.other W2 (Ne.symm g3_hne))
  have f10 := (g9_E.wr W2)
  refine own_callP X5 hx hZ hG hown (hw _ (List.mem_of_getElem? (i := 68) rfl)) (hw _ (List.mem_of_getElem? (i := 69) rfl)) (hw _ (List.mem_of_getElem? (i := 71) rfl)) (hw _ (List.mem_of_getElem? (i := 70) rfl)) (hw _ (List.mem_of_getElem? (i := 37) rfl)) (hw _ (List.mem_of_getElem? (i := 72) rfl)) (by decide) 0 (own_addi2 l Z a0 hw a d kt (mc + (1 : Int32)) ev x0 x1 h2 O2 f8 g1_G g2_G g3_hne (g4_F.same W2) f4 f6 f9 g8_hov f10) (by decide) (by decide) e5 f8 (by rw [hml]; rfl) (lenOf own_pd14 rfl) (argsL := [(.ref ev), (.ref d), (.int (2 : Int32))]) (rest := []) rfl rfl (Nat.le_of_eq rfl) (hb hby own_d11_20) (by decide) (by decide) ?_
  intro T7 h7 v7 L7 X7 e7 q7
  obtain ⟨rfl, M7, J7, r7_0, r7_1, r7_2, r7_3, r7_4⟩ := q7
  have N7 := Fr.app N2 M7
  have K7 : Keep h0 h7 [a, d] := K2.trans J7 (allS (Or.inl (List.mem_of_getElem? (i := 0) rfl)) (allS (Or.inl (List.mem_of_getElem? (i := 1) rfl)) all0))
  have O7 : own_Old Z h7 := O2.keep J7 (allS g1_G (allS g2_G all0))
  show G (T7.setTop (mkF m 23 #[.val (.ref a), .val (.ref ev)] []))
  refine hG _ _ (fun t_ k_ => XS.iconst X7.here hx rfl (hb hby own_d11_23) k_) ?_
  show G (T7.setTop (mkF m 24 #[.val (.ref a), .val (.ref ev)] [(.int (1 : Int32))]))
  exact own_retN hR hret (by simp) X7 hx (hb hby own_d11_24) (by decide) (by decide) (by rw [e7]; exact ⟨rfl, N7, K7, r7_0, r7_1, r7_2, r7_3, r7_4⟩)
set_option maxRecDepth 65536 in
set_option maxHeartbeats 40000000 in
theorem own_addi3 (l : Launch) (Z : State) (a0 : Array Value) (hw : ∀ d ∈ tables_1, d.before a0 Z = true) (a : Addr) (d : Addr) (kt : ClassId) (mc : Int32) (ev : Addr) (x0 : Addr) (x1 : Addr) (x2 : Addr) (h0 : Heap) (O0 : own_Old Z h0) (g0_E : Exa Z h0 a "java/util/ArrayList") (g1_G : Z.heap.size ≤ a) (g2_G : Z.heap.size ≤ d) (g3_hne : a ≠ d) (g4_F : Fld Z h0 a "java/util/AbstractList" "modCount" "I" (.int mc)) (g5_F : Fld Z h0 a "java/util/ArrayList" "elementData" "[Ljava/lang/Object;" (.ref d)) (g6_F : Fld Z h0 a "java/util/ArrayList" "size" "I" (.int (3 : Int32))) (g7_V : Arv Z h0 d kt (.object "java/lang/Object") (10 : Int32) [(.ref x0), (.ref x1), (.ref x2), .null, .null, .null, .null, .null, .null, .null] .null) (g8_hov : Ovr Z kt "java/lang/Object") (g9_E : Exa Z h0 ev "java/lang/String") :
    own_Con l Z (⟨"java/util/ArrayList", "add", "(Ljava/lang/Object;[Ljava/lang/Object;I)V"⟩ : MethodName) jdk_38_method_24_code 4 none [] ({ frames := 0, cells := 0, slots := 0, locals := 0 } : Room) #[(.ref a), (.ref ev), (.ref d), (.int (3 : Int32))] h0 (fun rv rh rL => rv = none ∧ own_Fr Z rL ∧ Keep h0 rh [a, d] ∧ (Exa Z rh a "java/util/ArrayList") ∧ (Fld Z rh a "java/util/AbstractList" "modCount" "I" (.int mc)) ∧ (Fld Z rh a "java/util/ArrayList" "elementData" "[Ljava/lang/Object;" (.ref d)) ∧ (Fld Z rh a "java/util/ArrayList" "size" "I" (.int (4 : Int32))) ∧ (Arv Z rh d kt (.object "java/lang/Object") (10 : Int32) [(.ref x0), (.ref x1), (.ref x2), (.ref ev), .null, .null, .null, .null, .null, .null] .null)) := by
  refine own_intro (plainFor_of_name (by first | (simp [plainName, overriddenIn]; done) | decide +kernel)) ?_
  intro p e s m below meth c s₁ G hx hby hml hown hnm hret hZ X0 e0 hG hR
  have N0 := Fr.nil Z.heap.size
  refine own_entry (Ls := #[.val (.ref a), .val (.ref ev), .val (.ref d), .val (.int (3 : Int32))]) (by first | (simp [entryFrame, mkF, argsToLocals, Value.category]; done) | rfl) ?_
  show G (s₁.setTop (mkF m 0 #[.val (.ref a), .val (.ref ev), .val (.ref d), .val (.int (3 : Int32))] []))
  refine hG _ _ (fun t_ k_ => XS.iloadN X0.here hx rfl (hb hby own_d12_0) rfl k_) ?_
  show G (s₁.setTop (mkF m 1 #[.val (.ref a), .val (.ref ev), .val (.ref d), .val (.int (3 : Int32))] [(.int (3 : Int32))]))
  refine hG _ _ (fun t_ k_ => XS.aloadN X0.here hx rfl (hb hby own_d12_1) rfl rfl k_) ?_
  show G (s₁.setTop (mkF m 2 #[.val (.ref a), .val (.ref ev), .val (.ref d), .val (.int (3 : Int32))] [(.ref d), (.int (3 : Int32))]))
  obtain ⟨c1, Ar1, -, S1, M1, -, -⟩ := id g7_V
  refine hG _ _ (X0.arraylength hx (by rw [e0]; exact Ar1.1) (State.isArrayOf_alike hZ.alike Ar1.2.1) (g := (mkF m 2 #[.val (.ref a), .val (.ref ev), .val (.ref d), .val (.int (3 : Int32))] [(.ref d), (.int (3 : Int32))])) rfl rfl (hb hby own_d12_2)) ?_
  rw [len_of S1 M1]
  show G (s₁.setTop (mkF m 3 #[.val (.ref a), .val (.ref ev), .val (.ref d), .val (.int (3 : Int32))] [(.int (10 : Int32)), (.int (3 : Int32))]))
  refine hG _ _ (fun t_ k_ => XS.icmpYes X0.here hx rfl (pc0 := 3) (pc' := 11) rfl (hb hby own_d12_3) rfl (feq (by decide)).2 (by decide) (by decide) k_) ?_
  show G (s₁.setTop (mkF m 11 #[.val (.ref a), .val (.ref ev), .val (.ref d), .val (.int (3 : Int32))] []))
  refine hG _ _ (fun t_ k_ => XS.aloadN X0.here hx rfl (hb hby own_d12_11) rfl rfl k_) ?_
  show G (s₁.setTop (mkF m 12 #[.val (.ref a), .val (.ref ev), .val (.ref d), .val (.int (3 : Int32))] [(.ref d)]))
  refine hG _ _ (fun t_ k_ => XS.iloadN X0.here hx rfl (hb hby own_d12_12) rfl k_) ?_
  show G (s₁.setTop (mkF m 13 #[.val (.ref a), .val (.ref ev), .val (.ref d), .val (.int (3 : Int32))] [(.int (3 : Int32)), (.ref d)]))
  refine hG _ _ (fun t_ k_ => XS.aloadN X0.here hx rfl (hb hby own_d12_13) rfl rfl k_) ?_
  show G (s₁.setTop (mkF m 14 #[.val (.ref a), .val (.ref ev), .val (.ref d), .val (.int (3 : Int32))] [(.ref ev), (.int (3 : Int32)), (.ref d)]))
  obtain ⟨c2, Ar2, q2, S2, M2, H2, G2⟩ := id g7_V
  obtain ⟨T2, h2, X2, e2, W2, st2⟩ := stR X0 hx hZ e0 Ar2 (j := (3 : Int32)) (inb_of S2 ⟨by decide, by decide⟩) rfl (Sto.ofV Ar2 q2 g8_hov (Ins.of_exa g9_E (hw _ (List.mem_of_getElem? (i := 89) rfl)))) (g := (mkF m 14 #[.val (.ref a), .val (.ref ev), .val (.ref d), .val (.int (3 : Int32))] [(.ref ev), (.int (3 : Int32)), (.ref d)])) rfl rfl (hb hby own_d12_14)
  refine hG _ _ st2 ?_
  have K2 : Keep h0 h2 [a, d] := (Keep.refl h0 [a, d]).wr W2 (Or.inl (List.mem_of_getElem? (i := 1) rfl))
  have O2 : own_Old Z h2 := O0.wr W2 g2_G
  have V2 : Arv Z h2 d kt (.object "java/lang/Object") (10 : Int32) [(.ref x0), (.ref x1), (.ref x2), (.ref ev), .null, .null, .null, .null, .null, .null] .null := Arv.set Ar2 q2 S2 M2 H2 G2 rfl W2 3 rfl (Nat.le_of_ble_eq_true rfl)
  have N2 := Fr.snoc X2 N0 g2_G
  show G (T2.setTop (mkF m 15 #[.val (.ref a), .val (.ref ev), .val (.ref d), .val (.int (3 : Int32))] []))
  refine hG _ _ (fun t_ k_ => XS.aloadN X2.here hx rfl (hb hby own_d12_15) rfl rfl k_) ?_
  show G (T2.setTop (mkF m 16 #[.val (.ref a), .val (.ref ev), .val (.ref d), .val (.int (3 : Int32))] [(.ref a)]))
  refine hG _ _ (fun t_ k_ => XS.iloadN X2.here hx rfl (hb hby own_d12_16) rfl k_) ?_
  show G (T2.setTop (mkF m 17 #[.val (.ref a), .val (.ref ev), .val (.ref d), .val (.int (3 : Int32))] [(.int (3 : Int32)), (.ref a)]))
  refine hG _ _ (fun t_ k_ => XS.iconst X2.here hx rfl (hb hby own_d12_17) k_) ?_
  show G (T2.setTop (mkF m 18 #[.val (.ref a), .val (.ref ev), .val (.ref d), .val (.int (3 : Int32))] [(.int (1 : Int32)), (.int (3 : Int32)), (.ref a)]))
  refine hG _ _ (fun t_ k_ => XS.iadd X2.here hx rfl (hb hby own_d12_18) rfl k_) ?_
  show G (T2.setTop (mkF m 19 #[.val (.ref a), .val (.ref ev), .val (.ref d), .val (.int (3 : Int32))] [(.int ((3 : Int32) + (1 : Int32))), (.ref a)]))
  rw [show (3 : Int32) + (1 : Int32) = (4 : Int32) from by decide]
  show G (T2.setTop (mkF m 19 #[.val (.ref a), .val (.ref ev), .val (.ref d), .val (.int (3 : Int32))] [(.int (4 : Int32)), (.ref a)]))
  have f4 := (g6_F.other W2 (Or.inl g3_hne))
  have f5 := (g0_E.wr W2)
  obtain ⟨T3, h3, X3, e3, W3, st3⟩ := putF X2 hx hZ hown (host := "") (Or.inl (hw _ (List.mem_of_getElem? (i := 66) rfl))) Via.refl e2 f4 f5 (Or.inl (hw _ (List.mem_of_getElem? (i := 67) rfl))) (hw _ (List.mem_of_getElem? (i := 36) rfl)) (ty := .int) (by decide) rfl rfl (g := (mkF m 19 #[.val (.ref a), .val (.ref ev), .val (.ref d), .val (.int (3 : Int32))] [(.int (4 : Int32)), (.ref a)])) rfl rfl (hb hby own_d12_19)
  refine hG _ _ st3 ?_
  have K3 : Keep h0 h3 [a, d] := K2.wr W3 (Or.inl (List.mem_of_getElem? (i := 0) rfl))
  have O3 : own_Old Z h3 := O2.wr W3 g1_G
  have N3 := Fr.snoc X3 N2 g1_G
  show G (T3.setTop (mkF m 22 #[.val (.ref a), .val (.ref ev), .val (.ref d), .val (.int (3 : Int32))] []))
  have f6 := (f5.wr W3)
  have f7 := ((g4_F.other W2 (Or.inl g3_hne)).other W3 (Or.inr (slot_ne (Or.inl (hw _ (List.mem_of_getElem? (i := 55) rfl))) (Or.inl (hw _ (List.mem_of_getElem? (i := 67) rfl))) (by decide) (t := .int) (t' := .int) (by decide) (by decide))))
  have f8 := ((g5_F.other W2 (Or.inl g3_hne)).other W3 (Or.inr (slot_ne (Or.inl (hw _ (List.mem_of_getElem? (i := 58) rfl))) (Or.inl (hw _ (List.mem_of_getElem? (i := 67) rfl))) (by decide) (t := (.array (.object "java/lang/Object"))) (t' := .int) (by decide) (by decide))))
  have f9 := (V2.other W3 (Ne.symm g3_hne))
  exact own_retV hR hret X3 hx (hb hby own_d12_22) (by decide) (by decide) (by rw [e3]; exact ⟨rfl, N3, K3, f6, f7, f8, (f4.same W3), f9⟩)
set_option maxRecDepth 65536 in
set_option maxHeartbeats 40000000 in
theorem own_add3 (l : Launch) (Z : State) (a0 : Array Value) (hw : ∀ d ∈ tables_1, d.before a0 Z = true) (a : Addr) (d : Addr) (kt : ClassId) (mc : Int32) (ev : Addr) (x0 : Addr) (x1 : Addr) (x2 : Addr) (h0 : Heap) (O0 : own_Old Z h0) (g0_E : Exa Z h0 a "java/util/ArrayList") (g1_G : Z.heap.size ≤ a) (g2_G : Z.heap.size ≤ d) (g3_hne : a ≠ d) (g4_F : Fld Z h0 a "java/util/AbstractList" "modCount" "I" (.int mc)) (g5_F : Fld Z h0 a "java/util/ArrayList" "elementData" "[Ljava/lang/Object;" (.ref d)) (g6_F : Fld Z h0 a "java/util/ArrayList" "size" "I" (.int (3 : Int32))) (g7_V : Arv Z h0 d kt (.object "java/lang/Object") (10 : Int32) [(.ref x0), (.ref x1), (.ref x2), .null, .null, .null, .null, .null, .null, .null] .null) (g8_hov : Ovr Z kt "java/lang/Object") (g9_E : Exa Z h0 ev "java/lang/String") :
    own_Con l Z (⟨"java/util/ArrayList", "add", "(Ljava/lang/Object;)Z"⟩ : MethodName) jdk_38_method_25_code 2 (some .boolean) [] ({ frames := 1, cells := 0, slots := 0, locals := 15 } : Room) #[(.ref a), (.ref ev)] h0 (fun rv rh rL => rv = some (.int (1 : Int32)) ∧ own_Fr Z rL ∧ Keep h0 rh [a, d] ∧ (Exa Z rh a "java/util/ArrayList") ∧ (Fld Z rh a "java/util/AbstractList" "modCount" "I" (.int (mc + (1 : Int32)))) ∧ (Fld Z rh a "java/util/ArrayList" "elementData" "[Ljava/lang/Object;" (.ref d)) ∧ (Fld Z rh a "java/util/ArrayList" "size" "I" (.int (4 : Int32))) ∧ (Arv Z rh d kt (.object "java/lang/Object") (10 : Int32) [(.ref x0), (.ref x1), (.ref x2), (.ref ev), .null, .null, .null, .null, .null, .null] .null)) := by
  refine own_intro (plainFor_of_name (by first | (simp [plainName, overriddenIn]; done) | decide +kernel)) ?_
  intro p e s m below meth c s₁ G hx hby hml hown hnm hret hZ X0 e0 hG hR
  have N0 := Fr.nil Z.heap.size
  refine own_entry (Ls := #[.val (.ref a), .val (.ref ev)]) (by first | (simp [entryFrame, mkF, argsToLocals, Value.category]; done) | rfl) ?_
  show G (s₁.setTop (mkF m 0 #[.val (.ref a), .val (.ref ev)] []))
  refine hG _ _ (fun t_ k_ => XS.aloadN X0.here hx rfl (hb hby own_d11_0) rfl rfl k_) ?_
  show G (s₁.setTop (mkF m 1 #[.val (.ref a), .val (.ref ev)] [(.ref a)]))
  refine hG _ _ (fun t_ k_ => XS.dup X0.here hx rfl (hb hby own_d11_1) rfl rfl k_) ?_
  show G (s₁.setTop (mkF m 2 #[.val (.ref a), .val (.ref ev)] [(.ref a), (.ref a)]))
  obtain ⟨T1, X1, e1, st1⟩ := getF X0 hx hZ hown (host := "") (Or.inl (hw _ (List.mem_of_getElem? (i := 64) rfl))) (Via.of (hw _ (List.mem_of_getElem? (i := 65) rfl))) e0 g4_F (g := (mkF m 2 #[.val (.ref a), .val (.ref ev)] [(.ref a), (.ref a)])) rfl rfl (hb hby own_d11_2)
  refine hG _ _ st1 ?_
  show G (T1.setTop (mkF m 5 #[.val (.ref a), .val (.ref ev)] [(.int mc), (.ref a)]))
  refine hG _ _ (fun t_ k_ => XS.iconst X1.here hx rfl (hb hby own_d11_5) k_) ?_
  show G (T1.setTop (mkF m 6 #[.val (.ref a), .val (.ref ev)] [(.int (1 : Int32)), (.int mc), (.ref a)]))
  refine hG _ _ (fun t_ k_ => XS.iadd X1.here hx rfl (hb hby own_d11_6) rfl k_) ?_
  show G (T1.setTop (mkF m 7 #[.val (.ref a), .val (.ref ev)] [(.int (mc + (1 : Int32))), (.ref a)]))
  obtain ⟨T2, h2, X2, e2, W2, st2⟩ := putF X1 hx hZ hown (host := "") (Or.inl (hw _ (List.mem_of_getElem? (i := 64) rfl))) (Via.of (hw _ (List.mem_of_getElem? (i := 65) rfl))) e1 g4_F g0_E (Or.inl (hw _ (List.mem_of_getElem? (i := 55) rfl))) (hw _ (List.mem_of_getElem? (i := 36) rfl)) (ty := .int) (by decide) rfl rfl (g := (mkF m 7 #[.val (.ref a), .val (.ref ev)] [(.int (mc + (1 : Int32))), (.ref a)])) rfl rfl (hb hby own_d11_7)
  refine hG _ _ st2 ?_
  have K2 : Keep h0 h2 [a, d] := (Keep.refl h0 [a, d]).wr W2 (Or.inl (List.mem_of_getElem? (i := 0) rfl))
  have O2 : own_Old Z h2 := O0.wr W2 g1_G
  have N2 := Fr.snoc X2 N0 g1_G
  show G (T2.setTop (mkF m 10 #[.val (.ref a), .val (.ref ev)] []))
  refine hG _ _ (fun t_ k_ => XS.aloadN X2.here hx rfl (hb hby own_d11_10) rfl rfl k_) ?_
  show G (T2.setTop (mkF m 11 #[.val (.ref a), .val (.ref ev)] [(.ref a)]))
  refine hG _ _ (fun t_ k_ => XS.aloadN X2.here hx rfl (hb hby own_d11_11) rfl rfl k_) ?_
  show G (T2.setTop (mkF m 12 #[.val (.ref a), .val (.ref ev)] [(.ref ev), (.ref a)]))
  refine hG _ _ (fun t_ k_ => XS.aloadN X2.here hx rfl (hb hby own_d11_12) rfl rfl k_) ?_
  show G (T2.setTop (mkF m 13 #[.val (.ref a), .val (.ref ev)] [(.ref a), (.ref ev), (.ref a)]))
  have f4 := (g5_F.other W2 (Or.inr (slot_ne (Or.inl (hw _ (List.mem_of_getElem? (i := 58) rfl))) (Or.inl (hw _ (List.mem_of_getElem? (i := 55) rfl))) (by decide) (t := (.array (.object "java/lang/Object"))) (t' := .int) (by decide) (by decide))))
  obtain ⟨T3, X3, e3, st3⟩ := getF X2 hx hZ hown (host := "") (Or.inl (hw _ (List.mem_of_getElem? (i := 57) rfl))) Via.refl e2 f4 (g := (mkF m 13 #[.val (.ref a), .val (.ref ev)] [(.ref a), (.ref ev), (.ref a)])) rfl rfl (hb hby own_d11_13)
  refine hG _ _ st3 ?_
  show G (T3.setTop (mkF m 16 #[.val (.ref a), .val (.ref ev)] [(.ref d), (.ref ev), (.ref a)]))
  refine hG _ _ (fun t_ k_ => XS.aloadN X3.here hx rfl (hb hby own_d11_16) rfl rfl k_) ?_
  show G (T3.setTop (mkF m 17 #[.val (.ref a), .val (.ref ev)] [(.ref a), (.ref d), (.ref ev), (.ref a)]))
  have f6 := (g6_F.other W2 (Or.inr (slot_ne (Or.inl (hw _ (List.mem_of_getElem? (i := 67) rfl))) (Or.inl (hw _ (List.mem_of_getElem? (i := 55) rfl))) (by decide) (t := .int) (t' := .int) (by decide) (by decide))))
  obtain ⟨T5, X5, e5, st5⟩ := getF X3 hx hZ hown (host := "") (Or.inl (hw _ (List.mem_of_getElem? (i := 66) rfl))) Via.refl e3 f6 (g := (mkF m 17 #[.val (.ref a), .val (.ref ev)] [(.ref a), (.ref d), (.ref ev), (.ref a)])) rfl rfl (hb hby own_d11_17)
  refine hG _ _ st5 ?_
  show G (T5.setTop (mkF m 20 #[.val (.ref a), .val (.ref ev)] [(.int (3 : Int32)), (.ref d), (.ref ev), (.ref a)]))
  have f8 := (g0_E.wr W2)
  have f9 := (g7_V.other W2 (Ne.symm g3_hne))
  have f10 := (g9_E.wr W2)
  refine own_callP X5 hx hZ hG hown (hw _ (List.mem_of_getElem? (i := 68) rfl)) (hw _ (List.mem_of_getElem? (i := 69) rfl)) (hw _ (List.mem_of_getElem? (i := 71) rfl)) (hw _ (List.mem_of_getElem? (i := 70) rfl)) (hw _ (List.mem_of_getElem? (i := 37) rfl)) (hw _ (List.mem_of_getElem? (i := 72) rfl)) (by decide) 0 (own_addi3 l Z a0 hw a d kt (mc + (1 : Int32)) ev x0 x1 x2 h2 O2 f8 g1_G g2_G g3_hne (g4_F.same W2) f4 f6 f9 g8_hov f10) (by decide) (by decide) e5 f8 (by rw [hml]; rfl) (lenOf own_pd14 rfl) (argsL := [(.ref ev), (.ref d), (.int (3 : Int32))]) (rest := []) rfl rfl (Nat.le_of_eq rfl) (hb hby own_d11_20) (by decide) (by decide) ?_
  intro T7 h7 v7 L7 X7 e7 q7
  obtain ⟨rfl, M7, J7, r7_0, r7_1, r7_2, r7_3, r7_4⟩ := q7
  have N7 := Fr.app N2 M7
  have K7 : Keep h0 h7 [a, d] := K2.trans J7 (allS (Or.inl (List.mem_of_getElem? (i := 0) rfl)) (allS (Or.inl (List.mem_of_getElem? (i := 1) rfl)) all0))
  have O7 : own_Old Z h7 := O2.keep J7 (allS g1_G (allS g2_G all0))
  show G (T7.setTop (mkF m 23 #[.val (.ref a), .val (.ref ev)] []))
  refine hG _ _ (fun t_ k_ => XS.iconst X7.here hx rfl (hb hby own_d11_23) k_) ?_
  show G (T7.setTop (mkF m 24 #[.val (.ref a), .val (.ref ev)] [(.int (1 : Int32))]))
  exact own_retN hR hret (by simp) X7 hx (hb hby own_d11_24) (by decide) (by decide) (by rw [e7]; exact ⟨rfl, N7, K7, r7_0, r7_1, r7_2, r7_3, r7_4⟩)
theorem own_pd15 : parseMethodDescriptor "(IILjava/util/function/BiFunction;)I" = some ⟨[.int, .int, (.object "java/util/function/BiFunction")], some .int⟩ := by decide +kernel
set_option maxRecDepth 65536 in
set_option maxHeartbeats 40000000 in
theorem own_cki (l : Launch) (Z : State) (a0 : Array Value) (hw : ∀ d ∈ tables_1, d.before a0 Z = true) (i : Int32) (n : Int32) (h0 : Heap) (O0 : own_Old Z h0) (g0_h1 : ¬ (i < (0 : Int32))) (g1_h2 : i < n) :
    own_Con l Z (⟨"jdk/internal/util/Preconditions", "checkIndex", "(IILjava/util/function/BiFunction;)I"⟩ : MethodName) jdk_41_method_11_code 3 (some .int) [] ({ frames := 0, cells := 0, slots := 0, locals := 0 } : Room) #[(.int i), (.int n), .null] h0 (fun rv rh rL => rv = some (.int i) ∧ own_Fr Z rL ∧ h0 = rh) := by
  refine own_intro (plainFor_of_name (by first | (simp [plainName, overriddenIn]; done) | decide +kernel)) ?_
  intro p e s m below meth c s₁ G hx hby hml hown hnm hret hZ X0 e0 hG hR
  have N0 := Fr.nil Z.heap.size
  refine own_entry (Ls := #[.val (.int i), .val (.int n), .val .null]) (by first | (simp [entryFrame, mkF, argsToLocals, Value.category]; done) | rfl) ?_
  show G (s₁.setTop (mkF m 0 #[.val (.int i), .val (.int n), .val .null] []))
  refine hG _ _ (fun t_ k_ => XS.iloadN X0.here hx rfl (hb hby own_d25_0) rfl k_) ?_
  show G (s₁.setTop (mkF m 1 #[.val (.int i), .val (.int n), .val .null] [(.int i)]))
  refine hG _ _ (fun t_ k_ => XS.ifNo X0.here hx rfl (hb hby own_d25_1) rfl ((if0 _ _).trans (flt g0_h1).1) k_) ?_
  show G (s₁.setTop (mkF m 4 #[.val (.int i), .val (.int n), .val .null] []))
  refine hG _ _ (fun t_ k_ => XS.iloadN X0.here hx rfl (hb hby own_d25_4) rfl k_) ?_
  show G (s₁.setTop (mkF m 5 #[.val (.int i), .val (.int n), .val .null] [(.int i)]))
  refine hG _ _ (fun t_ k_ => XS.iloadN X0.here hx rfl (hb hby own_d25_5) rfl k_) ?_
  show G (s₁.setTop (mkF m 6 #[.val (.int i), .val (.int n), .val .null] [(.int n), (.int i)]))
  refine hG _ _ (fun t_ k_ => XS.icmpYes X0.here hx rfl (pc0 := 6) (pc' := 16) rfl (hb hby own_d25_6) rfl (tlt g1_h2).1 (by decide) (by decide) k_) ?_
  show G (s₁.setTop (mkF m 16 #[.val (.int i), .val (.int n), .val .null] []))
  refine hG _ _ (fun t_ k_ => XS.iloadN X0.here hx rfl (hb hby own_d25_16) rfl k_) ?_
  show G (s₁.setTop (mkF m 17 #[.val (.int i), .val (.int n), .val .null] [(.int i)]))
  exact own_retI hR hret X0 hx (hb hby own_d25_17) (by decide) (by decide) (by rw [e0]; exact ⟨rfl, N0, rfl⟩)
set_option maxRecDepth 65536 in
set_option maxHeartbeats 40000000 in
theorem own_ock (l : Launch) (Z : State) (a0 : Array Value) (hw : ∀ d ∈ tables_1, d.before a0 Z = true) (i : Int32) (n : Int32) (h0 : Heap) (O0 : own_Old Z h0) (g0_h1 : ¬ (i < (0 : Int32))) (g1_h2 : i < n) :
    own_Con l Z (⟨"java/util/Objects", "checkIndex", "(II)I"⟩ : MethodName) jdk_31_method_17_code 2 (some .int) [] ({ frames := 1, cells := 0, slots := 0, locals := 14 } : Room) #[(.int i), (.int n)] h0 (fun rv rh rL => rv = some (.int i) ∧ own_Fr Z rL ∧ h0 = rh) := by
  refine own_intro (plainFor_of_name (by first | (simp [plainName, overriddenIn]; done) | decide +kernel)) ?_
  intro p e s m below meth c s₁ G hx hby hml hown hnm hret hZ X0 e0 hG hR
  have N0 := Fr.nil Z.heap.size
  refine own_entry (Ls := #[.val (.int i), .val (.int n)]) (by first | (simp [entryFrame, mkF, argsToLocals, Value.category]; done) | rfl) ?_
  show G (s₁.setTop (mkF m 0 #[.val (.int i), .val (.int n)] []))
  refine hG _ _ (fun t_ k_ => XS.iloadN X0.here hx rfl (hb hby own_d24_0) rfl k_) ?_
  show G (s₁.setTop (mkF m 1 #[.val (.int i), .val (.int n)] [(.int i)]))
  refine hG _ _ (fun t_ k_ => XS.iloadN X0.here hx rfl (hb hby own_d24_1) rfl k_) ?_
  show G (s₁.setTop (mkF m 2 #[.val (.int i), .val (.int n)] [(.int n), (.int i)]))
  refine hG _ _ (fun t_ k_ => XS.aconstNull X0.here hx rfl (hb hby own_d24_2) k_) ?_
  show G (s₁.setTop (mkF m 3 #[.val (.int i), .val (.int n)] [.null, (.int n), (.int i)]))
  refine own_callS X0 hx hZ hG hown (hw _ (List.mem_of_getElem? (i := 140) rfl)) (hw _ (List.mem_of_getElem? (i := 141) rfl)) (hw _ (List.mem_of_getElem? (i := 142) rfl)) (hw _ (List.mem_of_getElem? (i := 143) rfl)) (by decide) 0 (own_cki l Z a0 hw i n h0 O0 g0_h1 g1_h2) (by decide) (by decide) e0 (by rw [hml]; rfl) (lenOf own_pd15 rfl) (argsL := [(.int i), (.int n), .null]) (rest := []) rfl rfl (Nat.le_of_eq rfl) (hb hby own_d24_3) (by decide) (by decide) ?_
  intro T1 h1 v1 L1 X1 e1 q1
  obtain ⟨rfl, M1, rfl⟩ := q1
  have N1 := Fr.app N0 M1
  show G (T1.setTop (mkF m 6 #[.val (.int i), .val (.int n)] [(.int i)]))
  exact own_retI hR hret X1 hx (hb hby own_d24_6) (by decide) (by decide) (by rw [e1]; exact ⟨rfl, N1, rfl⟩)
theorem own_pd16 : parseMethodDescriptor "(I)Ljava/lang/Object;" = some ⟨[.int], some (.object "java/lang/Object")⟩ := by decide +kernel
set_option maxRecDepth 65536 in
set_option maxHeartbeats 40000000 in
theorem own_elem (l : Launch) (Z : State) (a0 : Array Value) (hw : ∀ d ∈ tables_1, d.before a0 Z = true) (a : Addr) (i : Int32) (d : Addr) (kd : ClassId) (vs : List Value) (r : Addr) (h0 : Heap) (O0 : own_Old Z h0) (g0_h1 : ¬ (i < (0 : Int32))) (g1_h2 : i < (10 : Int32)) (g2_hat : vs.getD i.toNatClampNeg .null = .ref r) (g3_E : Exa Z h0 a "java/util/ArrayList") (g4_F : Fld Z h0 a "java/util/ArrayList" "elementData" "[Ljava/lang/Object;" (.ref d)) (g5_V : Arv Z h0 d kd (.object "java/lang/Object") (10 : Int32) vs .null) :
    own_Con l Z (⟨"java/util/ArrayList", "elementData", "(I)Ljava/lang/Object;"⟩ : MethodName) jdk_38_method_18_code 2 (some (.object "java/lang/Object")) [] ({ frames := 0, cells := 0, slots := 0, locals := 0 } : Room) #[(.ref a), (.int i)] h0 (fun rv rh rL => rv = some (.ref r) ∧ own_Fr Z rL ∧ h0 = rh) := by
  refine own_intro (plainFor_of_name (by first | (simp [plainName, overriddenIn]; done) | decide +kernel)) ?_
  intro p e s m below meth c s₁ G hx hby hml hown hnm hret hZ X0 e0 hG hR
  have N0 := Fr.nil Z.heap.size
  refine own_entry (Ls := #[.val (.ref a), .val (.int i)]) (by first | (simp [entryFrame, mkF, argsToLocals, Value.category]; done) | rfl) ?_
  show G (s₁.setTop (mkF m 0 #[.val (.ref a), .val (.int i)] []))
  refine hG _ _ (fun t_ k_ => XS.aloadN X0.here hx rfl (hb hby own_d26_0) rfl rfl k_) ?_
  show G (s₁.setTop (mkF m 1 #[.val (.ref a), .val (.int i)] [(.ref a)]))
  obtain ⟨T1, X1, e1, st1⟩ := getF X0 hx hZ hown (host := "") (Or.inl (hw _ (List.mem_of_getElem? (i := 57) rfl))) Via.refl e0 g4_F (g := (mkF m 1 #[.val (.ref a), .val (.int i)] [(.ref a)])) rfl rfl (hb hby own_d26_1)
  refine hG _ _ st1 ?_
  show G (T1.setTop (mkF m 4 #[.val (.ref a), .val (.int i)] [(.ref d)]))
  refine hG _ _ (fun t_ k_ => XS.iloadN X1.here hx rfl (hb hby own_d26_4) rfl k_) ?_
  show G (T1.setTop (mkF m 5 #[.val (.ref a), .val (.int i)] [(.int i), (.ref d)]))
  obtain ⟨c2, Ar2, q2, S2, M2, H2, G2⟩ := id g5_V
  have hin2 : ¬ (i < 0 ∨ c2.slots.size ≤ i.toNatClampNeg) := inb_of S2 ⟨g0_h1, g1_h2⟩
  refine hG _ _ (X1.aaload hx (j := i) (v := (.ref r)) (by rw [e1]; exact Ar2.1) (State.isArrayOf_alike hZ.alike Ar2.2.1) rfl Ar2.2.2 hin2 (Has.at H2 hin2 g2_hat) (g := (mkF m 5 #[.val (.ref a), .val (.int i)] [(.int i), (.ref d)])) rfl rfl (hb hby own_d26_5)) ?_
  show G (T1.setTop (mkF m 6 #[.val (.ref a), .val (.int i)] [(.ref r)]))
  exact own_retA hR hret rfl rfl X1 hx (hb hby own_d26_6) (by decide) (by decide) (by rw [e1]; exact ⟨rfl, N0, rfl⟩)
set_option maxRecDepth 65536 in
set_option maxHeartbeats 40000000 in
theorem own_lget (l : Launch) (Z : State) (a0 : Array Value) (hw : ∀ d ∈ tables_1, d.before a0 Z = true) (a : Addr) (i : Int32) (d : Addr) (kd : ClassId) (vs : List Value) (r : Addr) (n : Int32) (h0 : Heap) (O0 : own_Old Z h0) (g0_h1 : ¬ (i < (0 : Int32))) (g1_h2 : i < (10 : Int32)) (g2_hat : vs.getD i.toNatClampNeg .null = .ref r) (g3_E : Exa Z h0 a "java/util/ArrayList") (g4_F : Fld Z h0 a "java/util/ArrayList" "elementData" "[Ljava/lang/Object;" (.ref d)) (g5_V : Arv Z h0 d kd (.object "java/lang/Object") (10 : Int32) vs .null) (g6_F : Fld Z h0 a "java/util/ArrayList" "size" "I" (.int n)) (g7_h3 : i < n) :
    own_Con l Z (⟨"java/util/ArrayList", "get", "(I)Ljava/lang/Object;"⟩ : MethodName) jdk_38_method_20_code 2 (some (.object "java/lang/Object")) [] ({ frames := 2, cells := 0, slots := 0, locals := 27 } : Room) #[(.ref a), (.int i)] h0 (fun rv rh rL => rv = some (.ref r) ∧ own_Fr Z rL ∧ h0 = rh) := by
  refine own_intro (plainFor_of_name (by first | (simp [plainName, overriddenIn]; done) | decide +kernel)) ?_
  intro p e s m below meth c s₁ G hx hby hml hown hnm hret hZ X0 e0 hG hR
  have N0 := Fr.nil Z.heap.size
  refine own_entry (Ls := #[.val (.ref a), .val (.int i)]) (by first | (simp [entryFrame, mkF, argsToLocals, Value.category]; done) | rfl) ?_
  show G (s₁.setTop (mkF m 0 #[.val (.ref a), .val (.int i)] []))
  refine hG _ _ (fun t_ k_ => XS.iloadN X0.here hx rfl (hb hby own_d23_0) rfl k_) ?_
  show G (s₁.setTop (mkF m 1 #[.val (.ref a), .val (.int i)] [(.int i)]))
  refine hG _ _ (fun t_ k_ => XS.aloadN X0.here hx rfl (hb hby own_d23_1) rfl rfl k_) ?_
  show G (s₁.setTop (mkF m 2 #[.val (.ref a), .val (.int i)] [(.ref a), (.int i)]))
  obtain ⟨T1, X1, e1, st1⟩ := getF X0 hx hZ hown (host := "") (Or.inl (hw _ (List.mem_of_getElem? (i := 66) rfl))) Via.refl e0 g6_F (g := (mkF m 2 #[.val (.ref a), .val (.int i)] [(.ref a), (.int i)])) rfl rfl (hb hby own_d23_2)
  refine hG _ _ st1 ?_
  show G (T1.setTop (mkF m 5 #[.val (.ref a), .val (.int i)] [(.int n), (.int i)]))
  refine own_callS X1 hx hZ hG hown (hw _ (List.mem_of_getElem? (i := 136) rfl)) (hw _ (List.mem_of_getElem? (i := 137) rfl)) (hw _ (List.mem_of_getElem? (i := 138) rfl)) (hw _ (List.mem_of_getElem? (i := 139) rfl)) (by decide) 0 (own_ock l Z a0 hw i n h0 O0 g0_h1 g7_h3) (by decide) (by decide) e1 (by rw [hml]; rfl) (lenOf own_pd11 rfl) (argsL := [(.int i), (.int n)]) (rest := []) rfl rfl (Nat.le_of_eq rfl) (hb hby own_d23_5) (by decide) (by decide) ?_
  intro T2 h2 v2 L2 X2 e2 q2
  obtain ⟨rfl, M2, rfl⟩ := q2
  have N2 := Fr.app N0 M2
  show G (T2.setTop (mkF m 8 #[.val (.ref a), .val (.int i)] [(.int i)]))
  refine hG _ _ (fun t_ k_ => XS.pop X2.here hx rfl (hb hby own_d23_8) rfl rfl k_) ?_
  show G (T2.setTop (mkF m 9 #[.val (.ref a), .val (.int i)] []))
  refine hG _ _ (fun t_ k_ => XS.aloadN X2.here hx rfl (hb hby own_d23_9) rfl rfl k_) ?_
  show G (T2.setTop (mkF m 10 #[.val (.ref a), .val (.int i)] [(.ref a)]))
  refine hG _ _ (fun t_ k_ => XS.iloadN X2.here hx rfl (hb hby own_d23_10) rfl k_) ?_
  show G (T2.setTop (mkF m 11 #[.val (.ref a), .val (.int i)] [(.int i), (.ref a)]))
  refine own_callV (C := "java/util/ArrayList") X2 hx hZ hG hown (hw _ (List.mem_of_getElem? (i := 144) rfl)) (hw _ (List.mem_of_getElem? (i := 145) rfl)) (hw _ (List.mem_of_getElem? (i := 147) rfl)) (hw _ (List.mem_of_getElem? (i := 146) rfl)) (hw _ (List.mem_of_getElem? (i := 37) rfl)) (hw _ (List.mem_of_getElem? (i := 148) rfl)) (by decide) 0 (own_elem l Z a0 hw a i d kd vs r h0 O0 g0_h1 g1_h2 g2_hat g3_E g4_F g5_V) (by decide) (by decide) e2 g3_E (by rw [hml]; rfl) (lenOf own_pd16 rfl) (argsL := [(.int i)]) (rest := []) rfl rfl (Nat.le_of_eq rfl) (hb hby own_d23_11) (by decide) (by decide) ?_
  intro T3 h3 v3 L3 X3 e3 q3
  obtain ⟨rfl, M3, rfl⟩ := q3
  have N3 := Fr.app N2 M3
  show G (T3.setTop (mkF m 14 #[.val (.ref a), .val (.int i)] [(.ref r)]))
  exact own_retA hR hret rfl rfl X3 hx (hb hby own_d23_14) (by decide) (by decide) (by rw [e3]; exact ⟨rfl, N3, rfl⟩)
theorem own_pd17 : parseMethodDescriptor "(CC)Ljava/lang/String;" = some ⟨[.char, .char], some (.object "java/lang/String")⟩ := by decide +kernel
set_option maxRecDepth 65536 in
set_option maxHeartbeats 40000000 in
theorem own_mk (l : Launch) (Z : State) (a0 : Array Value) (hw : ∀ d ∈ tables_1, d.before a0 Z = true) (x : Int32) (y : Int32) (cpt : Int32) (h0 : Heap) (O0 : own_Old Z h0) (g0_S : Sta Z Z.heap "java/lang/String" "COMPACT_STRINGS" "Z" (.int cpt)) (g1_hcpt : ¬ (cpt = (0 : Int32))) (g2_hx : 0 ≤ x.toInt ∧ x.toInt ≤ 255) (g3_hy : 0 ≤ y.toInt ∧ y.toInt ≤ 255) :
    own_Con l Z (⟨"com/example/vestibule/vestibule/RecordFieldPinLaw", "make", "(CC)Ljava/lang/String;"⟩ : MethodName) method_2_code 3 (some (.object "java/lang/String")) [] ({ frames := 4, cells := 3, slots := 8, locals := 66 } : Room) #[(.int x), (.int y)] h0 (fun rv rh rL => ∃ (t : Addr), rv = some (.ref t) ∧ own_Fr Z rL ∧ Keep h0 rh [] ∧ h0.size ≤ t ∧ (Exa Z rh t "java/lang/String")) := by
  refine own_intro (plainFor_of_name (by first | (simp [plainName, overriddenIn]; done) | decide +kernel)) ?_
  intro p e s m below meth c s₁ G hx hby hml hown hnm hret hZ X0 e0 hG hR
  have N0 := Fr.nil Z.heap.size
  refine own_entry (Ls := #[.val (.int x), .val (.int y), .unset]) (by first | (simp [entryFrame, mkF, argsToLocals, Value.category]; done) | rfl) ?_
  show G (s₁.setTop (mkF m 0 #[.val (.int x), .val (.int y), .unset] []))
  refine hG _ _ (fun t_ k_ => XS.iconst X0.here hx rfl (hb hby own_d1_0) k_) ?_
  show G (s₁.setTop (mkF m 1 #[.val (.int x), .val (.int y), .unset] [(.int (2 : Int32))]))
  obtain ⟨T1, h1, k1, X1, e1, E1, A1, st1⟩ := newP X0 hx hZ (hw _ (List.mem_of_getElem? (i := 5) rfl)) e0 (g := (mkF m 1 #[.val (.int x), .val (.int y), .unset] [(.int (2 : Int32))])) rfl (hb hby own_d1_1) rfl (by decide) (cap := 2) (by decide) (by decide) (by decide) (by decide)
  obtain ⟨b1, z1⟩ : ∃ z, z = h0.size := ⟨_, rfl⟩
  rw [← z1] at A1 st1
  refine hG _ _ st1 ?_
  have K1 : Keep h0 h1 [] := (Keep.refl h0 []).ext E1
  have O1 : own_Old Z h1 := O0.ext E1
  have V1 : Arv Z h1 b1 k1 .char (2 : Int32) [(.int (0 : Int32)), (.int (0 : Int32))] (.int (0 : Int32)) := (Arv.new A1 (by decide)).pad (pad_rep [] (.int (0 : Int32)) 2)
  show G (T1.setTop (mkF m 3 #[.val (.int x), .val (.int y), .unset] [(.ref b1)]))
  refine hG _ _ (fun t_ k_ => XS.astoreN X1.here hx rfl (hb hby own_d1_3) rfl rfl (l' := #[.val (.int x), .val (.int y), .val (.ref b1)]) rfl k_) ?_
  show G (T1.setTop (mkF m 4 #[.val (.int x), .val (.int y), .val (.ref b1)] []))
  refine hG _ _ (fun t_ k_ => XS.aloadN X1.here hx rfl (hb hby own_d1_4) rfl rfl k_) ?_
  show G (T1.setTop (mkF m 5 #[.val (.int x), .val (.int y), .val (.ref b1)] [(.ref b1)]))
  refine hG _ _ (fun t_ k_ => XS.iconst X1.here hx rfl (hb hby own_d1_5) k_) ?_
  show G (T1.setTop (mkF m 6 #[.val (.int x), .val (.int y), .val (.ref b1)] [(.int (0 : Int32)), (.ref b1)]))
  refine hG _ _ (fun t_ k_ => XS.iloadN X1.here hx rfl (hb hby own_d1_6) rfl k_) ?_
  show G (T1.setTop (mkF m 7 #[.val (.int x), .val (.int y), .val (.ref b1)] [(.int x), (.int (0 : Int32)), (.ref b1)]))
  obtain ⟨c2, Ar2, q2, S2, M2, H2, G2⟩ := id V1
  obtain ⟨T2, h2, X2, e2, W2, st2⟩ := stC X1 hx hZ e1 Ar2 (j := (0 : Int32)) (inb_of S2 ⟨by decide, by decide⟩) (g := (mkF m 7 #[.val (.int x), .val (.int y), .val (.ref b1)] [(.int x), (.int (0 : Int32)), (.ref b1)])) rfl rfl (hb hby own_d1_7)
  refine hG _ _ st2 ?_
  have K2 : Keep h0 h2 [] := K1.wr W2 (Or.inr (Nat.le_trans (Keep.refl h0 []).1 (Nat.le_of_eq z1.symm)))
  have O2 : own_Old Z h2 := O1.wr W2 (own_ge O0 (Nat.le_of_eq z1.symm))
  rw [own_narC ⟨g2_hx.1, by omega⟩] at W2
  have V2 : Arv Z h2 b1 k1 .char (2 : Int32) [(.int x), (.int (0 : Int32))] (.int (0 : Int32)) := Arv.set Ar2 q2 S2 M2 H2 G2 (own_fitC ⟨g2_hx.1, by omega⟩) W2 0 rfl (Nat.le_of_ble_eq_true rfl)
  have N2 := Fr.snoc X2 N0 (own_ge O0 (Nat.le_of_eq z1.symm))
  show G (T2.setTop (mkF m 8 #[.val (.int x), .val (.int y), .val (.ref b1)] []))
  refine hG _ _ (fun t_ k_ => XS.aloadN X2.here hx rfl (hb hby own_d1_8) rfl rfl k_) ?_
  show G (T2.setTop (mkF m 9 #[.val (.int x), .val (.int y), .val (.ref b1)] [(.ref b1)]))
  refine hG _ _ (fun t_ k_ => XS.iconst X2.here hx rfl (hb hby own_d1_9) k_) ?_
  show G (T2.setTop (mkF m 10 #[.val (.int x), .val (.int y), .val (.ref b1)] [(.int (1 : Int32)), (.ref b1)]))
  refine hG _ _ (fun t_ k_ => XS.iloadN X2.here hx rfl (hb hby own_d1_10) rfl k_) ?_
  show G (T2.setTop (mkF m 11 #[.val (.int x), .val (.int y), .val (.ref b1)] [(.int y), (.int (1 : Int32)), (.ref b1)]))
  obtain ⟨c3, Ar3, q3, S3, M3, H3, G3⟩ := id V2
  obtain ⟨T3, h3, X3, e3, W3, st3⟩ := stC X2 hx hZ e2 Ar3 (j := (1 : Int32)) (inb_of S3 ⟨by decide, by decide⟩) (g := (mkF m 11 #[.val (.int x), .val (.int y), .val (.ref b1)] [(.int y), (.int (1 : Int32)), (.ref b1)])) rfl rfl (hb hby own_d1_11)
  refine hG _ _ st3 ?_
  have K3 : Keep h0 h3 [] := K2.wr W3 (Or.inr (Nat.le_trans (Keep.refl h0 []).1 (Nat.le_of_eq z1.symm)))
  have O3 : own_Old Z h3 := O2.wr W3 (own_ge O0 (Nat.le_of_eq z1.symm))
  rw [own_narC ⟨g3_hy.1, by omega⟩] at W3
  have V3 : Arv Z h3 b1 k1 .char (2 : Int32) [(.int x), (.int y)] (.int (0 : Int32)) := Arv.set Ar3 q3 S3 M3 H3 G3 (own_fitC ⟨g3_hy.1, by omega⟩) W3 1 rfl (Nat.le_of_ble_eq_true rfl)
  have N3 := Fr.snoc X3 N2 (own_ge O0 (Nat.le_of_eq z1.symm))
  show G (T3.setTop (mkF m 12 #[.val (.int x), .val (.int y), .val (.ref b1)] []))
  obtain ⟨T4, h4, X4, e4, E4, A4, D4, -, st4⟩ := newO X3 hx hZ hown (hw _ (List.mem_of_getElem? (i := 6) rfl)) (hw _ (List.mem_of_getElem? (i := 7) rfl)) (hw _ (List.mem_of_getElem? (i := 8) rfl)) e3 (g := (mkF m 12 #[.val (.int x), .val (.int y), .val (.ref b1)] [])) rfl (hb hby own_d1_12) (by decide) (by decide)
  obtain ⟨b4, z4⟩ : ∃ z, z = h3.size := ⟨_, rfl⟩
  rw [← z4] at A4 D4 st4
  refine hG _ _ st4 ?_
  have K4 : Keep h0 h4 [] := K3.ext E4
  have O4 : own_Old Z h4 := O3.ext E4
  show G (T4.setTop (mkF m 15 #[.val (.int x), .val (.int y), .val (.ref b1)] [(.ref b4)]))
  refine hG _ _ (fun t_ k_ => XS.dup X4.here hx rfl (hb hby own_d1_15) rfl rfl k_) ?_
  show G (T4.setTop (mkF m 16 #[.val (.int x), .val (.int y), .val (.ref b1)] [(.ref b4), (.ref b4)]))
  refine hG _ _ (fun t_ k_ => XS.aloadN X4.here hx rfl (hb hby own_d1_16) rfl rfl k_) ?_
  show G (T4.setTop (mkF m 17 #[.val (.int x), .val (.int y), .val (.ref b1)] [(.ref b1), (.ref b4), (.ref b4)]))
  have f6 := (V3.ext E4)
  refine own_callI X4 hx hZ hG hown rfl (hw _ (List.mem_of_getElem? (i := 9) rfl)) (hw _ (List.mem_of_getElem? (i := 10) rfl)) (hw _ (List.mem_of_getElem? (i := 8) rfl)) (hw _ (List.mem_of_getElem? (i := 11) rfl)) (by decide) 1 (own_str1 l Z a0 hw b4 b1 k1 [x, y] cpt (.int (0 : Int32)) .null h4 O4 A4 (D4 (Or.inr (hw _ (List.mem_of_getElem? (i := 32) rfl))) (ty := .byte) (by decide)) (D4 (Or.inr (hw _ (List.mem_of_getElem? (i := 34) rfl))) (ty := (.array .byte)) (by decide)) (own_ge O3 (Nat.le_of_eq z4.symm)) f6 (Nat.le_of_ble_eq_true rfl) (Nat.le_of_ble_eq_true rfl) (own_allc (own_le255 g2_hx) (own_allc (own_le255 g3_hy) own_alln)) g0_S g1_hcpt) (by decide) (by decide) e4 (by rw [hml]; rfl) (lenOf own_pd5 rfl) (argsL := [(.ref b1)]) (rest := [(.ref b4)]) rfl rfl (Nat.le_of_eq rfl) (hb hby own_d1_17) (by decide) (by decide) ?_
  intro T5 h5 v5 L5 X5 e5 q5
  obtain ⟨t_5, kt_5, rfl, M5, J5, y5_0, r5_0, r5_1, r5_2, r5_3⟩ := q5
  have N5 := Fr.app N3 M5
  have K5 : Keep h0 h5 [] := K4.trans J5 (allS (Or.inr (Nat.le_trans K3.1 (Nat.le_of_eq z4.symm))) all0)
  have O5 : own_Old Z h5 := O4.keep J5 (allS (own_ge O3 (Nat.le_of_eq z4.symm)) all0)
  show G (T5.setTop (mkF m 20 #[.val (.int x), .val (.int y), .val (.ref b1)] [(.ref b4)]))
  exact own_retA hR hret rfl rfl X5 hx (hb hby own_d1_20) (by decide) (by decide) (by rw [e5]; exact ⟨b4, rfl, N5, K5, (Nat.le_trans K3.1 (Nat.le_of_eq z4.symm)), r5_0⟩)
theorem own_pd18 : parseMethodDescriptor "(Ljava/lang/String;ILjava/util/List;)V" = some ⟨[(.object "java/lang/String"), .int, (.object "java/util/List")], none⟩ := by decide +kernel
set_option maxRecDepth 65536 in
set_option maxHeartbeats 40000000 in
theorem own_finit (l : Launch) (Z : State) (a0 : Array Value) (hw : ∀ d ∈ tables_1, d.before a0 Z = true) (a : Addr) (x0 : Value) (x1 : Int32) (x2 : Value) (u0 : Value) (u1 : Value) (u2 : Value) (h0 : Heap) (O0 : own_Old Z h0) (g0_hx0 : x0.isRef = true) (g1_hx2 : x2.isRef = true) (g2_E : Exa Z h0 a "com/example/vestibule/vestibule/RecordFile$Record") (g3_G : Z.heap.size ≤ a) (g4_F : Fld Z h0 a "com/example/vestibule/vestibule/RecordFile$Record" "source" "Ljava/lang/String;" u0) (g5_F : Fld Z h0 a "com/example/vestibule/vestibule/RecordFile$Record" "line" "I" u1) (g6_F : Fld Z h0 a "com/example/vestibule/vestibule/RecordFile$Record" "fields" "Ljava/util/List;" u2) :
    own_Con l Z (⟨"com/example/vestibule/vestibule/RecordFile$Record", "<init>", "(Ljava/lang/String;ILjava/util/List;)V"⟩ : MethodName) prog_40_method_1_code 4 none [] ({ frames := 2, cells := 0, slots := 0, locals := 24 } : Room) #[(.ref a), x0, (.int x1), x2] h0 (fun rv rh rL => rv = none ∧ own_Fr Z rL ∧ Keep h0 rh [a] ∧ (Exa Z rh a "com/example/vestibule/vestibule/RecordFile$Record") ∧ (Fld Z rh a "com/example/vestibule/vestibule/RecordFile$Record" "source" "Ljava/lang/String;" x0) ∧ (Fld Z rh a "com/example/vestibule/vestibule/RecordFile$Record" "line" "I" (.int x1)) ∧ (Fld Z rh a "com/example/vestibule/vestibule/RecordFile$Record" "fields" "Ljava/util/List;" x2)) := by
  refine own_intro (plainFor_of_name (by first | (simp [plainName, overriddenIn]; done) | decide +kernel)) ?_
  intro p e s m below meth c s₁ G hx hby hml hown hnm hret hZ X0 e0 hG hR
  have N0 := Fr.nil Z.heap.size
  refine own_entry (Ls := #[.val (.ref a), .val x0, .val (.int x1), .val x2]) (by rcases ref_cases g0_hx0 with rfl | ⟨_, rfl⟩ <;> rcases ref_cases g1_hx2 with rfl | ⟨_, rfl⟩ <;> first | (simp [entryFrame, mkF, argsToLocals, Value.category]; done) | rfl) ?_
  show G (s₁.setTop (mkF m 0 #[.val (.ref a), .val x0, .val (.int x1), .val x2] []))
  refine hG _ _ (fun t_ k_ => XS.aloadN X0.here hx rfl (hb hby own_d20_0) rfl rfl k_) ?_
  show G (s₁.setTop (mkF m 1 #[.val (.ref a), .val x0, .val (.int x1), .val x2] [(.ref a)]))
  refine own_callI X0 hx hZ hG hown rfl (hw _ (List.mem_of_getElem? (i := 110) rfl)) (hw _ (List.mem_of_getElem? (i := 111) rfl)) (hw _ (List.mem_of_getElem? (i := 113) rfl)) (hw _ (List.mem_of_getElem? (i := 114) rfl)) (by decide) 0 (own_rec l Z a0 hw a h0 O0) (by decide) (by decide) e0 (by rw [hml]; rfl) (lenOf own_pd0 rfl) (argsL := []) (rest := []) rfl rfl (Nat.le_of_eq rfl) (hb hby own_d20_1) (by decide) (by decide) ?_
  intro T1 h1 v1 L1 X1 e1 q1
  obtain ⟨rfl, M1, rfl⟩ := q1
  have N1 := Fr.app N0 M1
  show G (T1.setTop (mkF m 4 #[.val (.ref a), .val x0, .val (.int x1), .val x2] []))
  refine hG _ _ (fun t_ k_ => XS.aloadN X1.here hx rfl (hb hby own_d20_4) rfl rfl k_) ?_
  show G (T1.setTop (mkF m 5 #[.val (.ref a), .val x0, .val (.int x1), .val x2] [(.ref a)]))
  refine hG _ _ (fun t_ k_ => XS.aloadN X1.here hx rfl (hb hby own_d20_5) rfl g0_hx0 k_) ?_
  show G (T1.setTop (mkF m 6 #[.val (.ref a), .val x0, .val (.int x1), .val x2] [x0, (.ref a)]))
  obtain ⟨T2, h2, X2, e2, W2, st2⟩ := putF X1 hx hZ hown (host := "") (Or.inl (hw _ (List.mem_of_getElem? (i := 116) rfl))) Via.refl e1 g4_F g2_E (Or.inr ⟨(hw _ (List.mem_of_getElem? (i := 117) rfl)), rfl, hnm⟩) (hw _ (List.mem_of_getElem? (i := 91) rfl)) (ty := (.object "java/lang/String")) (by decide) (own_narR rfl g0_hx0) (own_fitR rfl g0_hx0) (g := (mkF m 6 #[.val (.ref a), .val x0, .val (.int x1), .val x2] [x0, (.ref a)])) rfl rfl (hb hby own_d20_6)
  refine hG _ _ st2 ?_
  have K2 : Keep h0 h2 [a] := (Keep.refl h0 [a]).wr W2 (Or.inl (List.mem_of_getElem? (i := 0) rfl))
  have O2 : own_Old Z h2 := O0.wr W2 g3_G
  have N2 := Fr.snoc X2 N1 g3_G
  show G (T2.setTop (mkF m 9 #[.val (.ref a), .val x0, .val (.int x1), .val x2] []))
  refine hG _ _ (fun t_ k_ => XS.aloadN X2.here hx rfl (hb hby own_d20_9) rfl rfl k_) ?_
  show G (T2.setTop (mkF m 10 #[.val (.ref a), .val x0, .val (.int x1), .val x2] [(.ref a)]))
  refine hG _ _ (fun t_ k_ => XS.iloadN X2.here hx rfl (hb hby own_d20_10) rfl k_) ?_
  show G (T2.setTop (mkF m 11 #[.val (.ref a), .val x0, .val (.int x1), .val x2] [(.int x1), (.ref a)]))
  have f4 := (g5_F.other W2 (Or.inr (slot_ne (Or.inr (hw _ (List.mem_of_getElem? (i := 119) rfl))) (Or.inr (hw _ (List.mem_of_getElem? (i := 117) rfl))) (by decide) (t := .int) (t' := (.object "java/lang/String")) (by decide) (by decide))))
  have f5 := (g2_E.wr W2)
  obtain ⟨T3, h3, X3, e3, W3, st3⟩ := putF X2 hx hZ hown (host := "") (Or.inl (hw _ (List.mem_of_getElem? (i := 118) rfl))) Via.refl e2 f4 f5 (Or.inr ⟨(hw _ (List.mem_of_getElem? (i := 119) rfl)), rfl, hnm⟩) (hw _ (List.mem_of_getElem? (i := 91) rfl)) (ty := .int) (by decide) rfl rfl (g := (mkF m 11 #[.val (.ref a), .val x0, .val (.int x1), .val x2] [(.int x1), (.ref a)])) rfl rfl (hb hby own_d20_11)
  refine hG _ _ st3 ?_
  have K3 : Keep h0 h3 [a] := K2.wr W3 (Or.inl (List.mem_of_getElem? (i := 0) rfl))
  have O3 : own_Old Z h3 := O2.wr W3 g3_G
  have N3 := Fr.snoc X3 N2 g3_G
  show G (T3.setTop (mkF m 14 #[.val (.ref a), .val x0, .val (.int x1), .val x2] []))
  refine hG _ _ (fun t_ k_ => XS.aloadN X3.here hx rfl (hb hby own_d20_14) rfl rfl k_) ?_
  show G (T3.setTop (mkF m 15 #[.val (.ref a), .val x0, .val (.int x1), .val x2] [(.ref a)]))
  refine hG _ _ (fun t_ k_ => XS.aloadN X3.here hx rfl (hb hby own_d20_15) rfl g1_hx2 k_) ?_
  show G (T3.setTop (mkF m 16 #[.val (.ref a), .val x0, .val (.int x1), .val x2] [x2, (.ref a)]))
  have f7 := ((g6_F.other W2 (Or.inr (slot_ne (Or.inr (hw _ (List.mem_of_getElem? (i := 121) rfl))) (Or.inr (hw _ (List.mem_of_getElem? (i := 117) rfl))) (by decide) (t := (.object "java/util/List")) (t' := (.object "java/lang/String")) (by decide) (by decide)))).other W3 (Or.inr (slot_ne (Or.inr (hw _ (List.mem_of_getElem? (i := 121) rfl))) (Or.inr (hw _ (List.mem_of_getElem? (i := 119) rfl))) (by decide) (t := (.object "java/util/List")) (t' := .int) (by decide) (by decide))))
  have f8 := (f5.wr W3)
  obtain ⟨T6, h6, X6, e6, W6, st6⟩ := putF X3 hx hZ hown (host := "") (Or.inl (hw _ (List.mem_of_getElem? (i := 120) rfl))) Via.refl e3 f7 f8 (Or.inr ⟨(hw _ (List.mem_of_getElem? (i := 121) rfl)), rfl, hnm⟩) (hw _ (List.mem_of_getElem? (i := 91) rfl)) (ty := (.object "java/util/List")) (by decide) (own_narR rfl g1_hx2) (own_fitR rfl g1_hx2) (g := (mkF m 16 #[.val (.ref a), .val x0, .val (.int x1), .val x2] [x2, (.ref a)])) rfl rfl (hb hby own_d20_16)
  refine hG _ _ st6 ?_
  have K6 : Keep h0 h6 [a] := K3.wr W6 (Or.inl (List.mem_of_getElem? (i := 0) rfl))
  have O6 : own_Old Z h6 := O3.wr W6 g3_G
  have N6 := Fr.snoc X6 N3 g3_G
  show G (T6.setTop (mkF m 19 #[.val (.ref a), .val x0, .val (.int x1), .val x2] []))
  have f9 := (f8.wr W6)
  have f10 := (((g4_F.same W2).other W3 (Or.inr (slot_ne (Or.inr (hw _ (List.mem_of_getElem? (i := 117) rfl))) (Or.inr (hw _ (List.mem_of_getElem? (i := 119) rfl))) (by decide) (t := (.object "java/lang/String")) (t' := .int) (by decide) (by decide)))).other W6 (Or.inr (slot_ne (Or.inr (hw _ (List.mem_of_getElem? (i := 117) rfl))) (Or.inr (hw _ (List.mem_of_getElem? (i := 121) rfl))) (by decide) (t := (.object "java/lang/String")) (t' := (.object "java/util/List")) (by decide) (by decide))))
  have f11 := ((f4.same W3).other W6 (Or.inr (slot_ne (Or.inr (hw _ (List.mem_of_getElem? (i := 119) rfl))) (Or.inr (hw _ (List.mem_of_getElem? (i := 121) rfl))) (by decide) (t := .int) (t' := (.object "java/util/List")) (by decide) (by decide))))
  exact own_retV hR hret X6 hx (hb hby own_d20_19) (by decide) (by decide) (by rw [e6]; exact ⟨rfl, N6, K6, f9, f10, f11, (f7.same W6)⟩)
theorem own_pd19 : parseMethodDescriptor "(I)Ljava/lang/String;" = some ⟨[.int], some (.object "java/lang/String")⟩ := by decide +kernel
set_option maxRecDepth 65536 in
set_option maxHeartbeats 40000000 in
theorem own_field (l : Launch) (Z : State) (a0 : Array Value) (hw : ∀ d ∈ tables_1, d.before a0 Z = true) (q : Addr) (a : Addr) (i : Int32) (d : Addr) (kd : ClassId) (vs : List Value) (r : Addr) (n : Int32) (h0 : Heap) (O0 : own_Old Z h0) (g0_F : Fld Z h0 q "com/example/vestibule/vestibule/RecordFile$Record" "fields" "Ljava/util/List;" (.ref a)) (g1_h1 : ¬ (i < (0 : Int32))) (g2_h2 : i < (10 : Int32)) (g3_hat : vs.getD i.toNatClampNeg .null = .ref r) (g4_E : Exa Z h0 a "java/util/ArrayList") (g5_F : Fld Z h0 a "java/util/ArrayList" "elementData" "[Ljava/lang/Object;" (.ref d)) (g6_V : Arv Z h0 d kd (.object "java/lang/Object") (10 : Int32) vs .null) (g7_F : Fld Z h0 a "java/util/ArrayList" "size" "I" (.int n)) (g8_h3 : i < n) (g9_E : Exa Z h0 r "java/lang/String") :
    own_Con l Z (⟨"com/example/vestibule/vestibule/RecordFile$Record", "field", "(I)Ljava/lang/String;"⟩ : MethodName) prog_40_method_3_code 2 (some (.object "java/lang/String")) [] ({ frames := 3, cells := 0, slots := 0, locals := 40 } : Room) #[(.ref q), (.int i)] h0 (fun rv rh rL => rv = some (.ref r) ∧ own_Fr Z rL ∧ h0 = rh) := by
  refine own_intro (plainFor_of_name (by first | (simp [plainName, overriddenIn]; done) | decide +kernel)) ?_
  intro p e s m below meth c s₁ G hx hby hml hown hnm hret hZ X0 e0 hG hR
  have N0 := Fr.nil Z.heap.size
  refine own_entry (Ls := #[.val (.ref q), .val (.int i)]) (by first | (simp [entryFrame, mkF, argsToLocals, Value.category]; done) | rfl) ?_
  show G (s₁.setTop (mkF m 0 #[.val (.ref q), .val (.int i)] []))
  refine hG _ _ (fun t_ k_ => XS.aloadN X0.here hx rfl (hb hby own_d22_0) rfl rfl k_) ?_
  show G (s₁.setTop (mkF m 1 #[.val (.ref q), .val (.int i)] [(.ref q)]))
  obtain ⟨T1, X1, e1, st1⟩ := getF X0 hx hZ hown (host := "") (Or.inl (hw _ (List.mem_of_getElem? (i := 120) rfl))) Via.refl e0 g0_F (g := (mkF m 1 #[.val (.ref q), .val (.int i)] [(.ref q)])) rfl rfl (hb hby own_d22_1)
  refine hG _ _ st1 ?_
  show G (T1.setTop (mkF m 4 #[.val (.ref q), .val (.int i)] [(.ref a)]))
  refine hG _ _ (fun t_ k_ => XS.iloadN X1.here hx rfl (hb hby own_d22_4) rfl k_) ?_
  show G (T1.setTop (mkF m 5 #[.val (.ref q), .val (.int i)] [(.int i), (.ref a)]))
  refine own_callF (C := "java/util/ArrayList") X1 hx hZ hG hown (hw _ (List.mem_of_getElem? (i := 127) rfl)) (hw _ (List.mem_of_getElem? (i := 128) rfl)) (fun s_ hz_ => mvT hz_ (hw _ (List.mem_of_getElem? (i := 129) rfl))) (hw _ (List.mem_of_getElem? (i := 130) rfl)) (hw _ (List.mem_of_getElem? (i := 131) rfl)) (hw _ (List.mem_of_getElem? (i := 132) rfl)) (hw _ (List.mem_of_getElem? (i := 133) rfl)) (hw _ (List.mem_of_getElem? (i := 134) rfl)) (hw _ (List.mem_of_getElem? (i := 37) rfl)) (hw _ (List.mem_of_getElem? (i := 135) rfl)) (by decide) 0 (own_lget l Z a0 hw a i d kd vs r n h0 O0 g1_h1 g2_h2 g3_hat g4_E g5_F g6_V g7_F g8_h3) (by decide) (by decide) e1 g4_E (by rw [hml]; rfl) (lenOf own_pd16 rfl) (argsL := [(.int i)]) (rest := []) rfl rfl (Nat.le_of_eq rfl) (hb hby own_d22_5) (by decide) (by decide) ?_
  intro T2 h2 v2 L2 X2 e2 q2
  obtain ⟨rfl, M2, rfl⟩ := q2
  have N2 := Fr.app N0 M2
  show G (T2.setTop (mkF m 10 #[.val (.ref q), .val (.int i)] [(.ref r)]))
  obtain ⟨T3, X3, e3, st3⟩ := castY X2 hx hZ hown (hw _ (List.mem_of_getElem? (i := 149) rfl)) e2 (Ins.self g9_E) (g := (mkF m 10 #[.val (.ref q), .val (.int i)] [(.ref r)])) rfl rfl (hb hby own_d22_10)
  refine hG _ _ st3 ?_
  show G (T3.setTop (mkF m 13 #[.val (.ref q), .val (.int i)] [(.ref r)]))
  exact own_retA hR hret rfl rfl X3 hx (hb hby own_d22_13) (by decide) (by decide) (by rw [e3]; exact ⟨rfl, N2, rfl⟩)
theorem own_pd20 : parseMethodDescriptor "(IIIII)Z" = some ⟨[.int, .int, .int, .int, .int], some .boolean⟩ := by decide +kernel
set_option maxRecDepth 65536 in
set_option maxHeartbeats 40000000 in
theorem own_law (l : Launch) (Z : State) (a0 : Array Value) (hw : ∀ d ∈ tables_1, d.before a0 Z = true) (ws : List Jvm.Cond) (i0 : Int32) (i1 : Int32) (i2 : Int32) (i3 : Int32) (i4 : Int32) (cpt : Int32) (dflt : Addr) (kd : ClassId) (h0 : Heap) (O0 : own_Old Z h0) (g0_S : Sta Z Z.heap "java/lang/String" "COMPACT_STRINGS" "Z" (.int cpt)) (g1_hcpt : ¬ (cpt = (0 : Int32))) (g2_S : Sta Z Z.heap "java/util/ArrayList" "DEFAULTCAPACITY_EMPTY_ELEMENTDATA" "[Ljava/lang/Object;" (.ref dflt)) (g3_V : Arv Z h0 dflt kd (.object "java/lang/Object") (0 : Int32) [] .null) :
    own_Con l Z x code maxLocals ret ws room_1 #[(.int i0), (.int i1), (.int i2), (.int i3), (.int i4)] h0 (fun rv rh rL => rv = some (.int (1 : Int32)) ∧ own_Fr Z rL ∧ Keep h0 rh []) := by
  refine own_intro (plainFor_of_name (by first | (simp [plainName, overriddenIn]; done) | decide +kernel)) ?_
  intro p e s m below meth c s₁ G hx hby hml hown hnm hret hZ X0 e0 hG hR
  have N0 := Fr.nil Z.heap.size
  refine own_entry (Ls := #[.val (.int i0), .val (.int i1), .val (.int i2), .val (.int i3), .val (.int i4), .unset, .unset, .unset, .unset, .unset, .unset, .unset, .unset, .unset, .unset, .unset, .unset]) (by first | (simp [entryFrame, mkF, argsToLocals, Value.category, maxLocals]; done) | rfl) ?_
  show G (s₁.setTop (mkF m 0 #[.val (.int i0), .val (.int i1), .val (.int i2), .val (.int i3), .val (.int i4), .unset, .unset, .unset, .unset, .unset, .unset, .unset, .unset, .unset, .unset, .unset, .unset] []))
  refine hG _ _ (fun t_ k_ => XS.iconst X0.here hx rfl (hb hby at_0) k_) ?_
  show G (s₁.setTop (mkF m 1 #[.val (.int i0), .val (.int i1), .val (.int i2), .val (.int i3), .val (.int i4), .unset, .unset, .unset, .unset, .unset, .unset, .unset, .unset, .unset, .unset, .unset, .unset] [(.int (1 : Int32))]))
  refine hG _ _ (fun t_ k_ => XS.iloadN X0.here hx rfl (hb hby at_1) rfl k_) ?_
  show G (s₁.setTop (mkF m 2 #[.val (.int i0), .val (.int i1), .val (.int i2), .val (.int i3), .val (.int i4), .unset, .unset, .unset, .unset, .unset, .unset, .unset, .unset, .unset, .unset, .unset, .unset] [(.int i0), (.int (1 : Int32))]))
  refine hG _ _ (fun t_ k_ => XS.iconst X0.here hx rfl (hb hby at_2) k_) ?_
  show G (s₁.setTop (mkF m 3 #[.val (.int i0), .val (.int i1), .val (.int i2), .val (.int i3), .val (.int i4), .unset, .unset, .unset, .unset, .unset, .unset, .unset, .unset, .unset, .unset, .unset, .unset] [(.int (3 : Int32)), (.int i0), (.int (1 : Int32))]))
  refine hG _ _ (fun t_ k_ => XS.iand X0.here hx rfl (hb hby at_3) rfl k_) ?_
  show G (s₁.setTop (mkF m 4 #[.val (.int i0), .val (.int i1), .val (.int i2), .val (.int i3), .val (.int i4), .unset, .unset, .unset, .unset, .unset, .unset, .unset, .unset, .unset, .unset, .unset, .unset] [(.int (i0 &&& (3 : Int32))), (.int (1 : Int32))]))
  refine hG _ _ (fun t_ k_ => XS.iadd X0.here hx rfl (hb hby at_4) rfl k_) ?_
  show G (s₁.setTop (mkF m 5 #[.val (.int i0), .val (.int i1), .val (.int i2), .val (.int i3), .val (.int i4), .unset, .unset, .unset, .unset, .unset, .unset, .unset, .unset, .unset, .unset, .unset, .unset] [(.int ((1 : Int32) + (i0 &&& (3 : Int32))))]))
  refine hG _ _ (fun t_ k_ => XS.istore X0.here hx rfl (hb hby at_5) rfl (l' := #[.val (.int i0), .val (.int i1), .val (.int i2), .val (.int i3), .val (.int i4), .val (.int ((1 : Int32) + (i0 &&& (3 : Int32)))), .unset, .unset, .unset, .unset, .unset, .unset, .unset, .unset, .unset, .unset, .unset]) rfl k_) ?_
  show G (s₁.setTop (mkF m 7 #[.val (.int i0), .val (.int i1), .val (.int i2), .val (.int i3), .val (.int i4), .val (.int ((1 : Int32) + (i0 &&& (3 : Int32)))), .unset, .unset, .unset, .unset, .unset, .unset, .unset, .unset, .unset, .unset, .unset] []))
  generalize hn_sz1 : ((1 : Int32) + (i0 &&& (3 : Int32))) = sz1
  have hz := own_sz hn_sz1
  show G (s₁.setTop (mkF m 7 #[.val (.int i0), .val (.int i1), .val (.int i2), .val (.int i3), .val (.int i4), .val (.int sz1), .unset, .unset, .unset, .unset, .unset, .unset, .unset, .unset, .unset, .unset, .unset] []))
  refine hG _ _ (fun t_ k_ => XS.iloadN X0.here hx rfl (hb hby at_7) rfl k_) ?_
  show G (s₁.setTop (mkF m 8 #[.val (.int i0), .val (.int i1), .val (.int i2), .val (.int i3), .val (.int i4), .val (.int sz1), .unset, .unset, .unset, .unset, .unset, .unset, .unset, .unset, .unset, .unset, .unset] [(.int i1)]))
  refine hG _ _ (X0.ldcInt hx hown (mvT hZ (hw _ (List.mem_of_getElem? (i := 0) rfl))) (g := (mkF m 8 #[.val (.int i0), .val (.int i1), .val (.int i2), .val (.int i3), .val (.int i4), .val (.int sz1), .unset, .unset, .unset, .unset, .unset, .unset, .unset, .unset, .unset, .unset, .unset] [(.int i1)])) rfl (hb hby at_8)) ?_
  show G (s₁.setTop (mkF m 10 #[.val (.int i0), .val (.int i1), .val (.int i2), .val (.int i3), .val (.int i4), .val (.int sz1), .unset, .unset, .unset, .unset, .unset, .unset, .unset, .unset, .unset, .unset, .unset] [(.int (2147483647 : Int32)), (.int i1)]))
  refine hG _ _ (fun t_ k_ => XS.iand X0.here hx rfl (hb hby at_10) rfl k_) ?_
  show G (s₁.setTop (mkF m 11 #[.val (.int i0), .val (.int i1), .val (.int i2), .val (.int i3), .val (.int i4), .val (.int sz1), .unset, .unset, .unset, .unset, .unset, .unset, .unset, .unset, .unset, .unset, .unset] [(.int (i1 &&& (2147483647 : Int32)))]))
  refine hG _ _ (fun t_ k_ => XS.iload X0.here hx rfl (hb hby at_11) rfl k_) ?_
  show G (s₁.setTop (mkF m 13 #[.val (.int i0), .val (.int i1), .val (.int i2), .val (.int i3), .val (.int i4), .val (.int sz1), .unset, .unset, .unset, .unset, .unset, .unset, .unset, .unset, .unset, .unset, .unset] [(.int sz1), (.int (i1 &&& (2147483647 : Int32)))]))
  refine hG _ _ (fun t_ k_ => iremM X0 hx rfl (hb hby at_13) rfl (own_sz0 hz) k_) ?_
  show G (s₁.setTop (mkF m 14 #[.val (.int i0), .val (.int i1), .val (.int i2), .val (.int i3), .val (.int i4), .val (.int sz1), .unset, .unset, .unset, .unset, .unset, .unset, .unset, .unset, .unset, .unset, .unset] [(.int ((i1 &&& (2147483647 : Int32)) % sz1))]))
  refine hG _ _ (fun t_ k_ => XS.istore X0.here hx rfl (hb hby at_14) rfl (l' := #[.val (.int i0), .val (.int i1), .val (.int i2), .val (.int i3), .val (.int i4), .val (.int sz1), .val (.int ((i1 &&& (2147483647 : Int32)) % sz1)), .unset, .unset, .unset, .unset, .unset, .unset, .unset, .unset, .unset, .unset]) rfl k_) ?_
  show G (s₁.setTop (mkF m 16 #[.val (.int i0), .val (.int i1), .val (.int i2), .val (.int i3), .val (.int i4), .val (.int sz1), .val (.int ((i1 &&& (2147483647 : Int32)) % sz1)), .unset, .unset, .unset, .unset, .unset, .unset, .unset, .unset, .unset, .unset] []))
  generalize hn_ix2 : ((i1 &&& (2147483647 : Int32)) % sz1) = ix2
  have hix := own_ixr hz hn_ix2
  show G (s₁.setTop (mkF m 16 #[.val (.int i0), .val (.int i1), .val (.int i2), .val (.int i3), .val (.int i4), .val (.int sz1), .val (.int ix2), .unset, .unset, .unset, .unset, .unset, .unset, .unset, .unset, .unset, .unset] []))
  refine hG _ _ (fun t_ k_ => XS.iloadN X0.here hx rfl (hb hby at_16) rfl k_) ?_
  show G (s₁.setTop (mkF m 17 #[.val (.int i0), .val (.int i1), .val (.int i2), .val (.int i3), .val (.int i4), .val (.int sz1), .val (.int ix2), .unset, .unset, .unset, .unset, .unset, .unset, .unset, .unset, .unset, .unset] [(.int i2)]))
  refine hG _ _ (fun t_ k_ => XS.sipush X0.here hx rfl (hb hby at_17) k_) ?_
  show G (s₁.setTop (mkF m 20 #[.val (.int i0), .val (.int i1), .val (.int i2), .val (.int i3), .val (.int i4), .val (.int sz1), .val (.int ix2), .unset, .unset, .unset, .unset, .unset, .unset, .unset, .unset, .unset, .unset] [(.int (255 : Int32)), (.int i2)]))
  refine hG _ _ (fun t_ k_ => XS.iand X0.here hx rfl (hb hby at_20) rfl k_) ?_
  show G (s₁.setTop (mkF m 21 #[.val (.int i0), .val (.int i1), .val (.int i2), .val (.int i3), .val (.int i4), .val (.int sz1), .val (.int ix2), .unset, .unset, .unset, .unset, .unset, .unset, .unset, .unset, .unset, .unset] [(.int (i2 &&& (255 : Int32)))]))
  refine hG _ _ (fun t_ k_ => XS.i2c X0.here hx rfl (hb hby at_21) rfl k_) ?_
  show G (s₁.setTop (mkF m 22 #[.val (.int i0), .val (.int i1), .val (.int i2), .val (.int i3), .val (.int i4), .val (.int sz1), .val (.int ix2), .unset, .unset, .unset, .unset, .unset, .unset, .unset, .unset, .unset, .unset] [(.int ((i2 &&& (255 : Int32)).toUInt32.toUInt16.toUInt32.toInt32))]))
  generalize hn_c3 : ((i2 &&& (255 : Int32)).toUInt32.toUInt16.toUInt32.toInt32) = c3
  have hr_c3 := own_mask8 hn_c3
  refine hG _ _ (fun t_ k_ => XS.istore X0.here hx rfl (hb hby at_22) rfl (l' := #[.val (.int i0), .val (.int i1), .val (.int i2), .val (.int i3), .val (.int i4), .val (.int sz1), .val (.int ix2), .val (.int c3), .unset, .unset, .unset, .unset, .unset, .unset, .unset, .unset, .unset]) rfl k_) ?_
  show G (s₁.setTop (mkF m 24 #[.val (.int i0), .val (.int i1), .val (.int i2), .val (.int i3), .val (.int i4), .val (.int sz1), .val (.int ix2), .val (.int c3), .unset, .unset, .unset, .unset, .unset, .unset, .unset, .unset, .unset] []))
  refine hG _ _ (fun t_ k_ => XS.iloadN X0.here hx rfl (hb hby at_24) rfl k_) ?_
  show G (s₁.setTop (mkF m 25 #[.val (.int i0), .val (.int i1), .val (.int i2), .val (.int i3), .val (.int i4), .val (.int sz1), .val (.int ix2), .val (.int c3), .unset, .unset, .unset, .unset, .unset, .unset, .unset, .unset, .unset] [(.int i3)]))
  refine hG _ _ (fun t_ k_ => XS.sipush X0.here hx rfl (hb hby at_25) k_) ?_
  show G (s₁.setTop (mkF m 28 #[.val (.int i0), .val (.int i1), .val (.int i2), .val (.int i3), .val (.int i4), .val (.int sz1), .val (.int ix2), .val (.int c3), .unset, .unset, .unset, .unset, .unset, .unset, .unset, .unset, .unset] [(.int (255 : Int32)), (.int i3)]))
  refine hG _ _ (fun t_ k_ => XS.iand X0.here hx rfl (hb hby at_28) rfl k_) ?_
  show G (s₁.setTop (mkF m 29 #[.val (.int i0), .val (.int i1), .val (.int i2), .val (.int i3), .val (.int i4), .val (.int sz1), .val (.int ix2), .val (.int c3), .unset, .unset, .unset, .unset, .unset, .unset, .unset, .unset, .unset] [(.int (i3 &&& (255 : Int32)))]))
  refine hG _ _ (fun t_ k_ => XS.i2c X0.here hx rfl (hb hby at_29) rfl k_) ?_
  show G (s₁.setTop (mkF m 30 #[.val (.int i0), .val (.int i1), .val (.int i2), .val (.int i3), .val (.int i4), .val (.int sz1), .val (.int ix2), .val (.int c3), .unset, .unset, .unset, .unset, .unset, .unset, .unset, .unset, .unset] [(.int ((i3 &&& (255 : Int32)).toUInt32.toUInt16.toUInt32.toInt32))]))
  generalize hn_c4 : ((i3 &&& (255 : Int32)).toUInt32.toUInt16.toUInt32.toInt32) = c4
  have hr_c4 := own_mask8 hn_c4
  refine hG _ _ (fun t_ k_ => XS.istore X0.here hx rfl (hb hby at_30) rfl (l' := #[.val (.int i0), .val (.int i1), .val (.int i2), .val (.int i3), .val (.int i4), .val (.int sz1), .val (.int ix2), .val (.int c3), .val (.int c4), .unset, .unset, .unset, .unset, .unset, .unset, .unset, .unset]) rfl k_) ?_
  show G (s₁.setTop (mkF m 32 #[.val (.int i0), .val (.int i1), .val (.int i2), .val (.int i3), .val (.int i4), .val (.int sz1), .val (.int ix2), .val (.int c3), .val (.int c4), .unset, .unset, .unset, .unset, .unset, .unset, .unset, .unset] []))
  refine hG _ _ (fun t_ k_ => XS.bipush X0.here hx rfl (hb hby at_32) k_) ?_
  show G (s₁.setTop (mkF m 34 #[.val (.int i0), .val (.int i1), .val (.int i2), .val (.int i3), .val (.int i4), .val (.int sz1), .val (.int ix2), .val (.int c3), .val (.int c4), .unset, .unset, .unset, .unset, .unset, .unset, .unset, .unset] [(.int (97 : Int32))]))
  refine hG _ _ (fun t_ k_ => XS.iload X0.here hx rfl (hb hby at_34) rfl k_) ?_
  show G (s₁.setTop (mkF m 36 #[.val (.int i0), .val (.int i1), .val (.int i2), .val (.int i3), .val (.int i4), .val (.int sz1), .val (.int ix2), .val (.int c3), .val (.int c4), .unset, .unset, .unset, .unset, .unset, .unset, .unset, .unset] [(.int c3), (.int (97 : Int32))]))
  refine own_callS X0 hx hZ hG hown (hw _ (List.mem_of_getElem? (i := 1) rfl)) (hw _ (List.mem_of_getElem? (i := 2) rfl)) (hw _ (List.mem_of_getElem? (i := 3) rfl)) (hw _ (List.mem_of_getElem? (i := 4) rfl)) (by decide) 0 (own_mk l Z a0 hw (97 : Int32) c3 cpt h0 O0 g0_S g1_hcpt (by decide) hr_c3) (by decide) (by decide) e0 (by rw [hml]; rfl) (lenOf own_pd17 rfl) (argsL := [(.int (97 : Int32)), (.int c3)]) (rest := []) rfl rfl (Nat.le_of_eq rfl) (hb hby at_36) (by decide) (by decide) ?_
  intro T5 h5 v5 L5 X5 e5 q5
  obtain ⟨t_5, rfl, M5, J5, y5_0, r5_0⟩ := q5
  have N5 := Fr.app N0 M5
  have K5 : Keep h0 h5 [] := (Keep.refl h0 []).trans J5 all0
  have O5 : own_Old Z h5 := O0.keep J5 all0
  show G (T5.setTop (mkF m 39 #[.val (.int i0), .val (.int i1), .val (.int i2), .val (.int i3), .val (.int i4), .val (.int sz1), .val (.int ix2), .val (.int c3), .val (.int c4), .unset, .unset, .unset, .unset, .unset, .unset, .unset, .unset] [(.ref t_5)]))
  refine hG _ _ (fun t_ k_ => XS.astore X5.here hx rfl (hb hby at_39) rfl rfl (l' := #[.val (.int i0), .val (.int i1), .val (.int i2), .val (.int i3), .val (.int i4), .val (.int sz1), .val (.int ix2), .val (.int c3), .val (.int c4), .val (.ref t_5), .unset, .unset, .unset, .unset, .unset, .unset, .unset]) rfl k_) ?_
  show G (T5.setTop (mkF m 41 #[.val (.int i0), .val (.int i1), .val (.int i2), .val (.int i3), .val (.int i4), .val (.int sz1), .val (.int ix2), .val (.int c3), .val (.int c4), .val (.ref t_5), .unset, .unset, .unset, .unset, .unset, .unset, .unset] []))
  refine hG _ _ (fun t_ k_ => XS.bipush X5.here hx rfl (hb hby at_41) k_) ?_
  show G (T5.setTop (mkF m 43 #[.val (.int i0), .val (.int i1), .val (.int i2), .val (.int i3), .val (.int i4), .val (.int sz1), .val (.int ix2), .val (.int c3), .val (.int c4), .val (.ref t_5), .unset, .unset, .unset, .unset, .unset, .unset, .unset] [(.int (98 : Int32))]))
  refine hG _ _ (fun t_ k_ => XS.iload X5.here hx rfl (hb hby at_43) rfl k_) ?_
  show G (T5.setTop (mkF m 45 #[.val (.int i0), .val (.int i1), .val (.int i2), .val (.int i3), .val (.int i4), .val (.int sz1), .val (.int ix2), .val (.int c3), .val (.int c4), .val (.ref t_5), .unset, .unset, .unset, .unset, .unset, .unset, .unset] [(.int c4), (.int (98 : Int32))]))
  refine own_callS X5 hx hZ hG hown (hw _ (List.mem_of_getElem? (i := 1) rfl)) (hw _ (List.mem_of_getElem? (i := 2) rfl)) (hw _ (List.mem_of_getElem? (i := 3) rfl)) (hw _ (List.mem_of_getElem? (i := 4) rfl)) (by decide) 0 (own_mk l Z a0 hw (98 : Int32) c4 cpt h5 O5 g0_S g1_hcpt (by decide) hr_c4) (by decide) (by decide) e5 (by rw [hml]; rfl) (lenOf own_pd17 rfl) (argsL := [(.int (98 : Int32)), (.int c4)]) (rest := []) rfl rfl (Nat.le_of_eq rfl) (hb hby at_45) (by decide) (by decide) ?_
  intro T6 h6 v6 L6 X6 e6 q6
  obtain ⟨t_6, rfl, M6, J6, y6_0, r6_0⟩ := q6
  have N6 := Fr.app N5 M6
  have K6 : Keep h0 h6 [] := K5.trans J6 all0
  have O6 : own_Old Z h6 := O5.keep J6 all0
  show G (T6.setTop (mkF m 48 #[.val (.int i0), .val (.int i1), .val (.int i2), .val (.int i3), .val (.int i4), .val (.int sz1), .val (.int ix2), .val (.int c3), .val (.int c4), .val (.ref t_5), .unset, .unset, .unset, .unset, .unset, .unset, .unset] [(.ref t_6)]))
  refine hG _ _ (fun t_ k_ => XS.astore X6.here hx rfl (hb hby at_48) rfl rfl (l' := #[.val (.int i0), .val (.int i1), .val (.int i2), .val (.int i3), .val (.int i4), .val (.int sz1), .val (.int ix2), .val (.int c3), .val (.int c4), .val (.ref t_5), .val (.ref t_6), .unset, .unset, .unset, .unset, .unset, .unset]) rfl k_) ?_
  show G (T6.setTop (mkF m 50 #[.val (.int i0), .val (.int i1), .val (.int i2), .val (.int i3), .val (.int i4), .val (.int sz1), .val (.int ix2), .val (.int c3), .val (.int c4), .val (.ref t_5), .val (.ref t_6), .unset, .unset, .unset, .unset, .unset, .unset] []))
  refine hG _ _ (fun t_ k_ => XS.bipush X6.here hx rfl (hb hby at_50) k_) ?_
  show G (T6.setTop (mkF m 52 #[.val (.int i0), .val (.int i1), .val (.int i2), .val (.int i3), .val (.int i4), .val (.int sz1), .val (.int ix2), .val (.int c3), .val (.int c4), .val (.ref t_5), .val (.ref t_6), .unset, .unset, .unset, .unset, .unset, .unset] [(.int (99 : Int32))]))
  refine hG _ _ (fun t_ k_ => XS.iload X6.here hx rfl (hb hby at_52) rfl k_) ?_
  show G (T6.setTop (mkF m 54 #[.val (.int i0), .val (.int i1), .val (.int i2), .val (.int i3), .val (.int i4), .val (.int sz1), .val (.int ix2), .val (.int c3), .val (.int c4), .val (.ref t_5), .val (.ref t_6), .unset, .unset, .unset, .unset, .unset, .unset] [(.int c3), (.int (99 : Int32))]))
  refine own_callS X6 hx hZ hG hown (hw _ (List.mem_of_getElem? (i := 1) rfl)) (hw _ (List.mem_of_getElem? (i := 2) rfl)) (hw _ (List.mem_of_getElem? (i := 3) rfl)) (hw _ (List.mem_of_getElem? (i := 4) rfl)) (by decide) 0 (own_mk l Z a0 hw (99 : Int32) c3 cpt h6 O6 g0_S g1_hcpt (by decide) hr_c3) (by decide) (by decide) e6 (by rw [hml]; rfl) (lenOf own_pd17 rfl) (argsL := [(.int (99 : Int32)), (.int c3)]) (rest := []) rfl rfl (Nat.le_of_eq rfl) (hb hby at_54) (by decide) (by decide) ?_
  intro T7 h7 v7 L7 X7 e7 q7
  obtain ⟨t_7, rfl, M7, J7, y7_0, r7_0⟩ := q7
  have N7 := Fr.app N6 M7
  have K7 : Keep h0 h7 [] := K6.trans J7 all0
  have O7 : own_Old Z h7 := O6.keep J7 all0
  show G (T7.setTop (mkF m 57 #[.val (.int i0), .val (.int i1), .val (.int i2), .val (.int i3), .val (.int i4), .val (.int sz1), .val (.int ix2), .val (.int c3), .val (.int c4), .val (.ref t_5), .val (.ref t_6), .unset, .unset, .unset, .unset, .unset, .unset] [(.ref t_7)]))
  refine hG _ _ (fun t_ k_ => XS.astore X7.here hx rfl (hb hby at_57) rfl rfl (l' := #[.val (.int i0), .val (.int i1), .val (.int i2), .val (.int i3), .val (.int i4), .val (.int sz1), .val (.int ix2), .val (.int c3), .val (.int c4), .val (.ref t_5), .val (.ref t_6), .val (.ref t_7), .unset, .unset, .unset, .unset, .unset]) rfl k_) ?_
  show G (T7.setTop (mkF m 59 #[.val (.int i0), .val (.int i1), .val (.int i2), .val (.int i3), .val (.int i4), .val (.int sz1), .val (.int ix2), .val (.int c3), .val (.int c4), .val (.ref t_5), .val (.ref t_6), .val (.ref t_7), .unset, .unset, .unset, .unset, .unset] []))
  refine hG _ _ (fun t_ k_ => XS.bipush X7.here hx rfl (hb hby at_59) k_) ?_
  show G (T7.setTop (mkF m 61 #[.val (.int i0), .val (.int i1), .val (.int i2), .val (.int i3), .val (.int i4), .val (.int sz1), .val (.int ix2), .val (.int c3), .val (.int c4), .val (.ref t_5), .val (.ref t_6), .val (.ref t_7), .unset, .unset, .unset, .unset, .unset] [(.int (100 : Int32))]))
  refine hG _ _ (fun t_ k_ => XS.iload X7.here hx rfl (hb hby at_61) rfl k_) ?_
  show G (T7.setTop (mkF m 63 #[.val (.int i0), .val (.int i1), .val (.int i2), .val (.int i3), .val (.int i4), .val (.int sz1), .val (.int ix2), .val (.int c3), .val (.int c4), .val (.ref t_5), .val (.ref t_6), .val (.ref t_7), .unset, .unset, .unset, .unset, .unset] [(.int c4), (.int (100 : Int32))]))
  refine own_callS X7 hx hZ hG hown (hw _ (List.mem_of_getElem? (i := 1) rfl)) (hw _ (List.mem_of_getElem? (i := 2) rfl)) (hw _ (List.mem_of_getElem? (i := 3) rfl)) (hw _ (List.mem_of_getElem? (i := 4) rfl)) (by decide) 0 (own_mk l Z a0 hw (100 : Int32) c4 cpt h7 O7 g0_S g1_hcpt (by decide) hr_c4) (by decide) (by decide) e7 (by rw [hml]; rfl) (lenOf own_pd17 rfl) (argsL := [(.int (100 : Int32)), (.int c4)]) (rest := []) rfl rfl (Nat.le_of_eq rfl) (hb hby at_63) (by decide) (by decide) ?_
  intro T8 h8 v8 L8 X8 e8 q8
  obtain ⟨t_8, rfl, M8, J8, y8_0, r8_0⟩ := q8
  have N8 := Fr.app N7 M8
  have K8 : Keep h0 h8 [] := K7.trans J8 all0
  have O8 : own_Old Z h8 := O7.keep J8 all0
  show G (T8.setTop (mkF m 66 #[.val (.int i0), .val (.int i1), .val (.int i2), .val (.int i3), .val (.int i4), .val (.int sz1), .val (.int ix2), .val (.int c3), .val (.int c4), .val (.ref t_5), .val (.ref t_6), .val (.ref t_7), .unset, .unset, .unset, .unset, .unset] [(.ref t_8)]))
  refine hG _ _ (fun t_ k_ => XS.astore X8.here hx rfl (hb hby at_66) rfl rfl (l' := #[.val (.int i0), .val (.int i1), .val (.int i2), .val (.int i3), .val (.int i4), .val (.int sz1), .val (.int ix2), .val (.int c3), .val (.int c4), .val (.ref t_5), .val (.ref t_6), .val (.ref t_7), .val (.ref t_8), .unset, .unset, .unset, .unset]) rfl k_) ?_
  show G (T8.setTop (mkF m 68 #[.val (.int i0), .val (.int i1), .val (.int i2), .val (.int i3), .val (.int i4), .val (.int sz1), .val (.int ix2), .val (.int c3), .val (.int c4), .val (.ref t_5), .val (.ref t_6), .val (.ref t_7), .val (.ref t_8), .unset, .unset, .unset, .unset] []))
  obtain ⟨T9, h9, X9, e9, E9, A9, D9, -, st9⟩ := newO X8 hx hZ hown (hw _ (List.mem_of_getElem? (i := 35) rfl)) (hw _ (List.mem_of_getElem? (i := 36) rfl)) (hw _ (List.mem_of_getElem? (i := 37) rfl)) e8 (g := (mkF m 68 #[.val (.int i0), .val (.int i1), .val (.int i2), .val (.int i3), .val (.int i4), .val (.int sz1), .val (.int ix2), .val (.int c3), .val (.int c4), .val (.ref t_5), .val (.ref t_6), .val (.ref t_7), .val (.ref t_8), .unset, .unset, .unset, .unset] [])) rfl (hb hby at_68) (by decide) (by decide)
  obtain ⟨b9, z9⟩ : ∃ z, z = h8.size := ⟨_, rfl⟩
  rw [← z9] at A9 D9 st9
  refine hG _ _ st9 ?_
  have K9 : Keep h0 h9 [] := K8.ext E9
  have O9 : own_Old Z h9 := O8.ext E9
  show G (T9.setTop (mkF m 71 #[.val (.int i0), .val (.int i1), .val (.int i2), .val (.int i3), .val (.int i4), .val (.int sz1), .val (.int ix2), .val (.int c3), .val (.int c4), .val (.ref t_5), .val (.ref t_6), .val (.ref t_7), .val (.ref t_8), .unset, .unset, .unset, .unset] [(.ref b9)]))
  refine hG _ _ (fun t_ k_ => XS.dup X9.here hx rfl (hb hby at_71) rfl rfl k_) ?_
  show G (T9.setTop (mkF m 72 #[.val (.int i0), .val (.int i1), .val (.int i2), .val (.int i3), .val (.int i4), .val (.int sz1), .val (.int ix2), .val (.int c3), .val (.int c4), .val (.ref t_5), .val (.ref t_6), .val (.ref t_7), .val (.ref t_8), .unset, .unset, .unset, .unset] [(.ref b9), (.ref b9)]))
  refine own_callI X9 hx hZ hG hown rfl (hw _ (List.mem_of_getElem? (i := 38) rfl)) (hw _ (List.mem_of_getElem? (i := 39) rfl)) (hw _ (List.mem_of_getElem? (i := 37) rfl)) (hw _ (List.mem_of_getElem? (i := 40) rfl)) (by decide) 1 (own_anew l Z a0 hw b9 dflt (.int (0 : Int32)) .null (.int (0 : Int32)) h9 O9 A9 (own_ge O8 (Nat.le_of_eq z9.symm)) g2_S (D9 (Or.inl (hw _ (List.mem_of_getElem? (i := 55) rfl))) (ty := .int) (by decide)) (D9 (Or.inl (hw _ (List.mem_of_getElem? (i := 58) rfl))) (ty := (.array (.object "java/lang/Object"))) (by decide)) (D9 (Or.inl (hw _ (List.mem_of_getElem? (i := 67) rfl))) (ty := .int) (by decide))) (by decide) (by decide) e9 (by rw [hml]; rfl) (lenOf own_pd0 rfl) (argsL := []) (rest := [(.ref b9)]) rfl rfl (Nat.le_of_eq rfl) (hb hby at_72) (by decide) (by decide) ?_
  intro T10 h10 v10 L10 X10 e10 q10
  obtain ⟨rfl, M10, J10, r10_0, r10_1, r10_2, r10_3⟩ := q10
  have N10 := Fr.app N8 M10
  have K10 : Keep h0 h10 [] := K9.trans J10 (allS (Or.inr (Nat.le_trans K8.1 (Nat.le_of_eq z9.symm))) all0)
  have O10 : own_Old Z h10 := O9.keep J10 (allS (own_ge O8 (Nat.le_of_eq z9.symm)) all0)
  show G (T10.setTop (mkF m 75 #[.val (.int i0), .val (.int i1), .val (.int i2), .val (.int i3), .val (.int i4), .val (.int sz1), .val (.int ix2), .val (.int c3), .val (.int c4), .val (.ref t_5), .val (.ref t_6), .val (.ref t_7), .val (.ref t_8), .unset, .unset, .unset, .unset] [(.ref b9)]))
  refine hG _ _ (fun t_ k_ => XS.astore X10.here hx rfl (hb hby at_75) rfl rfl (l' := #[.val (.int i0), .val (.int i1), .val (.int i2), .val (.int i3), .val (.int i4), .val (.int sz1), .val (.int ix2), .val (.int c3), .val (.int c4), .val (.ref t_5), .val (.ref t_6), .val (.ref t_7), .val (.ref t_8), .val (.ref b9), .unset, .unset, .unset]) rfl k_) ?_
  show G (T10.setTop (mkF m 77 #[.val (.int i0), .val (.int i1), .val (.int i2), .val (.int i3), .val (.int i4), .val (.int sz1), .val (.int ix2), .val (.int c3), .val (.int c4), .val (.ref t_5), .val (.ref t_6), .val (.ref t_7), .val (.ref t_8), .val (.ref b9), .unset, .unset, .unset] []))
  refine hG _ _ (fun t_ k_ => XS.aload X10.here hx rfl (hb hby at_77) rfl rfl k_) ?_
  show G (T10.setTop (mkF m 79 #[.val (.int i0), .val (.int i1), .val (.int i2), .val (.int i3), .val (.int i4), .val (.int sz1), .val (.int ix2), .val (.int c3), .val (.int c4), .val (.ref t_5), .val (.ref t_6), .val (.ref t_7), .val (.ref t_8), .val (.ref b9), .unset, .unset, .unset] [(.ref b9)]))
  refine hG _ _ (fun t_ k_ => XS.aload X10.here hx rfl (hb hby at_79) rfl rfl k_) ?_
  show G (T10.setTop (mkF m 81 #[.val (.int i0), .val (.int i1), .val (.int i2), .val (.int i3), .val (.int i4), .val (.int sz1), .val (.int ix2), .val (.int c3), .val (.int c4), .val (.ref t_5), .val (.ref t_6), .val (.ref t_7), .val (.ref t_8), .val (.ref b9), .unset, .unset, .unset] [(.ref t_5), (.ref b9)]))
  have f12 := ((((((g3_V.keep J5 nin0).keep J6 nin0).keep J7 nin0).keep J8 nin0).ext E9).keep J10 (ninS (own_ne (Nat.lt_of_lt_of_le (Nat.lt_of_lt_of_le (Nat.lt_of_lt_of_le (Nat.lt_of_lt_of_le g3_V.lt J5.1) J6.1) J7.1) J8.1) (Nat.le_of_eq z9.symm)) nin0))
  have f13 := (((((r5_0.keep J6).keep J7).keep J8).ext E9).keep J10)
  refine own_callV (C := "java/util/ArrayList") X10 hx hZ hG hown (hw _ (List.mem_of_getElem? (i := 59) rfl)) (hw _ (List.mem_of_getElem? (i := 60) rfl)) (hw _ (List.mem_of_getElem? (i := 62) rfl)) (hw _ (List.mem_of_getElem? (i := 61) rfl)) (hw _ (List.mem_of_getElem? (i := 37) rfl)) (hw _ (List.mem_of_getElem? (i := 63) rfl)) (by decide) 0 (own_add0 l Z a0 hw b9 dflt kd (0 : Int32) t_5 h10 O10 r10_0 (own_ge O8 (Nat.le_of_eq z9.symm)) g2_S (Ne.symm (own_ne (Nat.lt_of_lt_of_le (Nat.lt_of_lt_of_le (Nat.lt_of_lt_of_le (Nat.lt_of_lt_of_le g3_V.lt J5.1) J6.1) J7.1) J8.1) (Nat.le_of_eq z9.symm))) r10_1 r10_2 r10_3 f12 f13) (by decide) (by decide) e10 r10_0 (by rw [hml]; rfl) (lenOf own_pd10 rfl) (argsL := [(.ref t_5)]) (rest := []) rfl rfl (Nat.le_of_eq rfl) (hb hby at_81) (by decide) (by decide) ?_
  intro T11 h11 v11 L11 X11 e11 q11
  obtain ⟨t_11, kt_11, rfl, M11, J11, y11_0, r11_0, r11_1, r11_2, r11_3, r11_4, r11_5⟩ := q11
  have N11 := Fr.app N10 M11
  have K11 : Keep h0 h11 [] := K10.trans J11 (allS (Or.inr (Nat.le_trans K8.1 (Nat.le_of_eq z9.symm))) all0)
  have O11 : own_Old Z h11 := O10.keep J11 (allS (own_ge O8 (Nat.le_of_eq z9.symm)) all0)
  show G (T11.setTop (mkF m 84 #[.val (.int i0), .val (.int i1), .val (.int i2), .val (.int i3), .val (.int i4), .val (.int sz1), .val (.int ix2), .val (.int c3), .val (.int c4), .val (.ref t_5), .val (.ref t_6), .val (.ref t_7), .val (.ref t_8), .val (.ref b9), .unset, .unset, .unset] [(.int (1 : Int32))]))
  refine hG _ _ (fun t_ k_ => XS.pop X11.here hx rfl (hb hby at_84) rfl rfl k_) ?_
  show G (T11.setTop (mkF m 85 #[.val (.int i0), .val (.int i1), .val (.int i2), .val (.int i3), .val (.int i4), .val (.int sz1), .val (.int ix2), .val (.int c3), .val (.int c4), .val (.ref t_5), .val (.ref t_6), .val (.ref t_7), .val (.ref t_8), .val (.ref b9), .unset, .unset, .unset] []))
  refine hG _ _ (fun t_ k_ => XS.iload X11.here hx rfl (hb hby at_85) rfl k_) ?_
  show G (T11.setTop (mkF m 87 #[.val (.int i0), .val (.int i1), .val (.int i2), .val (.int i3), .val (.int i4), .val (.int sz1), .val (.int ix2), .val (.int c3), .val (.int c4), .val (.ref t_5), .val (.ref t_6), .val (.ref t_7), .val (.ref t_8), .val (.ref b9), .unset, .unset, .unset] [(.int sz1)]))
  refine hG _ _ (fun t_ k_ => XS.iconst X11.here hx rfl (hb hby at_87) k_) ?_
  show G (T11.setTop (mkF m 88 #[.val (.int i0), .val (.int i1), .val (.int i2), .val (.int i3), .val (.int i4), .val (.int sz1), .val (.int ix2), .val (.int c3), .val (.int c4), .val (.ref t_5), .val (.ref t_6), .val (.ref t_7), .val (.ref t_8), .val (.ref b9), .unset, .unset, .unset] [(.int (1 : Int32)), (.int sz1)]))
  by_cases hc88_14 : (1 : Int32) < sz1
  · skip
    refine hG _ _ (fun t_ k_ => XS.icmpNo X11.here hx rfl (hb hby at_88) rfl (tlt hc88_14).2.2.2 k_) ?_
    show G (T11.setTop (mkF m 91 #[.val (.int i0), .val (.int i1), .val (.int i2), .val (.int i3), .val (.int i4), .val (.int sz1), .val (.int ix2), .val (.int c3), .val (.int c4), .val (.ref t_5), .val (.ref t_6), .val (.ref t_7), .val (.ref t_8), .val (.ref b9), .unset, .unset, .unset] []))
    refine hG _ _ (fun t_ k_ => XS.aload X11.here hx rfl (hb hby at_91) rfl rfl k_) ?_
    show G (T11.setTop (mkF m 93 #[.val (.int i0), .val (.int i1), .val (.int i2), .val (.int i3), .val (.int i4), .val (.int sz1), .val (.int ix2), .val (.int c3), .val (.int c4), .val (.ref t_5), .val (.ref t_6), .val (.ref t_7), .val (.ref t_8), .val (.ref b9), .unset, .unset, .unset] [(.ref b9)]))
    refine hG _ _ (fun t_ k_ => XS.aload X11.here hx rfl (hb hby at_93) rfl rfl k_) ?_
    show G (T11.setTop (mkF m 95 #[.val (.int i0), .val (.int i1), .val (.int i2), .val (.int i3), .val (.int i4), .val (.int sz1), .val (.int ix2), .val (.int c3), .val (.int c4), .val (.ref t_5), .val (.ref t_6), .val (.ref t_7), .val (.ref t_8), .val (.ref b9), .unset, .unset, .unset] [(.ref t_6), (.ref b9)]))
    have f16 := (((((r6_0.keep J7).keep J8).ext E9).keep J10).keep J11)
    refine own_callV (C := "java/util/ArrayList") X11 hx hZ hG hown (hw _ (List.mem_of_getElem? (i := 59) rfl)) (hw _ (List.mem_of_getElem? (i := 60) rfl)) (hw _ (List.mem_of_getElem? (i := 62) rfl)) (hw _ (List.mem_of_getElem? (i := 61) rfl)) (hw _ (List.mem_of_getElem? (i := 37) rfl)) (hw _ (List.mem_of_getElem? (i := 63) rfl)) (by decide) 0 (own_add1 l Z a0 hw b9 t_11 kt_11 ((0 : Int32) + (1 : Int32)) t_6 t_5 h11 O11 r11_0 (own_ge O8 (Nat.le_of_eq z9.symm)) (own_ge O10 y11_0) (own_ne r10_0.lt y11_0) r11_1 r11_2 r11_3 r11_4 r11_5 f16) (by decide) (by decide) e11 r11_0 (by rw [hml]; rfl) (lenOf own_pd10 rfl) (argsL := [(.ref t_6)]) (rest := []) rfl rfl (Nat.le_of_eq rfl) (hb hby at_95) (by decide) (by decide) ?_
    intro T15 h15 v15 L15 X15 e15 q15
    obtain ⟨rfl, M15, J15, r15_0, r15_1, r15_2, r15_3, r15_4⟩ := q15
    have N15 := Fr.app N11 M15
    have K15 : Keep h0 h15 [] := K11.trans J15 (allS (Or.inr (Nat.le_trans K8.1 (Nat.le_of_eq z9.symm))) (allS (Or.inr (Nat.le_trans K10.1 y11_0)) all0))
    have O15 : own_Old Z h15 := O11.keep J15 (allS (own_ge O8 (Nat.le_of_eq z9.symm)) (allS (own_ge O10 y11_0) all0))
    show G (T15.setTop (mkF m 98 #[.val (.int i0), .val (.int i1), .val (.int i2), .val (.int i3), .val (.int i4), .val (.int sz1), .val (.int ix2), .val (.int c3), .val (.int c4), .val (.ref t_5), .val (.ref t_6), .val (.ref t_7), .val (.ref t_8), .val (.ref b9), .unset, .unset, .unset] [(.int (1 : Int32))]))
    refine hG _ _ (fun t_ k_ => XS.pop X15.here hx rfl (hb hby at_98) rfl rfl k_) ?_
    show G (T15.setTop (mkF m 99 #[.val (.int i0), .val (.int i1), .val (.int i2), .val (.int i3), .val (.int i4), .val (.int sz1), .val (.int ix2), .val (.int c3), .val (.int c4), .val (.ref t_5), .val (.ref t_6), .val (.ref t_7), .val (.ref t_8), .val (.ref b9), .unset, .unset, .unset] []))
    refine hG _ _ (fun t_ k_ => XS.iload X15.here hx rfl (hb hby at_99) rfl k_) ?_
    show G (T15.setTop (mkF m 101 #[.val (.int i0), .val (.int i1), .val (.int i2), .val (.int i3), .val (.int i4), .val (.int sz1), .val (.int ix2), .val (.int c3), .val (.int c4), .val (.ref t_5), .val (.ref t_6), .val (.ref t_7), .val (.ref t_8), .val (.ref b9), .unset, .unset, .unset] [(.int sz1)]))
    refine hG _ _ (fun t_ k_ => XS.iconst X15.here hx rfl (hb hby at_101) k_) ?_
    show G (T15.setTop (mkF m 102 #[.val (.int i0), .val (.int i1), .val (.int i2), .val (.int i3), .val (.int i4), .val (.int sz1), .val (.int ix2), .val (.int c3), .val (.int c4), .val (.ref t_5), .val (.ref t_6), .val (.ref t_7), .val (.ref t_8), .val (.ref b9), .unset, .unset, .unset] [(.int (2 : Int32)), (.int sz1)]))
    by_cases hc102_17 : (2 : Int32) < sz1
    · skip
      refine hG _ _ (fun t_ k_ => XS.icmpNo X15.here hx rfl (hb hby at_102) rfl (tlt hc102_17).2.2.2 k_) ?_
      show G (T15.setTop (mkF m 105 #[.val (.int i0), .val (.int i1), .val (.int i2), .val (.int i3), .val (.int i4), .val (.int sz1), .val (.int ix2), .val (.int c3), .val (.int c4), .val (.ref t_5), .val (.ref t_6), .val (.ref t_7), .val (.ref t_8), .val (.ref b9), .unset, .unset, .unset] []))
      refine hG _ _ (fun t_ k_ => XS.aload X15.here hx rfl (hb hby at_105) rfl rfl k_) ?_
      show G (T15.setTop (mkF m 107 #[.val (.int i0), .val (.int i1), .val (.int i2), .val (.int i3), .val (.int i4), .val (.int sz1), .val (.int ix2), .val (.int c3), .val (.int c4), .val (.ref t_5), .val (.ref t_6), .val (.ref t_7), .val (.ref t_8), .val (.ref b9), .unset, .unset, .unset] [(.ref b9)]))
      refine hG _ _ (fun t_ k_ => XS.aload X15.here hx rfl (hb hby at_107) rfl rfl k_) ?_
      show G (T15.setTop (mkF m 109 #[.val (.int i0), .val (.int i1), .val (.int i2), .val (.int i3), .val (.int i4), .val (.int sz1), .val (.int ix2), .val (.int c3), .val (.int c4), .val (.ref t_5), .val (.ref t_6), .val (.ref t_7), .val (.ref t_8), .val (.ref b9), .unset, .unset, .unset] [(.ref t_7), (.ref b9)]))
      have f19 := (((((r7_0.keep J8).ext E9).keep J10).keep J11).keep J15)
      refine own_callV (C := "java/util/ArrayList") X15 hx hZ hG hown (hw _ (List.mem_of_getElem? (i := 59) rfl)) (hw _ (List.mem_of_getElem? (i := 60) rfl)) (hw _ (List.mem_of_getElem? (i := 62) rfl)) (hw _ (List.mem_of_getElem? (i := 61) rfl)) (hw _ (List.mem_of_getElem? (i := 37) rfl)) (hw _ (List.mem_of_getElem? (i := 63) rfl)) (by decide) 0 (own_add2 l Z a0 hw b9 t_11 kt_11 (((0 : Int32) + (1 : Int32)) + (1 : Int32)) t_7 t_5 t_6 h15 O15 r15_0 (own_ge O8 (Nat.le_of_eq z9.symm)) (own_ge O10 y11_0) (own_ne r10_0.lt y11_0) r15_1 r15_2 r15_3 r15_4 r11_5 f19) (by decide) (by decide) e15 r15_0 (by rw [hml]; rfl) (lenOf own_pd10 rfl) (argsL := [(.ref t_7)]) (rest := []) rfl rfl (Nat.le_of_eq rfl) (hb hby at_109) (by decide) (by decide) ?_
      intro T18 h18 v18 L18 X18 e18 q18
      obtain ⟨rfl, M18, J18, r18_0, r18_1, r18_2, r18_3, r18_4⟩ := q18
      have N18 := Fr.app N15 M18
      have K18 : Keep h0 h18 [] := K15.trans J18 (allS (Or.inr (Nat.le_trans K8.1 (Nat.le_of_eq z9.symm))) (allS (Or.inr (Nat.le_trans K10.1 y11_0)) all0))
      have O18 : own_Old Z h18 := O15.keep J18 (allS (own_ge O8 (Nat.le_of_eq z9.symm)) (allS (own_ge O10 y11_0) all0))
      show G (T18.setTop (mkF m 112 #[.val (.int i0), .val (.int i1), .val (.int i2), .val (.int i3), .val (.int i4), .val (.int sz1), .val (.int ix2), .val (.int c3), .val (.int c4), .val (.ref t_5), .val (.ref t_6), .val (.ref t_7), .val (.ref t_8), .val (.ref b9), .unset, .unset, .unset] [(.int (1 : Int32))]))
      refine hG _ _ (fun t_ k_ => XS.pop X18.here hx rfl (hb hby at_112) rfl rfl k_) ?_
      show G (T18.setTop (mkF m 113 #[.val (.int i0), .val (.int i1), .val (.int i2), .val (.int i3), .val (.int i4), .val (.int sz1), .val (.int ix2), .val (.int c3), .val (.int c4), .val (.ref t_5), .val (.ref t_6), .val (.ref t_7), .val (.ref t_8), .val (.ref b9), .unset, .unset, .unset] []))
      refine hG _ _ (fun t_ k_ => XS.iload X18.here hx rfl (hb hby at_113) rfl k_) ?_
      show G (T18.setTop (mkF m 115 #[.val (.int i0), .val (.int i1), .val (.int i2), .val (.int i3), .val (.int i4), .val (.int sz1), .val (.int ix2), .val (.int c3), .val (.int c4), .val (.ref t_5), .val (.ref t_6), .val (.ref t_7), .val (.ref t_8), .val (.ref b9), .unset, .unset, .unset] [(.int sz1)]))
      refine hG _ _ (fun t_ k_ => XS.iconst X18.here hx rfl (hb hby at_115) k_) ?_
      show G (T18.setTop (mkF m 116 #[.val (.int i0), .val (.int i1), .val (.int i2), .val (.int i3), .val (.int i4), .val (.int sz1), .val (.int ix2), .val (.int c3), .val (.int c4), .val (.ref t_5), .val (.ref t_6), .val (.ref t_7), .val (.ref t_8), .val (.ref b9), .unset, .unset, .unset] [(.int (3 : Int32)), (.int sz1)]))
      by_cases hc116_20 : (3 : Int32) < sz1
      · skip
        refine hG _ _ (fun t_ k_ => XS.icmpNo X18.here hx rfl (hb hby at_116) rfl (tlt hc116_20).2.2.2 k_) ?_
        show G (T18.setTop (mkF m 119 #[.val (.int i0), .val (.int i1), .val (.int i2), .val (.int i3), .val (.int i4), .val (.int sz1), .val (.int ix2), .val (.int c3), .val (.int c4), .val (.ref t_5), .val (.ref t_6), .val (.ref t_7), .val (.ref t_8), .val (.ref b9), .unset, .unset, .unset] []))
        refine hG _ _ (fun t_ k_ => XS.aload X18.here hx rfl (hb hby at_119) rfl rfl k_) ?_
        show G (T18.setTop (mkF m 121 #[.val (.int i0), .val (.int i1), .val (.int i2), .val (.int i3), .val (.int i4), .val (.int sz1), .val (.int ix2), .val (.int c3), .val (.int c4), .val (.ref t_5), .val (.ref t_6), .val (.ref t_7), .val (.ref t_8), .val (.ref b9), .unset, .unset, .unset] [(.ref b9)]))
        refine hG _ _ (fun t_ k_ => XS.aload X18.here hx rfl (hb hby at_121) rfl rfl k_) ?_
        show G (T18.setTop (mkF m 123 #[.val (.int i0), .val (.int i1), .val (.int i2), .val (.int i3), .val (.int i4), .val (.int sz1), .val (.int ix2), .val (.int c3), .val (.int c4), .val (.ref t_5), .val (.ref t_6), .val (.ref t_7), .val (.ref t_8), .val (.ref b9), .unset, .unset, .unset] [(.ref t_8), (.ref b9)]))
        have f22 := (((((r8_0.ext E9).keep J10).keep J11).keep J15).keep J18)
        refine own_callV (C := "java/util/ArrayList") X18 hx hZ hG hown (hw _ (List.mem_of_getElem? (i := 59) rfl)) (hw _ (List.mem_of_getElem? (i := 60) rfl)) (hw _ (List.mem_of_getElem? (i := 62) rfl)) (hw _ (List.mem_of_getElem? (i := 61) rfl)) (hw _ (List.mem_of_getElem? (i := 37) rfl)) (hw _ (List.mem_of_getElem? (i := 63) rfl)) (by decide) 0 (own_add3 l Z a0 hw b9 t_11 kt_11 ((((0 : Int32) + (1 : Int32)) + (1 : Int32)) + (1 : Int32)) t_8 t_5 t_6 t_7 h18 O18 r18_0 (own_ge O8 (Nat.le_of_eq z9.symm)) (own_ge O10 y11_0) (own_ne r10_0.lt y11_0) r18_1 r18_2 r18_3 r18_4 r11_5 f22) (by decide) (by decide) e18 r18_0 (by rw [hml]; rfl) (lenOf own_pd10 rfl) (argsL := [(.ref t_8)]) (rest := []) rfl rfl (Nat.le_of_eq rfl) (hb hby at_123) (by decide) (by decide) ?_
        intro T21 h21 v21 L21 X21 e21 q21
        obtain ⟨rfl, M21, J21, r21_0, r21_1, r21_2, r21_3, r21_4⟩ := q21
        have N21 := Fr.app N18 M21
        have K21 : Keep h0 h21 [] := K18.trans J21 (allS (Or.inr (Nat.le_trans K8.1 (Nat.le_of_eq z9.symm))) (allS (Or.inr (Nat.le_trans K10.1 y11_0)) all0))
        have O21 : own_Old Z h21 := O18.keep J21 (allS (own_ge O8 (Nat.le_of_eq z9.symm)) (allS (own_ge O10 y11_0) all0))
        show G (T21.setTop (mkF m 126 #[.val (.int i0), .val (.int i1), .val (.int i2), .val (.int i3), .val (.int i4), .val (.int sz1), .val (.int ix2), .val (.int c3), .val (.int c4), .val (.ref t_5), .val (.ref t_6), .val (.ref t_7), .val (.ref t_8), .val (.ref b9), .unset, .unset, .unset] [(.int (1 : Int32))]))
        refine hG _ _ (fun t_ k_ => XS.pop X21.here hx rfl (hb hby at_126) rfl rfl k_) ?_
        show G (T21.setTop (mkF m 127 #[.val (.int i0), .val (.int i1), .val (.int i2), .val (.int i3), .val (.int i4), .val (.int sz1), .val (.int ix2), .val (.int c3), .val (.int c4), .val (.ref t_5), .val (.ref t_6), .val (.ref t_7), .val (.ref t_8), .val (.ref b9), .unset, .unset, .unset] []))
        obtain ⟨T23, h23, X23, e23, E23, A23, D23, -, st23⟩ := newO X21 hx hZ hown (hw _ (List.mem_of_getElem? (i := 90) rfl)) (hw _ (List.mem_of_getElem? (i := 91) rfl)) (hw _ (List.mem_of_getElem? (i := 92) rfl)) e21 (g := (mkF m 127 #[.val (.int i0), .val (.int i1), .val (.int i2), .val (.int i3), .val (.int i4), .val (.int sz1), .val (.int ix2), .val (.int c3), .val (.int c4), .val (.ref t_5), .val (.ref t_6), .val (.ref t_7), .val (.ref t_8), .val (.ref b9), .unset, .unset, .unset] [])) rfl (hb hby at_127) (by decide) (by decide)
        obtain ⟨b23, z23⟩ : ∃ z, z = h21.size := ⟨_, rfl⟩
        rw [← z23] at A23 D23 st23
        refine hG _ _ st23 ?_
        have K23 : Keep h0 h23 [] := K21.ext E23
        have O23 : own_Old Z h23 := O21.ext E23
        show G (T23.setTop (mkF m 130 #[.val (.int i0), .val (.int i1), .val (.int i2), .val (.int i3), .val (.int i4), .val (.int sz1), .val (.int ix2), .val (.int c3), .val (.int c4), .val (.ref t_5), .val (.ref t_6), .val (.ref t_7), .val (.ref t_8), .val (.ref b9), .unset, .unset, .unset] [(.ref b23)]))
        refine hG _ _ (fun t_ k_ => XS.dup X23.here hx rfl (hb hby at_130) rfl rfl k_) ?_
        show G (T23.setTop (mkF m 131 #[.val (.int i0), .val (.int i1), .val (.int i2), .val (.int i3), .val (.int i4), .val (.int sz1), .val (.int ix2), .val (.int c3), .val (.int c4), .val (.ref t_5), .val (.ref t_6), .val (.ref t_7), .val (.ref t_8), .val (.ref b9), .unset, .unset, .unset] [(.ref b23), (.ref b23)]))
        refine hG _ _ (fun t_ k_ => XS.iload X23.here hx rfl (hb hby at_131) rfl k_) ?_
        show G (T23.setTop (mkF m 133 #[.val (.int i0), .val (.int i1), .val (.int i2), .val (.int i3), .val (.int i4), .val (.int sz1), .val (.int ix2), .val (.int c3), .val (.int c4), .val (.ref t_5), .val (.ref t_6), .val (.ref t_7), .val (.ref t_8), .val (.ref b9), .unset, .unset, .unset] [(.int c4), (.ref b23), (.ref b23)]))
        refine own_callS X23 hx hZ hG hown (hw _ (List.mem_of_getElem? (i := 93) rfl)) (hw _ (List.mem_of_getElem? (i := 94) rfl)) (hw _ (List.mem_of_getElem? (i := 8) rfl)) (hw _ (List.mem_of_getElem? (i := 95) rfl)) (by decide) 2 (own_val1 l Z a0 hw c4 cpt h23 O23 (own_le255 hr_c4) g0_S g1_hcpt) (by decide) (by decide) e23 (by rw [hml]; rfl) (lenOf own_pd9 rfl) (argsL := [(.int c4)]) (rest := [(.ref b23), (.ref b23)]) rfl rfl (Nat.le_of_eq rfl) (hb hby at_133) (by decide) (by decide) ?_
        intro T24 h24 v24 L24 X24 e24 q24
        obtain ⟨t_24, b_24, kb_24, rfl, M24, J24, y24_0, y24_1, r24_0, r24_1, r24_2, r24_3⟩ := q24
        have N24 := Fr.app N21 M24
        have K24 : Keep h0 h24 [] := K23.trans J24 all0
        have O24 : own_Old Z h24 := O23.keep J24 all0
        show G (T24.setTop (mkF m 136 #[.val (.int i0), .val (.int i1), .val (.int i2), .val (.int i3), .val (.int i4), .val (.int sz1), .val (.int ix2), .val (.int c3), .val (.int c4), .val (.ref t_5), .val (.ref t_6), .val (.ref t_7), .val (.ref t_8), .val (.ref b9), .unset, .unset, .unset] [(.ref t_24), (.ref b23), (.ref b23)]))
        refine hG _ _ (fun t_ k_ => XS.iload X24.here hx rfl (hb hby at_136) rfl k_) ?_
        show G (T24.setTop (mkF m 138 #[.val (.int i0), .val (.int i1), .val (.int i2), .val (.int i3), .val (.int i4), .val (.int sz1), .val (.int ix2), .val (.int c3), .val (.int c4), .val (.ref t_5), .val (.ref t_6), .val (.ref t_7), .val (.ref t_8), .val (.ref b9), .unset, .unset, .unset] [(.int i4), (.ref t_24), (.ref b23), (.ref b23)]))
        refine hG _ _ (fun t_ k_ => XS.aload X24.here hx rfl (hb hby at_138) rfl rfl k_) ?_
        show G (T24.setTop (mkF m 140 #[.val (.int i0), .val (.int i1), .val (.int i2), .val (.int i3), .val (.int i4), .val (.int sz1), .val (.int ix2), .val (.int c3), .val (.int c4), .val (.ref t_5), .val (.ref t_6), .val (.ref t_7), .val (.ref t_8), .val (.ref b9), .unset, .unset, .unset] [(.ref b9), (.int i4), (.ref t_24), (.ref b23), (.ref b23)]))
        have f26 := (A23.keep J24)
        have f27 := ((D23 (Or.inr (hw _ (List.mem_of_getElem? (i := 117) rfl))) (ty := (.object "java/lang/String")) (by decide)).keep J24 nin0)
        have f28 := ((D23 (Or.inr (hw _ (List.mem_of_getElem? (i := 119) rfl))) (ty := .int) (by decide)).keep J24 nin0)
        have f29 := ((D23 (Or.inr (hw _ (List.mem_of_getElem? (i := 121) rfl))) (ty := (.object "java/util/List")) (by decide)).keep J24 nin0)
        refine own_callI X24 hx hZ hG hown rfl (hw _ (List.mem_of_getElem? (i := 107) rfl)) (hw _ (List.mem_of_getElem? (i := 108) rfl)) (hw _ (List.mem_of_getElem? (i := 92) rfl)) (hw _ (List.mem_of_getElem? (i := 109) rfl)) (by decide) 1 (own_finit l Z a0 hw b23 (.ref t_24) i4 (.ref b9) .null (.int (0 : Int32)) .null h24 O24 rfl rfl f26 (own_ge O21 (Nat.le_of_eq z23.symm)) f27 f28 f29) (by decide) (by decide) e24 (by rw [hml]; rfl) (lenOf own_pd18 rfl) (argsL := [(.ref t_24), (.int i4), (.ref b9)]) (rest := [(.ref b23)]) rfl rfl (Nat.le_of_eq rfl) (hb hby at_140) (by decide) (by decide) ?_
        intro T25 h25 v25 L25 X25 e25 q25
        obtain ⟨rfl, M25, J25, r25_0, r25_1, r25_2, r25_3⟩ := q25
        have N25 := Fr.app N24 M25
        have K25 : Keep h0 h25 [] := K24.trans J25 (allS (Or.inr (Nat.le_trans K21.1 (Nat.le_of_eq z23.symm))) all0)
        have O25 : own_Old Z h25 := O24.keep J25 (allS (own_ge O21 (Nat.le_of_eq z23.symm)) all0)
        show G (T25.setTop (mkF m 143 #[.val (.int i0), .val (.int i1), .val (.int i2), .val (.int i3), .val (.int i4), .val (.int sz1), .val (.int ix2), .val (.int c3), .val (.int c4), .val (.ref t_5), .val (.ref t_6), .val (.ref t_7), .val (.ref t_8), .val (.ref b9), .unset, .unset, .unset] [(.ref b23)]))
        refine hG _ _ (fun t_ k_ => XS.astore X25.here hx rfl (hb hby at_143) rfl rfl (l' := #[.val (.int i0), .val (.int i1), .val (.int i2), .val (.int i3), .val (.int i4), .val (.int sz1), .val (.int ix2), .val (.int c3), .val (.int c4), .val (.ref t_5), .val (.ref t_6), .val (.ref t_7), .val (.ref t_8), .val (.ref b9), .val (.ref b23), .unset, .unset]) rfl k_) ?_
        show G (T25.setTop (mkF m 145 #[.val (.int i0), .val (.int i1), .val (.int i2), .val (.int i3), .val (.int i4), .val (.int sz1), .val (.int ix2), .val (.int c3), .val (.int c4), .val (.ref t_5), .val (.ref t_6), .val (.ref t_7), .val (.ref t_8), .val (.ref b9), .val (.ref b23), .unset, .unset] []))
        have hle : sz1.toInt ≤ 4 := hz.2
        have hor := own_ix4 hix.1 hix.2 hle
        rcases hor with rfl | rfl | rfl | rfl
        · skip
          show G (T25.setTop (mkF m 145 #[.val (.int i0), .val (.int i1), .val (.int i2), .val (.int i3), .val (.int i4), .val (.int sz1), .val (.int (0 : Int32)), .val (.int c3), .val (.int c4), .val (.ref t_5), .val (.ref t_6), .val (.ref t_7), .val (.ref t_8), .val (.ref b9), .val (.ref b23), .unset, .unset] []))
          refine hG _ _ (fun t_ k_ => XS.aload X25.here hx rfl (hb hby at_145) rfl rfl k_) ?_
          show G (T25.setTop (mkF m 147 #[.val (.int i0), .val (.int i1), .val (.int i2), .val (.int i3), .val (.int i4), .val (.int sz1), .val (.int (0 : Int32)), .val (.int c3), .val (.int c4), .val (.ref t_5), .val (.ref t_6), .val (.ref t_7), .val (.ref t_8), .val (.ref b9), .val (.ref b23), .unset, .unset] [(.ref b23)]))
          refine hG _ _ (fun t_ k_ => XS.iload X25.here hx rfl (hb hby at_147) rfl k_) ?_
          show G (T25.setTop (mkF m 149 #[.val (.int i0), .val (.int i1), .val (.int i2), .val (.int i3), .val (.int i4), .val (.int sz1), .val (.int (0 : Int32)), .val (.int c3), .val (.int c4), .val (.ref t_5), .val (.ref t_6), .val (.ref t_7), .val (.ref t_8), .val (.ref b9), .val (.ref b23), .unset, .unset] [(.int (0 : Int32)), (.ref b23)]))
          have f31 := (((r21_0.ext E23).keep J24).keep J25)
          have f32 := (((r21_2.ext E23).keep J24 nin0).keep J25 (ninS (own_ne r21_0.lt (Nat.le_of_eq z23.symm)) nin0))
          have f33 := (((r21_4.ext E23).keep J24 nin0).keep J25 (ninS (own_ne r21_4.lt (Nat.le_of_eq z23.symm)) nin0))
          have f34 := (((r21_3.ext E23).keep J24 nin0).keep J25 (ninS (own_ne r21_0.lt (Nat.le_of_eq z23.symm)) nin0))
          have f35 := (((((((f13.keep J11).keep J15).keep J18).keep J21).ext E23).keep J24).keep J25)
          refine own_callV (C := "com/example/vestibule/vestibule/RecordFile$Record") X25 hx hZ hG hown (hw _ (List.mem_of_getElem? (i := 122) rfl)) (hw _ (List.mem_of_getElem? (i := 123) rfl)) (hw _ (List.mem_of_getElem? (i := 125) rfl)) (hw _ (List.mem_of_getElem? (i := 124) rfl)) (hw _ (List.mem_of_getElem? (i := 92) rfl)) (hw _ (List.mem_of_getElem? (i := 126) rfl)) (by decide) 0 (own_field l Z a0 hw b23 b9 (0 : Int32) t_11 kt_11 [(.ref t_5), (.ref t_6), (.ref t_7), (.ref t_8), .null, .null, .null, .null, .null, .null] t_5 (4 : Int32) h25 O25 r25_3 (by decide) (by decide) rfl f31 f32 f33 f34 (by decide) f35) (by decide) (by decide) e25 r25_0 (by rw [hml]; rfl) (lenOf own_pd19 rfl) (argsL := [(.int (0 : Int32))]) (rest := []) rfl rfl (Nat.le_of_eq rfl) (hb hby at_149) (by decide) (by decide) ?_
          intro T30 h30 v30 L30 X30 e30 q30
          obtain ⟨rfl, M30, rfl⟩ := q30
          have N30 := Fr.app N25 M30
          show G (T30.setTop (mkF m 152 #[.val (.int i0), .val (.int i1), .val (.int i2), .val (.int i3), .val (.int i4), .val (.int sz1), .val (.int (0 : Int32)), .val (.int c3), .val (.int c4), .val (.ref t_5), .val (.ref t_6), .val (.ref t_7), .val (.ref t_8), .val (.ref b9), .val (.ref b23), .unset, .unset] [(.ref t_5)]))
          refine hG _ _ (fun t_ k_ => XS.astore X30.here hx rfl (hb hby at_152) rfl rfl (l' := #[.val (.int i0), .val (.int i1), .val (.int i2), .val (.int i3), .val (.int i4), .val (.int sz1), .val (.int (0 : Int32)), .val (.int c3), .val (.int c4), .val (.ref t_5), .val (.ref t_6), .val (.ref t_7), .val (.ref t_8), .val (.ref b9), .val (.ref b23), .val (.ref t_5), .unset]) rfl k_) ?_
          show G (T30.setTop (mkF m 154 #[.val (.int i0), .val (.int i1), .val (.int i2), .val (.int i3), .val (.int i4), .val (.int sz1), .val (.int (0 : Int32)), .val (.int c3), .val (.int c4), .val (.ref t_5), .val (.ref t_6), .val (.ref t_7), .val (.ref t_8), .val (.ref b9), .val (.ref b23), .val (.ref t_5), .unset] []))
          refine hG _ _ (fun t_ k_ => XS.iload X30.here hx rfl (hb hby at_154) rfl k_) ?_
          show G (T30.setTop (mkF m 156 #[.val (.int i0), .val (.int i1), .val (.int i2), .val (.int i3), .val (.int i4), .val (.int sz1), .val (.int (0 : Int32)), .val (.int c3), .val (.int c4), .val (.ref t_5), .val (.ref t_6), .val (.ref t_7), .val (.ref t_8), .val (.ref b9), .val (.ref b23), .val (.ref t_5), .unset] [(.int (0 : Int32))]))
          refine hG _ _ (fun t_ k_ => XS.ifNo X30.here hx rfl (hb hby at_156) rfl ((if0 _ _).trans (teq (by decide)).2) k_) ?_
          show G (T30.setTop (mkF m 159 #[.val (.int i0), .val (.int i1), .val (.int i2), .val (.int i3), .val (.int i4), .val (.int sz1), .val (.int (0 : Int32)), .val (.int c3), .val (.int c4), .val (.ref t_5), .val (.ref t_6), .val (.ref t_7), .val (.ref t_8), .val (.ref b9), .val (.ref b23), .val (.ref t_5), .unset] []))
          refine hG _ _ (fun t_ k_ => XS.aload X30.here hx rfl (hb hby at_159) rfl rfl k_) ?_
          show G (T30.setTop (mkF m 161 #[.val (.int i0), .val (.int i1), .val (.int i2), .val (.int i3), .val (.int i4), .val (.int sz1), .val (.int (0 : Int32)), .val (.int c3), .val (.int c4), .val (.ref t_5), .val (.ref t_6), .val (.ref t_7), .val (.ref t_8), .val (.ref b9), .val (.ref b23), .val (.ref t_5), .unset] [(.ref t_5)]))
          refine hG _ _ (fun t_ k_ => XS.goto X30.here hx rfl (pc0 := 161) (pc' := 188) rfl (hb hby at_161) (by decide) (by decide) k_) ?_
          show G (T30.setTop (mkF m 188 #[.val (.int i0), .val (.int i1), .val (.int i2), .val (.int i3), .val (.int i4), .val (.int sz1), .val (.int (0 : Int32)), .val (.int c3), .val (.int c4), .val (.ref t_5), .val (.ref t_6), .val (.ref t_7), .val (.ref t_8), .val (.ref b9), .val (.ref b23), .val (.ref t_5), .unset] [(.ref t_5)]))
          refine hG _ _ (fun t_ k_ => XS.astore X30.here hx rfl (hb hby at_188) rfl rfl (l' := #[.val (.int i0), .val (.int i1), .val (.int i2), .val (.int i3), .val (.int i4), .val (.int sz1), .val (.int (0 : Int32)), .val (.int c3), .val (.int c4), .val (.ref t_5), .val (.ref t_6), .val (.ref t_7), .val (.ref t_8), .val (.ref b9), .val (.ref b23), .val (.ref t_5), .val (.ref t_5)]) rfl k_) ?_
          show G (T30.setTop (mkF m 190 #[.val (.int i0), .val (.int i1), .val (.int i2), .val (.int i3), .val (.int i4), .val (.int sz1), .val (.int (0 : Int32)), .val (.int c3), .val (.int c4), .val (.ref t_5), .val (.ref t_6), .val (.ref t_7), .val (.ref t_8), .val (.ref b9), .val (.ref b23), .val (.ref t_5), .val (.ref t_5)] []))
          refine hG _ _ (fun t_ k_ => XS.aload X30.here hx rfl (hb hby at_190) rfl rfl k_) ?_
          show G (T30.setTop (mkF m 192 #[.val (.int i0), .val (.int i1), .val (.int i2), .val (.int i3), .val (.int i4), .val (.int sz1), .val (.int (0 : Int32)), .val (.int c3), .val (.int c4), .val (.ref t_5), .val (.ref t_6), .val (.ref t_7), .val (.ref t_8), .val (.ref b9), .val (.ref b23), .val (.ref t_5), .val (.ref t_5)] [(.ref t_5)]))
          refine hG _ _ (fun t_ k_ => XS.ifnullNo X30.here hx rfl (hb hby at_192) rfl k_) ?_
          show G (T30.setTop (mkF m 195 #[.val (.int i0), .val (.int i1), .val (.int i2), .val (.int i3), .val (.int i4), .val (.int sz1), .val (.int (0 : Int32)), .val (.int c3), .val (.int c4), .val (.ref t_5), .val (.ref t_6), .val (.ref t_7), .val (.ref t_8), .val (.ref b9), .val (.ref b23), .val (.ref t_5), .val (.ref t_5)] []))
          refine hG _ _ (fun t_ k_ => XS.aload X30.here hx rfl (hb hby at_195) rfl rfl k_) ?_
          show G (T30.setTop (mkF m 197 #[.val (.int i0), .val (.int i1), .val (.int i2), .val (.int i3), .val (.int i4), .val (.int sz1), .val (.int (0 : Int32)), .val (.int c3), .val (.int c4), .val (.ref t_5), .val (.ref t_6), .val (.ref t_7), .val (.ref t_8), .val (.ref b9), .val (.ref b23), .val (.ref t_5), .val (.ref t_5)] [(.ref t_5)]))
          refine hG _ _ (fun t_ k_ => XS.aload X30.here hx rfl (hb hby at_197) rfl rfl k_) ?_
          show G (T30.setTop (mkF m 199 #[.val (.int i0), .val (.int i1), .val (.int i2), .val (.int i3), .val (.int i4), .val (.int sz1), .val (.int (0 : Int32)), .val (.int c3), .val (.int c4), .val (.ref t_5), .val (.ref t_6), .val (.ref t_7), .val (.ref t_8), .val (.ref b9), .val (.ref b23), .val (.ref t_5), .val (.ref t_5)] [(.ref t_5), (.ref t_5)]))
          refine own_callV (C := "java/lang/String") X30 hx hZ hG hown (hw _ (List.mem_of_getElem? (i := 150) rfl)) (hw _ (List.mem_of_getElem? (i := 151) rfl)) (hw _ (List.mem_of_getElem? (i := 153) rfl)) (hw _ (List.mem_of_getElem? (i := 152) rfl)) (hw _ (List.mem_of_getElem? (i := 8) rfl)) (hw _ (List.mem_of_getElem? (i := 154) rfl)) (by decide) 0 (own_eqs l Z a0 hw t_5 h25 O25) (by decide) (by decide) e30 f35 (by rw [hml]; rfl) (lenOf own_pd10 rfl) (argsL := [(.ref t_5)]) (rest := []) rfl rfl (Nat.le_of_eq rfl) (hb hby at_199) (by decide) (by decide) ?_
          intro T36 h36 v36 L36 X36 e36 q36
          obtain ⟨rfl, M36, rfl⟩ := q36
          have N36 := Fr.app N30 M36
          show G (T36.setTop (mkF m 202 #[.val (.int i0), .val (.int i1), .val (.int i2), .val (.int i3), .val (.int i4), .val (.int sz1), .val (.int (0 : Int32)), .val (.int c3), .val (.int c4), .val (.ref t_5), .val (.ref t_6), .val (.ref t_7), .val (.ref t_8), .val (.ref b9), .val (.ref b23), .val (.ref t_5), .val (.ref t_5)] [(.int (1 : Int32))]))
          refine hG _ _ (fun t_ k_ => XS.ifNo X36.here hx rfl (hb hby at_202) rfl ((if0 _ _).trans (feq (by decide)).1) k_) ?_
          show G (T36.setTop (mkF m 205 #[.val (.int i0), .val (.int i1), .val (.int i2), .val (.int i3), .val (.int i4), .val (.int sz1), .val (.int (0 : Int32)), .val (.int c3), .val (.int c4), .val (.ref t_5), .val (.ref t_6), .val (.ref t_7), .val (.ref t_8), .val (.ref b9), .val (.ref b23), .val (.ref t_5), .val (.ref t_5)] []))
          refine hG _ _ (fun t_ k_ => XS.iconst X36.here hx rfl (hb hby at_205) k_) ?_
          show G (T36.setTop (mkF m 206 #[.val (.int i0), .val (.int i1), .val (.int i2), .val (.int i3), .val (.int i4), .val (.int sz1), .val (.int (0 : Int32)), .val (.int c3), .val (.int c4), .val (.ref t_5), .val (.ref t_6), .val (.ref t_7), .val (.ref t_8), .val (.ref b9), .val (.ref b23), .val (.ref t_5), .val (.ref t_5)] [(.int (1 : Int32))]))
          refine hG _ _ (fun t_ k_ => XS.goto X36.here hx rfl (pc0 := 206) (pc' := 210) rfl (hb hby at_206) (by decide) (by decide) k_) ?_
          show G (T36.setTop (mkF m 210 #[.val (.int i0), .val (.int i1), .val (.int i2), .val (.int i3), .val (.int i4), .val (.int sz1), .val (.int (0 : Int32)), .val (.int c3), .val (.int c4), .val (.ref t_5), .val (.ref t_6), .val (.ref t_7), .val (.ref t_8), .val (.ref b9), .val (.ref b23), .val (.ref t_5), .val (.ref t_5)] [(.int (1 : Int32))]))
          exact own_retN hR hret (by simp) X36 hx (hb hby at_210) (by decide) (by decide) (by rw [e36]; exact ⟨rfl, N36, K25⟩)
        · skip
          show G (T25.setTop (mkF m 145 #[.val (.int i0), .val (.int i1), .val (.int i2), .val (.int i3), .val (.int i4), .val (.int sz1), .val (.int (1 : Int32)), .val (.int c3), .val (.int c4), .val (.ref t_5), .val (.ref t_6), .val (.ref t_7), .val (.ref t_8), .val (.ref b9), .val (.ref b23), .unset, .unset] []))
          refine hG _ _ (fun t_ k_ => XS.aload X25.here hx rfl (hb hby at_145) rfl rfl k_) ?_
          show G (T25.setTop (mkF m 147 #[.val (.int i0), .val (.int i1), .val (.int i2), .val (.int i3), .val (.int i4), .val (.int sz1), .val (.int (1 : Int32)), .val (.int c3), .val (.int c4), .val (.ref t_5), .val (.ref t_6), .val (.ref t_7), .val (.ref t_8), .val (.ref b9), .val (.ref b23), .unset, .unset] [(.ref b23)]))
          refine hG _ _ (fun t_ k_ => XS.iload X25.here hx rfl (hb hby at_147) rfl k_) ?_
          show G (T25.setTop (mkF m 149 #[.val (.int i0), .val (.int i1), .val (.int i2), .val (.int i3), .val (.int i4), .val (.int sz1), .val (.int (1 : Int32)), .val (.int c3), .val (.int c4), .val (.ref t_5), .val (.ref t_6), .val (.ref t_7), .val (.ref t_8), .val (.ref b9), .val (.ref b23), .unset, .unset] [(.int (1 : Int32)), (.ref b23)]))
          have f38 := (((r21_0.ext E23).keep J24).keep J25)
          have f39 := (((r21_2.ext E23).keep J24 nin0).keep J25 (ninS (own_ne r21_0.lt (Nat.le_of_eq z23.symm)) nin0))
          have f40 := (((r21_4.ext E23).keep J24 nin0).keep J25 (ninS (own_ne r21_4.lt (Nat.le_of_eq z23.symm)) nin0))
          have f41 := (((r21_3.ext E23).keep J24 nin0).keep J25 (ninS (own_ne r21_0.lt (Nat.le_of_eq z23.symm)) nin0))
          have f42 := ((((((f16.keep J15).keep J18).keep J21).ext E23).keep J24).keep J25)
          refine own_callV (C := "com/example/vestibule/vestibule/RecordFile$Record") X25 hx hZ hG hown (hw _ (List.mem_of_getElem? (i := 122) rfl)) (hw _ (List.mem_of_getElem? (i := 123) rfl)) (hw _ (List.mem_of_getElem? (i := 125) rfl)) (hw _ (List.mem_of_getElem? (i := 124) rfl)) (hw _ (List.mem_of_getElem? (i := 92) rfl)) (hw _ (List.mem_of_getElem? (i := 126) rfl)) (by decide) 0 (own_field l Z a0 hw b23 b9 (1 : Int32) t_11 kt_11 [(.ref t_5), (.ref t_6), (.ref t_7), (.ref t_8), .null, .null, .null, .null, .null, .null] t_6 (4 : Int32) h25 O25 r25_3 (by decide) (by decide) rfl f38 f39 f40 f41 (by decide) f42) (by decide) (by decide) e25 r25_0 (by rw [hml]; rfl) (lenOf own_pd19 rfl) (argsL := [(.int (1 : Int32))]) (rest := []) rfl rfl (Nat.le_of_eq rfl) (hb hby at_149) (by decide) (by decide) ?_
          intro T37 h37 v37 L37 X37 e37 q37
          obtain ⟨rfl, M37, rfl⟩ := q37
          have N37 := Fr.app N25 M37
          show G (T37.setTop (mkF m 152 #[.val (.int i0), .val (.int i1), .val (.int i2), .val (.int i3), .val (.int i4), .val (.int sz1), .val (.int (1 : Int32)), .val (.int c3), .val (.int c4), .val (.ref t_5), .val (.ref t_6), .val (.ref t_7), .val (.ref t_8), .val (.ref b9), .val (.ref b23), .unset, .unset] [(.ref t_6)]))
          refine hG _ _ (fun t_ k_ => XS.astore X37.here hx rfl (hb hby at_152) rfl rfl (l' := #[.val (.int i0), .val (.int i1), .val (.int i2), .val (.int i3), .val (.int i4), .val (.int sz1), .val (.int (1 : Int32)), .val (.int c3), .val (.int c4), .val (.ref t_5), .val (.ref t_6), .val (.ref t_7), .val (.ref t_8), .val (.ref b9), .val (.ref b23), .val (.ref t_6), .unset]) rfl k_) ?_
          show G (T37.setTop (mkF m 154 #[.val (.int i0), .val (.int i1), .val (.int i2), .val (.int i3), .val (.int i4), .val (.int sz1), .val (.int (1 : Int32)), .val (.int c3), .val (.int c4), .val (.ref t_5), .val (.ref t_6), .val (.ref t_7), .val (.ref t_8), .val (.ref b9), .val (.ref b23), .val (.ref t_6), .unset] []))
          refine hG _ _ (fun t_ k_ => XS.iload X37.here hx rfl (hb hby at_154) rfl k_) ?_
          show G (T37.setTop (mkF m 156 #[.val (.int i0), .val (.int i1), .val (.int i2), .val (.int i3), .val (.int i4), .val (.int sz1), .val (.int (1 : Int32)), .val (.int c3), .val (.int c4), .val (.ref t_5), .val (.ref t_6), .val (.ref t_7), .val (.ref t_8), .val (.ref b9), .val (.ref b23), .val (.ref t_6), .unset] [(.int (1 : Int32))]))
          refine hG _ _ (fun t_ k_ => XS.ifYes X37.here hx rfl (pc0 := 156) (pc' := 164) rfl (hb hby at_156) rfl ((if0 _ _).trans (feq (by decide)).2) (by decide) (by decide) k_) ?_
          show G (T37.setTop (mkF m 164 #[.val (.int i0), .val (.int i1), .val (.int i2), .val (.int i3), .val (.int i4), .val (.int sz1), .val (.int (1 : Int32)), .val (.int c3), .val (.int c4), .val (.ref t_5), .val (.ref t_6), .val (.ref t_7), .val (.ref t_8), .val (.ref b9), .val (.ref b23), .val (.ref t_6), .unset] []))
          refine hG _ _ (fun t_ k_ => XS.iload X37.here hx rfl (hb hby at_164) rfl k_) ?_
          show G (T37.setTop (mkF m 166 #[.val (.int i0), .val (.int i1), .val (.int i2), .val (.int i3), .val (.int i4), .val (.int sz1), .val (.int (1 : Int32)), .val (.int c3), .val (.int c4), .val (.ref t_5), .val (.ref t_6), .val (.ref t_7), .val (.ref t_8), .val (.ref b9), .val (.ref b23), .val (.ref t_6), .unset] [(.int (1 : Int32))]))
          refine hG _ _ (fun t_ k_ => XS.iconst X37.here hx rfl (hb hby at_166) k_) ?_
          show G (T37.setTop (mkF m 167 #[.val (.int i0), .val (.int i1), .val (.int i2), .val (.int i3), .val (.int i4), .val (.int sz1), .val (.int (1 : Int32)), .val (.int c3), .val (.int c4), .val (.ref t_5), .val (.ref t_6), .val (.ref t_7), .val (.ref t_8), .val (.ref b9), .val (.ref b23), .val (.ref t_6), .unset] [(.int (1 : Int32)), (.int (1 : Int32))]))
          refine hG _ _ (fun t_ k_ => XS.icmpNo X37.here hx rfl (hb hby at_167) rfl (teq (by decide)).2 k_) ?_
          show G (T37.setTop (mkF m 170 #[.val (.int i0), .val (.int i1), .val (.int i2), .val (.int i3), .val (.int i4), .val (.int sz1), .val (.int (1 : Int32)), .val (.int c3), .val (.int c4), .val (.ref t_5), .val (.ref t_6), .val (.ref t_7), .val (.ref t_8), .val (.ref b9), .val (.ref b23), .val (.ref t_6), .unset] []))
          refine hG _ _ (fun t_ k_ => XS.aload X37.here hx rfl (hb hby at_170) rfl rfl k_) ?_
          show G (T37.setTop (mkF m 172 #[.val (.int i0), .val (.int i1), .val (.int i2), .val (.int i3), .val (.int i4), .val (.int sz1), .val (.int (1 : Int32)), .val (.int c3), .val (.int c4), .val (.ref t_5), .val (.ref t_6), .val (.ref t_7), .val (.ref t_8), .val (.ref b9), .val (.ref b23), .val (.ref t_6), .unset] [(.ref t_6)]))
          refine hG _ _ (fun t_ k_ => XS.goto X37.here hx rfl (pc0 := 172) (pc' := 188) rfl (hb hby at_172) (by decide) (by decide) k_) ?_
          show G (T37.setTop (mkF m 188 #[.val (.int i0), .val (.int i1), .val (.int i2), .val (.int i3), .val (.int i4), .val (.int sz1), .val (.int (1 : Int32)), .val (.int c3), .val (.int c4), .val (.ref t_5), .val (.ref t_6), .val (.ref t_7), .val (.ref t_8), .val (.ref b9), .val (.ref b23), .val (.ref t_6), .unset] [(.ref t_6)]))
          refine hG _ _ (fun t_ k_ => XS.astore X37.here hx rfl (hb hby at_188) rfl rfl (l' := #[.val (.int i0), .val (.int i1), .val (.int i2), .val (.int i3), .val (.int i4), .val (.int sz1), .val (.int (1 : Int32)), .val (.int c3), .val (.int c4), .val (.ref t_5), .val (.ref t_6), .val (.ref t_7), .val (.ref t_8), .val (.ref b9), .val (.ref b23), .val (.ref t_6), .val (.ref t_6)]) rfl k_) ?_
          show G (T37.setTop (mkF m 190 #[.val (.int i0), .val (.int i1), .val (.int i2), .val (.int i3), .val (.int i4), .val (.int sz1), .val (.int (1 : Int32)), .val (.int c3), .val (.int c4), .val (.ref t_5), .val (.ref t_6), .val (.ref t_7), .val (.ref t_8), .val (.ref b9), .val (.ref b23), .val (.ref t_6), .val (.ref t_6)] []))
          refine hG _ _ (fun t_ k_ => XS.aload X37.here hx rfl (hb hby at_190) rfl rfl k_) ?_
          show G (T37.setTop (mkF m 192 #[.val (.int i0), .val (.int i1), .val (.int i2), .val (.int i3), .val (.int i4), .val (.int sz1), .val (.int (1 : Int32)), .val (.int c3), .val (.int c4), .val (.ref t_5), .val (.ref t_6), .val (.ref t_7), .val (.ref t_8), .val (.ref b9), .val (.ref b23), .val (.ref t_6), .val (.ref t_6)] [(.ref t_6)]))
          refine hG _ _ (fun t_ k_ => XS.ifnullNo X37.here hx rfl (hb hby at_192) rfl k_) ?_
          show G (T37.setTop (mkF m 195 #[.val (.int i0), .val (.int i1), .val (.int i2), .val (.int i3), .val (.int i4), .val (.int sz1), .val (.int (1 : Int32)), .val (.int c3), .val (.int c4), .val (.ref t_5), .val (.ref t_6), .val (.ref t_7), .val (.ref t_8), .val (.ref b9), .val (.ref b23), .val (.ref t_6), .val (.ref t_6)] []))
          refine hG _ _ (fun t_ k_ => XS.aload X37.here hx rfl (hb hby at_195) rfl rfl k_) ?_
          show G (T37.setTop (mkF m 197 #[.val (.int i0), .val (.int i1), .val (.int i2), .val (.int i3), .val (.int i4), .val (.int sz1), .val (.int (1 : Int32)), .val (.int c3), .val (.int c4), .val (.ref t_5), .val (.ref t_6), .val (.ref t_7), .val (.ref t_8), .val (.ref b9), .val (.ref b23), .val (.ref t_6), .val (.ref t_6)] [(.ref t_6)]))
          refine hG _ _ (fun t_ k_ => XS.aload X37.here hx rfl (hb hby at_197) rfl rfl k_) ?_
          show G (T37.setTop (mkF m 199 #[.val (.int i0), .val (.int i1), .val (.int i2), .val (.int i3), .val (.int i4), .val (.int sz1), .val (.int (1 : Int32)), .val (.int c3), .val (.int c4), .val (.ref t_5), .val (.ref t_6), .val (.ref t_7), .val (.ref t_8), .val (.ref b9), .val (.ref b23), .val (.ref t_6), .val (.ref t_6)] [(.ref t_6), (.ref t_6)]))
          refine own_callV (C := "java/lang/String") X37 hx hZ hG hown (hw _ (List.mem_of_getElem? (i := 150) rfl)) (hw _ (List.mem_of_getElem? (i := 151) rfl)) (hw _ (List.mem_of_getElem? (i := 153) rfl)) (hw _ (List.mem_of_getElem? (i := 152) rfl)) (hw _ (List.mem_of_getElem? (i := 8) rfl)) (hw _ (List.mem_of_getElem? (i := 154) rfl)) (by decide) 0 (own_eqs l Z a0 hw t_6 h25 O25) (by decide) (by decide) e37 f42 (by rw [hml]; rfl) (lenOf own_pd10 rfl) (argsL := [(.ref t_6)]) (rest := []) rfl rfl (Nat.le_of_eq rfl) (hb hby at_199) (by decide) (by decide) ?_
          intro T43 h43 v43 L43 X43 e43 q43
          obtain ⟨rfl, M43, rfl⟩ := q43
          have N43 := Fr.app N37 M43
          show G (T43.setTop (mkF m 202 #[.val (.int i0), .val (.int i1), .val (.int i2), .val (.int i3), .val (.int i4), .val (.int sz1), .val (.int (1 : Int32)), .val (.int c3), .val (.int c4), .val (.ref t_5), .val (.ref t_6), .val (.ref t_7), .val (.ref t_8), .val (.ref b9), .val (.ref b23), .val (.ref t_6), .val (.ref t_6)] [(.int (1 : Int32))]))
          refine hG _ _ (fun t_ k_ => XS.ifNo X43.here hx rfl (hb hby at_202) rfl ((if0 _ _).trans (feq (by decide)).1) k_) ?_
          show G (T43.setTop (mkF m 205 #[.val (.int i0), .val (.int i1), .val (.int i2), .val (.int i3), .val (.int i4), .val (.int sz1), .val (.int (1 : Int32)), .val (.int c3), .val (.int c4), .val (.ref t_5), .val (.ref t_6), .val (.ref t_7), .val (.ref t_8), .val (.ref b9), .val (.ref b23), .val (.ref t_6), .val (.ref t_6)] []))
          refine hG _ _ (fun t_ k_ => XS.iconst X43.here hx rfl (hb hby at_205) k_) ?_
          show G (T43.setTop (mkF m 206 #[.val (.int i0), .val (.int i1), .val (.int i2), .val (.int i3), .val (.int i4), .val (.int sz1), .val (.int (1 : Int32)), .val (.int c3), .val (.int c4), .val (.ref t_5), .val (.ref t_6), .val (.ref t_7), .val (.ref t_8), .val (.ref b9), .val (.ref b23), .val (.ref t_6), .val (.ref t_6)] [(.int (1 : Int32))]))
          refine hG _ _ (fun t_ k_ => XS.goto X43.here hx rfl (pc0 := 206) (pc' := 210) rfl (hb hby at_206) (by decide) (by decide) k_) ?_
          show G (T43.setTop (mkF m 210 #[.val (.int i0), .val (.int i1), .val (.int i2), .val (.int i3), .val (.int i4), .val (.int sz1), .val (.int (1 : Int32)), .val (.int c3), .val (.int c4), .val (.ref t_5), .val (.ref t_6), .val (.ref t_7), .val (.ref t_8), .val (.ref b9), .val (.ref b23), .val (.ref t_6), .val (.ref t_6)] [(.int (1 : Int32))]))
          exact own_retN hR hret (by simp) X43 hx (hb hby at_210) (by decide) (by decide) (by rw [e43]; exact ⟨rfl, N43, K25⟩)
        · skip
          show G (T25.setTop (mkF m 145 #[.val (.int i0), .val (.int i1), .val (.int i2), .val (.int i3), .val (.int i4), .val (.int sz1), .val (.int (2 : Int32)), .val (.int c3), .val (.int c4), .val (.ref t_5), .val (.ref t_6), .val (.ref t_7), .val (.ref t_8), .val (.ref b9), .val (.ref b23), .unset, .unset] []))
          refine hG _ _ (fun t_ k_ => XS.aload X25.here hx rfl (hb hby at_145) rfl rfl k_) ?_
          show G (T25.setTop (mkF m 147 #[.val (.int i0), .val (.int i1), .val (.int i2), .val (.int i3), .val (.int i4), .val (.int sz1), .val (.int (2 : Int32)), .val (.int c3), .val (.int c4), .val (.ref t_5), .val (.ref t_6), .val (.ref t_7), .val (.ref t_8), .val (.ref b9), .val (.ref b23), .unset, .unset] [(.ref b23)]))
          refine hG _ _ (fun t_ k_ => XS.iload X25.here hx rfl (hb hby at_147) rfl k_) ?_
          show G (T25.setTop (mkF m 149 #[.val (.int i0), .val (.int i1), .val (.int i2), .val (.int i3), .val (.int i4), .val (.int sz1), .val (.int (2 : Int32)), .val (.int c3), .val (.int c4), .val (.ref t_5), .val (.ref t_6), .val (.ref t_7), .val (.ref t_8), .val (.ref b9), .val (.ref b23), .unset, .unset] [(.int (2 : Int32)), (.ref b23)]))
          have f45 := (((r21_0.ext E23).keep J24).keep J25)
          have f46 := (((r21_2.ext E23).keep J24 nin0).keep J25 (ninS (own_ne r21_0.lt (Nat.le_of_eq z23.symm)) nin0))
          have f47 := (((r21_4.ext E23).keep J24 nin0).keep J25 (ninS (own_ne r21_4.lt (Nat.le_of_eq z23.symm)) nin0))
          have f48 := (((r21_3.ext E23).keep J24 nin0).keep J25 (ninS (own_ne r21_0.lt (Nat.le_of_eq z23.symm)) nin0))
          have f49 := (((((f19.keep J18).keep J21).ext E23).keep J24).keep J25)
          refine own_callV (C := "com/example/vestibule/vestibule/RecordFile$Record") X25 hx hZ hG hown (hw _ (List.mem_of_getElem? (i := 122) rfl)) (hw _ (List.mem_of_getElem? (i := 123) rfl)) (hw _ (List.mem_of_getElem? (i := 125) rfl)) (hw _ (List.mem_of_getElem? (i := 124) rfl)) (hw _ (List.mem_of_getElem? (i := 92) rfl)) (hw _ (List.mem_of_getElem? (i := 126) rfl)) (by decide) 0 (own_field l Z a0 hw b23 b9 (2 : Int32) t_11 kt_11 [(.ref t_5), (.ref t_6), (.ref t_7), (.ref t_8), .null, .null, .null, .null, .null, .null] t_7 (4 : Int32) h25 O25 r25_3 (by decide) (by decide) rfl f45 f46 f47 f48 (by decide) f49) (by decide) (by decide) e25 r25_0 (by rw [hml]; rfl) (lenOf own_pd19 rfl) (argsL := [(.int (2 : Int32))]) (rest := []) rfl rfl (Nat.le_of_eq rfl) (hb hby at_149) (by decide) (by decide) ?_
          intro T44 h44 v44 L44 X44 e44 q44
          obtain ⟨rfl, M44, rfl⟩ := q44
          have N44 := Fr.app N25 M44
          show G (T44.setTop (mkF m 152 #[.val (.int i0), .val (.int i1), .val (.int i2), .val (.int i3), .val (.int i4), .val (.int sz1), .val (.int (2 : Int32)), .val (.int c3), .val (.int c4), .val (.ref t_5), .val (.ref t_6), .val (.ref t_7), .val (.ref t_8), .val (.ref b9), .val (.ref b23), .unset, .unset] [(.ref t_7)]))
          refine hG _ _ (fun t_ k_ => XS.astore X44.here hx rfl (hb hby at_152) rfl rfl (l' := #[.val (.int i0), .val (.int i1), .val (.int i2), .val (.int i3), .val (.int i4), .val (.int sz1), .val (.int (2 : Int32)), .val (.int c3), .val (.int c4), .val (.ref t_5), .val (.ref t_6), .val (.ref t_7), .val (.ref t_8), .val (.ref b9), .val (.ref b23), .val (.ref t_7), .unset]) rfl k_) ?_
          show G (T44.setTop (mkF m 154 #[.val (.int i0), .val (.int i1), .val (.int i2), .val (.int i3), .val (.int i4), .val (.int sz1), .val (.int (2 : Int32)), .val (.int c3), .val (.int c4), .val (.ref t_5), .val (.ref t_6), .val (.ref t_7), .val (.ref t_8), .val (.ref b9), .val (.ref b23), .val (.ref t_7), .unset] []))
          refine hG _ _ (fun t_ k_ => XS.iload X44.here hx rfl (hb hby at_154) rfl k_) ?_
          show G (T44.setTop (mkF m 156 #[.val (.int i0), .val (.int i1), .val (.int i2), .val (.int i3), .val (.int i4), .val (.int sz1), .val (.int (2 : Int32)), .val (.int c3), .val (.int c4), .val (.ref t_5), .val (.ref t_6), .val (.ref t_7), .val (.ref t_8), .val (.ref b9), .val (.ref b23), .val (.ref t_7), .unset] [(.int (2 : Int32))]))
          refine hG _ _ (fun t_ k_ => XS.ifYes X44.here hx rfl (pc0 := 156) (pc' := 164) rfl (hb hby at_156) rfl ((if0 _ _).trans (feq (by decide)).2) (by decide) (by decide) k_) ?_
          show G (T44.setTop (mkF m 164 #[.val (.int i0), .val (.int i1), .val (.int i2), .val (.int i3), .val (.int i4), .val (.int sz1), .val (.int (2 : Int32)), .val (.int c3), .val (.int c4), .val (.ref t_5), .val (.ref t_6), .val (.ref t_7), .val (.ref t_8), .val (.ref b9), .val (.ref b23), .val (.ref t_7), .unset] []))
          refine hG _ _ (fun t_ k_ => XS.iload X44.here hx rfl (hb hby at_164) rfl k_) ?_
          show G (T44.setTop (mkF m 166 #[.val (.int i0), .val (.int i1), .val (.int i2), .val (.int i3), .val (.int i4), .val (.int sz1), .val (.int (2 : Int32)), .val (.int c3), .val (.int c4), .val (.ref t_5), .val (.ref t_6), .val (.ref t_7), .val (.ref t_8), .val (.ref b9), .val (.ref b23), .val (.ref t_7), .unset] [(.int (2 : Int32))]))
          refine hG _ _ (fun t_ k_ => XS.iconst X44.here hx rfl (hb hby at_166) k_) ?_
          show G (T44.setTop (mkF m 167 #[.val (.int i0), .val (.int i1), .val (.int i2), .val (.int i3), .val (.int i4), .val (.int sz1), .val (.int (2 : Int32)), .val (.int c3), .val (.int c4), .val (.ref t_5), .val (.ref t_6), .val (.ref t_7), .val (.ref t_8), .val (.ref b9), .val (.ref b23), .val (.ref t_7), .unset] [(.int (1 : Int32)), (.int (2 : Int32))]))
          refine hG _ _ (fun t_ k_ => XS.icmpYes X44.here hx rfl (pc0 := 167) (pc' := 175) rfl (hb hby at_167) rfl (feq (by decide)).2 (by decide) (by decide) k_) ?_
          show G (T44.setTop (mkF m 175 #[.val (.int i0), .val (.int i1), .val (.int i2), .val (.int i3), .val (.int i4), .val (.int sz1), .val (.int (2 : Int32)), .val (.int c3), .val (.int c4), .val (.ref t_5), .val (.ref t_6), .val (.ref t_7), .val (.ref t_8), .val (.ref b9), .val (.ref b23), .val (.ref t_7), .unset] []))
          refine hG _ _ (fun t_ k_ => XS.iload X44.here hx rfl (hb hby at_175) rfl k_) ?_
          show G (T44.setTop (mkF m 177 #[.val (.int i0), .val (.int i1), .val (.int i2), .val (.int i3), .val (.int i4), .val (.int sz1), .val (.int (2 : Int32)), .val (.int c3), .val (.int c4), .val (.ref t_5), .val (.ref t_6), .val (.ref t_7), .val (.ref t_8), .val (.ref b9), .val (.ref b23), .val (.ref t_7), .unset] [(.int (2 : Int32))]))
          refine hG _ _ (fun t_ k_ => XS.iconst X44.here hx rfl (hb hby at_177) k_) ?_
          show G (T44.setTop (mkF m 178 #[.val (.int i0), .val (.int i1), .val (.int i2), .val (.int i3), .val (.int i4), .val (.int sz1), .val (.int (2 : Int32)), .val (.int c3), .val (.int c4), .val (.ref t_5), .val (.ref t_6), .val (.ref t_7), .val (.ref t_8), .val (.ref b9), .val (.ref b23), .val (.ref t_7), .unset] [(.int (2 : Int32)), (.int (2 : Int32))]))
          refine hG _ _ (fun t_ k_ => XS.icmpNo X44.here hx rfl (hb hby at_178) rfl (teq (by decide)).2 k_) ?_
          show G (T44.setTop (mkF m 181 #[.val (.int i0), .val (.int i1), .val (.int i2), .val (.int i3), .val (.int i4), .val (.int sz1), .val (.int (2 : Int32)), .val (.int c3), .val (.int c4), .val (.ref t_5), .val (.ref t_6), .val (.ref t_7), .val (.ref t_8), .val (.ref b9), .val (.ref b23), .val (.ref t_7), .unset] []))
          refine hG _ _ (fun t_ k_ => XS.aload X44.here hx rfl (hb hby at_181) rfl rfl k_) ?_
          show G (T44.setTop (mkF m 183 #[.val (.int i0), .val (.int i1), .val (.int i2), .val (.int i3), .val (.int i4), .val (.int sz1), .val (.int (2 : Int32)), .val (.int c3), .val (.int c4), .val (.ref t_5), .val (.ref t_6), .val (.ref t_7), .val (.ref t_8), .val (.ref b9), .val (.ref b23), .val (.ref t_7), .unset] [(.ref t_7)]))
          refine hG _ _ (fun t_ k_ => XS.goto X44.here hx rfl (pc0 := 183) (pc' := 188) rfl (hb hby at_183) (by decide) (by decide) k_) ?_
          show G (T44.setTop (mkF m 188 #[.val (.int i0), .val (.int i1), .val (.int i2), .val (.int i3), .val (.int i4), .val (.int sz1), .val (.int (2 : Int32)), .val (.int c3), .val (.int c4), .val (.ref t_5), .val (.ref t_6), .val (.ref t_7), .val (.ref t_8), .val (.ref b9), .val (.ref b23), .val (.ref t_7), .unset] [(.ref t_7)]))
          refine hG _ _ (fun t_ k_ => XS.astore X44.here hx rfl (hb hby at_188) rfl rfl (l' := #[.val (.int i0), .val (.int i1), .val (.int i2), .val (.int i3), .val (.int i4), .val (.int sz1), .val (.int (2 : Int32)), .val (.int c3), .val (.int c4), .val (.ref t_5), .val (.ref t_6), .val (.ref t_7), .val (.ref t_8), .val (.ref b9), .val (.ref b23), .val (.ref t_7), .val (.ref t_7)]) rfl k_) ?_
          show G (T44.setTop (mkF m 190 #[.val (.int i0), .val (.int i1), .val (.int i2), .val (.int i3), .val (.int i4), .val (.int sz1), .val (.int (2 : Int32)), .val (.int c3), .val (.int c4), .val (.ref t_5), .val (.ref t_6), .val (.ref t_7), .val (.ref t_8), .val (.ref b9), .val (.ref b23), .val (.ref t_7), .val (.ref t_7)] []))
          refine hG _ _ (fun t_ k_ => XS.aload X44.here hx rfl (hb hby at_190) rfl rfl k_) ?_
          show G (T44.setTop (mkF m 192 #[.val (.int i0), .val (.int i1), .val (.int i2), .val (.int i3), .val (.int i4), .val (.int sz1), .val (.int (2 : Int32)), .val (.int c3), .val (.int c4), .val (.ref t_5), .val (.ref t_6), .val (.ref t_7), .val (.ref t_8), .val (.ref b9), .val (.ref b23), .val (.ref t_7), .val (.ref t_7)] [(.ref t_7)]))
          refine hG _ _ (fun t_ k_ => XS.ifnullNo X44.here hx rfl (hb hby at_192) rfl k_) ?_
          show G (T44.setTop (mkF m 195 #[.val (.int i0), .val (.int i1), .val (.int i2), .val (.int i3), .val (.int i4), .val (.int sz1), .val (.int (2 : Int32)), .val (.int c3), .val (.int c4), .val (.ref t_5), .val (.ref t_6), .val (.ref t_7), .val (.ref t_8), .val (.ref b9), .val (.ref b23), .val (.ref t_7), .val (.ref t_7)] []))
          refine hG _ _ (fun t_ k_ => XS.aload X44.here hx rfl (hb hby at_195) rfl rfl k_) ?_
          show G (T44.setTop (mkF m 197 #[.val (.int i0), .val (.int i1), .val (.int i2), .val (.int i3), .val (.int i4), .val (.int sz1), .val (.int (2 : Int32)), .val (.int c3), .val (.int c4), .val (.ref t_5), .val (.ref t_6), .val (.ref t_7), .val (.ref t_8), .val (.ref b9), .val (.ref b23), .val (.ref t_7), .val (.ref t_7)] [(.ref t_7)]))
          refine hG _ _ (fun t_ k_ => XS.aload X44.here hx rfl (hb hby at_197) rfl rfl k_) ?_
          show G (T44.setTop (mkF m 199 #[.val (.int i0), .val (.int i1), .val (.int i2), .val (.int i3), .val (.int i4), .val (.int sz1), .val (.int (2 : Int32)), .val (.int c3), .val (.int c4), .val (.ref t_5), .val (.ref t_6), .val (.ref t_7), .val (.ref t_8), .val (.ref b9), .val (.ref b23), .val (.ref t_7), .val (.ref t_7)] [(.ref t_7), (.ref t_7)]))
          refine own_callV (C := "java/lang/String") X44 hx hZ hG hown (hw _ (List.mem_of_getElem? (i := 150) rfl)) (hw _ (List.mem_of_getElem? (i := 151) rfl)) (hw _ (List.mem_of_getElem? (i := 153) rfl)) (hw _ (List.mem_of_getElem? (i := 152) rfl)) (hw _ (List.mem_of_getElem? (i := 8) rfl)) (hw _ (List.mem_of_getElem? (i := 154) rfl)) (by decide) 0 (own_eqs l Z a0 hw t_7 h25 O25) (by decide) (by decide) e44 f49 (by rw [hml]; rfl) (lenOf own_pd10 rfl) (argsL := [(.ref t_7)]) (rest := []) rfl rfl (Nat.le_of_eq rfl) (hb hby at_199) (by decide) (by decide) ?_
          intro T50 h50 v50 L50 X50 e50 q50
          obtain ⟨rfl, M50, rfl⟩ := q50
          have N50 := Fr.app N44 M50
          show G (T50.setTop (mkF m 202 #[.val (.int i0), .val (.int i1), .val (.int i2), .val (.int i3), .val (.int i4), .val (.int sz1), .val (.int (2 : Int32)), .val (.int c3), .val (.int c4), .val (.ref t_5), .val (.ref t_6), .val (.ref t_7), .val (.ref t_8), .val (.ref b9), .val (.ref b23), .val (.ref t_7), .val (.ref t_7)] [(.int (1 : Int32))]))
          refine hG _ _ (fun t_ k_ => XS.ifNo X50.here hx rfl (hb hby at_202) rfl ((if0 _ _).trans (feq (by decide)).1) k_) ?_
          show G (T50.setTop (mkF m 205 #[.val (.int i0), .val (.int i1), .val (.int i2), .val (.int i3), .val (.int i4), .val (.int sz1), .val (.int (2 : Int32)), .val (.int c3), .val (.int c4), .val (.ref t_5), .val (.ref t_6), .val (.ref t_7), .val (.ref t_8), .val (.ref b9), .val (.ref b23), .val (.ref t_7), .val (.ref t_7)] []))
          refine hG _ _ (fun t_ k_ => XS.iconst X50.here hx rfl (hb hby at_205) k_) ?_
          show G (T50.setTop (mkF m 206 #[.val (.int i0), .val (.int i1), .val (.int i2), .val (.int i3), .val (.int i4), .val (.int sz1), .val (.int (2 : Int32)), .val (.int c3), .val (.int c4), .val (.ref t_5), .val (.ref t_6), .val (.ref t_7), .val (.ref t_8), .val (.ref b9), .val (.ref b23), .val (.ref t_7), .val (.ref t_7)] [(.int (1 : Int32))]))
          refine hG _ _ (fun t_ k_ => XS.goto X50.here hx rfl (pc0 := 206) (pc' := 210) rfl (hb hby at_206) (by decide) (by decide) k_) ?_
          show G (T50.setTop (mkF m 210 #[.val (.int i0), .val (.int i1), .val (.int i2), .val (.int i3), .val (.int i4), .val (.int sz1), .val (.int (2 : Int32)), .val (.int c3), .val (.int c4), .val (.ref t_5), .val (.ref t_6), .val (.ref t_7), .val (.ref t_8), .val (.ref b9), .val (.ref b23), .val (.ref t_7), .val (.ref t_7)] [(.int (1 : Int32))]))
          exact own_retN hR hret (by simp) X50 hx (hb hby at_210) (by decide) (by decide) (by rw [e50]; exact ⟨rfl, N50, K25⟩)
        · skip
          show G (T25.setTop (mkF m 145 #[.val (.int i0), .val (.int i1), .val (.int i2), .val (.int i3), .val (.int i4), .val (.int sz1), .val (.int (3 : Int32)), .val (.int c3), .val (.int c4), .val (.ref t_5), .val (.ref t_6), .val (.ref t_7), .val (.ref t_8), .val (.ref b9), .val (.ref b23), .unset, .unset] []))
          refine hG _ _ (fun t_ k_ => XS.aload X25.here hx rfl (hb hby at_145) rfl rfl k_) ?_
          show G (T25.setTop (mkF m 147 #[.val (.int i0), .val (.int i1), .val (.int i2), .val (.int i3), .val (.int i4), .val (.int sz1), .val (.int (3 : Int32)), .val (.int c3), .val (.int c4), .val (.ref t_5), .val (.ref t_6), .val (.ref t_7), .val (.ref t_8), .val (.ref b9), .val (.ref b23), .unset, .unset] [(.ref b23)]))
          refine hG _ _ (fun t_ k_ => XS.iload X25.here hx rfl (hb hby at_147) rfl k_) ?_
          show G (T25.setTop (mkF m 149 #[.val (.int i0), .val (.int i1), .val (.int i2), .val (.int i3), .val (.int i4), .val (.int sz1), .val (.int (3 : Int32)), .val (.int c3), .val (.int c4), .val (.ref t_5), .val (.ref t_6), .val (.ref t_7), .val (.ref t_8), .val (.ref b9), .val (.ref b23), .unset, .unset] [(.int (3 : Int32)), (.ref b23)]))
          have f52 := (((r21_0.ext E23).keep J24).keep J25)
          have f53 := (((r21_2.ext E23).keep J24 nin0).keep J25 (ninS (own_ne r21_0.lt (Nat.le_of_eq z23.symm)) nin0))
          have f54 := (((r21_4.ext E23).keep J24 nin0).keep J25 (ninS (own_ne r21_4.lt (Nat.le_of_eq z23.symm)) nin0))
          have f55 := (((r21_3.ext E23).keep J24 nin0).keep J25 (ninS (own_ne r21_0.lt (Nat.le_of_eq z23.symm)) nin0))
          have f56 := ((((f22.keep J21).ext E23).keep J24).keep J25)
          refine own_callV (C := "com/example/vestibule/vestibule/RecordFile$Record") X25 hx hZ hG hown (hw _ (List.mem_of_getElem? (i := 122) rfl)) (hw _ (List.mem_of_getElem? (i := 123) rfl)) (hw _ (List.mem_of_getElem? (i := 125) rfl)) (hw _ (List.mem_of_getElem? (i := 124) rfl)) (hw _ (List.mem_of_getElem? (i := 92) rfl)) (hw _ (List.mem_of_getElem? (i := 126) rfl)) (by decide) 0 (own_field l Z a0 hw b23 b9 (3 : Int32) t_11 kt_11 [(.ref t_5), (.ref t_6), (.ref t_7), (.ref t_8), .null, .null, .null, .null, .null, .null] t_8 (4 : Int32) h25 O25 r25_3 (by decide) (by decide) rfl f52 f53 f54 f55 (by decide) f56) (by decide) (by decide) e25 r25_0 (by rw [hml]; rfl) (lenOf own_pd19 rfl) (argsL := [(.int (3 : Int32))]) (rest := []) rfl rfl (Nat.le_of_eq rfl) (hb hby at_149) (by decide) (by decide) ?_
          intro T51 h51 v51 L51 X51 e51 q51
          obtain ⟨rfl, M51, rfl⟩ := q51
          have N51 := Fr.app N25 M51
          show G (T51.setTop (mkF m 152 #[.val (.int i0), .val (.int i1), .val (.int i2), .val (.int i3), .val (.int i4), .val (.int sz1), .val (.int (3 : Int32)), .val (.int c3), .val (.int c4), .val (.ref t_5), .val (.ref t_6), .val (.ref t_7), .val (.ref t_8), .val (.ref b9), .val (.ref b23), .unset, .unset] [(.ref t_8)]))
          refine hG _ _ (fun t_ k_ => XS.astore X51.here hx rfl (hb hby at_152) rfl rfl (l' := #[.val (.int i0), .val (.int i1), .val (.int i2), .val (.int i3), .val (.int i4), .val (.int sz1), .val (.int (3 : Int32)), .val (.int c3), .val (.int c4), .val (.ref t_5), .val (.ref t_6), .val (.ref t_7), .val (.ref t_8), .val (.ref b9), .val (.ref b23), .val (.ref t_8), .unset]) rfl k_) ?_
          show G (T51.setTop (mkF m 154 #[.val (.int i0), .val (.int i1), .val (.int i2), .val (.int i3), .val (.int i4), .val (.int sz1), .val (.int (3 : Int32)), .val (.int c3), .val (.int c4), .val (.ref t_5), .val (.ref t_6), .val (.ref t_7), .val (.ref t_8), .val (.ref b9), .val (.ref b23), .val (.ref t_8), .unset] []))
          refine hG _ _ (fun t_ k_ => XS.iload X51.here hx rfl (hb hby at_154) rfl k_) ?_
          show G (T51.setTop (mkF m 156 #[.val (.int i0), .val (.int i1), .val (.int i2), .val (.int i3), .val (.int i4), .val (.int sz1), .val (.int (3 : Int32)), .val (.int c3), .val (.int c4), .val (.ref t_5), .val (.ref t_6), .val (.ref t_7), .val (.ref t_8), .val (.ref b9), .val (.ref b23), .val (.ref t_8), .unset] [(.int (3 : Int32))]))
          refine hG _ _ (fun t_ k_ => XS.ifYes X51.here hx rfl (pc0 := 156) (pc' := 164) rfl (hb hby at_156) rfl ((if0 _ _).trans (feq (by decide)).2) (by decide) (by decide) k_) ?_
          show G (T51.setTop (mkF m 164 #[.val (.int i0), .val (.int i1), .val (.int i2), .val (.int i3), .val (.int i4), .val (.int sz1), .val (.int (3 : Int32)), .val (.int c3), .val (.int c4), .val (.ref t_5), .val (.ref t_6), .val (.ref t_7), .val (.ref t_8), .val (.ref b9), .val (.ref b23), .val (.ref t_8), .unset] []))
          refine hG _ _ (fun t_ k_ => XS.iload X51.here hx rfl (hb hby at_164) rfl k_) ?_
          show G (T51.setTop (mkF m 166 #[.val (.int i0), .val (.int i1), .val (.int i2), .val (.int i3), .val (.int i4), .val (.int sz1), .val (.int (3 : Int32)), .val (.int c3), .val (.int c4), .val (.ref t_5), .val (.ref t_6), .val (.ref t_7), .val (.ref t_8), .val (.ref b9), .val (.ref b23), .val (.ref t_8), .unset] [(.int (3 : Int32))]))
          refine hG _ _ (fun t_ k_ => XS.iconst X51.here hx rfl (hb hby at_166) k_) ?_
          show G (T51.setTop (mkF m 167 #[.val (.int i0), .val (.int i1), .val (.int i2), .val (.int i3), .val (.int i4), .val (.int sz1), .val (.int (3 : Int32)), .val (.int c3), .val (.int c4), .val (.ref t_5), .val (.ref t_6), .val (.ref t_7), .val (.ref t_8), .val (.ref b9), .val (.ref b23), .val (.ref t_8), .unset] [(.int (1 : Int32)), (.int (3 : Int32))]))
          refine hG _ _ (fun t_ k_ => XS.icmpYes X51.here hx rfl (pc0 := 167) (pc' := 175) rfl (hb hby at_167) rfl (feq (by decide)).2 (by decide) (by decide) k_) ?_
          show G (T51.setTop (mkF m 175 #[.val (.int i0), .val (.int i1), .val (.int i2), .val (.int i3), .val (.int i4), .val (.int sz1), .val (.int (3 : Int32)), .val (.int c3), .val (.int c4), .val (.ref t_5), .val (.ref t_6), .val (.ref t_7), .val (.ref t_8), .val (.ref b9), .val (.ref b23), .val (.ref t_8), .unset] []))
          refine hG _ _ (fun t_ k_ => XS.iload X51.here hx rfl (hb hby at_175) rfl k_) ?_
          show G (T51.setTop (mkF m 177 #[.val (.int i0), .val (.int i1), .val (.int i2), .val (.int i3), .val (.int i4), .val (.int sz1), .val (.int (3 : Int32)), .val (.int c3), .val (.int c4), .val (.ref t_5), .val (.ref t_6), .val (.ref t_7), .val (.ref t_8), .val (.ref b9), .val (.ref b23), .val (.ref t_8), .unset] [(.int (3 : Int32))]))
          refine hG _ _ (fun t_ k_ => XS.iconst X51.here hx rfl (hb hby at_177) k_) ?_
          show G (T51.setTop (mkF m 178 #[.val (.int i0), .val (.int i1), .val (.int i2), .val (.int i3), .val (.int i4), .val (.int sz1), .val (.int (3 : Int32)), .val (.int c3), .val (.int c4), .val (.ref t_5), .val (.ref t_6), .val (.ref t_7), .val (.ref t_8), .val (.ref b9), .val (.ref b23), .val (.ref t_8), .unset] [(.int (2 : Int32)), (.int (3 : Int32))]))
          refine hG _ _ (fun t_ k_ => XS.icmpYes X51.here hx rfl (pc0 := 178) (pc' := 186) rfl (hb hby at_178) rfl (feq (by decide)).2 (by decide) (by decide) k_) ?_
          show G (T51.setTop (mkF m 186 #[.val (.int i0), .val (.int i1), .val (.int i2), .val (.int i3), .val (.int i4), .val (.int sz1), .val (.int (3 : Int32)), .val (.int c3), .val (.int c4), .val (.ref t_5), .val (.ref t_6), .val (.ref t_7), .val (.ref t_8), .val (.ref b9), .val (.ref b23), .val (.ref t_8), .unset] []))
          refine hG _ _ (fun t_ k_ => XS.aload X51.here hx rfl (hb hby at_186) rfl rfl k_) ?_
          show G (T51.setTop (mkF m 188 #[.val (.int i0), .val (.int i1), .val (.int i2), .val (.int i3), .val (.int i4), .val (.int sz1), .val (.int (3 : Int32)), .val (.int c3), .val (.int c4), .val (.ref t_5), .val (.ref t_6), .val (.ref t_7), .val (.ref t_8), .val (.ref b9), .val (.ref b23), .val (.ref t_8), .unset] [(.ref t_8)]))
          refine hG _ _ (fun t_ k_ => XS.astore X51.here hx rfl (hb hby at_188) rfl rfl (l' := #[.val (.int i0), .val (.int i1), .val (.int i2), .val (.int i3), .val (.int i4), .val (.int sz1), .val (.int (3 : Int32)), .val (.int c3), .val (.int c4), .val (.ref t_5), .val (.ref t_6), .val (.ref t_7), .val (.ref t_8), .val (.ref b9), .val (.ref b23), .val (.ref t_8), .val (.ref t_8)]) rfl k_) ?_
          show G (T51.setTop (mkF m 190 #[.val (.int i0), .val (.int i1), .val (.int i2), .val (.int i3), .val (.int i4), .val (.int sz1), .val (.int (3 : Int32)), .val (.int c3), .val (.int c4), .val (.ref t_5), .val (.ref t_6), .val (.ref t_7), .val (.ref t_8), .val (.ref b9), .val (.ref b23), .val (.ref t_8), .val (.ref t_8)] []))
          refine hG _ _ (fun t_ k_ => XS.aload X51.here hx rfl (hb hby at_190) rfl rfl k_) ?_
          show G (T51.setTop (mkF m 192 #[.val (.int i0), .val (.int i1), .val (.int i2), .val (.int i3), .val (.int i4), .val (.int sz1), .val (.int (3 : Int32)), .val (.int c3), .val (.int c4), .val (.ref t_5), .val (.ref t_6), .val (.ref t_7), .val (.ref t_8), .val (.ref b9), .val (.ref b23), .val (.ref t_8), .val (.ref t_8)] [(.ref t_8)]))
          refine hG _ _ (fun t_ k_ => XS.ifnullNo X51.here hx rfl (hb hby at_192) rfl k_) ?_
          show G (T51.setTop (mkF m 195 #[.val (.int i0), .val (.int i1), .val (.int i2), .val (.int i3), .val (.int i4), .val (.int sz1), .val (.int (3 : Int32)), .val (.int c3), .val (.int c4), .val (.ref t_5), .val (.ref t_6), .val (.ref t_7), .val (.ref t_8), .val (.ref b9), .val (.ref b23), .val (.ref t_8), .val (.ref t_8)] []))
          refine hG _ _ (fun t_ k_ => XS.aload X51.here hx rfl (hb hby at_195) rfl rfl k_) ?_
          show G (T51.setTop (mkF m 197 #[.val (.int i0), .val (.int i1), .val (.int i2), .val (.int i3), .val (.int i4), .val (.int sz1), .val (.int (3 : Int32)), .val (.int c3), .val (.int c4), .val (.ref t_5), .val (.ref t_6), .val (.ref t_7), .val (.ref t_8), .val (.ref b9), .val (.ref b23), .val (.ref t_8), .val (.ref t_8)] [(.ref t_8)]))
          refine hG _ _ (fun t_ k_ => XS.aload X51.here hx rfl (hb hby at_197) rfl rfl k_) ?_
          show G (T51.setTop (mkF m 199 #[.val (.int i0), .val (.int i1), .val (.int i2), .val (.int i3), .val (.int i4), .val (.int sz1), .val (.int (3 : Int32)), .val (.int c3), .val (.int c4), .val (.ref t_5), .val (.ref t_6), .val (.ref t_7), .val (.ref t_8), .val (.ref b9), .val (.ref b23), .val (.ref t_8), .val (.ref t_8)] [(.ref t_8), (.ref t_8)]))
          refine own_callV (C := "java/lang/String") X51 hx hZ hG hown (hw _ (List.mem_of_getElem? (i := 150) rfl)) (hw _ (List.mem_of_getElem? (i := 151) rfl)) (hw _ (List.mem_of_getElem? (i := 153) rfl)) (hw _ (List.mem_of_getElem? (i := 152) rfl)) (hw _ (List.mem_of_getElem? (i := 8) rfl)) (hw _ (List.mem_of_getElem? (i := 154) rfl)) (by decide) 0 (own_eqs l Z a0 hw t_8 h25 O25) (by decide) (by decide) e51 f56 (by rw [hml]; rfl) (lenOf own_pd10 rfl) (argsL := [(.ref t_8)]) (rest := []) rfl rfl (Nat.le_of_eq rfl) (hb hby at_199) (by decide) (by decide) ?_
          intro T57 h57 v57 L57 X57 e57 q57
          obtain ⟨rfl, M57, rfl⟩ := q57
          have N57 := Fr.app N51 M57
          show G (T57.setTop (mkF m 202 #[.val (.int i0), .val (.int i1), .val (.int i2), .val (.int i3), .val (.int i4), .val (.int sz1), .val (.int (3 : Int32)), .val (.int c3), .val (.int c4), .val (.ref t_5), .val (.ref t_6), .val (.ref t_7), .val (.ref t_8), .val (.ref b9), .val (.ref b23), .val (.ref t_8), .val (.ref t_8)] [(.int (1 : Int32))]))
          refine hG _ _ (fun t_ k_ => XS.ifNo X57.here hx rfl (hb hby at_202) rfl ((if0 _ _).trans (feq (by decide)).1) k_) ?_
          show G (T57.setTop (mkF m 205 #[.val (.int i0), .val (.int i1), .val (.int i2), .val (.int i3), .val (.int i4), .val (.int sz1), .val (.int (3 : Int32)), .val (.int c3), .val (.int c4), .val (.ref t_5), .val (.ref t_6), .val (.ref t_7), .val (.ref t_8), .val (.ref b9), .val (.ref b23), .val (.ref t_8), .val (.ref t_8)] []))
          refine hG _ _ (fun t_ k_ => XS.iconst X57.here hx rfl (hb hby at_205) k_) ?_
          show G (T57.setTop (mkF m 206 #[.val (.int i0), .val (.int i1), .val (.int i2), .val (.int i3), .val (.int i4), .val (.int sz1), .val (.int (3 : Int32)), .val (.int c3), .val (.int c4), .val (.ref t_5), .val (.ref t_6), .val (.ref t_7), .val (.ref t_8), .val (.ref b9), .val (.ref b23), .val (.ref t_8), .val (.ref t_8)] [(.int (1 : Int32))]))
          refine hG _ _ (fun t_ k_ => XS.goto X57.here hx rfl (pc0 := 206) (pc' := 210) rfl (hb hby at_206) (by decide) (by decide) k_) ?_
          show G (T57.setTop (mkF m 210 #[.val (.int i0), .val (.int i1), .val (.int i2), .val (.int i3), .val (.int i4), .val (.int sz1), .val (.int (3 : Int32)), .val (.int c3), .val (.int c4), .val (.ref t_5), .val (.ref t_6), .val (.ref t_7), .val (.ref t_8), .val (.ref b9), .val (.ref b23), .val (.ref t_8), .val (.ref t_8)] [(.int (1 : Int32))]))
          exact own_retN hR hret (by simp) X57 hx (hb hby at_210) (by decide) (by decide) (by rw [e57]; exact ⟨rfl, N57, K25⟩)
      · skip
        refine hG _ _ (fun t_ k_ => XS.icmpYes X18.here hx rfl (pc0 := 116) (pc' := 127) rfl (hb hby at_116) rfl (flt hc116_20).2.2.2 (by decide) (by decide) k_) ?_
        show G (T18.setTop (mkF m 127 #[.val (.int i0), .val (.int i1), .val (.int i2), .val (.int i3), .val (.int i4), .val (.int sz1), .val (.int ix2), .val (.int c3), .val (.int c4), .val (.ref t_5), .val (.ref t_6), .val (.ref t_7), .val (.ref t_8), .val (.ref b9), .unset, .unset, .unset] []))
        obtain ⟨T58, h58, X58, e58, E58, A58, D58, -, st58⟩ := newO X18 hx hZ hown (hw _ (List.mem_of_getElem? (i := 90) rfl)) (hw _ (List.mem_of_getElem? (i := 91) rfl)) (hw _ (List.mem_of_getElem? (i := 92) rfl)) e18 (g := (mkF m 127 #[.val (.int i0), .val (.int i1), .val (.int i2), .val (.int i3), .val (.int i4), .val (.int sz1), .val (.int ix2), .val (.int c3), .val (.int c4), .val (.ref t_5), .val (.ref t_6), .val (.ref t_7), .val (.ref t_8), .val (.ref b9), .unset, .unset, .unset] [])) rfl (hb hby at_127) (by decide) (by decide)
        obtain ⟨b58, z58⟩ : ∃ z, z = h18.size := ⟨_, rfl⟩
        rw [← z58] at A58 D58 st58
        refine hG _ _ st58 ?_
        have K58 : Keep h0 h58 [] := K18.ext E58
        have O58 : own_Old Z h58 := O18.ext E58
        show G (T58.setTop (mkF m 130 #[.val (.int i0), .val (.int i1), .val (.int i2), .val (.int i3), .val (.int i4), .val (.int sz1), .val (.int ix2), .val (.int c3), .val (.int c4), .val (.ref t_5), .val (.ref t_6), .val (.ref t_7), .val (.ref t_8), .val (.ref b9), .unset, .unset, .unset] [(.ref b58)]))
        refine hG _ _ (fun t_ k_ => XS.dup X58.here hx rfl (hb hby at_130) rfl rfl k_) ?_
        show G (T58.setTop (mkF m 131 #[.val (.int i0), .val (.int i1), .val (.int i2), .val (.int i3), .val (.int i4), .val (.int sz1), .val (.int ix2), .val (.int c3), .val (.int c4), .val (.ref t_5), .val (.ref t_6), .val (.ref t_7), .val (.ref t_8), .val (.ref b9), .unset, .unset, .unset] [(.ref b58), (.ref b58)]))
        refine hG _ _ (fun t_ k_ => XS.iload X58.here hx rfl (hb hby at_131) rfl k_) ?_
        show G (T58.setTop (mkF m 133 #[.val (.int i0), .val (.int i1), .val (.int i2), .val (.int i3), .val (.int i4), .val (.int sz1), .val (.int ix2), .val (.int c3), .val (.int c4), .val (.ref t_5), .val (.ref t_6), .val (.ref t_7), .val (.ref t_8), .val (.ref b9), .unset, .unset, .unset] [(.int c4), (.ref b58), (.ref b58)]))
        refine own_callS X58 hx hZ hG hown (hw _ (List.mem_of_getElem? (i := 93) rfl)) (hw _ (List.mem_of_getElem? (i := 94) rfl)) (hw _ (List.mem_of_getElem? (i := 8) rfl)) (hw _ (List.mem_of_getElem? (i := 95) rfl)) (by decide) 2 (own_val1 l Z a0 hw c4 cpt h58 O58 (own_le255 hr_c4) g0_S g1_hcpt) (by decide) (by decide) e58 (by rw [hml]; rfl) (lenOf own_pd9 rfl) (argsL := [(.int c4)]) (rest := [(.ref b58), (.ref b58)]) rfl rfl (Nat.le_of_eq rfl) (hb hby at_133) (by decide) (by decide) ?_
        intro T59 h59 v59 L59 X59 e59 q59
        obtain ⟨t_59, b_59, kb_59, rfl, M59, J59, y59_0, y59_1, r59_0, r59_1, r59_2, r59_3⟩ := q59
        have N59 := Fr.app N18 M59
        have K59 : Keep h0 h59 [] := K58.trans J59 all0
        have O59 : own_Old Z h59 := O58.keep J59 all0
        show G (T59.setTop (mkF m 136 #[.val (.int i0), .val (.int i1), .val (.int i2), .val (.int i3), .val (.int i4), .val (.int sz1), .val (.int ix2), .val (.int c3), .val (.int c4), .val (.ref t_5), .val (.ref t_6), .val (.ref t_7), .val (.ref t_8), .val (.ref b9), .unset, .unset, .unset] [(.ref t_59), (.ref b58), (.ref b58)]))
        refine hG _ _ (fun t_ k_ => XS.iload X59.here hx rfl (hb hby at_136) rfl k_) ?_
        show G (T59.setTop (mkF m 138 #[.val (.int i0), .val (.int i1), .val (.int i2), .val (.int i3), .val (.int i4), .val (.int sz1), .val (.int ix2), .val (.int c3), .val (.int c4), .val (.ref t_5), .val (.ref t_6), .val (.ref t_7), .val (.ref t_8), .val (.ref b9), .unset, .unset, .unset] [(.int i4), (.ref t_59), (.ref b58), (.ref b58)]))
        refine hG _ _ (fun t_ k_ => XS.aload X59.here hx rfl (hb hby at_138) rfl rfl k_) ?_
        show G (T59.setTop (mkF m 140 #[.val (.int i0), .val (.int i1), .val (.int i2), .val (.int i3), .val (.int i4), .val (.int sz1), .val (.int ix2), .val (.int c3), .val (.int c4), .val (.ref t_5), .val (.ref t_6), .val (.ref t_7), .val (.ref t_8), .val (.ref b9), .unset, .unset, .unset] [(.ref b9), (.int i4), (.ref t_59), (.ref b58), (.ref b58)]))
        have f61 := (A58.keep J59)
        have f62 := ((D58 (Or.inr (hw _ (List.mem_of_getElem? (i := 117) rfl))) (ty := (.object "java/lang/String")) (by decide)).keep J59 nin0)
        have f63 := ((D58 (Or.inr (hw _ (List.mem_of_getElem? (i := 119) rfl))) (ty := .int) (by decide)).keep J59 nin0)
        have f64 := ((D58 (Or.inr (hw _ (List.mem_of_getElem? (i := 121) rfl))) (ty := (.object "java/util/List")) (by decide)).keep J59 nin0)
        refine own_callI X59 hx hZ hG hown rfl (hw _ (List.mem_of_getElem? (i := 107) rfl)) (hw _ (List.mem_of_getElem? (i := 108) rfl)) (hw _ (List.mem_of_getElem? (i := 92) rfl)) (hw _ (List.mem_of_getElem? (i := 109) rfl)) (by decide) 1 (own_finit l Z a0 hw b58 (.ref t_59) i4 (.ref b9) .null (.int (0 : Int32)) .null h59 O59 rfl rfl f61 (own_ge O18 (Nat.le_of_eq z58.symm)) f62 f63 f64) (by decide) (by decide) e59 (by rw [hml]; rfl) (lenOf own_pd18 rfl) (argsL := [(.ref t_59), (.int i4), (.ref b9)]) (rest := [(.ref b58)]) rfl rfl (Nat.le_of_eq rfl) (hb hby at_140) (by decide) (by decide) ?_
        intro T60 h60 v60 L60 X60 e60 q60
        obtain ⟨rfl, M60, J60, r60_0, r60_1, r60_2, r60_3⟩ := q60
        have N60 := Fr.app N59 M60
        have K60 : Keep h0 h60 [] := K59.trans J60 (allS (Or.inr (Nat.le_trans K18.1 (Nat.le_of_eq z58.symm))) all0)
        have O60 : own_Old Z h60 := O59.keep J60 (allS (own_ge O18 (Nat.le_of_eq z58.symm)) all0)
        show G (T60.setTop (mkF m 143 #[.val (.int i0), .val (.int i1), .val (.int i2), .val (.int i3), .val (.int i4), .val (.int sz1), .val (.int ix2), .val (.int c3), .val (.int c4), .val (.ref t_5), .val (.ref t_6), .val (.ref t_7), .val (.ref t_8), .val (.ref b9), .unset, .unset, .unset] [(.ref b58)]))
        refine hG _ _ (fun t_ k_ => XS.astore X60.here hx rfl (hb hby at_143) rfl rfl (l' := #[.val (.int i0), .val (.int i1), .val (.int i2), .val (.int i3), .val (.int i4), .val (.int sz1), .val (.int ix2), .val (.int c3), .val (.int c4), .val (.ref t_5), .val (.ref t_6), .val (.ref t_7), .val (.ref t_8), .val (.ref b9), .val (.ref b58), .unset, .unset]) rfl k_) ?_
        show G (T60.setTop (mkF m 145 #[.val (.int i0), .val (.int i1), .val (.int i2), .val (.int i3), .val (.int i4), .val (.int sz1), .val (.int ix2), .val (.int c3), .val (.int c4), .val (.ref t_5), .val (.ref t_6), .val (.ref t_7), .val (.ref t_8), .val (.ref b9), .val (.ref b58), .unset, .unset] []))
        have hle : sz1.toInt ≤ 3 := own_szb hc116_20 (by decide)
        have hor := own_ix3 hix.1 hix.2 hle
        rcases hor with rfl | rfl | rfl
        · skip
          show G (T60.setTop (mkF m 145 #[.val (.int i0), .val (.int i1), .val (.int i2), .val (.int i3), .val (.int i4), .val (.int sz1), .val (.int (0 : Int32)), .val (.int c3), .val (.int c4), .val (.ref t_5), .val (.ref t_6), .val (.ref t_7), .val (.ref t_8), .val (.ref b9), .val (.ref b58), .unset, .unset] []))
          refine hG _ _ (fun t_ k_ => XS.aload X60.here hx rfl (hb hby at_145) rfl rfl k_) ?_
          show G (T60.setTop (mkF m 147 #[.val (.int i0), .val (.int i1), .val (.int i2), .val (.int i3), .val (.int i4), .val (.int sz1), .val (.int (0 : Int32)), .val (.int c3), .val (.int c4), .val (.ref t_5), .val (.ref t_6), .val (.ref t_7), .val (.ref t_8), .val (.ref b9), .val (.ref b58), .unset, .unset] [(.ref b58)]))
          refine hG _ _ (fun t_ k_ => XS.iload X60.here hx rfl (hb hby at_147) rfl k_) ?_
          show G (T60.setTop (mkF m 149 #[.val (.int i0), .val (.int i1), .val (.int i2), .val (.int i3), .val (.int i4), .val (.int sz1), .val (.int (0 : Int32)), .val (.int c3), .val (.int c4), .val (.ref t_5), .val (.ref t_6), .val (.ref t_7), .val (.ref t_8), .val (.ref b9), .val (.ref b58), .unset, .unset] [(.int (0 : Int32)), (.ref b58)]))
          have f66 := (((r18_0.ext E58).keep J59).keep J60)
          have f67 := (((r18_2.ext E58).keep J59 nin0).keep J60 (ninS (own_ne r18_0.lt (Nat.le_of_eq z58.symm)) nin0))
          have f68 := (((r18_4.ext E58).keep J59 nin0).keep J60 (ninS (own_ne r18_4.lt (Nat.le_of_eq z58.symm)) nin0))
          have f69 := (((r18_3.ext E58).keep J59 nin0).keep J60 (ninS (own_ne r18_0.lt (Nat.le_of_eq z58.symm)) nin0))
          have f70 := ((((((f13.keep J11).keep J15).keep J18).ext E58).keep J59).keep J60)
          refine own_callV (C := "com/example/vestibule/vestibule/RecordFile$Record") X60 hx hZ hG hown (hw _ (List.mem_of_getElem? (i := 122) rfl)) (hw _ (List.mem_of_getElem? (i := 123) rfl)) (hw _ (List.mem_of_getElem? (i := 125) rfl)) (hw _ (List.mem_of_getElem? (i := 124) rfl)) (hw _ (List.mem_of_getElem? (i := 92) rfl)) (hw _ (List.mem_of_getElem? (i := 126) rfl)) (by decide) 0 (own_field l Z a0 hw b58 b9 (0 : Int32) t_11 kt_11 [(.ref t_5), (.ref t_6), (.ref t_7), .null, .null, .null, .null, .null, .null, .null] t_5 (3 : Int32) h60 O60 r60_3 (by decide) (by decide) rfl f66 f67 f68 f69 (by decide) f70) (by decide) (by decide) e60 r60_0 (by rw [hml]; rfl) (lenOf own_pd19 rfl) (argsL := [(.int (0 : Int32))]) (rest := []) rfl rfl (Nat.le_of_eq rfl) (hb hby at_149) (by decide) (by decide) ?_
          intro T65 h65 v65 L65 X65 e65 q65
          obtain ⟨rfl, M65, rfl⟩ := q65
          have N65 := Fr.app N60 M65
          show G (T65.setTop (mkF m 152 #[.val (.int i0), .val (.int i1), .val (.int i2), .val (.int i3), .val (.int i4), .val (.int sz1), .val (.int (0 : Int32)), .val (.int c3), .val (.int c4), .val (.ref t_5), .val (.ref t_6), .val (.ref t_7), .val (.ref t_8), .val (.ref b9), .val (.ref b58), .unset, .unset] [(.ref t_5)]))
          refine hG _ _ (fun t_ k_ => XS.astore X65.here hx rfl (hb hby at_152) rfl rfl (l' := #[.val (.int i0), .val (.int i1), .val (.int i2), .val (.int i3), .val (.int i4), .val (.int sz1), .val (.int (0 : Int32)), .val (.int c3), .val (.int c4), .val (.ref t_5), .val (.ref t_6), .val (.ref t_7), .val (.ref t_8), .val (.ref b9), .val (.ref b58), .val (.ref t_5), .unset]) rfl k_) ?_
          show G (T65.setTop (mkF m 154 #[.val (.int i0), .val (.int i1), .val (.int i2), .val (.int i3), .val (.int i4), .val (.int sz1), .val (.int (0 : Int32)), .val (.int c3), .val (.int c4), .val (.ref t_5), .val (.ref t_6), .val (.ref t_7), .val (.ref t_8), .val (.ref b9), .val (.ref b58), .val (.ref t_5), .unset] []))
          refine hG _ _ (fun t_ k_ => XS.iload X65.here hx rfl (hb hby at_154) rfl k_) ?_
          show G (T65.setTop (mkF m 156 #[.val (.int i0), .val (.int i1), .val (.int i2), .val (.int i3), .val (.int i4), .val (.int sz1), .val (.int (0 : Int32)), .val (.int c3), .val (.int c4), .val (.ref t_5), .val (.ref t_6), .val (.ref t_7), .val (.ref t_8), .val (.ref b9), .val (.ref b58), .val (.ref t_5), .unset] [(.int (0 : Int32))]))
          refine hG _ _ (fun t_ k_ => XS.ifNo X65.here hx rfl (hb hby at_156) rfl ((if0 _ _).trans (teq (by decide)).2) k_) ?_
          show G (T65.setTop (mkF m 159 #[.val (.int i0), .val (.int i1), .val (.int i2), .val (.int i3), .val (.int i4), .val (.int sz1), .val (.int (0 : Int32)), .val (.int c3), .val (.int c4), .val (.ref t_5), .val (.ref t_6), .val (.ref t_7), .val (.ref t_8), .val (.ref b9), .val (.ref b58), .val (.ref t_5), .unset] []))
          refine hG _ _ (fun t_ k_ => XS.aload X65.here hx rfl (hb hby at_159) rfl rfl k_) ?_
          show G (T65.setTop (mkF m 161 #[.val (.int i0), .val (.int i1), .val (.int i2), .val (.int i3), .val (.int i4), .val (.int sz1), .val (.int (0 : Int32)), .val (.int c3), .val (.int c4), .val (.ref t_5), .val (.ref t_6), .val (.ref t_7), .val (.ref t_8), .val (.ref b9), .val (.ref b58), .val (.ref t_5), .unset] [(.ref t_5)]))
          refine hG _ _ (fun t_ k_ => XS.goto X65.here hx rfl (pc0 := 161) (pc' := 188) rfl (hb hby at_161) (by decide) (by decide) k_) ?_
          show G (T65.setTop (mkF m 188 #[.val (.int i0), .val (.int i1), .val (.int i2), .val (.int i3), .val (.int i4), .val (.int sz1), .val (.int (0 : Int32)), .val (.int c3), .val (.int c4), .val (.ref t_5), .val (.ref t_6), .val (.ref t_7), .val (.ref t_8), .val (.ref b9), .val (.ref b58), .val (.ref t_5), .unset] [(.ref t_5)]))
          refine hG _ _ (fun t_ k_ => XS.astore X65.here hx rfl (hb hby at_188) rfl rfl (l' := #[.val (.int i0), .val (.int i1), .val (.int i2), .val (.int i3), .val (.int i4), .val (.int sz1), .val (.int (0 : Int32)), .val (.int c3), .val (.int c4), .val (.ref t_5), .val (.ref t_6), .val (.ref t_7), .val (.ref t_8), .val (.ref b9), .val (.ref b58), .val (.ref t_5), .val (.ref t_5)]) rfl k_) ?_
          show G (T65.setTop (mkF m 190 #[.val (.int i0), .val (.int i1), .val (.int i2), .val (.int i3), .val (.int i4), .val (.int sz1), .val (.int (0 : Int32)), .val (.int c3), .val (.int c4), .val (.ref t_5), .val (.ref t_6), .val (.ref t_7), .val (.ref t_8), .val (.ref b9), .val (.ref b58), .val (.ref t_5), .val (.ref t_5)] []))
          refine hG _ _ (fun t_ k_ => XS.aload X65.here hx rfl (hb hby at_190) rfl rfl k_) ?_
          show G (T65.setTop (mkF m 192 #[.val (.int i0), .val (.int i1), .val (.int i2), .val (.int i3), .val (.int i4), .val (.int sz1), .val (.int (0 : Int32)), .val (.int c3), .val (.int c4), .val (.ref t_5), .val (.ref t_6), .val (.ref t_7), .val (.ref t_8), .val (.ref b9), .val (.ref b58), .val (.ref t_5), .val (.ref t_5)] [(.ref t_5)]))
          refine hG _ _ (fun t_ k_ => XS.ifnullNo X65.here hx rfl (hb hby at_192) rfl k_) ?_
          show G (T65.setTop (mkF m 195 #[.val (.int i0), .val (.int i1), .val (.int i2), .val (.int i3), .val (.int i4), .val (.int sz1), .val (.int (0 : Int32)), .val (.int c3), .val (.int c4), .val (.ref t_5), .val (.ref t_6), .val (.ref t_7), .val (.ref t_8), .val (.ref b9), .val (.ref b58), .val (.ref t_5), .val (.ref t_5)] []))
          refine hG _ _ (fun t_ k_ => XS.aload X65.here hx rfl (hb hby at_195) rfl rfl k_) ?_
          show G (T65.setTop (mkF m 197 #[.val (.int i0), .val (.int i1), .val (.int i2), .val (.int i3), .val (.int i4), .val (.int sz1), .val (.int (0 : Int32)), .val (.int c3), .val (.int c4), .val (.ref t_5), .val (.ref t_6), .val (.ref t_7), .val (.ref t_8), .val (.ref b9), .val (.ref b58), .val (.ref t_5), .val (.ref t_5)] [(.ref t_5)]))
          refine hG _ _ (fun t_ k_ => XS.aload X65.here hx rfl (hb hby at_197) rfl rfl k_) ?_
          show G (T65.setTop (mkF m 199 #[.val (.int i0), .val (.int i1), .val (.int i2), .val (.int i3), .val (.int i4), .val (.int sz1), .val (.int (0 : Int32)), .val (.int c3), .val (.int c4), .val (.ref t_5), .val (.ref t_6), .val (.ref t_7), .val (.ref t_8), .val (.ref b9), .val (.ref b58), .val (.ref t_5), .val (.ref t_5)] [(.ref t_5), (.ref t_5)]))
          refine own_callV (C := "java/lang/String") X65 hx hZ hG hown (hw _ (List.mem_of_getElem? (i := 150) rfl)) (hw _ (List.mem_of_getElem? (i := 151) rfl)) (hw _ (List.mem_of_getElem? (i := 153) rfl)) (hw _ (List.mem_of_getElem? (i := 152) rfl)) (hw _ (List.mem_of_getElem? (i := 8) rfl)) (hw _ (List.mem_of_getElem? (i := 154) rfl)) (by decide) 0 (own_eqs l Z a0 hw t_5 h60 O60) (by decide) (by decide) e65 f70 (by rw [hml]; rfl) (lenOf own_pd10 rfl) (argsL := [(.ref t_5)]) (rest := []) rfl rfl (Nat.le_of_eq rfl) (hb hby at_199) (by decide) (by decide) ?_
          intro T71 h71 v71 L71 X71 e71 q71
          obtain ⟨rfl, M71, rfl⟩ := q71
          have N71 := Fr.app N65 M71
          show G (T71.setTop (mkF m 202 #[.val (.int i0), .val (.int i1), .val (.int i2), .val (.int i3), .val (.int i4), .val (.int sz1), .val (.int (0 : Int32)), .val (.int c3), .val (.int c4), .val (.ref t_5), .val (.ref t_6), .val (.ref t_7), .val (.ref t_8), .val (.ref b9), .val (.ref b58), .val (.ref t_5), .val (.ref t_5)] [(.int (1 : Int32))]))
          refine hG _ _ (fun t_ k_ => XS.ifNo X71.here hx rfl (hb hby at_202) rfl ((if0 _ _).trans (feq (by decide)).1) k_) ?_
          show G (T71.setTop (mkF m 205 #[.val (.int i0), .val (.int i1), .val (.int i2), .val (.int i3), .val (.int i4), .val (.int sz1), .val (.int (0 : Int32)), .val (.int c3), .val (.int c4), .val (.ref t_5), .val (.ref t_6), .val (.ref t_7), .val (.ref t_8), .val (.ref b9), .val (.ref b58), .val (.ref t_5), .val (.ref t_5)] []))
          refine hG _ _ (fun t_ k_ => XS.iconst X71.here hx rfl (hb hby at_205) k_) ?_
          show G (T71.setTop (mkF m 206 #[.val (.int i0), .val (.int i1), .val (.int i2), .val (.int i3), .val (.int i4), .val (.int sz1), .val (.int (0 : Int32)), .val (.int c3), .val (.int c4), .val (.ref t_5), .val (.ref t_6), .val (.ref t_7), .val (.ref t_8), .val (.ref b9), .val (.ref b58), .val (.ref t_5), .val (.ref t_5)] [(.int (1 : Int32))]))
          refine hG _ _ (fun t_ k_ => XS.goto X71.here hx rfl (pc0 := 206) (pc' := 210) rfl (hb hby at_206) (by decide) (by decide) k_) ?_
          show G (T71.setTop (mkF m 210 #[.val (.int i0), .val (.int i1), .val (.int i2), .val (.int i3), .val (.int i4), .val (.int sz1), .val (.int (0 : Int32)), .val (.int c3), .val (.int c4), .val (.ref t_5), .val (.ref t_6), .val (.ref t_7), .val (.ref t_8), .val (.ref b9), .val (.ref b58), .val (.ref t_5), .val (.ref t_5)] [(.int (1 : Int32))]))
          exact own_retN hR hret (by simp) X71 hx (hb hby at_210) (by decide) (by decide) (by rw [e71]; exact ⟨rfl, N71, K60⟩)
        · skip
          show G (T60.setTop (mkF m 145 #[.val (.int i0), .val (.int i1), .val (.int i2), .val (.int i3), .val (.int i4), .val (.int sz1), .val (.int (1 : Int32)), .val (.int c3), .val (.int c4), .val (.ref t_5), .val (.ref t_6), .val (.ref t_7), .val (.ref t_8), .val (.ref b9), .val (.ref b58), .unset, .unset] []))
          refine hG _ _ (fun t_ k_ => XS.aload X60.here hx rfl (hb hby at_145) rfl rfl k_) ?_
          show G (T60.setTop (mkF m 147 #[.val (.int i0), .val (.int i1), .val (.int i2), .val (.int i3), .val (.int i4), .val (.int sz1), .val (.int (1 : Int32)), .val (.int c3), .val (.int c4), .val (.ref t_5), .val (.ref t_6), .val (.ref t_7), .val (.ref t_8), .val (.ref b9), .val (.ref b58), .unset, .unset] [(.ref b58)]))
          refine hG _ _ (fun t_ k_ => XS.iload X60.here hx rfl (hb hby at_147) rfl k_) ?_
          show G (T60.setTop (mkF m 149 #[.val (.int i0), .val (.int i1), .val (.int i2), .val (.int i3), .val (.int i4), .val (.int sz1), .val (.int (1 : Int32)), .val (.int c3), .val (.int c4), .val (.ref t_5), .val (.ref t_6), .val (.ref t_7), .val (.ref t_8), .val (.ref b9), .val (.ref b58), .unset, .unset] [(.int (1 : Int32)), (.ref b58)]))
          have f73 := (((r18_0.ext E58).keep J59).keep J60)
          have f74 := (((r18_2.ext E58).keep J59 nin0).keep J60 (ninS (own_ne r18_0.lt (Nat.le_of_eq z58.symm)) nin0))
          have f75 := (((r18_4.ext E58).keep J59 nin0).keep J60 (ninS (own_ne r18_4.lt (Nat.le_of_eq z58.symm)) nin0))
          have f76 := (((r18_3.ext E58).keep J59 nin0).keep J60 (ninS (own_ne r18_0.lt (Nat.le_of_eq z58.symm)) nin0))
          have f77 := (((((f16.keep J15).keep J18).ext E58).keep J59).keep J60)
          refine own_callV (C := "com/example/vestibule/vestibule/RecordFile$Record") X60 hx hZ hG hown (hw _ (List.mem_of_getElem? (i := 122) rfl)) (hw _ (List.mem_of_getElem? (i := 123) rfl)) (hw _ (List.mem_of_getElem? (i := 125) rfl)) (hw _ (List.mem_of_getElem? (i := 124) rfl)) (hw _ (List.mem_of_getElem? (i := 92) rfl)) (hw _ (List.mem_of_getElem? (i := 126) rfl)) (by decide) 0 (own_field l Z a0 hw b58 b9 (1 : Int32) t_11 kt_11 [(.ref t_5), (.ref t_6), (.ref t_7), .null, .null, .null, .null, .null, .null, .null] t_6 (3 : Int32) h60 O60 r60_3 (by decide) (by decide) rfl f73 f74 f75 f76 (by decide) f77) (by decide) (by decide) e60 r60_0 (by rw [hml]; rfl) (lenOf own_pd19 rfl) (argsL := [(.int (1 : Int32))]) (rest := []) rfl rfl (Nat.le_of_eq rfl) (hb hby at_149) (by decide) (by decide) ?_
          intro T72 h72 v72 L72 X72 e72 q72
          obtain ⟨rfl, M72, rfl⟩ := q72
          have N72 := Fr.app N60 M72
          show G (T72.setTop (mkF m 152 #[.val (.int i0), .val (.int i1), .val (.int i2), .val (.int i3), .val (.int i4), .val (.int sz1), .val (.int (1 : Int32)), .val (.int c3), .val (.int c4), .val (.ref t_5), .val (.ref t_6), .val (.ref t_7), .val (.ref t_8), .val (.ref b9), .val (.ref b58), .unset, .unset] [(.ref t_6)]))
          refine hG _ _ (fun t_ k_ => XS.astore X72.here hx rfl (hb hby at_152) rfl rfl (l' := #[.val (.int i0), .val (.int i1), .val (.int i2), .val (.int i3), .val (.int i4), .val (.int sz1), .val (.int (1 : Int32)), .val (.int c3), .val (.int c4), .val (.ref t_5), .val (.ref t_6), .val (.ref t_7), .val (.ref t_8), .val (.ref b9), .val (.ref b58), .val (.ref t_6), .unset]) rfl k_) ?_
          show G (T72.setTop (mkF m 154 #[.val (.int i0), .val (.int i1), .val (.int i2), .val (.int i3), .val (.int i4), .val (.int sz1), .val (.int (1 : Int32)), .val (.int c3), .val (.int c4), .val (.ref t_5), .val (.ref t_6), .val (.ref t_7), .val (.ref t_8), .val (.ref b9), .val (.ref b58), .val (.ref t_6), .unset] []))
          refine hG _ _ (fun t_ k_ => XS.iload X72.here hx rfl (hb hby at_154) rfl k_) ?_
          show G (T72.setTop (mkF m 156 #[.val (.int i0), .val (.int i1), .val (.int i2), .val (.int i3), .val (.int i4), .val (.int sz1), .val (.int (1 : Int32)), .val (.int c3), .val (.int c4), .val (.ref t_5), .val (.ref t_6), .val (.ref t_7), .val (.ref t_8), .val (.ref b9), .val (.ref b58), .val (.ref t_6), .unset] [(.int (1 : Int32))]))
          refine hG _ _ (fun t_ k_ => XS.ifYes X72.here hx rfl (pc0 := 156) (pc' := 164) rfl (hb hby at_156) rfl ((if0 _ _).trans (feq (by decide)).2) (by decide) (by decide) k_) ?_
          show G (T72.setTop (mkF m 164 #[.val (.int i0), .val (.int i1), .val (.int i2), .val (.int i3), .val (.int i4), .val (.int sz1), .val (.int (1 : Int32)), .val (.int c3), .val (.int c4), .val (.ref t_5), .val (.ref t_6), .val (.ref t_7), .val (.ref t_8), .val (.ref b9), .val (.ref b58), .val (.ref t_6), .unset] []))
          refine hG _ _ (fun t_ k_ => XS.iload X72.here hx rfl (hb hby at_164) rfl k_) ?_
          show G (T72.setTop (mkF m 166 #[.val (.int i0), .val (.int i1), .val (.int i2), .val (.int i3), .val (.int i4), .val (.int sz1), .val (.int (1 : Int32)), .val (.int c3), .val (.int c4), .val (.ref t_5), .val (.ref t_6), .val (.ref t_7), .val (.ref t_8), .val (.ref b9), .val (.ref b58), .val (.ref t_6), .unset] [(.int (1 : Int32))]))
          refine hG _ _ (fun t_ k_ => XS.iconst X72.here hx rfl (hb hby at_166) k_) ?_
          show G (T72.setTop (mkF m 167 #[.val (.int i0), .val (.int i1), .val (.int i2), .val (.int i3), .val (.int i4), .val (.int sz1), .val (.int (1 : Int32)), .val (.int c3), .val (.int c4), .val (.ref t_5), .val (.ref t_6), .val (.ref t_7), .val (.ref t_8), .val (.ref b9), .val (.ref b58), .val (.ref t_6), .unset] [(.int (1 : Int32)), (.int (1 : Int32))]))
          refine hG _ _ (fun t_ k_ => XS.icmpNo X72.here hx rfl (hb hby at_167) rfl (teq (by decide)).2 k_) ?_
          show G (T72.setTop (mkF m 170 #[.val (.int i0), .val (.int i1), .val (.int i2), .val (.int i3), .val (.int i4), .val (.int sz1), .val (.int (1 : Int32)), .val (.int c3), .val (.int c4), .val (.ref t_5), .val (.ref t_6), .val (.ref t_7), .val (.ref t_8), .val (.ref b9), .val (.ref b58), .val (.ref t_6), .unset] []))
          refine hG _ _ (fun t_ k_ => XS.aload X72.here hx rfl (hb hby at_170) rfl rfl k_) ?_
          show G (T72.setTop (mkF m 172 #[.val (.int i0), .val (.int i1), .val (.int i2), .val (.int i3), .val (.int i4), .val (.int sz1), .val (.int (1 : Int32)), .val (.int c3), .val (.int c4), .val (.ref t_5), .val (.ref t_6), .val (.ref t_7), .val (.ref t_8), .val (.ref b9), .val (.ref b58), .val (.ref t_6), .unset] [(.ref t_6)]))
          refine hG _ _ (fun t_ k_ => XS.goto X72.here hx rfl (pc0 := 172) (pc' := 188) rfl (hb hby at_172) (by decide) (by decide) k_) ?_
          show G (T72.setTop (mkF m 188 #[.val (.int i0), .val (.int i1), .val (.int i2), .val (.int i3), .val (.int i4), .val (.int sz1), .val (.int (1 : Int32)), .val (.int c3), .val (.int c4), .val (.ref t_5), .val (.ref t_6), .val (.ref t_7), .val (.ref t_8), .val (.ref b9), .val (.ref b58), .val (.ref t_6), .unset] [(.ref t_6)]))
          refine hG _ _ (fun t_ k_ => XS.astore X72.here hx rfl (hb hby at_188) rfl rfl (l' := #[.val (.int i0), .val (.int i1), .val (.int i2), .val (.int i3), .val (.int i4), .val (.int sz1), .val (.int (1 : Int32)), .val (.int c3), .val (.int c4), .val (.ref t_5), .val (.ref t_6), .val (.ref t_7), .val (.ref t_8), .val (.ref b9), .val (.ref b58), .val (.ref t_6), .val (.ref t_6)]) rfl k_) ?_
          show G (T72.setTop (mkF m 190 #[.val (.int i0), .val (.int i1), .val (.int i2), .val (.int i3), .val (.int i4), .val (.int sz1), .val (.int (1 : Int32)), .val (.int c3), .val (.int c4), .val (.ref t_5), .val (.ref t_6), .val (.ref t_7), .val (.ref t_8), .val (.ref b9), .val (.ref b58), .val (.ref t_6), .val (.ref t_6)] []))
          refine hG _ _ (fun t_ k_ => XS.aload X72.here hx rfl (hb hby at_190) rfl rfl k_) ?_
          show G (T72.setTop (mkF m 192 #[.val (.int i0), .val (.int i1), .val (.int i2), .val (.int i3), .val (.int i4), .val (.int sz1), .val (.int (1 : Int32)), .val (.int c3), .val (.int c4), .val (.ref t_5), .val (.ref t_6), .val (.ref t_7), .val (.ref t_8), .val (.ref b9), .val (.ref b58), .val (.ref t_6), .val (.ref t_6)] [(.ref t_6)]))
          refine hG _ _ (fun t_ k_ => XS.ifnullNo X72.here hx rfl (hb hby at_192) rfl k_) ?_
          show G (T72.setTop (mkF m 195 #[.val (.int i0), .val (.int i1), .val (.int i2), .val (.int i3), .val (.int i4), .val (.int sz1), .val (.int (1 : Int32)), .val (.int c3), .val (.int c4), .val (.ref t_5), .val (.ref t_6), .val (.ref t_7), .val (.ref t_8), .val (.ref b9), .val (.ref b58), .val (.ref t_6), .val (.ref t_6)] []))
          refine hG _ _ (fun t_ k_ => XS.aload X72.here hx rfl (hb hby at_195) rfl rfl k_) ?_
          show G (T72.setTop (mkF m 197 #[.val (.int i0), .val (.int i1), .val (.int i2), .val (.int i3), .val (.int i4), .val (.int sz1), .val (.int (1 : Int32)), .val (.int c3), .val (.int c4), .val (.ref t_5), .val (.ref t_6), .val (.ref t_7), .val (.ref t_8), .val (.ref b9), .val (.ref b58), .val (.ref t_6), .val (.ref t_6)] [(.ref t_6)]))
          refine hG _ _ (fun t_ k_ => XS.aload X72.here hx rfl (hb hby at_197) rfl rfl k_) ?_
          show G (T72.setTop (mkF m 199 #[.val (.int i0), .val (.int i1), .val (.int i2), .val (.int i3), .val (.int i4), .val (.int sz1), .val (.int (1 : Int32)), .val (.int c3), .val (.int c4), .val (.ref t_5), .val (.ref t_6), .val (.ref t_7), .val (.ref t_8), .val (.ref b9), .val (.ref b58), .val (.ref t_6), .val (.ref t_6)] [(.ref t_6), (.ref t_6)]))
          refine own_callV (C := "java/lang/String") X72 hx hZ hG hown (hw _ (List.mem_of_getElem? (i := 150) rfl)) (hw _ (List.mem_of_getElem? (i := 151) rfl)) (hw _ (List.mem_of_getElem? (i := 153) rfl)) (hw _ (List.mem_of_getElem? (i := 152) rfl)) (hw _ (List.mem_of_getElem? (i := 8) rfl)) (hw _ (List.mem_of_getElem? (i := 154) rfl)) (by decide) 0 (own_eqs l Z a0 hw t_6 h60 O60) (by decide) (by decide) e72 f77 (by rw [hml]; rfl) (lenOf own_pd10 rfl) (argsL := [(.ref t_6)]) (rest := []) rfl rfl (Nat.le_of_eq rfl) (hb hby at_199) (by decide) (by decide) ?_
          intro T78 h78 v78 L78 X78 e78 q78
          obtain ⟨rfl, M78, rfl⟩ := q78
          have N78 := Fr.app N72 M78
          show G (T78.setTop (mkF m 202 #[.val (.int i0), .val (.int i1), .val (.int i2), .val (.int i3), .val (.int i4), .val (.int sz1), .val (.int (1 : Int32)), .val (.int c3), .val (.int c4), .val (.ref t_5), .val (.ref t_6), .val (.ref t_7), .val (.ref t_8), .val (.ref b9), .val (.ref b58), .val (.ref t_6), .val (.ref t_6)] [(.int (1 : Int32))]))
          refine hG _ _ (fun t_ k_ => XS.ifNo X78.here hx rfl (hb hby at_202) rfl ((if0 _ _).trans (feq (by decide)).1) k_) ?_
          show G (T78.setTop (mkF m 205 #[.val (.int i0), .val (.int i1), .val (.int i2), .val (.int i3), .val (.int i4), .val (.int sz1), .val (.int (1 : Int32)), .val (.int c3), .val (.int c4), .val (.ref t_5), .val (.ref t_6), .val (.ref t_7), .val (.ref t_8), .val (.ref b9), .val (.ref b58), .val (.ref t_6), .val (.ref t_6)] []))
          refine hG _ _ (fun t_ k_ => XS.iconst X78.here hx rfl (hb hby at_205) k_) ?_
          show G (T78.setTop (mkF m 206 #[.val (.int i0), .val (.int i1), .val (.int i2), .val (.int i3), .val (.int i4), .val (.int sz1), .val (.int (1 : Int32)), .val (.int c3), .val (.int c4), .val (.ref t_5), .val (.ref t_6), .val (.ref t_7), .val (.ref t_8), .val (.ref b9), .val (.ref b58), .val (.ref t_6), .val (.ref t_6)] [(.int (1 : Int32))]))
          refine hG _ _ (fun t_ k_ => XS.goto X78.here hx rfl (pc0 := 206) (pc' := 210) rfl (hb hby at_206) (by decide) (by decide) k_) ?_
          show G (T78.setTop (mkF m 210 #[.val (.int i0), .val (.int i1), .val (.int i2), .val (.int i3), .val (.int i4), .val (.int sz1), .val (.int (1 : Int32)), .val (.int c3), .val (.int c4), .val (.ref t_5), .val (.ref t_6), .val (.ref t_7), .val (.ref t_8), .val (.ref b9), .val (.ref b58), .val (.ref t_6), .val (.ref t_6)] [(.int (1 : Int32))]))
          exact own_retN hR hret (by simp) X78 hx (hb hby at_210) (by decide) (by decide) (by rw [e78]; exact ⟨rfl, N78, K60⟩)
        · skip
          show G (T60.setTop (mkF m 145 #[.val (.int i0), .val (.int i1), .val (.int i2), .val (.int i3), .val (.int i4), .val (.int sz1), .val (.int (2 : Int32)), .val (.int c3), .val (.int c4), .val (.ref t_5), .val (.ref t_6), .val (.ref t_7), .val (.ref t_8), .val (.ref b9), .val (.ref b58), .unset, .unset] []))
          refine hG _ _ (fun t_ k_ => XS.aload X60.here hx rfl (hb hby at_145) rfl rfl k_) ?_
          show G (T60.setTop (mkF m 147 #[.val (.int i0), .val (.int i1), .val (.int i2), .val (.int i3), .val (.int i4), .val (.int sz1), .val (.int (2 : Int32)), .val (.int c3), .val (.int c4), .val (.ref t_5), .val (.ref t_6), .val (.ref t_7), .val (.ref t_8), .val (.ref b9), .val (.ref b58), .unset, .unset] [(.ref b58)]))
          refine hG _ _ (fun t_ k_ => XS.iload X60.here hx rfl (hb hby at_147) rfl k_) ?_
          show G (T60.setTop (mkF m 149 #[.val (.int i0), .val (.int i1), .val (.int i2), .val (.int i3), .val (.int i4), .val (.int sz1), .val (.int (2 : Int32)), .val (.int c3), .val (.int c4), .val (.ref t_5), .val (.ref t_6), .val (.ref t_7), .val (.ref t_8), .val (.ref b9), .val (.ref b58), .unset, .unset] [(.int (2 : Int32)), (.ref b58)]))
          have f80 := (((r18_0.ext E58).keep J59).keep J60)
          have f81 := (((r18_2.ext E58).keep J59 nin0).keep J60 (ninS (own_ne r18_0.lt (Nat.le_of_eq z58.symm)) nin0))
          have f82 := (((r18_4.ext E58).keep J59 nin0).keep J60 (ninS (own_ne r18_4.lt (Nat.le_of_eq z58.symm)) nin0))
          have f83 := (((r18_3.ext E58).keep J59 nin0).keep J60 (ninS (own_ne r18_0.lt (Nat.le_of_eq z58.symm)) nin0))
          have f84 := ((((f19.keep J18).ext E58).keep J59).keep J60)
          refine own_callV (C := "com/example/vestibule/vestibule/RecordFile$Record") X60 hx hZ hG hown (hw _ (List.mem_of_getElem? (i := 122) rfl)) (hw _ (List.mem_of_getElem? (i := 123) rfl)) (hw _ (List.mem_of_getElem? (i := 125) rfl)) (hw _ (List.mem_of_getElem? (i := 124) rfl)) (hw _ (List.mem_of_getElem? (i := 92) rfl)) (hw _ (List.mem_of_getElem? (i := 126) rfl)) (by decide) 0 (own_field l Z a0 hw b58 b9 (2 : Int32) t_11 kt_11 [(.ref t_5), (.ref t_6), (.ref t_7), .null, .null, .null, .null, .null, .null, .null] t_7 (3 : Int32) h60 O60 r60_3 (by decide) (by decide) rfl f80 f81 f82 f83 (by decide) f84) (by decide) (by decide) e60 r60_0 (by rw [hml]; rfl) (lenOf own_pd19 rfl) (argsL := [(.int (2 : Int32))]) (rest := []) rfl rfl (Nat.le_of_eq rfl) (hb hby at_149) (by decide) (by decide) ?_
          intro T79 h79 v79 L79 X79 e79 q79
          obtain ⟨rfl, M79, rfl⟩ := q79
          have N79 := Fr.app N60 M79
          show G (T79.setTop (mkF m 152 #[.val (.int i0), .val (.int i1), .val (.int i2), .val (.int i3), .val (.int i4), .val (.int sz1), .val (.int (2 : Int32)), .val (.int c3), .val (.int c4), .val (.ref t_5), .val (.ref t_6), .val (.ref t_7), .val (.ref t_8), .val (.ref b9), .val (.ref b58), .unset, .unset] [(.ref t_7)]))
          refine hG _ _ (fun t_ k_ => XS.astore X79.here hx rfl (hb hby at_152) rfl rfl (l' := #[.val (.int i0), .val (.int i1), .val (.int i2), .val (.int i3), .val (.int i4), .val (.int sz1), .val (.int (2 : Int32)), .val (.int c3), .val (.int c4), .val (.ref t_5), .val (.ref t_6), .val (.ref t_7), .val (.ref t_8), .val (.ref b9), .val (.ref b58), .val (.ref t_7), .unset]) rfl k_) ?_
          show G (T79.setTop (mkF m 154 #[.val (.int i0), .val (.int i1), .val (.int i2), .val (.int i3), .val (.int i4), .val (.int sz1), .val (.int (2 : Int32)), .val (.int c3), .val (.int c4), .val (.ref t_5), .val (.ref t_6), .val (.ref t_7), .val (.ref t_8), .val (.ref b9), .val (.ref b58), .val (.ref t_7), .unset] []))
          refine hG _ _ (fun t_ k_ => XS.iload X79.here hx rfl (hb hby at_154) rfl k_) ?_
          show G (T79.setTop (mkF m 156 #[.val (.int i0), .val (.int i1), .val (.int i2), .val (.int i3), .val (.int i4), .val (.int sz1), .val (.int (2 : Int32)), .val (.int c3), .val (.int c4), .val (.ref t_5), .val (.ref t_6), .val (.ref t_7), .val (.ref t_8), .val (.ref b9), .val (.ref b58), .val (.ref t_7), .unset] [(.int (2 : Int32))]))
          refine hG _ _ (fun t_ k_ => XS.ifYes X79.here hx rfl (pc0 := 156) (pc' := 164) rfl (hb hby at_156) rfl ((if0 _ _).trans (feq (by decide)).2) (by decide) (by decide) k_) ?_
          show G (T79.setTop (mkF m 164 #[.val (.int i0), .val (.int i1), .val (.int i2), .val (.int i3), .val (.int i4), .val (.int sz1), .val (.int (2 : Int32)), .val (.int c3), .val (.int c4), .val (.ref t_5), .val (.ref t_6), .val (.ref t_7), .val (.ref t_8), .val (.ref b9), .val (.ref b58), .val (.ref t_7), .unset] []))
          refine hG _ _ (fun t_ k_ => XS.iload X79.here hx rfl (hb hby at_164) rfl k_) ?_
          show G (T79.setTop (mkF m 166 #[.val (.int i0), .val (.int i1), .val (.int i2), .val (.int i3), .val (.int i4), .val (.int sz1), .val (.int (2 : Int32)), .val (.int c3), .val (.int c4), .val (.ref t_5), .val (.ref t_6), .val (.ref t_7), .val (.ref t_8), .val (.ref b9), .val (.ref b58), .val (.ref t_7), .unset] [(.int (2 : Int32))]))
          refine hG _ _ (fun t_ k_ => XS.iconst X79.here hx rfl (hb hby at_166) k_) ?_
          show G (T79.setTop (mkF m 167 #[.val (.int i0), .val (.int i1), .val (.int i2), .val (.int i3), .val (.int i4), .val (.int sz1), .val (.int (2 : Int32)), .val (.int c3), .val (.int c4), .val (.ref t_5), .val (.ref t_6), .val (.ref t_7), .val (.ref t_8), .val (.ref b9), .val (.ref b58), .val (.ref t_7), .unset] [(.int (1 : Int32)), (.int (2 : Int32))]))
          refine hG _ _ (fun t_ k_ => XS.icmpYes X79.here hx rfl (pc0 := 167) (pc' := 175) rfl (hb hby at_167) rfl (feq (by decide)).2 (by decide) (by decide) k_) ?_
          show G (T79.setTop (mkF m 175 #[.val (.int i0), .val (.int i1), .val (.int i2), .val (.int i3), .val (.int i4), .val (.int sz1), .val (.int (2 : Int32)), .val (.int c3), .val (.int c4), .val (.ref t_5), .val (.ref t_6), .val (.ref t_7), .val (.ref t_8), .val (.ref b9), .val (.ref b58), .val (.ref t_7), .unset] []))
          refine hG _ _ (fun t_ k_ => XS.iload X79.here hx rfl (hb hby at_175) rfl k_) ?_
          show G (T79.setTop (mkF m 177 #[.val (.int i0), .val (.int i1), .val (.int i2), .val (.int i3), .val (.int i4), .val (.int sz1), .val (.int (2 : Int32)), .val (.int c3), .val (.int c4), .val (.ref t_5), .val (.ref t_6), .val (.ref t_7), .val (.ref t_8), .val (.ref b9), .val (.ref b58), .val (.ref t_7), .unset] [(.int (2 : Int32))]))
          refine hG _ _ (fun t_ k_ => XS.iconst X79.here hx rfl (hb hby at_177) k_) ?_
          show G (T79.setTop (mkF m 178 #[.val (.int i0), .val (.int i1), .val (.int i2), .val (.int i3), .val (.int i4), .val (.int sz1), .val (.int (2 : Int32)), .val (.int c3), .val (.int c4), .val (.ref t_5), .val (.ref t_6), .val (.ref t_7), .val (.ref t_8), .val (.ref b9), .val (.ref b58), .val (.ref t_7), .unset] [(.int (2 : Int32)), (.int (2 : Int32))]))
          refine hG _ _ (fun t_ k_ => XS.icmpNo X79.here hx rfl (hb hby at_178) rfl (teq (by decide)).2 k_) ?_
          show G (T79.setTop (mkF m 181 #[.val (.int i0), .val (.int i1), .val (.int i2), .val (.int i3), .val (.int i4), .val (.int sz1), .val (.int (2 : Int32)), .val (.int c3), .val (.int c4), .val (.ref t_5), .val (.ref t_6), .val (.ref t_7), .val (.ref t_8), .val (.ref b9), .val (.ref b58), .val (.ref t_7), .unset] []))
          refine hG _ _ (fun t_ k_ => XS.aload X79.here hx rfl (hb hby at_181) rfl rfl k_) ?_
          show G (T79.setTop (mkF m 183 #[.val (.int i0), .val (.int i1), .val (.int i2), .val (.int i3), .val (.int i4), .val (.int sz1), .val (.int (2 : Int32)), .val (.int c3), .val (.int c4), .val (.ref t_5), .val (.ref t_6), .val (.ref t_7), .val (.ref t_8), .val (.ref b9), .val (.ref b58), .val (.ref t_7), .unset] [(.ref t_7)]))
          refine hG _ _ (fun t_ k_ => XS.goto X79.here hx rfl (pc0 := 183) (pc' := 188) rfl (hb hby at_183) (by decide) (by decide) k_) ?_
          show G (T79.setTop (mkF m 188 #[.val (.int i0), .val (.int i1), .val (.int i2), .val (.int i3), .val (.int i4), .val (.int sz1), .val (.int (2 : Int32)), .val (.int c3), .val (.int c4), .val (.ref t_5), .val (.ref t_6), .val (.ref t_7), .val (.ref t_8), .val (.ref b9), .val (.ref b58), .val (.ref t_7), .unset] [(.ref t_7)]))
          refine hG _ _ (fun t_ k_ => XS.astore X79.here hx rfl (hb hby at_188) rfl rfl (l' := #[.val (.int i0), .val (.int i1), .val (.int i2), .val (.int i3), .val (.int i4), .val (.int sz1), .val (.int (2 : Int32)), .val (.int c3), .val (.int c4), .val (.ref t_5), .val (.ref t_6), .val (.ref t_7), .val (.ref t_8), .val (.ref b9), .val (.ref b58), .val (.ref t_7), .val (.ref t_7)]) rfl k_) ?_
          show G (T79.setTop (mkF m 190 #[.val (.int i0), .val (.int i1), .val (.int i2), .val (.int i3), .val (.int i4), .val (.int sz1), .val (.int (2 : Int32)), .val (.int c3), .val (.int c4), .val (.ref t_5), .val (.ref t_6), .val (.ref t_7), .val (.ref t_8), .val (.ref b9), .val (.ref b58), .val (.ref t_7), .val (.ref t_7)] []))
          refine hG _ _ (fun t_ k_ => XS.aload X79.here hx rfl (hb hby at_190) rfl rfl k_) ?_
          show G (T79.setTop (mkF m 192 #[.val (.int i0), .val (.int i1), .val (.int i2), .val (.int i3), .val (.int i4), .val (.int sz1), .val (.int (2 : Int32)), .val (.int c3), .val (.int c4), .val (.ref t_5), .val (.ref t_6), .val (.ref t_7), .val (.ref t_8), .val (.ref b9), .val (.ref b58), .val (.ref t_7), .val (.ref t_7)] [(.ref t_7)]))
          refine hG _ _ (fun t_ k_ => XS.ifnullNo X79.here hx rfl (hb hby at_192) rfl k_) ?_
          show G (T79.setTop (mkF m 195 #[.val (.int i0), .val (.int i1), .val (.int i2), .val (.int i3), .val (.int i4), .val (.int sz1), .val (.int (2 : Int32)), .val (.int c3), .val (.int c4), .val (.ref t_5), .val (.ref t_6), .val (.ref t_7), .val (.ref t_8), .val (.ref b9), .val (.ref b58), .val (.ref t_7), .val (.ref t_7)] []))
          refine hG _ _ (fun t_ k_ => XS.aload X79.here hx rfl (hb hby at_195) rfl rfl k_) ?_
          show G (T79.setTop (mkF m 197 #[.val (.int i0), .val (.int i1), .val (.int i2), .val (.int i3), .val (.int i4), .val (.int sz1), .val (.int (2 : Int32)), .val (.int c3), .val (.int c4), .val (.ref t_5), .val (.ref t_6), .val (.ref t_7), .val (.ref t_8), .val (.ref b9), .val (.ref b58), .val (.ref t_7), .val (.ref t_7)] [(.ref t_7)]))
          refine hG _ _ (fun t_ k_ => XS.aload X79.here hx rfl (hb hby at_197) rfl rfl k_) ?_
          show G (T79.setTop (mkF m 199 #[.val (.int i0), .val (.int i1), .val (.int i2), .val (.int i3), .val (.int i4), .val (.int sz1), .val (.int (2 : Int32)), .val (.int c3), .val (.int c4), .val (.ref t_5), .val (.ref t_6), .val (.ref t_7), .val (.ref t_8), .val (.ref b9), .val (.ref b58), .val (.ref t_7), .val (.ref t_7)] [(.ref t_7), (.ref t_7)]))
          refine own_callV (C := "java/lang/String") X79 hx hZ hG hown (hw _ (List.mem_of_getElem? (i := 150) rfl)) (hw _ (List.mem_of_getElem? (i := 151) rfl)) (hw _ (List.mem_of_getElem? (i := 153) rfl)) (hw _ (List.mem_of_getElem? (i := 152) rfl)) (hw _ (List.mem_of_getElem? (i := 8) rfl)) (hw _ (List.mem_of_getElem? (i := 154) rfl)) (by decide) 0 (own_eqs l Z a0 hw t_7 h60 O60) (by decide) (by decide) e79 f84 (by rw [hml]; rfl) (lenOf own_pd10 rfl) (argsL := [(.ref t_7)]) (rest := []) rfl rfl (Nat.le_of_eq rfl) (hb hby at_199) (by decide) (by decide) ?_
          intro T85 h85 v85 L85 X85 e85 q85
          obtain ⟨rfl, M85, rfl⟩ := q85
          have N85 := Fr.app N79 M85
          show G (T85.setTop (mkF m 202 #[.val (.int i0), .val (.int i1), .val (.int i2), .val (.int i3), .val (.int i4), .val (.int sz1), .val (.int (2 : Int32)), .val (.int c3), .val (.int c4), .val (.ref t_5), .val (.ref t_6), .val (.ref t_7), .val (.ref t_8), .val (.ref b9), .val (.ref b58), .val (.ref t_7), .val (.ref t_7)] [(.int (1 : Int32))]))
          refine hG _ _ (fun t_ k_ => XS.ifNo X85.here hx rfl (hb hby at_202) rfl ((if0 _ _).trans (feq (by decide)).1) k_) ?_
          show G (T85.setTop (mkF m 205 #[.val (.int i0), .val (.int i1), .val (.int i2), .val (.int i3), .val (.int i4), .val (.int sz1), .val (.int (2 : Int32)), .val (.int c3), .val (.int c4), .val (.ref t_5), .val (.ref t_6), .val (.ref t_7), .val (.ref t_8), .val (.ref b9), .val (.ref b58), .val (.ref t_7), .val (.ref t_7)] []))
          refine hG _ _ (fun t_ k_ => XS.iconst X85.here hx rfl (hb hby at_205) k_) ?_
          show G (T85.setTop (mkF m 206 #[.val (.int i0), .val (.int i1), .val (.int i2), .val (.int i3), .val (.int i4), .val (.int sz1), .val (.int (2 : Int32)), .val (.int c3), .val (.int c4), .val (.ref t_5), .val (.ref t_6), .val (.ref t_7), .val (.ref t_8), .val (.ref b9), .val (.ref b58), .val (.ref t_7), .val (.ref t_7)] [(.int (1 : Int32))]))
          refine hG _ _ (fun t_ k_ => XS.goto X85.here hx rfl (pc0 := 206) (pc' := 210) rfl (hb hby at_206) (by decide) (by decide) k_) ?_
          show G (T85.setTop (mkF m 210 #[.val (.int i0), .val (.int i1), .val (.int i2), .val (.int i3), .val (.int i4), .val (.int sz1), .val (.int (2 : Int32)), .val (.int c3), .val (.int c4), .val (.ref t_5), .val (.ref t_6), .val (.ref t_7), .val (.ref t_8), .val (.ref b9), .val (.ref b58), .val (.ref t_7), .val (.ref t_7)] [(.int (1 : Int32))]))
          exact own_retN hR hret (by simp) X85 hx (hb hby at_210) (by decide) (by decide) (by rw [e85]; exact ⟨rfl, N85, K60⟩)
    · skip
      refine hG _ _ (fun t_ k_ => XS.icmpYes X15.here hx rfl (pc0 := 102) (pc' := 113) rfl (hb hby at_102) rfl (flt hc102_17).2.2.2 (by decide) (by decide) k_) ?_
      show G (T15.setTop (mkF m 113 #[.val (.int i0), .val (.int i1), .val (.int i2), .val (.int i3), .val (.int i4), .val (.int sz1), .val (.int ix2), .val (.int c3), .val (.int c4), .val (.ref t_5), .val (.ref t_6), .val (.ref t_7), .val (.ref t_8), .val (.ref b9), .unset, .unset, .unset] []))
      refine hG _ _ (fun t_ k_ => XS.iload X15.here hx rfl (hb hby at_113) rfl k_) ?_
      show G (T15.setTop (mkF m 115 #[.val (.int i0), .val (.int i1), .val (.int i2), .val (.int i3), .val (.int i4), .val (.int sz1), .val (.int ix2), .val (.int c3), .val (.int c4), .val (.ref t_5), .val (.ref t_6), .val (.ref t_7), .val (.ref t_8), .val (.ref b9), .unset, .unset, .unset] [(.int sz1)]))
      refine hG _ _ (fun t_ k_ => XS.iconst X15.here hx rfl (hb hby at_115) k_) ?_
      show G (T15.setTop (mkF m 116 #[.val (.int i0), .val (.int i1), .val (.int i2), .val (.int i3), .val (.int i4), .val (.int sz1), .val (.int ix2), .val (.int c3), .val (.int c4), .val (.ref t_5), .val (.ref t_6), .val (.ref t_7), .val (.ref t_8), .val (.ref b9), .unset, .unset, .unset] [(.int (3 : Int32)), (.int sz1)]))
      refine hG _ _ (fun t_ k_ => XS.icmpYes X15.here hx rfl (pc0 := 116) (pc' := 127) rfl (hb hby at_116) rfl (flt (by have q := hc102_17; rw [Int32.lt_iff_toInt_lt] at q ⊢; have e1 : (2 : Int32).toInt = 2 := (by decide); have e2 : (3 : Int32).toInt = 3 := (by decide); omega)).2.2.2 (by decide) (by decide) k_) ?_
      show G (T15.setTop (mkF m 127 #[.val (.int i0), .val (.int i1), .val (.int i2), .val (.int i3), .val (.int i4), .val (.int sz1), .val (.int ix2), .val (.int c3), .val (.int c4), .val (.ref t_5), .val (.ref t_6), .val (.ref t_7), .val (.ref t_8), .val (.ref b9), .unset, .unset, .unset] []))
      obtain ⟨T86, h86, X86, e86, E86, A86, D86, -, st86⟩ := newO X15 hx hZ hown (hw _ (List.mem_of_getElem? (i := 90) rfl)) (hw _ (List.mem_of_getElem? (i := 91) rfl)) (hw _ (List.mem_of_getElem? (i := 92) rfl)) e15 (g := (mkF m 127 #[.val (.int i0), .val (.int i1), .val (.int i2), .val (.int i3), .val (.int i4), .val (.int sz1), .val (.int ix2), .val (.int c3), .val (.int c4), .val (.ref t_5), .val (.ref t_6), .val (.ref t_7), .val (.ref t_8), .val (.ref b9), .unset, .unset, .unset] [])) rfl (hb hby at_127) (by decide) (by decide)
      obtain ⟨b86, z86⟩ : ∃ z, z = h15.size := ⟨_, rfl⟩
      rw [← z86] at A86 D86 st86
      refine hG _ _ st86 ?_
      have K86 : Keep h0 h86 [] := K15.ext E86
      have O86 : own_Old Z h86 := O15.ext E86
      show G (T86.setTop (mkF m 130 #[.val (.int i0), .val (.int i1), .val (.int i2), .val (.int i3), .val (.int i4), .val (.int sz1), .val (.int ix2), .val (.int c3), .val (.int c4), .val (.ref t_5), .val (.ref t_6), .val (.ref t_7), .val (.ref t_8), .val (.ref b9), .unset, .unset, .unset] [(.ref b86)]))
      refine hG _ _ (fun t_ k_ => XS.dup X86.here hx rfl (hb hby at_130) rfl rfl k_) ?_
      show G (T86.setTop (mkF m 131 #[.val (.int i0), .val (.int i1), .val (.int i2), .val (.int i3), .val (.int i4), .val (.int sz1), .val (.int ix2), .val (.int c3), .val (.int c4), .val (.ref t_5), .val (.ref t_6), .val (.ref t_7), .val (.ref t_8), .val (.ref b9), .unset, .unset, .unset] [(.ref b86), (.ref b86)]))
      refine hG _ _ (fun t_ k_ => XS.iload X86.here hx rfl (hb hby at_131) rfl k_) ?_
      show G (T86.setTop (mkF m 133 #[.val (.int i0), .val (.int i1), .val (.int i2), .val (.int i3), .val (.int i4), .val (.int sz1), .val (.int ix2), .val (.int c3), .val (.int c4), .val (.ref t_5), .val (.ref t_6), .val (.ref t_7), .val (.ref t_8), .val (.ref b9), .unset, .unset, .unset] [(.int c4), (.ref b86), (.ref b86)]))
      refine own_callS X86 hx hZ hG hown (hw _ (List.mem_of_getElem? (i := 93) rfl)) (hw _ (List.mem_of_getElem? (i := 94) rfl)) (hw _ (List.mem_of_getElem? (i := 8) rfl)) (hw _ (List.mem_of_getElem? (i := 95) rfl)) (by decide) 2 (own_val1 l Z a0 hw c4 cpt h86 O86 (own_le255 hr_c4) g0_S g1_hcpt) (by decide) (by decide) e86 (by rw [hml]; rfl) (lenOf own_pd9 rfl) (argsL := [(.int c4)]) (rest := [(.ref b86), (.ref b86)]) rfl rfl (Nat.le_of_eq rfl) (hb hby at_133) (by decide) (by decide) ?_
      intro T87 h87 v87 L87 X87 e87 q87
      obtain ⟨t_87, b_87, kb_87, rfl, M87, J87, y87_0, y87_1, r87_0, r87_1, r87_2, r87_3⟩ := q87
      have N87 := Fr.app N15 M87
      have K87 : Keep h0 h87 [] := K86.trans J87 all0
      have O87 : own_Old Z h87 := O86.keep J87 all0
      show G (T87.setTop (mkF m 136 #[.val (.int i0), .val (.int i1), .val (.int i2), .val (.int i3), .val (.int i4), .val (.int sz1), .val (.int ix2), .val (.int c3), .val (.int c4), .val (.ref t_5), .val (.ref t_6), .val (.ref t_7), .val (.ref t_8), .val (.ref b9), .unset, .unset, .unset] [(.ref t_87), (.ref b86), (.ref b86)]))
      refine hG _ _ (fun t_ k_ => XS.iload X87.here hx rfl (hb hby at_136) rfl k_) ?_
      show G (T87.setTop (mkF m 138 #[.val (.int i0), .val (.int i1), .val (.int i2), .val (.int i3), .val (.int i4), .val (.int sz1), .val (.int ix2), .val (.int c3), .val (.int c4), .val (.ref t_5), .val (.ref t_6), .val (.ref t_7), .val (.ref t_8), .val (.ref b9), .unset, .unset, .unset] [(.int i4), (.ref t_87), (.ref b86), (.ref b86)]))
      refine hG _ _ (fun t_ k_ => XS.aload X87.here hx rfl (hb hby at_138) rfl rfl k_) ?_
      show G (T87.setTop (mkF m 140 #[.val (.int i0), .val (.int i1), .val (.int i2), .val (.int i3), .val (.int i4), .val (.int sz1), .val (.int ix2), .val (.int c3), .val (.int c4), .val (.ref t_5), .val (.ref t_6), .val (.ref t_7), .val (.ref t_8), .val (.ref b9), .unset, .unset, .unset] [(.ref b9), (.int i4), (.ref t_87), (.ref b86), (.ref b86)]))
      have f89 := (A86.keep J87)
      have f90 := ((D86 (Or.inr (hw _ (List.mem_of_getElem? (i := 117) rfl))) (ty := (.object "java/lang/String")) (by decide)).keep J87 nin0)
      have f91 := ((D86 (Or.inr (hw _ (List.mem_of_getElem? (i := 119) rfl))) (ty := .int) (by decide)).keep J87 nin0)
      have f92 := ((D86 (Or.inr (hw _ (List.mem_of_getElem? (i := 121) rfl))) (ty := (.object "java/util/List")) (by decide)).keep J87 nin0)
      refine own_callI X87 hx hZ hG hown rfl (hw _ (List.mem_of_getElem? (i := 107) rfl)) (hw _ (List.mem_of_getElem? (i := 108) rfl)) (hw _ (List.mem_of_getElem? (i := 92) rfl)) (hw _ (List.mem_of_getElem? (i := 109) rfl)) (by decide) 1 (own_finit l Z a0 hw b86 (.ref t_87) i4 (.ref b9) .null (.int (0 : Int32)) .null h87 O87 rfl rfl f89 (own_ge O15 (Nat.le_of_eq z86.symm)) f90 f91 f92) (by decide) (by decide) e87 (by rw [hml]; rfl) (lenOf own_pd18 rfl) (argsL := [(.ref t_87), (.int i4), (.ref b9)]) (rest := [(.ref b86)]) rfl rfl (Nat.le_of_eq rfl) (hb hby at_140) (by decide) (by decide) ?_
      intro T88 h88 v88 L88 X88 e88 q88
      obtain ⟨rfl, M88, J88, r88_0, r88_1, r88_2, r88_3⟩ := q88
      have N88 := Fr.app N87 M88
      have K88 : Keep h0 h88 [] := K87.trans J88 (allS (Or.inr (Nat.le_trans K15.1 (Nat.le_of_eq z86.symm))) all0)
      have O88 : own_Old Z h88 := O87.keep J88 (allS (own_ge O15 (Nat.le_of_eq z86.symm)) all0)
      show G (T88.setTop (mkF m 143 #[.val (.int i0), .val (.int i1), .val (.int i2), .val (.int i3), .val (.int i4), .val (.int sz1), .val (.int ix2), .val (.int c3), .val (.int c4), .val (.ref t_5), .val (.ref t_6), .val (.ref t_7), .val (.ref t_8), .val (.ref b9), .unset, .unset, .unset] [(.ref b86)]))
      refine hG _ _ (fun t_ k_ => XS.astore X88.here hx rfl (hb hby at_143) rfl rfl (l' := #[.val (.int i0), .val (.int i1), .val (.int i2), .val (.int i3), .val (.int i4), .val (.int sz1), .val (.int ix2), .val (.int c3), .val (.int c4), .val (.ref t_5), .val (.ref t_6), .val (.ref t_7), .val (.ref t_8), .val (.ref b9), .val (.ref b86), .unset, .unset]) rfl k_) ?_
      show G (T88.setTop (mkF m 145 #[.val (.int i0), .val (.int i1), .val (.int i2), .val (.int i3), .val (.int i4), .val (.int sz1), .val (.int ix2), .val (.int c3), .val (.int c4), .val (.ref t_5), .val (.ref t_6), .val (.ref t_7), .val (.ref t_8), .val (.ref b9), .val (.ref b86), .unset, .unset] []))
      have hle : sz1.toInt ≤ 2 := own_szb hc102_17 (by decide)
      have hor := own_ix2 hix.1 hix.2 hle
      rcases hor with rfl | rfl
      · skip
        show G (T88.setTop (mkF m 145 #[.val (.int i0), .val (.int i1), .val (.int i2), .val (.int i3), .val (.int i4), .val (.int sz1), .val (.int (0 : Int32)), .val (.int c3), .val (.int c4), .val (.ref t_5), .val (.ref t_6), .val (.ref t_7), .val (.ref t_8), .val (.ref b9), .val (.ref b86), .unset, .unset] []))
        refine hG _ _ (fun t_ k_ => XS.aload X88.here hx rfl (hb hby at_145) rfl rfl k_) ?_
        show G (T88.setTop (mkF m 147 #[.val (.int i0), .val (.int i1), .val (.int i2), .val (.int i3), .val (.int i4), .val (.int sz1), .val (.int (0 : Int32)), .val (.int c3), .val (.int c4), .val (.ref t_5), .val (.ref t_6), .val (.ref t_7), .val (.ref t_8), .val (.ref b9), .val (.ref b86), .unset, .unset] [(.ref b86)]))
        refine hG _ _ (fun t_ k_ => XS.iload X88.here hx rfl (hb hby at_147) rfl k_) ?_
        show G (T88.setTop (mkF m 149 #[.val (.int i0), .val (.int i1), .val (.int i2), .val (.int i3), .val (.int i4), .val (.int sz1), .val (.int (0 : Int32)), .val (.int c3), .val (.int c4), .val (.ref t_5), .val (.ref t_6), .val (.ref t_7), .val (.ref t_8), .val (.ref b9), .val (.ref b86), .unset, .unset] [(.int (0 : Int32)), (.ref b86)]))
        have f94 := (((r15_0.ext E86).keep J87).keep J88)
        have f95 := (((r15_2.ext E86).keep J87 nin0).keep J88 (ninS (own_ne r15_0.lt (Nat.le_of_eq z86.symm)) nin0))
        have f96 := (((r15_4.ext E86).keep J87 nin0).keep J88 (ninS (own_ne r15_4.lt (Nat.le_of_eq z86.symm)) nin0))
        have f97 := (((r15_3.ext E86).keep J87 nin0).keep J88 (ninS (own_ne r15_0.lt (Nat.le_of_eq z86.symm)) nin0))
        have f98 := (((((f13.keep J11).keep J15).ext E86).keep J87).keep J88)
        refine own_callV (C := "com/example/vestibule/vestibule/RecordFile$Record") X88 hx hZ hG hown (hw _ (List.mem_of_getElem? (i := 122) rfl)) (hw _ (List.mem_of_getElem? (i := 123) rfl)) (hw _ (List.mem_of_getElem? (i := 125) rfl)) (hw _ (List.mem_of_getElem? (i := 124) rfl)) (hw _ (List.mem_of_getElem? (i := 92) rfl)) (hw _ (List.mem_of_getElem? (i := 126) rfl)) (by decide) 0 (own_field l Z a0 hw b86 b9 (0 : Int32) t_11 kt_11 [(.ref t_5), (.ref t_6), .null, .null, .null, .null, .null, .null, .null, .null] t_5 (2 : Int32) h88 O88 r88_3 (by decide) (by decide) rfl f94 f95 f96 f97 (by decide) f98) (by decide) (by decide) e88 r88_0 (by rw [hml]; rfl) (lenOf own_pd19 rfl) (argsL := [(.int (0 : Int32))]) (rest := []) rfl rfl (Nat.le_of_eq rfl) (hb hby at_149) (by decide) (by decide) ?_
        intro T93 h93 v93 L93 X93 e93 q93
        obtain ⟨rfl, M93, rfl⟩ := q93
        have N93 := Fr.app N88 M93
        show G (T93.setTop (mkF m 152 #[.val (.int i0), .val (.int i1), .val (.int i2), .val (.int i3), .val (.int i4), .val (.int sz1), .val (.int (0 : Int32)), .val (.int c3), .val (.int c4), .val (.ref t_5), .val (.ref t_6), .val (.ref t_7), .val (.ref t_8), .val (.ref b9), .val (.ref b86), .unset, .unset] [(.ref t_5)]))
        refine hG _ _ (fun t_ k_ => XS.astore X93.here hx rfl (hb hby at_152) rfl rfl (l' := #[.val (.int i0), .val (.int i1), .val (.int i2), .val (.int i3), .val (.int i4), .val (.int sz1), .val (.int (0 : Int32)), .val (.int c3), .val (.int c4), .val (.ref t_5), .val (.ref t_6), .val (.ref t_7), .val (.ref t_8), .val (.ref b9), .val (.ref b86), .val (.ref t_5), .unset]) rfl k_) ?_
        show G (T93.setTop (mkF m 154 #[.val (.int i0), .val (.int i1), .val (.int i2), .val (.int i3), .val (.int i4), .val (.int sz1), .val (.int (0 : Int32)), .val (.int c3), .val (.int c4), .val (.ref t_5), .val (.ref t_6), .val (.ref t_7), .val (.ref t_8), .val (.ref b9), .val (.ref b86), .val (.ref t_5), .unset] []))
        refine hG _ _ (fun t_ k_ => XS.iload X93.here hx rfl (hb hby at_154) rfl k_) ?_
        show G (T93.setTop (mkF m 156 #[.val (.int i0), .val (.int i1), .val (.int i2), .val (.int i3), .val (.int i4), .val (.int sz1), .val (.int (0 : Int32)), .val (.int c3), .val (.int c4), .val (.ref t_5), .val (.ref t_6), .val (.ref t_7), .val (.ref t_8), .val (.ref b9), .val (.ref b86), .val (.ref t_5), .unset] [(.int (0 : Int32))]))
        refine hG _ _ (fun t_ k_ => XS.ifNo X93.here hx rfl (hb hby at_156) rfl ((if0 _ _).trans (teq (by decide)).2) k_) ?_
        show G (T93.setTop (mkF m 159 #[.val (.int i0), .val (.int i1), .val (.int i2), .val (.int i3), .val (.int i4), .val (.int sz1), .val (.int (0 : Int32)), .val (.int c3), .val (.int c4), .val (.ref t_5), .val (.ref t_6), .val (.ref t_7), .val (.ref t_8), .val (.ref b9), .val (.ref b86), .val (.ref t_5), .unset] []))
        refine hG _ _ (fun t_ k_ => XS.aload X93.here hx rfl (hb hby at_159) rfl rfl k_) ?_
        show G (T93.setTop (mkF m 161 #[.val (.int i0), .val (.int i1), .val (.int i2), .val (.int i3), .val (.int i4), .val (.int sz1), .val (.int (0 : Int32)), .val (.int c3), .val (.int c4), .val (.ref t_5), .val (.ref t_6), .val (.ref t_7), .val (.ref t_8), .val (.ref b9), .val (.ref b86), .val (.ref t_5), .unset] [(.ref t_5)]))
        refine hG _ _ (fun t_ k_ => XS.goto X93.here hx rfl (pc0 := 161) (pc' := 188) rfl (hb hby at_161) (by decide) (by decide) k_) ?_
        show G (T93.setTop (mkF m 188 #[.val (.int i0), .val (.int i1), .val (.int i2), .val (.int i3), .val (.int i4), .val (.int sz1), .val (.int (0 : Int32)), .val (.int c3), .val (.int c4), .val (.ref t_5), .val (.ref t_6), .val (.ref t_7), .val (.ref t_8), .val (.ref b9), .val (.ref b86), .val (.ref t_5), .unset] [(.ref t_5)]))
        refine hG _ _ (fun t_ k_ => XS.astore X93.here hx rfl (hb hby at_188) rfl rfl (l' := #[.val (.int i0), .val (.int i1), .val (.int i2), .val (.int i3), .val (.int i4), .val (.int sz1), .val (.int (0 : Int32)), .val (.int c3), .val (.int c4), .val (.ref t_5), .val (.ref t_6), .val (.ref t_7), .val (.ref t_8), .val (.ref b9), .val (.ref b86), .val (.ref t_5), .val (.ref t_5)]) rfl k_) ?_
        show G (T93.setTop (mkF m 190 #[.val (.int i0), .val (.int i1), .val (.int i2), .val (.int i3), .val (.int i4), .val (.int sz1), .val (.int (0 : Int32)), .val (.int c3), .val (.int c4), .val (.ref t_5), .val (.ref t_6), .val (.ref t_7), .val (.ref t_8), .val (.ref b9), .val (.ref b86), .val (.ref t_5), .val (.ref t_5)] []))
        refine hG _ _ (fun t_ k_ => XS.aload X93.here hx rfl (hb hby at_190) rfl rfl k_) ?_
        show G (T93.setTop (mkF m 192 #[.val (.int i0), .val (.int i1), .val (.int i2), .val (.int i3), .val (.int i4), .val (.int sz1), .val (.int (0 : Int32)), .val (.int c3), .val (.int c4), .val (.ref t_5), .val (.ref t_6), .val (.ref t_7), .val (.ref t_8), .val (.ref b9), .val (.ref b86), .val (.ref t_5), .val (.ref t_5)] [(.ref t_5)]))
        refine hG _ _ (fun t_ k_ => XS.ifnullNo X93.here hx rfl (hb hby at_192) rfl k_) ?_
        show G (T93.setTop (mkF m 195 #[.val (.int i0), .val (.int i1), .val (.int i2), .val (.int i3), .val (.int i4), .val (.int sz1), .val (.int (0 : Int32)), .val (.int c3), .val (.int c4), .val (.ref t_5), .val (.ref t_6), .val (.ref t_7), .val (.ref t_8), .val (.ref b9), .val (.ref b86), .val (.ref t_5), .val (.ref t_5)] []))
        refine hG _ _ (fun t_ k_ => XS.aload X93.here hx rfl (hb hby at_195) rfl rfl k_) ?_
        show G (T93.setTop (mkF m 197 #[.val (.int i0), .val (.int i1), .val (.int i2), .val (.int i3), .val (.int i4), .val (.int sz1), .val (.int (0 : Int32)), .val (.int c3), .val (.int c4), .val (.ref t_5), .val (.ref t_6), .val (.ref t_7), .val (.ref t_8), .val (.ref b9), .val (.ref b86), .val (.ref t_5), .val (.ref t_5)] [(.ref t_5)]))
        refine hG _ _ (fun t_ k_ => XS.aload X93.here hx rfl (hb hby at_197) rfl rfl k_) ?_
        show G (T93.setTop (mkF m 199 #[.val (.int i0), .val (.int i1), .val (.int i2), .val (.int i3), .val (.int i4), .val (.int sz1), .val (.int (0 : Int32)), .val (.int c3), .val (.int c4), .val (.ref t_5), .val (.ref t_6), .val (.ref t_7), .val (.ref t_8), .val (.ref b9), .val (.ref b86), .val (.ref t_5), .val (.ref t_5)] [(.ref t_5), (.ref t_5)]))
        refine own_callV (C := "java/lang/String") X93 hx hZ hG hown (hw _ (List.mem_of_getElem? (i := 150) rfl)) (hw _ (List.mem_of_getElem? (i := 151) rfl)) (hw _ (List.mem_of_getElem? (i := 153) rfl)) (hw _ (List.mem_of_getElem? (i := 152) rfl)) (hw _ (List.mem_of_getElem? (i := 8) rfl)) (hw _ (List.mem_of_getElem? (i := 154) rfl)) (by decide) 0 (own_eqs l Z a0 hw t_5 h88 O88) (by decide) (by decide) e93 f98 (by rw [hml]; rfl) (lenOf own_pd10 rfl) (argsL := [(.ref t_5)]) (rest := []) rfl rfl (Nat.le_of_eq rfl) (hb hby at_199) (by decide) (by decide) ?_
        intro T99 h99 v99 L99 X99 e99 q99
        obtain ⟨rfl, M99, rfl⟩ := q99
        have N99 := Fr.app N93 M99
        show G (T99.setTop (mkF m 202 #[.val (.int i0), .val (.int i1), .val (.int i2), .val (.int i3), .val (.int i4), .val (.int sz1), .val (.int (0 : Int32)), .val (.int c3), .val (.int c4), .val (.ref t_5), .val (.ref t_6), .val (.ref t_7), .val (.ref t_8), .val (.ref b9), .val (.ref b86), .val (.ref t_5), .val (.ref t_5)] [(.int (1 : Int32))]))
        refine hG _ _ (fun t_ k_ => XS.ifNo X99.here hx rfl (hb hby at_202) rfl ((if0 _ _).trans (feq (by decide)).1) k_) ?_
        show G (T99.setTop (mkF m 205 #[.val (.int i0), .val (.int i1), .val (.int i2), .val (.int i3), .val (.int i4), .val (.int sz1), .val (.int (0 : Int32)), .val (.int c3), .val (.int c4), .val (.ref t_5), .val (.ref t_6), .val (.ref t_7), .val (.ref t_8), .val (.ref b9), .val (.ref b86), .val (.ref t_5), .val (.ref t_5)] []))
        refine hG _ _ (fun t_ k_ => XS.iconst X99.here hx rfl (hb hby at_205) k_) ?_
        show G (T99.setTop (mkF m 206 #[.val (.int i0), .val (.int i1), .val (.int i2), .val (.int i3), .val (.int i4), .val (.int sz1), .val (.int (0 : Int32)), .val (.int c3), .val (.int c4), .val (.ref t_5), .val (.ref t_6), .val (.ref t_7), .val (.ref t_8), .val (.ref b9), .val (.ref b86), .val (.ref t_5), .val (.ref t_5)] [(.int (1 : Int32))]))
        refine hG _ _ (fun t_ k_ => XS.goto X99.here hx rfl (pc0 := 206) (pc' := 210) rfl (hb hby at_206) (by decide) (by decide) k_) ?_
        show G (T99.setTop (mkF m 210 #[.val (.int i0), .val (.int i1), .val (.int i2), .val (.int i3), .val (.int i4), .val (.int sz1), .val (.int (0 : Int32)), .val (.int c3), .val (.int c4), .val (.ref t_5), .val (.ref t_6), .val (.ref t_7), .val (.ref t_8), .val (.ref b9), .val (.ref b86), .val (.ref t_5), .val (.ref t_5)] [(.int (1 : Int32))]))
        exact own_retN hR hret (by simp) X99 hx (hb hby at_210) (by decide) (by decide) (by rw [e99]; exact ⟨rfl, N99, K88⟩)
      · skip
        show G (T88.setTop (mkF m 145 #[.val (.int i0), .val (.int i1), .val (.int i2), .val (.int i3), .val (.int i4), .val (.int sz1), .val (.int (1 : Int32)), .val (.int c3), .val (.int c4), .val (.ref t_5), .val (.ref t_6), .val (.ref t_7), .val (.ref t_8), .val (.ref b9), .val (.ref b86), .unset, .unset] []))
        refine hG _ _ (fun t_ k_ => XS.aload X88.here hx rfl (hb hby at_145) rfl rfl k_) ?_
        show G (T88.setTop (mkF m 147 #[.val (.int i0), .val (.int i1), .val (.int i2), .val (.int i3), .val (.int i4), .val (.int sz1), .val (.int (1 : Int32)), .val (.int c3), .val (.int c4), .val (.ref t_5), .val (.ref t_6), .val (.ref t_7), .val (.ref t_8), .val (.ref b9), .val (.ref b86), .unset, .unset] [(.ref b86)]))
        refine hG _ _ (fun t_ k_ => XS.iload X88.here hx rfl (hb hby at_147) rfl k_) ?_
        show G (T88.setTop (mkF m 149 #[.val (.int i0), .val (.int i1), .val (.int i2), .val (.int i3), .val (.int i4), .val (.int sz1), .val (.int (1 : Int32)), .val (.int c3), .val (.int c4), .val (.ref t_5), .val (.ref t_6), .val (.ref t_7), .val (.ref t_8), .val (.ref b9), .val (.ref b86), .unset, .unset] [(.int (1 : Int32)), (.ref b86)]))
        have f101 := (((r15_0.ext E86).keep J87).keep J88)
        have f102 := (((r15_2.ext E86).keep J87 nin0).keep J88 (ninS (own_ne r15_0.lt (Nat.le_of_eq z86.symm)) nin0))
        have f103 := (((r15_4.ext E86).keep J87 nin0).keep J88 (ninS (own_ne r15_4.lt (Nat.le_of_eq z86.symm)) nin0))
        have f104 := (((r15_3.ext E86).keep J87 nin0).keep J88 (ninS (own_ne r15_0.lt (Nat.le_of_eq z86.symm)) nin0))
        have f105 := ((((f16.keep J15).ext E86).keep J87).keep J88)
        refine own_callV (C := "com/example/vestibule/vestibule/RecordFile$Record") X88 hx hZ hG hown (hw _ (List.mem_of_getElem? (i := 122) rfl)) (hw _ (List.mem_of_getElem? (i := 123) rfl)) (hw _ (List.mem_of_getElem? (i := 125) rfl)) (hw _ (List.mem_of_getElem? (i := 124) rfl)) (hw _ (List.mem_of_getElem? (i := 92) rfl)) (hw _ (List.mem_of_getElem? (i := 126) rfl)) (by decide) 0 (own_field l Z a0 hw b86 b9 (1 : Int32) t_11 kt_11 [(.ref t_5), (.ref t_6), .null, .null, .null, .null, .null, .null, .null, .null] t_6 (2 : Int32) h88 O88 r88_3 (by decide) (by decide) rfl f101 f102 f103 f104 (by decide) f105) (by decide) (by decide) e88 r88_0 (by rw [hml]; rfl) (lenOf own_pd19 rfl) (argsL := [(.int (1 : Int32))]) (rest := []) rfl rfl (Nat.le_of_eq rfl) (hb hby at_149) (by decide) (by decide) ?_
        intro T100 h100 v100 L100 X100 e100 q100
        obtain ⟨rfl, M100, rfl⟩ := q100
        have N100 := Fr.app N88 M100
        show G (T100.setTop (mkF m 152 #[.val (.int i0), .val (.int i1), .val (.int i2), .val (.int i3), .val (.int i4), .val (.int sz1), .val (.int (1 : Int32)), .val (.int c3), .val (.int c4), .val (.ref t_5), .val (.ref t_6), .val (.ref t_7), .val (.ref t_8), .val (.ref b9), .val (.ref b86), .unset, .unset] [(.ref t_6)]))
        refine hG _ _ (fun t_ k_ => XS.astore X100.here hx rfl (hb hby at_152) rfl rfl (l' := #[.val (.int i0), .val (.int i1), .val (.int i2), .val (.int i3), .val (.int i4), .val (.int sz1), .val (.int (1 : Int32)), .val (.int c3), .val (.int c4), .val (.ref t_5), .val (.ref t_6), .val (.ref t_7), .val (.ref t_8), .val (.ref b9), .val (.ref b86), .val (.ref t_6), .unset]) rfl k_) ?_
        show G (T100.setTop (mkF m 154 #[.val (.int i0), .val (.int i1), .val (.int i2), .val (.int i3), .val (.int i4), .val (.int sz1), .val (.int (1 : Int32)), .val (.int c3), .val (.int c4), .val (.ref t_5), .val (.ref t_6), .val (.ref t_7), .val (.ref t_8), .val (.ref b9), .val (.ref b86), .val (.ref t_6), .unset] []))
        refine hG _ _ (fun t_ k_ => XS.iload X100.here hx rfl (hb hby at_154) rfl k_) ?_
        show G (T100.setTop (mkF m 156 #[.val (.int i0), .val (.int i1), .val (.int i2), .val (.int i3), .val (.int i4), .val (.int sz1), .val (.int (1 : Int32)), .val (.int c3), .val (.int c4), .val (.ref t_5), .val (.ref t_6), .val (.ref t_7), .val (.ref t_8), .val (.ref b9), .val (.ref b86), .val (.ref t_6), .unset] [(.int (1 : Int32))]))
        refine hG _ _ (fun t_ k_ => XS.ifYes X100.here hx rfl (pc0 := 156) (pc' := 164) rfl (hb hby at_156) rfl ((if0 _ _).trans (feq (by decide)).2) (by decide) (by decide) k_) ?_
        show G (T100.setTop (mkF m 164 #[.val (.int i0), .val (.int i1), .val (.int i2), .val (.int i3), .val (.int i4), .val (.int sz1), .val (.int (1 : Int32)), .val (.int c3), .val (.int c4), .val (.ref t_5), .val (.ref t_6), .val (.ref t_7), .val (.ref t_8), .val (.ref b9), .val (.ref b86), .val (.ref t_6), .unset] []))
        refine hG _ _ (fun t_ k_ => XS.iload X100.here hx rfl (hb hby at_164) rfl k_) ?_
        show G (T100.setTop (mkF m 166 #[.val (.int i0), .val (.int i1), .val (.int i2), .val (.int i3), .val (.int i4), .val (.int sz1), .val (.int (1 : Int32)), .val (.int c3), .val (.int c4), .val (.ref t_5), .val (.ref t_6), .val (.ref t_7), .val (.ref t_8), .val (.ref b9), .val (.ref b86), .val (.ref t_6), .unset] [(.int (1 : Int32))]))
        refine hG _ _ (fun t_ k_ => XS.iconst X100.here hx rfl (hb hby at_166) k_) ?_
        show G (T100.setTop (mkF m 167 #[.val (.int i0), .val (.int i1), .val (.int i2), .val (.int i3), .val (.int i4), .val (.int sz1), .val (.int (1 : Int32)), .val (.int c3), .val (.int c4), .val (.ref t_5), .val (.ref t_6), .val (.ref t_7), .val (.ref t_8), .val (.ref b9), .val (.ref b86), .val (.ref t_6), .unset] [(.int (1 : Int32)), (.int (1 : Int32))]))
        refine hG _ _ (fun t_ k_ => XS.icmpNo X100.here hx rfl (hb hby at_167) rfl (teq (by decide)).2 k_) ?_
        show G (T100.setTop (mkF m 170 #[.val (.int i0), .val (.int i1), .val (.int i2), .val (.int i3), .val (.int i4), .val (.int sz1), .val (.int (1 : Int32)), .val (.int c3), .val (.int c4), .val (.ref t_5), .val (.ref t_6), .val (.ref t_7), .val (.ref t_8), .val (.ref b9), .val (.ref b86), .val (.ref t_6), .unset] []))
        refine hG _ _ (fun t_ k_ => XS.aload X100.here hx rfl (hb hby at_170) rfl rfl k_) ?_
        show G (T100.setTop (mkF m 172 #[.val (.int i0), .val (.int i1), .val (.int i2), .val (.int i3), .val (.int i4), .val (.int sz1), .val (.int (1 : Int32)), .val (.int c3), .val (.int c4), .val (.ref t_5), .val (.ref t_6), .val (.ref t_7), .val (.ref t_8), .val (.ref b9), .val (.ref b86), .val (.ref t_6), .unset] [(.ref t_6)]))
        refine hG _ _ (fun t_ k_ => XS.goto X100.here hx rfl (pc0 := 172) (pc' := 188) rfl (hb hby at_172) (by decide) (by decide) k_) ?_
        show G (T100.setTop (mkF m 188 #[.val (.int i0), .val (.int i1), .val (.int i2), .val (.int i3), .val (.int i4), .val (.int sz1), .val (.int (1 : Int32)), .val (.int c3), .val (.int c4), .val (.ref t_5), .val (.ref t_6), .val (.ref t_7), .val (.ref t_8), .val (.ref b9), .val (.ref b86), .val (.ref t_6), .unset] [(.ref t_6)]))
        refine hG _ _ (fun t_ k_ => XS.astore X100.here hx rfl (hb hby at_188) rfl rfl (l' := #[.val (.int i0), .val (.int i1), .val (.int i2), .val (.int i3), .val (.int i4), .val (.int sz1), .val (.int (1 : Int32)), .val (.int c3), .val (.int c4), .val (.ref t_5), .val (.ref t_6), .val (.ref t_7), .val (.ref t_8), .val (.ref b9), .val (.ref b86), .val (.ref t_6), .val (.ref t_6)]) rfl k_) ?_
        show G (T100.setTop (mkF m 190 #[.val (.int i0), .val (.int i1), .val (.int i2), .val (.int i3), .val (.int i4), .val (.int sz1), .val (.int (1 : Int32)), .val (.int c3), .val (.int c4), .val (.ref t_5), .val (.ref t_6), .val (.ref t_7), .val (.ref t_8), .val (.ref b9), .val (.ref b86), .val (.ref t_6), .val (.ref t_6)] []))
        refine hG _ _ (fun t_ k_ => XS.aload X100.here hx rfl (hb hby at_190) rfl rfl k_) ?_
        show G (T100.setTop (mkF m 192 #[.val (.int i0), .val (.int i1), .val (.int i2), .val (.int i3), .val (.int i4), .val (.int sz1), .val (.int (1 : Int32)), .val (.int c3), .val (.int c4), .val (.ref t_5), .val (.ref t_6), .val (.ref t_7), .val (.ref t_8), .val (.ref b9), .val (.ref b86), .val (.ref t_6), .val (.ref t_6)] [(.ref t_6)]))
        refine hG _ _ (fun t_ k_ => XS.ifnullNo X100.here hx rfl (hb hby at_192) rfl k_) ?_
        show G (T100.setTop (mkF m 195 #[.val (.int i0), .val (.int i1), .val (.int i2), .val (.int i3), .val (.int i4), .val (.int sz1), .val (.int (1 : Int32)), .val (.int c3), .val (.int c4), .val (.ref t_5), .val (.ref t_6), .val (.ref t_7), .val (.ref t_8), .val (.ref b9), .val (.ref b86), .val (.ref t_6), .val (.ref t_6)] []))
        refine hG _ _ (fun t_ k_ => XS.aload X100.here hx rfl (hb hby at_195) rfl rfl k_) ?_
        show G (T100.setTop (mkF m 197 #[.val (.int i0), .val (.int i1), .val (.int i2), .val (.int i3), .val (.int i4), .val (.int sz1), .val (.int (1 : Int32)), .val (.int c3), .val (.int c4), .val (.ref t_5), .val (.ref t_6), .val (.ref t_7), .val (.ref t_8), .val (.ref b9), .val (.ref b86), .val (.ref t_6), .val (.ref t_6)] [(.ref t_6)]))
        refine hG _ _ (fun t_ k_ => XS.aload X100.here hx rfl (hb hby at_197) rfl rfl k_) ?_
        show G (T100.setTop (mkF m 199 #[.val (.int i0), .val (.int i1), .val (.int i2), .val (.int i3), .val (.int i4), .val (.int sz1), .val (.int (1 : Int32)), .val (.int c3), .val (.int c4), .val (.ref t_5), .val (.ref t_6), .val (.ref t_7), .val (.ref t_8), .val (.ref b9), .val (.ref b86), .val (.ref t_6), .val (.ref t_6)] [(.ref t_6), (.ref t_6)]))
        refine own_callV (C := "java/lang/String") X100 hx hZ hG hown (hw _ (List.mem_of_getElem? (i := 150) rfl)) (hw _ (List.mem_of_getElem? (i := 151) rfl)) (hw _ (List.mem_of_getElem? (i := 153) rfl)) (hw _ (List.mem_of_getElem? (i := 152) rfl)) (hw _ (List.mem_of_getElem? (i := 8) rfl)) (hw _ (List.mem_of_getElem? (i := 154) rfl)) (by decide) 0 (own_eqs l Z a0 hw t_6 h88 O88) (by decide) (by decide) e100 f105 (by rw [hml]; rfl) (lenOf own_pd10 rfl) (argsL := [(.ref t_6)]) (rest := []) rfl rfl (Nat.le_of_eq rfl) (hb hby at_199) (by decide) (by decide) ?_
        intro T106 h106 v106 L106 X106 e106 q106
        obtain ⟨rfl, M106, rfl⟩ := q106
        have N106 := Fr.app N100 M106
        show G (T106.setTop (mkF m 202 #[.val (.int i0), .val (.int i1), .val (.int i2), .val (.int i3), .val (.int i4), .val (.int sz1), .val (.int (1 : Int32)), .val (.int c3), .val (.int c4), .val (.ref t_5), .val (.ref t_6), .val (.ref t_7), .val (.ref t_8), .val (.ref b9), .val (.ref b86), .val (.ref t_6), .val (.ref t_6)] [(.int (1 : Int32))]))
        refine hG _ _ (fun t_ k_ => XS.ifNo X106.here hx rfl (hb hby at_202) rfl ((if0 _ _).trans (feq (by decide)).1) k_) ?_
        show G (T106.setTop (mkF m 205 #[.val (.int i0), .val (.int i1), .val (.int i2), .val (.int i3), .val (.int i4), .val (.int sz1), .val (.int (1 : Int32)), .val (.int c3), .val (.int c4), .val (.ref t_5), .val (.ref t_6), .val (.ref t_7), .val (.ref t_8), .val (.ref b9), .val (.ref b86), .val (.ref t_6), .val (.ref t_6)] []))
        refine hG _ _ (fun t_ k_ => XS.iconst X106.here hx rfl (hb hby at_205) k_) ?_
        show G (T106.setTop (mkF m 206 #[.val (.int i0), .val (.int i1), .val (.int i2), .val (.int i3), .val (.int i4), .val (.int sz1), .val (.int (1 : Int32)), .val (.int c3), .val (.int c4), .val (.ref t_5), .val (.ref t_6), .val (.ref t_7), .val (.ref t_8), .val (.ref b9), .val (.ref b86), .val (.ref t_6), .val (.ref t_6)] [(.int (1 : Int32))]))
        refine hG _ _ (fun t_ k_ => XS.goto X106.here hx rfl (pc0 := 206) (pc' := 210) rfl (hb hby at_206) (by decide) (by decide) k_) ?_
        show G (T106.setTop (mkF m 210 #[.val (.int i0), .val (.int i1), .val (.int i2), .val (.int i3), .val (.int i4), .val (.int sz1), .val (.int (1 : Int32)), .val (.int c3), .val (.int c4), .val (.ref t_5), .val (.ref t_6), .val (.ref t_7), .val (.ref t_8), .val (.ref b9), .val (.ref b86), .val (.ref t_6), .val (.ref t_6)] [(.int (1 : Int32))]))
        exact own_retN hR hret (by simp) X106 hx (hb hby at_210) (by decide) (by decide) (by rw [e106]; exact ⟨rfl, N106, K88⟩)
  · skip
    refine hG _ _ (fun t_ k_ => XS.icmpYes X11.here hx rfl (pc0 := 88) (pc' := 99) rfl (hb hby at_88) rfl (flt hc88_14).2.2.2 (by decide) (by decide) k_) ?_
    show G (T11.setTop (mkF m 99 #[.val (.int i0), .val (.int i1), .val (.int i2), .val (.int i3), .val (.int i4), .val (.int sz1), .val (.int ix2), .val (.int c3), .val (.int c4), .val (.ref t_5), .val (.ref t_6), .val (.ref t_7), .val (.ref t_8), .val (.ref b9), .unset, .unset, .unset] []))
    refine hG _ _ (fun t_ k_ => XS.iload X11.here hx rfl (hb hby at_99) rfl k_) ?_
    show G (T11.setTop (mkF m 101 #[.val (.int i0), .val (.int i1), .val (.int i2), .val (.int i3), .val (.int i4), .val (.int sz1), .val (.int ix2), .val (.int c3), .val (.int c4), .val (.ref t_5), .val (.ref t_6), .val (.ref t_7), .val (.ref t_8), .val (.ref b9), .unset, .unset, .unset] [(.int sz1)]))
    refine hG _ _ (fun t_ k_ => XS.iconst X11.here hx rfl (hb hby at_101) k_) ?_
    show G (T11.setTop (mkF m 102 #[.val (.int i0), .val (.int i1), .val (.int i2), .val (.int i3), .val (.int i4), .val (.int sz1), .val (.int ix2), .val (.int c3), .val (.int c4), .val (.ref t_5), .val (.ref t_6), .val (.ref t_7), .val (.ref t_8), .val (.ref b9), .unset, .unset, .unset] [(.int (2 : Int32)), (.int sz1)]))
    refine hG _ _ (fun t_ k_ => XS.icmpYes X11.here hx rfl (pc0 := 102) (pc' := 113) rfl (hb hby at_102) rfl (flt (by have q := hc88_14; rw [Int32.lt_iff_toInt_lt] at q ⊢; have e1 : (1 : Int32).toInt = 1 := (by decide); have e2 : (2 : Int32).toInt = 2 := (by decide); omega)).2.2.2 (by decide) (by decide) k_) ?_
    show G (T11.setTop (mkF m 113 #[.val (.int i0), .val (.int i1), .val (.int i2), .val (.int i3), .val (.int i4), .val (.int sz1), .val (.int ix2), .val (.int c3), .val (.int c4), .val (.ref t_5), .val (.ref t_6), .val (.ref t_7), .val (.ref t_8), .val (.ref b9), .unset, .unset, .unset] []))
    refine hG _ _ (fun t_ k_ => XS.iload X11.here hx rfl (hb hby at_113) rfl k_) ?_
    show G (T11.setTop (mkF m 115 #[.val (.int i0), .val (.int i1), .val (.int i2), .val (.int i3), .val (.int i4), .val (.int sz1), .val (.int ix2), .val (.int c3), .val (.int c4), .val (.ref t_5), .val (.ref t_6), .val (.ref t_7), .val (.ref t_8), .val (.ref b9), .unset, .unset, .unset] [(.int sz1)]))
    refine hG _ _ (fun t_ k_ => XS.iconst X11.here hx rfl (hb hby at_115) k_) ?_
    show G (T11.setTop (mkF m 116 #[.val (.int i0), .val (.int i1), .val (.int i2), .val (.int i3), .val (.int i4), .val (.int sz1), .val (.int ix2), .val (.int c3), .val (.int c4), .val (.ref t_5), .val (.ref t_6), .val (.ref t_7), .val (.ref t_8), .val (.ref b9), .unset, .unset, .unset] [(.int (3 : Int32)), (.int sz1)]))
    refine hG _ _ (fun t_ k_ => XS.icmpYes X11.here hx rfl (pc0 := 116) (pc' := 127) rfl (hb hby at_116) rfl (flt (by have q := hc88_14; rw [Int32.lt_iff_toInt_lt] at q ⊢; have e1 : (1 : Int32).toInt = 1 := (by decide); have e2 : (3 : Int32).toInt = 3 := (by decide); omega)).2.2.2 (by decide) (by decide) k_) ?_
    show G (T11.setTop (mkF m 127 #[.val (.int i0), .val (.int i1), .val (.int i2), .val (.int i3), .val (.int i4), .val (.int sz1), .val (.int ix2), .val (.int c3), .val (.int c4), .val (.ref t_5), .val (.ref t_6), .val (.ref t_7), .val (.ref t_8), .val (.ref b9), .unset, .unset, .unset] []))
    obtain ⟨T107, h107, X107, e107, E107, A107, D107, -, st107⟩ := newO X11 hx hZ hown (hw _ (List.mem_of_getElem? (i := 90) rfl)) (hw _ (List.mem_of_getElem? (i := 91) rfl)) (hw _ (List.mem_of_getElem? (i := 92) rfl)) e11 (g := (mkF m 127 #[.val (.int i0), .val (.int i1), .val (.int i2), .val (.int i3), .val (.int i4), .val (.int sz1), .val (.int ix2), .val (.int c3), .val (.int c4), .val (.ref t_5), .val (.ref t_6), .val (.ref t_7), .val (.ref t_8), .val (.ref b9), .unset, .unset, .unset] [])) rfl (hb hby at_127) (by decide) (by decide)
    obtain ⟨b107, z107⟩ : ∃ z, z = h11.size := ⟨_, rfl⟩
    rw [← z107] at A107 D107 st107
    refine hG _ _ st107 ?_
    have K107 : Keep h0 h107 [] := K11.ext E107
    have O107 : own_Old Z h107 := O11.ext E107
    show G (T107.setTop (mkF m 130 #[.val (.int i0), .val (.int i1), .val (.int i2), .val (.int i3), .val (.int i4), .val (.int sz1), .val (.int ix2), .val (.int c3), .val (.int c4), .val (.ref t_5), .val (.ref t_6), .val (.ref t_7), .val (.ref t_8), .val (.ref b9), .unset, .unset, .unset] [(.ref b107)]))
    refine hG _ _ (fun t_ k_ => XS.dup X107.here hx rfl (hb hby at_130) rfl rfl k_) ?_
    show G (T107.setTop (mkF m 131 #[.val (.int i0), .val (.int i1), .val (.int i2), .val (.int i3), .val (.int i4), .val (.int sz1), .val (.int ix2), .val (.int c3), .val (.int c4), .val (.ref t_5), .val (.ref t_6), .val (.ref t_7), .val (.ref t_8), .val (.ref b9), .unset, .unset, .unset] [(.ref b107), (.ref b107)]))
    refine hG _ _ (fun t_ k_ => XS.iload X107.here hx rfl (hb hby at_131) rfl k_) ?_
    show G (T107.setTop (mkF m 133 #[.val (.int i0), .val (.int i1), .val (.int i2), .val (.int i3), .val (.int i4), .val (.int sz1), .val (.int ix2), .val (.int c3), .val (.int c4), .val (.ref t_5), .val (.ref t_6), .val (.ref t_7), .val (.ref t_8), .val (.ref b9), .unset, .unset, .unset] [(.int c4), (.ref b107), (.ref b107)]))
    refine own_callS X107 hx hZ hG hown (hw _ (List.mem_of_getElem? (i := 93) rfl)) (hw _ (List.mem_of_getElem? (i := 94) rfl)) (hw _ (List.mem_of_getElem? (i := 8) rfl)) (hw _ (List.mem_of_getElem? (i := 95) rfl)) (by decide) 2 (own_val1 l Z a0 hw c4 cpt h107 O107 (own_le255 hr_c4) g0_S g1_hcpt) (by decide) (by decide) e107 (by rw [hml]; rfl) (lenOf own_pd9 rfl) (argsL := [(.int c4)]) (rest := [(.ref b107), (.ref b107)]) rfl rfl (Nat.le_of_eq rfl) (hb hby at_133) (by decide) (by decide) ?_
    intro T108 h108 v108 L108 X108 e108 q108
    obtain ⟨t_108, b_108, kb_108, rfl, M108, J108, y108_0, y108_1, r108_0, r108_1, r108_2, r108_3⟩ := q108
    have N108 := Fr.app N11 M108
    have K108 : Keep h0 h108 [] := K107.trans J108 all0
    have O108 : own_Old Z h108 := O107.keep J108 all0
    show G (T108.setTop (mkF m 136 #[.val (.int i0), .val (.int i1), .val (.int i2), .val (.int i3), .val (.int i4), .val (.int sz1), .val (.int ix2), .val (.int c3), .val (.int c4), .val (.ref t_5), .val (.ref t_6), .val (.ref t_7), .val (.ref t_8), .val (.ref b9), .unset, .unset, .unset] [(.ref t_108), (.ref b107), (.ref b107)]))
    refine hG _ _ (fun t_ k_ => XS.iload X108.here hx rfl (hb hby at_136) rfl k_) ?_
    show G (T108.setTop (mkF m 138 #[.val (.int i0), .val (.int i1), .val (.int i2), .val (.int i3), .val (.int i4), .val (.int sz1), .val (.int ix2), .val (.int c3), .val (.int c4), .val (.ref t_5), .val (.ref t_6), .val (.ref t_7), .val (.ref t_8), .val (.ref b9), .unset, .unset, .unset] [(.int i4), (.ref t_108), (.ref b107), (.ref b107)]))
    refine hG _ _ (fun t_ k_ => XS.aload X108.here hx rfl (hb hby at_138) rfl rfl k_) ?_
    show G (T108.setTop (mkF m 140 #[.val (.int i0), .val (.int i1), .val (.int i2), .val (.int i3), .val (.int i4), .val (.int sz1), .val (.int ix2), .val (.int c3), .val (.int c4), .val (.ref t_5), .val (.ref t_6), .val (.ref t_7), .val (.ref t_8), .val (.ref b9), .unset, .unset, .unset] [(.ref b9), (.int i4), (.ref t_108), (.ref b107), (.ref b107)]))
    have f110 := (A107.keep J108)
    have f111 := ((D107 (Or.inr (hw _ (List.mem_of_getElem? (i := 117) rfl))) (ty := (.object "java/lang/String")) (by decide)).keep J108 nin0)
    have f112 := ((D107 (Or.inr (hw _ (List.mem_of_getElem? (i := 119) rfl))) (ty := .int) (by decide)).keep J108 nin0)
    have f113 := ((D107 (Or.inr (hw _ (List.mem_of_getElem? (i := 121) rfl))) (ty := (.object "java/util/List")) (by decide)).keep J108 nin0)
    refine own_callI X108 hx hZ hG hown rfl (hw _ (List.mem_of_getElem? (i := 107) rfl)) (hw _ (List.mem_of_getElem? (i := 108) rfl)) (hw _ (List.mem_of_getElem? (i := 92) rfl)) (hw _ (List.mem_of_getElem? (i := 109) rfl)) (by decide) 1 (own_finit l Z a0 hw b107 (.ref t_108) i4 (.ref b9) .null (.int (0 : Int32)) .null h108 O108 rfl rfl f110 (own_ge O11 (Nat.le_of_eq z107.symm)) f111 f112 f113) (by decide) (by decide) e108 (by rw [hml]; rfl) (lenOf own_pd18 rfl) (argsL := [(.ref t_108), (.int i4), (.ref b9)]) (rest := [(.ref b107)]) rfl rfl (Nat.le_of_eq rfl) (hb hby at_140) (by decide) (by decide) ?_
    intro T109 h109 v109 L109 X109 e109 q109
    obtain ⟨rfl, M109, J109, r109_0, r109_1, r109_2, r109_3⟩ := q109
    have N109 := Fr.app N108 M109
    have K109 : Keep h0 h109 [] := K108.trans J109 (allS (Or.inr (Nat.le_trans K11.1 (Nat.le_of_eq z107.symm))) all0)
    have O109 : own_Old Z h109 := O108.keep J109 (allS (own_ge O11 (Nat.le_of_eq z107.symm)) all0)
    show G (T109.setTop (mkF m 143 #[.val (.int i0), .val (.int i1), .val (.int i2), .val (.int i3), .val (.int i4), .val (.int sz1), .val (.int ix2), .val (.int c3), .val (.int c4), .val (.ref t_5), .val (.ref t_6), .val (.ref t_7), .val (.ref t_8), .val (.ref b9), .unset, .unset, .unset] [(.ref b107)]))
    refine hG _ _ (fun t_ k_ => XS.astore X109.here hx rfl (hb hby at_143) rfl rfl (l' := #[.val (.int i0), .val (.int i1), .val (.int i2), .val (.int i3), .val (.int i4), .val (.int sz1), .val (.int ix2), .val (.int c3), .val (.int c4), .val (.ref t_5), .val (.ref t_6), .val (.ref t_7), .val (.ref t_8), .val (.ref b9), .val (.ref b107), .unset, .unset]) rfl k_) ?_
    show G (T109.setTop (mkF m 145 #[.val (.int i0), .val (.int i1), .val (.int i2), .val (.int i3), .val (.int i4), .val (.int sz1), .val (.int ix2), .val (.int c3), .val (.int c4), .val (.ref t_5), .val (.ref t_6), .val (.ref t_7), .val (.ref t_8), .val (.ref b9), .val (.ref b107), .unset, .unset] []))
    have hle : sz1.toInt ≤ 1 := own_szb hc88_14 (by decide)
    have hor := own_ix1 hix.1 hix.2 hle
    subst hor
    show G (T109.setTop (mkF m 145 #[.val (.int i0), .val (.int i1), .val (.int i2), .val (.int i3), .val (.int i4), .val (.int sz1), .val (.int (0 : Int32)), .val (.int c3), .val (.int c4), .val (.ref t_5), .val (.ref t_6), .val (.ref t_7), .val (.ref t_8), .val (.ref b9), .val (.ref b107), .unset, .unset] []))
    refine hG _ _ (fun t_ k_ => XS.aload X109.here hx rfl (hb hby at_145) rfl rfl k_) ?_
    show G (T109.setTop (mkF m 147 #[.val (.int i0), .val (.int i1), .val (.int i2), .val (.int i3), .val (.int i4), .val (.int sz1), .val (.int (0 : Int32)), .val (.int c3), .val (.int c4), .val (.ref t_5), .val (.ref t_6), .val (.ref t_7), .val (.ref t_8), .val (.ref b9), .val (.ref b107), .unset, .unset] [(.ref b107)]))
    refine hG _ _ (fun t_ k_ => XS.iload X109.here hx rfl (hb hby at_147) rfl k_) ?_
    show G (T109.setTop (mkF m 149 #[.val (.int i0), .val (.int i1), .val (.int i2), .val (.int i3), .val (.int i4), .val (.int sz1), .val (.int (0 : Int32)), .val (.int c3), .val (.int c4), .val (.ref t_5), .val (.ref t_6), .val (.ref t_7), .val (.ref t_8), .val (.ref b9), .val (.ref b107), .unset, .unset] [(.int (0 : Int32)), (.ref b107)]))
    have f115 := (((r11_0.ext E107).keep J108).keep J109)
    have f116 := (((r11_2.ext E107).keep J108 nin0).keep J109 (ninS (own_ne r11_0.lt (Nat.le_of_eq z107.symm)) nin0))
    have f117 := (((r11_4.ext E107).keep J108 nin0).keep J109 (ninS (own_ne r11_4.lt (Nat.le_of_eq z107.symm)) nin0))
    have f118 := (((r11_3.ext E107).keep J108 nin0).keep J109 (ninS (own_ne r11_0.lt (Nat.le_of_eq z107.symm)) nin0))
    have f119 := ((((f13.keep J11).ext E107).keep J108).keep J109)
    refine own_callV (C := "com/example/vestibule/vestibule/RecordFile$Record") X109 hx hZ hG hown (hw _ (List.mem_of_getElem? (i := 122) rfl)) (hw _ (List.mem_of_getElem? (i := 123) rfl)) (hw _ (List.mem_of_getElem? (i := 125) rfl)) (hw _ (List.mem_of_getElem? (i := 124) rfl)) (hw _ (List.mem_of_getElem? (i := 92) rfl)) (hw _ (List.mem_of_getElem? (i := 126) rfl)) (by decide) 0 (own_field l Z a0 hw b107 b9 (0 : Int32) t_11 kt_11 [(.ref t_5), .null, .null, .null, .null, .null, .null, .null, .null, .null] t_5 (1 : Int32) h109 O109 r109_3 (by decide) (by decide) rfl f115 f116 f117 f118 (by decide) f119) (by decide) (by decide) e109 r109_0 (by rw [hml]; rfl) (lenOf own_pd19 rfl) (argsL := [(.int (0 : Int32))]) (rest := []) rfl rfl (Nat.le_of_eq rfl) (hb hby at_149) (by decide) (by decide) ?_
    intro T114 h114 v114 L114 X114 e114 q114
    obtain ⟨rfl, M114, rfl⟩ := q114
    have N114 := Fr.app N109 M114
    show G (T114.setTop (mkF m 152 #[.val (.int i0), .val (.int i1), .val (.int i2), .val (.int i3), .val (.int i4), .val (.int sz1), .val (.int (0 : Int32)), .val (.int c3), .val (.int c4), .val (.ref t_5), .val (.ref t_6), .val (.ref t_7), .val (.ref t_8), .val (.ref b9), .val (.ref b107), .unset, .unset] [(.ref t_5)]))
    refine hG _ _ (fun t_ k_ => XS.astore X114.here hx rfl (hb hby at_152) rfl rfl (l' := #[.val (.int i0), .val (.int i1), .val (.int i2), .val (.int i3), .val (.int i4), .val (.int sz1), .val (.int (0 : Int32)), .val (.int c3), .val (.int c4), .val (.ref t_5), .val (.ref t_6), .val (.ref t_7), .val (.ref t_8), .val (.ref b9), .val (.ref b107), .val (.ref t_5), .unset]) rfl k_) ?_
    show G (T114.setTop (mkF m 154 #[.val (.int i0), .val (.int i1), .val (.int i2), .val (.int i3), .val (.int i4), .val (.int sz1), .val (.int (0 : Int32)), .val (.int c3), .val (.int c4), .val (.ref t_5), .val (.ref t_6), .val (.ref t_7), .val (.ref t_8), .val (.ref b9), .val (.ref b107), .val (.ref t_5), .unset] []))
    refine hG _ _ (fun t_ k_ => XS.iload X114.here hx rfl (hb hby at_154) rfl k_) ?_
    show G (T114.setTop (mkF m 156 #[.val (.int i0), .val (.int i1), .val (.int i2), .val (.int i3), .val (.int i4), .val (.int sz1), .val (.int (0 : Int32)), .val (.int c3), .val (.int c4), .val (.ref t_5), .val (.ref t_6), .val (.ref t_7), .val (.ref t_8), .val (.ref b9), .val (.ref b107), .val (.ref t_5), .unset] [(.int (0 : Int32))]))
    refine hG _ _ (fun t_ k_ => XS.ifNo X114.here hx rfl (hb hby at_156) rfl ((if0 _ _).trans (teq (by decide)).2) k_) ?_
    show G (T114.setTop (mkF m 159 #[.val (.int i0), .val (.int i1), .val (.int i2), .val (.int i3), .val (.int i4), .val (.int sz1), .val (.int (0 : Int32)), .val (.int c3), .val (.int c4), .val (.ref t_5), .val (.ref t_6), .val (.ref t_7), .val (.ref t_8), .val (.ref b9), .val (.ref b107), .val (.ref t_5), .unset] []))
    refine hG _ _ (fun t_ k_ => XS.aload X114.here hx rfl (hb hby at_159) rfl rfl k_) ?_
    show G (T114.setTop (mkF m 161 #[.val (.int i0), .val (.int i1), .val (.int i2), .val (.int i3), .val (.int i4), .val (.int sz1), .val (.int (0 : Int32)), .val (.int c3), .val (.int c4), .val (.ref t_5), .val (.ref t_6), .val (.ref t_7), .val (.ref t_8), .val (.ref b9), .val (.ref b107), .val (.ref t_5), .unset] [(.ref t_5)]))
    refine hG _ _ (fun t_ k_ => XS.goto X114.here hx rfl (pc0 := 161) (pc' := 188) rfl (hb hby at_161) (by decide) (by decide) k_) ?_
    show G (T114.setTop (mkF m 188 #[.val (.int i0), .val (.int i1), .val (.int i2), .val (.int i3), .val (.int i4), .val (.int sz1), .val (.int (0 : Int32)), .val (.int c3), .val (.int c4), .val (.ref t_5), .val (.ref t_6), .val (.ref t_7), .val (.ref t_8), .val (.ref b9), .val (.ref b107), .val (.ref t_5), .unset] [(.ref t_5)]))
    refine hG _ _ (fun t_ k_ => XS.astore X114.here hx rfl (hb hby at_188) rfl rfl (l' := #[.val (.int i0), .val (.int i1), .val (.int i2), .val (.int i3), .val (.int i4), .val (.int sz1), .val (.int (0 : Int32)), .val (.int c3), .val (.int c4), .val (.ref t_5), .val (.ref t_6), .val (.ref t_7), .val (.ref t_8), .val (.ref b9), .val (.ref b107), .val (.ref t_5), .val (.ref t_5)]) rfl k_) ?_
    show G (T114.setTop (mkF m 190 #[.val (.int i0), .val (.int i1), .val (.int i2), .val (.int i3), .val (.int i4), .val (.int sz1), .val (.int (0 : Int32)), .val (.int c3), .val (.int c4), .val (.ref t_5), .val (.ref t_6), .val (.ref t_7), .val (.ref t_8), .val (.ref b9), .val (.ref b107), .val (.ref t_5), .val (.ref t_5)] []))
    refine hG _ _ (fun t_ k_ => XS.aload X114.here hx rfl (hb hby at_190) rfl rfl k_) ?_
    show G (T114.setTop (mkF m 192 #[.val (.int i0), .val (.int i1), .val (.int i2), .val (.int i3), .val (.int i4), .val (.int sz1), .val (.int (0 : Int32)), .val (.int c3), .val (.int c4), .val (.ref t_5), .val (.ref t_6), .val (.ref t_7), .val (.ref t_8), .val (.ref b9), .val (.ref b107), .val (.ref t_5), .val (.ref t_5)] [(.ref t_5)]))
    refine hG _ _ (fun t_ k_ => XS.ifnullNo X114.here hx rfl (hb hby at_192) rfl k_) ?_
    show G (T114.setTop (mkF m 195 #[.val (.int i0), .val (.int i1), .val (.int i2), .val (.int i3), .val (.int i4), .val (.int sz1), .val (.int (0 : Int32)), .val (.int c3), .val (.int c4), .val (.ref t_5), .val (.ref t_6), .val (.ref t_7), .val (.ref t_8), .val (.ref b9), .val (.ref b107), .val (.ref t_5), .val (.ref t_5)] []))
    refine hG _ _ (fun t_ k_ => XS.aload X114.here hx rfl (hb hby at_195) rfl rfl k_) ?_
    show G (T114.setTop (mkF m 197 #[.val (.int i0), .val (.int i1), .val (.int i2), .val (.int i3), .val (.int i4), .val (.int sz1), .val (.int (0 : Int32)), .val (.int c3), .val (.int c4), .val (.ref t_5), .val (.ref t_6), .val (.ref t_7), .val (.ref t_8), .val (.ref b9), .val (.ref b107), .val (.ref t_5), .val (.ref t_5)] [(.ref t_5)]))
    refine hG _ _ (fun t_ k_ => XS.aload X114.here hx rfl (hb hby at_197) rfl rfl k_) ?_
    show G (T114.setTop (mkF m 199 #[.val (.int i0), .val (.int i1), .val (.int i2), .val (.int i3), .val (.int i4), .val (.int sz1), .val (.int (0 : Int32)), .val (.int c3), .val (.int c4), .val (.ref t_5), .val (.ref t_6), .val (.ref t_7), .val (.ref t_8), .val (.ref b9), .val (.ref b107), .val (.ref t_5), .val (.ref t_5)] [(.ref t_5), (.ref t_5)]))
    refine own_callV (C := "java/lang/String") X114 hx hZ hG hown (hw _ (List.mem_of_getElem? (i := 150) rfl)) (hw _ (List.mem_of_getElem? (i := 151) rfl)) (hw _ (List.mem_of_getElem? (i := 153) rfl)) (hw _ (List.mem_of_getElem? (i := 152) rfl)) (hw _ (List.mem_of_getElem? (i := 8) rfl)) (hw _ (List.mem_of_getElem? (i := 154) rfl)) (by decide) 0 (own_eqs l Z a0 hw t_5 h109 O109) (by decide) (by decide) e114 f119 (by rw [hml]; rfl) (lenOf own_pd10 rfl) (argsL := [(.ref t_5)]) (rest := []) rfl rfl (Nat.le_of_eq rfl) (hb hby at_199) (by decide) (by decide) ?_
    intro T120 h120 v120 L120 X120 e120 q120
    obtain ⟨rfl, M120, rfl⟩ := q120
    have N120 := Fr.app N114 M120
    show G (T120.setTop (mkF m 202 #[.val (.int i0), .val (.int i1), .val (.int i2), .val (.int i3), .val (.int i4), .val (.int sz1), .val (.int (0 : Int32)), .val (.int c3), .val (.int c4), .val (.ref t_5), .val (.ref t_6), .val (.ref t_7), .val (.ref t_8), .val (.ref b9), .val (.ref b107), .val (.ref t_5), .val (.ref t_5)] [(.int (1 : Int32))]))
    refine hG _ _ (fun t_ k_ => XS.ifNo X120.here hx rfl (hb hby at_202) rfl ((if0 _ _).trans (feq (by decide)).1) k_) ?_
    show G (T120.setTop (mkF m 205 #[.val (.int i0), .val (.int i1), .val (.int i2), .val (.int i3), .val (.int i4), .val (.int sz1), .val (.int (0 : Int32)), .val (.int c3), .val (.int c4), .val (.ref t_5), .val (.ref t_6), .val (.ref t_7), .val (.ref t_8), .val (.ref b9), .val (.ref b107), .val (.ref t_5), .val (.ref t_5)] []))
    refine hG _ _ (fun t_ k_ => XS.iconst X120.here hx rfl (hb hby at_205) k_) ?_
    show G (T120.setTop (mkF m 206 #[.val (.int i0), .val (.int i1), .val (.int i2), .val (.int i3), .val (.int i4), .val (.int sz1), .val (.int (0 : Int32)), .val (.int c3), .val (.int c4), .val (.ref t_5), .val (.ref t_6), .val (.ref t_7), .val (.ref t_8), .val (.ref b9), .val (.ref b107), .val (.ref t_5), .val (.ref t_5)] [(.int (1 : Int32))]))
    refine hG _ _ (fun t_ k_ => XS.goto X120.here hx rfl (pc0 := 206) (pc' := 210) rfl (hb hby at_206) (by decide) (by decide) k_) ?_
    show G (T120.setTop (mkF m 210 #[.val (.int i0), .val (.int i1), .val (.int i2), .val (.int i3), .val (.int i4), .val (.int sz1), .val (.int (0 : Int32)), .val (.int c3), .val (.int c4), .val (.ref t_5), .val (.ref t_6), .val (.ref t_7), .val (.ref t_8), .val (.ref b9), .val (.ref b107), .val (.ref t_5), .val (.ref t_5)] [(.int (1 : Int32))]))
    exact own_retN hR hret (by simp) X120 hx (hb hby at_210) (by decide) (by decide) (by rw [e120]; exact ⟨rfl, N120, K109⟩)
set_option maxRecDepth 65536 in
set_option maxHeartbeats 40000000 in
theorem own_comes {Post : Tables → Env → Array Value → State → Outcome → State → Prop} (hpost : ∀ tb e args s v u, (limb_1_1.after args s (.returned v) u = true ∧ limb_1_2.after args s (.returned v) u = true ∧ True) → FrameEnd s (.returned v) u (Jvm.fieldLocs frame_1_writes args s ++ Jvm.arrayLocs frame_1_arrays args s ++ Jvm.staticLocs frame_1_statics s) 48 192 → Post tb e args s (.returned v) u) :
    ArmFor flags0 classFile x code maxLocals ret World_1 tables_1 room_1 Calls_1 rest_1 Pre_1 Post := by
  intro l hfl _ _ p e ha hc hk s m args below hf hA hF happ hP
  obtain ⟨hcalls, hrest, hpre⟩ := hP
  obtain ⟨-, -, -, hnamed, -, -, -, hat⟩ := (Spec.applies_iff hf).mp happ
  obtain ⟨hg, hn⟩ := and_e (Cond.before_iff.mp (show (Jvm.Cond.and given_1 narrow_1).before args s = true from hpre))
  obtain ⟨hcnt, hg⟩ := and_e hg
  obtain ⟨g0, hg⟩ := and_e hg
  obtain ⟨g1, hg⟩ := and_e hg
  obtain ⟨g2, hg⟩ := and_e hg
  obtain ⟨g3, hg⟩ := and_e hg
  have g4 := hg
  obtain ⟨w0, w1, w2, w3, w4, rfl⟩ : ∃ w0 w1 w2 w3 w4 : Value, args = #[w0, w1, w2, w3, w4] := by
    have hs : args.size = 5 := by simpa [Cond.value, given_1] using hcnt
    obtain ⟨L⟩ := args
    match L, hs with
    | [w0, w1, w2, w3, w4], _ => exact ⟨w0, w1, w2, w3, w4, rfl⟩
  have hw := fun d (hd : d ∈ tables_1) => atoms_spec (ws := Jvm.Cond.code x code maxLocals ret :: tables_1) hat d (List.mem_cons_of_mem _ hd)
  have hfit : Fit s := fun {y c} hc i hi => by
    obtain ⟨ha, rfl⟩ := Array.getElem?_eq_some_iff.mp hc
    have q := List.all_eq_true.mp ((Array.all_eq_true_iff_forall_mem.mp hF) _ (Array.getElem_mem ha)) i (List.mem_range.mpr hi)
    simpa [Array.getElem?_eq_getElem hi] using q
  obtain ⟨hsets, hown0⟩ := atoms_of _ (rest_1_c_eq ▸ (show rest_1_c.before _ s = true from hrest))
  have hr0 := Cond.before_iff.mp hown0
  obtain ⟨i0, ei0⟩ := is_v g0
  obtain rfl : w0 = (.int i0) := Option.some.inj ei0
  obtain ⟨i1, ei1⟩ := is_v g1
  obtain rfl : w1 = (.int i1) := Option.some.inj ei1
  obtain ⟨i2, ei2⟩ := is_v g2
  obtain rfl : w2 = (.int i2) := Option.some.inj ei2
  obtain ⟨i3, ei3⟩ := is_v g3
  obtain rfl : w3 = (.int i3) := Option.some.inj ei3
  obtain ⟨i4, ei4⟩ := is_v g4
  obtain rfl : w4 = (.int i4) := Option.some.inj ei4
  obtain ⟨cpt, ecpt⟩ := is_v (Cond.before_iff.mp (hsets _ (List.mem_of_getElem? (i := 1) rfl)))
  have S_cpt : Sta s s.heap "java/lang/String" "COMPACT_STRINGS" "Z" (.int cpt) := Sta.start ecpt (Or.inl (hsets _ (List.mem_of_getElem? (i := 0) rfl)))
  have h_cpt : ¬ (cpt = (0 : Int32)) := gotF (Cond.eq_ints ecpt (Term.int_eval (0))) (not_v (Cond.before_iff.mp (hsets _ (List.mem_of_getElem? (i := 2) rfl))))
  obtain ⟨dflt, edf⟩ := arr_v (Cond.before_iff.mp (hsets _ (List.mem_of_getElem? (i := 15) rfl)))
  have S_df : Sta s s.heap "java/util/ArrayList" "DEFAULTCAPACITY_EMPTY_ELEMENTDATA" "[Ljava/lang/Object;" (.ref dflt) := Sta.start edf (Or.inr ⟨(hw _ (List.mem_of_getElem? (i := 37) rfl)), (hsets _ (List.mem_of_getElem? (i := 11) rfl))⟩)
  obtain ⟨cdf, Adf⟩ := Arr.start edf (Cond.before_iff.mp (hsets _ (List.mem_of_getElem? (i := 15) rfl)))
  have ldf := Cond.eq_int (hsets _ (List.mem_of_getElem? (i := 17) rfl)) rfl
  have V_df : Arv s s.heap dflt cdf.cls (.object "java/lang/Object") (0 : Int32) [] .null := own_emptyArv hfit edf Adf ldf
  obtain ⟨n, o, h1, h2, h3, _, L, rfl, ⟨rfl, N, K⟩, hq⟩ := own_law l s _ hw tables_1 i0 i1 i2 i3 i4 cpt dflt cdf.cls s.heap (Old.start s) S_cpt h_cpt S_df V_df p e ha hc hk s m _ below hf ((Spec.applies_iff_loose hf).mp happ).1 ⟨rfl, State.Warmed39.refl s, rfl⟩ trivial
  refine ⟨n, _, h1, h2, h3, hpost _ _ _ _ _ _ ⟨Cond.after_iff.mpr rfl, Cond.after_iff.mpr (eq_i res_at (Term.int_eval (1)) rfl), trivial⟩ ⟨hq.1, hq.2.1, (hq.2.2.sift fun y hy => Or.inr (N y hy)).mono (by decide) (by decide)⟩⟩
theorem main_1_1 : Claimed_1_1 := own_comes fun _ _ _ _ _ _ h hF => ⟨h.1, hF⟩
theorem main_1_2 : Claimed_1_2 := own_comes fun _ _ _ _ _ _ h hF => ⟨h.2.1, hF⟩
end Jvm.Pilot.@@N@@
namespace Jvm.Pilot.@@N@@
open Jvm Jvm.ClassFile Sem Op Lib Jvm.Free Jvm.Stand Jvm.Pilot.@@N@@.Jvm.D
/-! MADE BY PROGRAM (witnessworld.py) out of the Statement's table words and the real class files: 32 classes; the members and pool entries that the words name. The judged class is class 1, her method 2. -/
namespace start1
open Jvm.ClassFile
def u (s : String) : CpInfo := .utf8 (stringToUtf16 s)
/-- a pool by its gaps: so many unusable entries, then the entry; so many at the end -/
def gap : Nat → List CpInfo → List CpInfo
  | 0, r => r
  | n + 1, r => .unusable :: gap n r
def poolList (es : List (Nat × CpInfo)) (last : Nat) : List CpInfo := es.foldr (fun e r => gap e.1 (e.2 :: r)) (gap last [])
def pool (es : List (Nat × CpInfo)) (last : Nat) : Array CpInfo := ⟨poolList es last⟩
def fileOf (pool : Array CpInfo) (this : Nat) (attrs : Array Attribute := #[]) (ms : Array MethodInfo := #[]) (fl : Nat := 33) (sup : Nat := 0) (ifs : Array Nat := #[]) (fds : Array FieldInfo := #[]) : ClassFile where
  minorVersion := 0
  majorVersion := 65
  constantPool := pool
  accessFlags := fl
  thisClass := this
  superClass := sup
  interfaces := ifs
  fields := fds
  methods := ms
  attributes := attrs
def plain (name : String) (sup : Option ClassId) : Class where
  name := name
  kind := .ordinary
  loader := none
  accessFlags := 33
  super := sup
  interfaces := #[]
  cf := none
  fields := #[]
  methods := #[]
  instanceTypes := #[]
  staticTypes := #[]
  resolved := #[]
  callSites := []
  init := .initialized
  statics := none
  mirror := none

def pool0 : Array CpInfo := pool [(5, u "<init>"), (0, u "()V"), (1, .class_ 10), (1, u "java/lang/Object")] 113

def k0c0 : Code := { maxStack := 0, maxLocals := 1, code := object_method_1_code, exceptionTable := #[], attributes := #[] }
def k0m0 : Method := { name := "<init>", desc := "()V", sig := { parameters := [], returnType := none }, accessFlags := 1, code := some k0c0 }
/-- java/lang/Object -/
def k0 : Class := { plain "java/lang/Object" none with
  accessFlags := 33
  interfaces := #[]
  cf := some (fileOf pool0 8 #[] #[{ accessFlags := 1, nameIndex := 5, descriptorIndex := 6, attributes := #[] }] 33 0 #[] #[])
  fields := #[]
  methods := #[k0m0]
  instanceTypes := #[]
  staticTypes := #[]
  resolved := Array.replicate 124 none
  statics := none }

def pool1 : Array CpInfo := pool [(2, .class_ 4), (0, .nameAndType 5 6), (0, u "java/lang/Object"), (0, u "<init>"), (0, u "()V"), (0, .class_ 8), (0, u "java/lang/String"), (0, .methodref 7 10), (0, .nameAndType 5 11), (0, u "([C)V"), (0, .integer 2147483647), (0, .methodref 14 15), (0, .class_ 16), (0, .nameAndType 17 18), (0, u "com/example/vestibule/vestibule/RecordFieldPinLaw"), (0, u "make"), (0, u "(CC)Ljava/lang/String;"), (0, .class_ 20), (0, u "java/util/ArrayList"), (0, .methodref 19 3), (0, .methodref 19 23), (0, .nameAndType 24 25), (0, u "add"), (0, u "(Ljava/lang/Object;)Z"), (0, .class_ 27), (0, u "com/example/vestibule/vestibule/RecordFile$Record"), (0, .methodref 7 29), (0, .nameAndType 30 31), (0, u "valueOf"), (0, u "(C)Ljava/lang/String;"), (0, .methodref 26 33), (0, .nameAndType 5 34), (0, u "(Ljava/lang/String;ILjava/util/List;)V"), (0, .methodref 26 36), (0, .nameAndType 37 38), (0, u "field"), (0, u "(I)Ljava/lang/String;"), (0, .methodref 7 40), (0, .nameAndType 41 25), (0, u "equals"), (2, u "law"), (0, u "(IIIII)Z")] 7

def k1m0 : Method := { name := "<init>", desc := "()V", sig := { parameters := [], returnType := none }, accessFlags := 1, code := none }
def k1c1 : Code := { maxStack := 3, maxLocals := 3, code := method_2_code, exceptionTable := #[], attributes := #[] }
def k1m1 : Method := { name := "make", desc := "(CC)Ljava/lang/String;", sig := { parameters := [.char, .char], returnType := some (.object "java/lang/String") }, accessFlags := 10, code := some k1c1 }
def k1c2 : Code := { maxStack := 5, maxLocals := 17, code := code, exceptionTable := #[], attributes := #[] }
def k1m2 : Method := { name := "law", desc := "(IIIII)Z", sig := { parameters := [.int, .int, .int, .int, .int], returnType := some .boolean }, accessFlags := 9, code := some k1c2 }
/-- com/example/vestibule/vestibule/RecordFieldPinLaw -/
def k1 : Class := { plain "com/example/vestibule/vestibule/RecordFieldPinLaw" (some 0) with
  accessFlags := 49
  interfaces := #[]
  cf := some (fileOf pool1 14 #[] #[{ accessFlags := 1, nameIndex := 5, descriptorIndex := 6, attributes := #[] }, { accessFlags := 10, nameIndex := 17, descriptorIndex := 18, attributes := #[] }, { accessFlags := 9, nameIndex := 44, descriptorIndex := 45, attributes := #[] }] 49 2 #[] #[])
  fields := #[]
  methods := #[k1m0, k1m1, k1m2]
  instanceTypes := #[]
  staticTypes := #[]
  resolved := Array.replicate 53 none
  statics := none }

def pool2 : Array CpInfo := pool [(1, .class_ 2), (0, u "java/io/Serializable"), (0, .class_ 4), (0, u "java/lang/Object")] 2

/-- java/io/Serializable -/
def k2 : Class := { plain "java/io/Serializable" (some 0) with
  accessFlags := 1537
  interfaces := #[]
  cf := some (fileOf pool2 1 #[] #[] 1537 3 #[] #[])
  fields := #[]
  methods := #[]
  instanceTypes := #[]
  staticTypes := #[]
  resolved := Array.replicate 7 none
  statics := none }

def pool3 : Array CpInfo := pool [(1, .class_ 2), (0, u "java/lang/Comparable"), (0, .class_ 4), (0, u "java/lang/Object")] 7

/-- java/lang/Comparable -/
def k3 : Class := { plain "java/lang/Comparable" (some 0) with
  accessFlags := 1537
  interfaces := #[]
  cf := some (fileOf pool3 1 #[] #[] 1537 3 #[] #[])
  fields := #[]
  methods := #[]
  instanceTypes := #[]
  staticTypes := #[]
  resolved := Array.replicate 12 none
  statics := none }

def pool4 : Array CpInfo := pool [(2, .class_ 4), (1, u "java/lang/CharSequence"), (42, .class_ 48), (0, u "java/lang/CharSequence$1CodePointIterator"), (10, .class_ 60), (0, u "java/lang/CharSequence$1CharIterator"), (5, .class_ 67), (0, u "java/lang/Object")] 63

/-- java/lang/CharSequence -/
def k4 : Class := { plain "java/lang/CharSequence" (some 0) with
  accessFlags := 1537
  interfaces := #[]
  cf := some (fileOf pool4 2 #[.nestMembers #[47, 59]] #[] 1537 66 #[] #[])
  fields := #[]
  methods := #[]
  instanceTypes := #[]
  staticTypes := #[]
  resolved := Array.replicate 131 none
  statics := none }

def pool5 : Array CpInfo := pool [(1, .class_ 2), (0, u "java/lang/constant/Constable"), (0, .class_ 4), (0, u "java/lang/Object")] 6

/-- java/lang/constant/Constable -/
def k5 : Class := { plain "java/lang/constant/Constable" (some 0) with
  accessFlags := 1537
  interfaces := #[]
  cf := some (fileOf pool5 1 #[] #[] 1537 3 #[] #[])
  fields := #[]
  methods := #[]
  instanceTypes := #[]
  staticTypes := #[]
  resolved := Array.replicate 11 none
  statics := none }

def pool6 : Array CpInfo := pool [(1, .class_ 2), (0, u "java/lang/constant/ConstantDesc"), (0, .class_ 4), (0, u "java/lang/Object")] 32

/-- java/lang/constant/ConstantDesc -/
def k6 : Class := { plain "java/lang/constant/ConstantDesc" (some 0) with
  accessFlags := 1537
  interfaces := #[]
  cf := some (fileOf pool6 1 #[] #[] 1537 3 #[] #[])
  fields := #[]
  methods := #[]
  instanceTypes := #[]
  staticTypes := #[]
  resolved := Array.replicate 37 none
  statics := none }

def pool7 : Array CpInfo := pool [(1, .methodref 2 3), (0, .class_ 4), (0, .nameAndType 5 6), (0, u "java/lang/Object"), (0, u "<init>"), (0, u "()V"), (2, .fieldref 10 11), (0, .class_ 12), (0, .nameAndType 13 14), (0, u "java/lang/String"), (0, u "value"), (0, u "[B"), (0, .fieldref 10 16), (0, .nameAndType 17 18), (0, u "coder"), (0, u "B"), (2, u "hash"), (0, u "I"), (2, u "hashIsZero"), (0, u "Z"), (0, .methodref 10 28), (0, .nameAndType 5 29), (0, u "([CIILjava/lang/Void;)V"), (8, .fieldref 10 39), (0, .nameAndType 40 26), (0, u "COMPACT_STRINGS"), (1, .class_ 44), (1, u "java/lang/StringUTF16"), (0, u "compress"), (1, .methodref 42 48), (0, .nameAndType 49 50), (0, u "coderFromArrayLen"), (0, u "([BI)B"), (2, u "toBytes"), (53, .class_ 109), (1, u "java/lang/StringLatin1"), (67, .methodref 42 178), (0, .nameAndType 45 179), (0, u "([CII)[B"), (29, .methodref 10 210), (0, .nameAndType 5 211), (0, u "([BB)V"), (157, u "(C)Z"), (173, u "equals"), (29, u "(Ljava/lang/Object;)Z"), (1, .class_ 576), (0, u "java/lang/CharSequence"), (22, u "CASE_INSENSITIVE_ORDER"), (0, u "Ljava/util/Comparator;"), (181, u "valueOf"), (0, u "(C)Ljava/lang/String;"), (226, u "([C)V"), (4, .methodref 107 1016), (0, .nameAndType 1017 369), (0, u "canEncode"), (0, .methodref 107 1019), (0, .nameAndType 53 1020), (0, u "(C)[B"), (80, u "serialPersistentFields"), (0, u "[Ljava/io/ObjectStreamField;"), (0, .class_ 1104), (0, u "java/lang/String$CaseInsensitiveComparator"), (1, .class_ 1107), (0, u "java/io/Serializable"), (0, .class_ 1109), (0, u "java/lang/Comparable"), (0, .class_ 1111), (0, u "java/lang/constant/Constable"), (0, .class_ 1113), (0, u "java/lang/constant/ConstantDesc"), (2, u "serialVersionUID"), (0, u "J"), (3, u "REPL"), (0, u "C"), (2, u "LATIN1"), (1, u "UTF16")] 323

def k7m0 : Method := { name := "<init>", desc := "()V", sig := { parameters := [], returnType := none }, accessFlags := 1, code := none }
def k7c1 : Code := { maxStack := 5, maxLocals := 2, code := jdk_42_method_3_code, exceptionTable := #[], attributes := #[] }
def k7m1 : Method := { name := "<init>", desc := "([C)V", sig := { parameters := [(.array .char)], returnType := none }, accessFlags := 1, code := some k7c1 }
def k7c2 : Code := { maxStack := 2, maxLocals := 3, code := jdk_42_method_66_code, exceptionTable := #[], attributes := #[] }
def k7m2 : Method := { name := "equals", desc := "(Ljava/lang/Object;)Z", sig := { parameters := [(.object "java/lang/Object")], returnType := some .boolean }, accessFlags := 1, code := some k7c2 }
def k7c3 : Code := { maxStack := 4, maxLocals := 1, code := jdk_42_method_139_code, exceptionTable := #[], attributes := #[] }
def k7m3 : Method := { name := "valueOf", desc := "(C)Ljava/lang/String;", sig := { parameters := [.char], returnType := some (.object "java/lang/String") }, accessFlags := 9, code := some k7c3 }
def k7c4 : Code := { maxStack := 4, maxLocals := 6, code := jdk_42_method_149_code, exceptionTable := #[], attributes := #[] }
def k7m4 : Method := { name := "<init>", desc := "([CIILjava/lang/Void;)V", sig := { parameters := [(.array .char), .int, .int, (.object "java/lang/Void")], returnType := none }, accessFlags := 2, code := some k7c4 }
def k7c5 : Code := { maxStack := 2, maxLocals := 3, code := jdk_42_method_151_code, exceptionTable := #[], attributes := #[] }
def k7m5 : Method := { name := "<init>", desc := "([BB)V", sig := { parameters := [(.array .byte), .byte], returnType := none }, accessFlags := 0, code := some k7c5 }
/-- java/lang/String -/
def k7 : Class := { plain "java/lang/String" (some 0) with
  accessFlags := 49
  interfaces := #[2, 3, 4, 5, 6]
  cf := some (fileOf pool7 10 #[.nestMembers #[1103]] #[{ accessFlags := 1, nameIndex := 5, descriptorIndex := 6, attributes := #[] }, { accessFlags := 1, nameIndex := 5, descriptorIndex := 1010, attributes := #[] }, { accessFlags := 1, nameIndex := 543, descriptorIndex := 573, attributes := #[] }, { accessFlags := 9, nameIndex := 782, descriptorIndex := 783, attributes := #[] }, { accessFlags := 2, nameIndex := 5, descriptorIndex := 29, attributes := #[] }, { accessFlags := 0, nameIndex := 5, descriptorIndex := 211, attributes := #[] }] 49 2 #[1106, 1108, 575, 1110, 1112] #[{ accessFlags := 18, nameIndex := 13, descriptorIndex := 14, attributes := #[] }, { accessFlags := 18, nameIndex := 17, descriptorIndex := 18, attributes := #[] }, { accessFlags := 2, nameIndex := 21, descriptorIndex := 22, attributes := #[] }, { accessFlags := 2, nameIndex := 25, descriptorIndex := 26, attributes := #[] }, { accessFlags := 26, nameIndex := 1116, descriptorIndex := 1117, attributes := #[] }, { accessFlags := 24, nameIndex := 40, descriptorIndex := 26, attributes := #[] }, { accessFlags := 26, nameIndex := 1101, descriptorIndex := 1102, attributes := #[] }, { accessFlags := 26, nameIndex := 1121, descriptorIndex := 1122, attributes := #[] }, { accessFlags := 25, nameIndex := 599, descriptorIndex := 600, attributes := #[] }, { accessFlags := 24, nameIndex := 1125, descriptorIndex := 18, attributes := #[] }, { accessFlags := 24, nameIndex := 1127, descriptorIndex := 18, attributes := #[] }])
  fields := #[{ name := "value", type := (.array .byte), accessFlags := 18, slot := 0, constantValue := 0 }, { name := "coder", type := .byte, accessFlags := 18, slot := 1, constantValue := 0 }, { name := "hash", type := .int, accessFlags := 2, slot := 2, constantValue := 0 }, { name := "hashIsZero", type := .boolean, accessFlags := 2, slot := 3, constantValue := 0 }, { name := "serialVersionUID", type := .long, accessFlags := 26, slot := 0, constantValue := 0 }, { name := "COMPACT_STRINGS", type := .boolean, accessFlags := 24, slot := 1, constantValue := 0 }, { name := "serialPersistentFields", type := (.array (.object "java/io/ObjectStreamField")), accessFlags := 26, slot := 2, constantValue := 0 }, { name := "REPL", type := .char, accessFlags := 26, slot := 3, constantValue := 0 }, { name := "CASE_INSENSITIVE_ORDER", type := (.object "java/util/Comparator"), accessFlags := 25, slot := 4, constantValue := 0 }, { name := "LATIN1", type := .byte, accessFlags := 24, slot := 5, constantValue := 0 }, { name := "UTF16", type := .byte, accessFlags := 24, slot := 6, constantValue := 0 }]
  methods := #[k7m0, k7m1, k7m2, k7m3, k7m4, k7m5]
  instanceTypes := #[(.array .byte), .byte, .int, .boolean]
  staticTypes := #[.long, .boolean, (.array (.object "java/io/ObjectStreamField")), .char, (.object "java/util/Comparator"), .byte, .byte]
  resolved := Array.replicate 1451 none
  statics := some 0 }

def pool8 : Array CpInfo := pool [(6, .class_ 8), (1, u "java/lang/Object"), (0, u "<init>"), (0, u "()V"), (1, .class_ 14), (1, u "java/lang/StringUTF16"), (31, u "$assertionsDisabled"), (0, u "Z"), (13, u "HI_BYTE_SHIFT"), (0, u "I"), (2, u "LO_BYTE_SHIFT"), (49, .methodref 12 116), (0, .nameAndType 117 118), (0, u "compress"), (0, u "([CI[BII)I"), (3, u "([CII)[B"), (138, u "coderFromArrayLen"), (0, u "([BI)B"), (106, .class_ 371), (1, u "java/lang/StringUTF16$LinesSpliterator"), (58, u "MAX_LENGTH"), (196, .class_ 628), (0, u "java/lang/StringUTF16$CodePointsSpliterator"), (0, .class_ 630), (0, u "java/lang/StringUTF16$CharsSpliterator")] 4

def k8m0 : Method := { name := "<init>", desc := "()V", sig := { parameters := [], returnType := none }, accessFlags := 0, code := none }
def k8c1 : Code := { maxStack := 2, maxLocals := 2, code := jdk_52_method_15_code, exceptionTable := #[], attributes := #[] }
def k8m1 : Method := { name := "coderFromArrayLen", desc := "([BI)B", sig := { parameters := [(.array .byte), .int], returnType := some .byte }, accessFlags := 8, code := some k8c1 }
def k8c2 : Code := { maxStack := 5, maxLocals := 6, code := jdk_52_method_16_code, exceptionTable := #[], attributes := #[] }
def k8m2 : Method := { name := "compress", desc := "([CII)[B", sig := { parameters := [(.array .char), .int, .int], returnType := some (.array .byte) }, accessFlags := 9, code := some k8c2 }
def k8c3 : Code := { maxStack := 3, maxLocals := 7, code := jdk_52_method_21_code, exceptionTable := #[], attributes := #[] }
def k8m3 : Method := { name := "compress", desc := "([CI[BII)I", sig := { parameters := [(.array .char), .int, (.array .byte), .int, .int], returnType := some .int }, accessFlags := 9, code := some k8c3 }
/-- java/lang/StringUTF16 -/
def k8 : Class := { plain "java/lang/StringUTF16" (some 0) with
  accessFlags := 48
  interfaces := #[]
  cf := some (fileOf pool8 12 #[.nestMembers #[627, 629, 369]] #[{ accessFlags := 0, nameIndex := 9, descriptorIndex := 10, attributes := #[] }, { accessFlags := 8, nameIndex := 261, descriptorIndex := 262, attributes := #[] }, { accessFlags := 9, nameIndex := 117, descriptorIndex := 122, attributes := #[] }, { accessFlags := 9, nameIndex := 117, descriptorIndex := 118, attributes := #[] }] 48 6 #[] #[{ accessFlags := 26, nameIndex := 61, descriptorIndex := 62, attributes := #[] }, { accessFlags := 26, nameIndex := 65, descriptorIndex := 62, attributes := #[] }, { accessFlags := 24, nameIndex := 430, descriptorIndex := 62, attributes := #[] }, { accessFlags := 4120, nameIndex := 46, descriptorIndex := 47, attributes := #[] }])
  fields := #[{ name := "HI_BYTE_SHIFT", type := .int, accessFlags := 26, slot := 0, constantValue := 0 }, { name := "LO_BYTE_SHIFT", type := .int, accessFlags := 26, slot := 1, constantValue := 0 }, { name := "MAX_LENGTH", type := .int, accessFlags := 24, slot := 2, constantValue := 0 }, { name := "$assertionsDisabled", type := .boolean, accessFlags := 4120, slot := 3, constantValue := 0 }]
  methods := #[k8m0, k8m1, k8m2, k8m3]
  instanceTypes := #[]
  staticTypes := #[.int, .int, .int, .boolean]
  resolved := Array.replicate 635 none
  statics := none }

def pool9 : Array CpInfo := pool [(8, .class_ 10), (1, u "java/lang/Iterable"), (24, .class_ 36), (0, u "java/lang/Object")] 25

/-- java/lang/Iterable -/
def k9 : Class := { plain "java/lang/Iterable" (some 0) with
  accessFlags := 1537
  interfaces := #[]
  cf := some (fileOf pool9 8 #[] #[] 1537 35 #[] #[])
  fields := #[]
  methods := #[]
  instanceTypes := #[]
  staticTypes := #[]
  resolved := Array.replicate 62 none
  statics := none }

def pool10 : Array CpInfo := pool [(10, .class_ 12), (1, u "java/util/Collection"), (47, .class_ 61), (0, u "java/lang/Object"), (0, .class_ 63), (0, u "java/lang/Iterable")] 51

/-- java/util/Collection -/
def k10 : Class := { plain "java/util/Collection" (some 0) with
  accessFlags := 1537
  interfaces := #[9]
  cf := some (fileOf pool10 10 #[] #[] 1537 60 #[62] #[])
  fields := #[]
  methods := #[]
  instanceTypes := #[]
  staticTypes := #[]
  resolved := Array.replicate 115 none
  statics := none }

def pool11 : Array CpInfo := pool [(1, .methodref 2 3), (0, .class_ 4), (0, .nameAndType 5 6), (0, u "java/lang/Object"), (0, u "<init>"), (0, u "()V"), (1, .class_ 10), (1, u "java/util/AbstractCollection"), (66, .class_ 78), (0, u "java/util/Collection")] 81

def k11c0 : Code := { maxStack := 1, maxLocals := 1, code := jdk_22_method_1_code, exceptionTable := #[], attributes := #[] }
def k11m0 : Method := { name := "<init>", desc := "()V", sig := { parameters := [], returnType := none }, accessFlags := 4, code := some k11c0 }
/-- java/util/AbstractCollection -/
def k11 : Class := { plain "java/util/AbstractCollection" (some 0) with
  accessFlags := 1057
  interfaces := #[10]
  cf := some (fileOf pool11 8 #[] #[{ accessFlags := 4, nameIndex := 5, descriptorIndex := 6, attributes := #[] }] 1057 2 #[77] #[])
  fields := #[]
  methods := #[k11m0]
  instanceTypes := #[]
  staticTypes := #[]
  resolved := Array.replicate 160 none
  statics := none }

def pool12 : Array CpInfo := pool [(8, .class_ 10), (1, u "java/util/SequencedCollection"), (15, .class_ 27), (0, u "java/lang/Object"), (0, .class_ 29), (0, u "java/util/Collection")] 27

/-- java/util/SequencedCollection -/
def k12 : Class := { plain "java/util/SequencedCollection" (some 0) with
  accessFlags := 1537
  interfaces := #[10]
  cf := some (fileOf pool12 8 #[] #[] 1537 26 #[28] #[])
  fields := #[]
  methods := #[]
  instanceTypes := #[]
  staticTypes := #[]
  resolved := Array.replicate 57 none
  statics := none }

def pool13 : Array CpInfo := pool [(8, .class_ 10), (1, u "java/util/List"), (64, u "get"), (0, u "(I)Ljava/lang/Object;"), (26, .class_ 104), (0, u "java/lang/Object"), (15, .class_ 121), (0, u "java/util/SequencedCollection")] 129

def k13m0 : Method := { name := "get", desc := "(I)Ljava/lang/Object;", sig := { parameters := [.int], returnType := some (.object "java/lang/Object") }, accessFlags := 1025, code := none }
/-- java/util/List -/
def k13 : Class := { plain "java/util/List" (some 0) with
  accessFlags := 1537
  interfaces := #[12]
  cf := some (fileOf pool13 8 #[] #[{ accessFlags := 1025, nameIndex := 75, descriptorIndex := 76, attributes := #[] }] 1537 103 #[120] #[])
  fields := #[]
  methods := #[k13m0]
  instanceTypes := #[]
  staticTypes := #[]
  resolved := Array.replicate 251 none
  statics := none }

def pool14 : Array CpInfo := pool [(1, .methodref 2 3), (0, .class_ 4), (0, .nameAndType 5 6), (0, u "java/util/AbstractCollection"), (0, u "<init>"), (0, u "()V"), (0, .fieldref 8 9), (0, .class_ 10), (0, .nameAndType 11 12), (0, u "java/util/AbstractList"), (0, u "modCount"), (0, u "I"), (64, .class_ 78), (0, u "java/util/AbstractList$Itr"), (3, .class_ 83), (0, u "java/util/AbstractList$ListItr"), (9, .class_ 94), (0, u "java/util/AbstractList$RandomAccessSubList"), (3, .class_ 99), (0, u "java/util/AbstractList$SubList"), (33, .class_ 134), (0, u "java/util/List"), (73, .class_ 209), (0, u "java/util/AbstractList$SubList$1"), (0, .class_ 211), (0, u "java/util/AbstractList$RandomAccessSpliterator")] 6

def k14c0 : Code := { maxStack := 2, maxLocals := 1, code := jdk_39_method_1_code, exceptionTable := #[], attributes := #[] }
def k14m0 : Method := { name := "<init>", desc := "()V", sig := { parameters := [], returnType := none }, accessFlags := 4, code := some k14c0 }
/-- java/util/AbstractList -/
def k14 : Class := { plain "java/util/AbstractList" (some 11) with
  accessFlags := 1057
  interfaces := #[13]
  cf := some (fileOf pool14 8 #[.nestMembers #[93, 98, 208, 210, 82, 77]] #[{ accessFlags := 4, nameIndex := 5, descriptorIndex := 6, attributes := #[] }] 1057 2 #[133] #[{ accessFlags := 132, nameIndex := 11, descriptorIndex := 12, attributes := #[] }])
  fields := #[{ name := "modCount", type := .int, accessFlags := 132, slot := 0, constantValue := 0 }]
  methods := #[k14m0]
  instanceTypes := #[.int]
  staticTypes := #[]
  resolved := Array.replicate 218 none
  statics := none }

def pool15 : Array CpInfo := pool [(1, .class_ 2), (0, u "java/util/RandomAccess"), (0, .class_ 4), (0, u "java/lang/Object")] 2

/-- java/util/RandomAccess -/
def k15 : Class := { plain "java/util/RandomAccess" (some 0) with
  accessFlags := 1537
  interfaces := #[]
  cf := some (fileOf pool15 1 #[] #[] 1537 3 #[] #[])
  fields := #[]
  methods := #[]
  instanceTypes := #[]
  staticTypes := #[]
  resolved := Array.replicate 7 none
  statics := none }

def pool16 : Array CpInfo := pool [(1, .class_ 2), (0, u "java/lang/Cloneable"), (0, .class_ 4), (0, u "java/lang/Object")] 2

/-- java/lang/Cloneable -/
def k16 : Class := { plain "java/lang/Cloneable" (some 0) with
  accessFlags := 1537
  interfaces := #[]
  cf := some (fileOf pool16 1 #[] #[] 1537 3 #[] #[])
  fields := #[]
  methods := #[]
  instanceTypes := #[]
  staticTypes := #[]
  resolved := Array.replicate 7 none
  statics := none }

def pool17 : Array CpInfo := pool [(1, .methodref 2 3), (0, .class_ 4), (0, .nameAndType 5 6), (0, u "java/util/AbstractList"), (0, u "<init>"), (0, u "()V"), (0, .class_ 8), (0, u "java/lang/Object"), (0, .fieldref 10 11), (0, .class_ 12), (0, .nameAndType 13 14), (0, u "java/util/ArrayList"), (0, u "elementData"), (0, u "[Ljava/lang/Object;"), (2, u "EMPTY_ELEMENTDATA"), (21, .fieldref 10 40), (0, .nameAndType 41 14), (0, u "DEFAULTCAPACITY_EMPTY_ELEMENTDATA"), (5, u "()[Ljava/lang/Object;"), (0, .fieldref 10 49), (0, .nameAndType 50 51), (0, u "size"), (0, u "I"), (11, .fieldref 10 64), (0, .nameAndType 65 51), (0, u "modCount"), (3, .methodref 10 70), (0, .nameAndType 71 72), (0, u "grow"), (0, u "(I)[Ljava/lang/Object;"), (6, .methodref 80 81), (0, .class_ 82), (0, .nameAndType 83 84), (0, u "java/lang/Math"), (0, u "max"), (0, u "(II)I"), (11, u "(Ljava/lang/Object;)Z"), (21, .methodref 119 120), (0, .class_ 121), (0, .nameAndType 122 84), (0, u "java/util/Objects"), (0, u "checkIndex"), (0, .methodref 10 124), (0, .nameAndType 13 125), (0, u "(I)Ljava/lang/Object;"), (3, .methodref 10 130), (0, .nameAndType 71 47), (0, .methodref 10 132), (0, .nameAndType 133 134), (0, u "add"), (0, u "(Ljava/lang/Object;[Ljava/lang/Object;I)V"), (13, .class_ 149), (0, u "java/util/List"), (112, .class_ 263), (0, u "java/util/ArrayList$ListItr"), (3, .class_ 268), (0, u "java/util/ArrayList$Itr"), (7, .class_ 277), (0, u "java/util/ArrayList$SubList"), (12, .class_ 291), (0, u "java/util/ArrayList$ArrayListSpliterator"), (37, .class_ 330), (0, u "java/util/RandomAccess"), (0, .class_ 332), (0, u "java/lang/Cloneable"), (0, .class_ 334), (0, u "java/io/Serializable"), (0, u "serialVersionUID"), (0, u "J"), (3, u "DEFAULT_CAPACITY"), (40, u "get"), (118, .class_ 501), (0, u "java/util/ArrayList$SubList$2"), (0, .class_ 503), (0, u "java/util/ArrayList$SubList$1")] 5

def k17c0 : Code := { maxStack := 2, maxLocals := 1, code := jdk_38_method_2_code, exceptionTable := #[], attributes := #[] }
def k17m0 : Method := { name := "<init>", desc := "()V", sig := { parameters := [], returnType := none }, accessFlags := 1, code := some k17c0 }
def k17c1 : Code := { maxStack := 4, maxLocals := 4, code := jdk_38_method_6_code, exceptionTable := #[], attributes := #[] }
def k17m1 : Method := { name := "grow", desc := "(I)[Ljava/lang/Object;", sig := { parameters := [.int], returnType := some (.array (.object "java/lang/Object")) }, accessFlags := 2, code := some k17c1 }
def k17c2 : Code := { maxStack := 3, maxLocals := 1, code := jdk_38_method_7_code, exceptionTable := #[], attributes := #[] }
def k17m2 : Method := { name := "grow", desc := "()[Ljava/lang/Object;", sig := { parameters := [], returnType := some (.array (.object "java/lang/Object")) }, accessFlags := 2, code := some k17c2 }
def k17c3 : Code := { maxStack := 2, maxLocals := 2, code := jdk_38_method_18_code, exceptionTable := #[], attributes := #[] }
def k17m3 : Method := { name := "elementData", desc := "(I)Ljava/lang/Object;", sig := { parameters := [.int], returnType := some (.object "java/lang/Object") }, accessFlags := 0, code := some k17c3 }
def k17c4 : Code := { maxStack := 2, maxLocals := 2, code := jdk_38_method_20_code, exceptionTable := #[], attributes := #[] }
def k17m4 : Method := { name := "get", desc := "(I)Ljava/lang/Object;", sig := { parameters := [.int], returnType := some (.object "java/lang/Object") }, accessFlags := 1, code := some k17c4 }
def k17c5 : Code := { maxStack := 3, maxLocals := 4, code := jdk_38_method_24_code, exceptionTable := #[], attributes := #[] }
def k17m5 : Method := { name := "add", desc := "(Ljava/lang/Object;[Ljava/lang/Object;I)V", sig := { parameters := [(.object "java/lang/Object"), (.array (.object "java/lang/Object")), .int], returnType := none }, accessFlags := 2, code := some k17c5 }
def k17c6 : Code := { maxStack := 4, maxLocals := 2, code := jdk_38_method_25_code, exceptionTable := #[], attributes := #[] }
def k17m6 : Method := { name := "add", desc := "(Ljava/lang/Object;)Z", sig := { parameters := [(.object "java/lang/Object")], returnType := some .boolean }, accessFlags := 1, code := some k17c6 }
/-- java/util/ArrayList -/
def k17 : Class := { plain "java/util/ArrayList" (some 14) with
  accessFlags := 33
  interfaces := #[13, 15, 16, 2]
  cf := some (fileOf pool17 10 #[.nestMembers #[290, 276, 500, 502, 262, 267]] #[{ accessFlags := 1, nameIndex := 5, descriptorIndex := 6, attributes := #[] }, { accessFlags := 2, nameIndex := 71, descriptorIndex := 72, attributes := #[] }, { accessFlags := 2, nameIndex := 71, descriptorIndex := 47, attributes := #[] }, { accessFlags := 0, nameIndex := 13, descriptorIndex := 125, attributes := #[] }, { accessFlags := 1, nameIndex := 381, descriptorIndex := 125, attributes := #[] }, { accessFlags := 2, nameIndex := 133, descriptorIndex := 134, attributes := #[] }, { accessFlags := 1, nameIndex := 133, descriptorIndex := 96, attributes := #[] }] 33 2 #[148, 329, 331, 333] #[{ accessFlags := 26, nameIndex := 335, descriptorIndex := 336, attributes := #[] }, { accessFlags := 26, nameIndex := 340, descriptorIndex := 51, attributes := #[] }, { accessFlags := 26, nameIndex := 17, descriptorIndex := 14, attributes := #[] }, { accessFlags := 26, nameIndex := 41, descriptorIndex := 14, attributes := #[] }, { accessFlags := 128, nameIndex := 13, descriptorIndex := 14, attributes := #[] }, { accessFlags := 2, nameIndex := 50, descriptorIndex := 51, attributes := #[] }])
  fields := #[{ name := "serialVersionUID", type := .long, accessFlags := 26, slot := 0, constantValue := 0 }, { name := "DEFAULT_CAPACITY", type := .int, accessFlags := 26, slot := 1, constantValue := 0 }, { name := "EMPTY_ELEMENTDATA", type := (.array (.object "java/lang/Object")), accessFlags := 26, slot := 2, constantValue := 0 }, { name := "DEFAULTCAPACITY_EMPTY_ELEMENTDATA", type := (.array (.object "java/lang/Object")), accessFlags := 26, slot := 3, constantValue := 0 }, { name := "elementData", type := (.array (.object "java/lang/Object")), accessFlags := 128, slot := 1, constantValue := 0 }, { name := "size", type := .int, accessFlags := 2, slot := 2, constantValue := 0 }]
  methods := #[k17m0, k17m1, k17m2, k17m3, k17m4, k17m5, k17m6]
  instanceTypes := #[.int, (.array (.object "java/lang/Object")), .int]
  staticTypes := #[.long, .int, (.array (.object "java/lang/Object")), (.array (.object "java/lang/Object"))]
  resolved := Array.replicate 509 none
  statics := some 1 }

def pool18 : Array CpInfo := pool [(1, .class_ 2), (0, u "java/lang/Math"), (1, .class_ 6), (1, u "java/lang/Object"), (0, u "<init>"), (0, u "()V"), (89, .class_ 100), (1, u "java/lang/Math$RandomNumberGeneratorHolder"), (71, u "negativeZeroFloatBits"), (0, u "J"), (2, u "negativeZeroDoubleBits"), (21, u "max"), (46, u "$assertionsDisabled"), (0, u "Z"), (88, u "(II)I"), (2, u "twoToTheDoubleScaleDown"), (0, u "D"), (4, u "twoToTheDoubleScaleUp"), (9, u "E"), (3, u "PI"), (2, u "TAU"), (2, u "DEGREES_TO_RADIANS"), (0, u "RADIANS_TO_DEGREES")] 94

def k18m0 : Method := { name := "<init>", desc := "()V", sig := { parameters := [], returnType := none }, accessFlags := 2, code := none }
def k18c1 : Code := { maxStack := 2, maxLocals := 2, code := jdk_29_method_65_code, exceptionTable := #[], attributes := #[] }
def k18m1 : Method := { name := "max", desc := "(II)I", sig := { parameters := [.int, .int], returnType := some .int }, accessFlags := 9, code := some k18c1 }
/-- java/lang/Math -/
def k18 : Class := { plain "java/lang/Math" (some 0) with
  accessFlags := 49
  interfaces := #[]
  cf := some (fileOf pool18 1 #[.nestMembers #[98]] #[{ accessFlags := 2, nameIndex := 7, descriptorIndex := 8, attributes := #[] }, { accessFlags := 9, nameIndex := 198, descriptorIndex := 335, attributes := #[] }] 49 4 #[] #[{ accessFlags := 25, nameIndex := 354, descriptorIndex := 339, attributes := #[] }, { accessFlags := 25, nameIndex := 358, descriptorIndex := 339, attributes := #[] }, { accessFlags := 25, nameIndex := 361, descriptorIndex := 339, attributes := #[] }, { accessFlags := 26, nameIndex := 364, descriptorIndex := 339, attributes := #[] }, { accessFlags := 26, nameIndex := 365, descriptorIndex := 339, attributes := #[] }, { accessFlags := 26, nameIndex := 172, descriptorIndex := 173, attributes := #[] }, { accessFlags := 26, nameIndex := 176, descriptorIndex := 173, attributes := #[] }, { accessFlags := 8, nameIndex := 344, descriptorIndex := 339, attributes := #[] }, { accessFlags := 8, nameIndex := 338, descriptorIndex := 339, attributes := #[] }, { accessFlags := 4120, nameIndex := 245, descriptorIndex := 246, attributes := #[] }])
  fields := #[{ name := "E", type := .double, accessFlags := 25, slot := 0, constantValue := 0 }, { name := "PI", type := .double, accessFlags := 25, slot := 1, constantValue := 0 }, { name := "TAU", type := .double, accessFlags := 25, slot := 2, constantValue := 0 }, { name := "DEGREES_TO_RADIANS", type := .double, accessFlags := 26, slot := 3, constantValue := 0 }, { name := "RADIANS_TO_DEGREES", type := .double, accessFlags := 26, slot := 4, constantValue := 0 }, { name := "negativeZeroFloatBits", type := .long, accessFlags := 26, slot := 5, constantValue := 0 }, { name := "negativeZeroDoubleBits", type := .long, accessFlags := 26, slot := 6, constantValue := 0 }, { name := "twoToTheDoubleScaleUp", type := .double, accessFlags := 8, slot := 7, constantValue := 0 }, { name := "twoToTheDoubleScaleDown", type := .double, accessFlags := 8, slot := 8, constantValue := 0 }, { name := "$assertionsDisabled", type := .boolean, accessFlags := 4120, slot := 9, constantValue := 0 }]
  methods := #[k18m0, k18m1]
  instanceTypes := #[]
  staticTypes := #[.double, .double, .double, .double, .double, .long, .long, .double, .double, .boolean]
  resolved := Array.replicate 460 none
  statics := none }

def pool19 : Array CpInfo := pool [(1, .methodref 2 3), (0, .class_ 4), (0, .nameAndType 5 6), (0, u "java/lang/Object"), (0, u "<init>"), (0, u "()V"), (0, .class_ 8), (0, u "java/lang/Record")] 13

def k19c0 : Code := { maxStack := 1, maxLocals := 1, code := jdk_30_method_1_code, exceptionTable := #[], attributes := #[] }
def k19m0 : Method := { name := "<init>", desc := "()V", sig := { parameters := [], returnType := none }, accessFlags := 4, code := some k19c0 }
/-- java/lang/Record -/
def k19 : Class := { plain "java/lang/Record" (some 0) with
  accessFlags := 1057
  interfaces := #[]
  cf := some (fileOf pool19 7 #[] #[{ accessFlags := 4, nameIndex := 5, descriptorIndex := 6, attributes := #[] }] 1057 2 #[] #[])
  fields := #[]
  methods := #[k19m0]
  instanceTypes := #[]
  staticTypes := #[]
  resolved := Array.replicate 22 none
  statics := none }

def pool20 : Array CpInfo := pool [(1, .methodref 2 3), (0, .class_ 4), (0, .nameAndType 5 6), (0, u "java/lang/Record"), (0, u "<init>"), (0, u "()V"), (0, .fieldref 8 9), (0, .class_ 10), (0, .nameAndType 11 12), (0, u "com/example/vestibule/vestibule/RecordFile$Record"), (0, u "source"), (0, u "Ljava/lang/String;"), (0, .fieldref 8 14), (0, .nameAndType 15 16), (0, u "line"), (0, u "I"), (0, .fieldref 8 18), (0, .nameAndType 19 20), (0, u "fields"), (0, u "Ljava/util/List;"), (0, .interfaceMethodref 22 23), (0, .class_ 24), (0, .nameAndType 25 26), (0, u "java/util/List"), (0, u "get"), (0, u "(I)Ljava/lang/Object;"), (0, .class_ 28), (0, u "java/lang/String"), (2, u "field"), (0, u "(I)Ljava/lang/String;"), (55, u "(Ljava/lang/String;ILjava/util/List;)V"), (19, .class_ 109), (0, u "com/example/vestibule/vestibule/RecordFile")] 32

def k20c0 : Code := { maxStack := 2, maxLocals := 4, code := prog_40_method_1_code, exceptionTable := #[], attributes := #[] }
def k20m0 : Method := { name := "<init>", desc := "(Ljava/lang/String;ILjava/util/List;)V", sig := { parameters := [(.object "java/lang/String"), .int, (.object "java/util/List")], returnType := none }, accessFlags := 0, code := some k20c0 }
def k20c1 : Code := { maxStack := 2, maxLocals := 2, code := prog_40_method_3_code, exceptionTable := #[], attributes := #[] }
def k20m1 : Method := { name := "field", desc := "(I)Ljava/lang/String;", sig := { parameters := [.int], returnType := some (.object "java/lang/String") }, accessFlags := 0, code := some k20c1 }
/-- com/example/vestibule/vestibule/RecordFile$Record -/
def k20 : Class := { plain "com/example/vestibule/vestibule/RecordFile$Record" (some 19) with
  accessFlags := 48
  interfaces := #[]
  cf := some (fileOf pool20 8 #[.nestHost 108] #[{ accessFlags := 0, nameIndex := 5, descriptorIndex := 88, attributes := #[] }, { accessFlags := 0, nameIndex := 31, descriptorIndex := 32, attributes := #[] }] 48 2 #[] #[{ accessFlags := 18, nameIndex := 11, descriptorIndex := 12, attributes := #[] }, { accessFlags := 18, nameIndex := 15, descriptorIndex := 16, attributes := #[] }, { accessFlags := 18, nameIndex := 19, descriptorIndex := 20, attributes := #[] }])
  fields := #[{ name := "source", type := (.object "java/lang/String"), accessFlags := 18, slot := 0, constantValue := 0 }, { name := "line", type := .int, accessFlags := 18, slot := 1, constantValue := 0 }, { name := "fields", type := (.object "java/util/List"), accessFlags := 18, slot := 2, constantValue := 0 }]
  methods := #[k20m0, k20m1]
  instanceTypes := #[(.object "java/lang/String"), .int, (.object "java/util/List")]
  staticTypes := #[]
  resolved := Array.replicate 142 none
  statics := none }

def pool21 : Array CpInfo := pool [(4, .class_ 6), (1, u "java/lang/Object"), (0, u "<init>"), (0, u "()V"), (5, .class_ 16), (1, u "java/lang/StringLatin1"), (73, u "canEncode"), (14, u "(C)Z"), (15, u "$assertionsDisabled"), (0, u "Z"), (98, .class_ 223), (1, u "java/lang/StringLatin1$LinesSpliterator"), (156, u "toBytes"), (1, u "(C)[B"), (7, .class_ 391), (0, u "java/lang/StringLatin1$CharsSpliterator")] 3

def k21m0 : Method := { name := "<init>", desc := "()V", sig := { parameters := [], returnType := none }, accessFlags := 0, code := none }
def k21c1 : Code := { maxStack := 2, maxLocals := 1, code := jdk_43_method_3_code, exceptionTable := #[], attributes := #[] }
def k21m1 : Method := { name := "canEncode", desc := "(C)Z", sig := { parameters := [.char], returnType := some .boolean }, accessFlags := 9, code := some k21c1 }
def k21c2 : Code := { maxStack := 4, maxLocals := 1, code := jdk_43_method_46_code, exceptionTable := #[], attributes := #[] }
def k21m2 : Method := { name := "toBytes", desc := "(C)[B", sig := { parameters := [.char], returnType := some (.array .byte) }, accessFlags := 9, code := some k21c2 }
/-- java/lang/StringLatin1 -/
def k21 : Class := { plain "java/lang/StringLatin1" (some 0) with
  accessFlags := 48
  interfaces := #[]
  cf := some (fileOf pool21 14 #[.nestMembers #[390, 221]] #[{ accessFlags := 0, nameIndex := 7, descriptorIndex := 8, attributes := #[] }, { accessFlags := 9, nameIndex := 90, descriptorIndex := 105, attributes := #[] }, { accessFlags := 9, nameIndex := 380, descriptorIndex := 382, attributes := #[] }] 48 4 #[] #[{ accessFlags := 4120, nameIndex := 121, descriptorIndex := 122, attributes := #[] }])
  fields := #[{ name := "$assertionsDisabled", type := .boolean, accessFlags := 4120, slot := 0, constantValue := 0 }]
  methods := #[k21m0, k21m1, k21m2]
  instanceTypes := #[]
  staticTypes := #[.boolean]
  resolved := Array.replicate 395 none
  statics := none }

def pool22 : Array CpInfo := pool [(2, .class_ 4), (1, u "java/lang/Object"), (0, u "<init>"), (0, u "()V"), (35, .class_ 44), (1, u "java/util/Objects"), (60, .methodref 106 107), (0, .class_ 108), (0, .nameAndType 109 110), (0, u "jdk/internal/util/Preconditions"), (0, u "checkIndex"), (0, u "(IILjava/util/function/BiFunction;)I"), (60, u "(II)I")] 12

def k22m0 : Method := { name := "<init>", desc := "()V", sig := { parameters := [], returnType := none }, accessFlags := 2, code := none }
def k22c1 : Code := { maxStack := 3, maxLocals := 2, code := jdk_31_method_17_code, exceptionTable := #[], attributes := #[] }
def k22m1 : Method := { name := "checkIndex", desc := "(II)I", sig := { parameters := [.int, .int], returnType := some .int }, accessFlags := 9, code := some k22c1 }
/-- java/util/Objects -/
def k22 : Class := { plain "java/util/Objects" (some 0) with
  accessFlags := 49
  interfaces := #[]
  cf := some (fileOf pool22 42 #[] #[{ accessFlags := 2, nameIndex := 5, descriptorIndex := 6, attributes := #[] }, { accessFlags := 9, nameIndex := 109, descriptorIndex := 171, attributes := #[] }] 49 2 #[] #[])
  fields := #[]
  methods := #[k22m0, k22m1]
  instanceTypes := #[]
  staticTypes := #[]
  resolved := Array.replicate 184 none
  statics := none }

def pool23 : Array CpInfo := pool [(2, .class_ 4), (1, u "java/lang/Object"), (0, u "<init>"), (0, u "()V"), (17, .class_ 26), (1, u "jdk/internal/util/Preconditions"), (6, u "checkIndex"), (21, .class_ 56), (0, u "jdk/internal/util/Preconditions$4"), (57, .class_ 115), (0, u "jdk/internal/util/Preconditions$1"), (7, u "SIOOBE_FORMATTER"), (0, u "Ljava/util/function/BiFunction;"), (0, .class_ 126), (0, u "jdk/internal/util/Preconditions$2"), (3, u "AIOOBE_FORMATTER"), (0, .class_ 132), (0, u "jdk/internal/util/Preconditions$3"), (3, u "IOOBE_FORMATTER"), (41, u "(IILjava/util/function/BiFunction;)I")] 15

def k23m0 : Method := { name := "<init>", desc := "()V", sig := { parameters := [], returnType := none }, accessFlags := 1, code := none }
def k23c1 : Code := { maxStack := 3, maxLocals := 3, code := jdk_41_method_11_code, exceptionTable := #[], attributes := #[] }
def k23m1 : Method := { name := "checkIndex", desc := "(IILjava/util/function/BiFunction;)I", sig := { parameters := [.int, .int, (.object "java/util/function/BiFunction")], returnType := some .int }, accessFlags := 9, code := some k23c1 }
/-- jdk/internal/util/Preconditions -/
def k23 : Class := { plain "jdk/internal/util/Preconditions" (some 0) with
  accessFlags := 33
  interfaces := #[]
  cf := some (fileOf pool23 24 #[.nestMembers #[55, 131, 125, 114]] #[{ accessFlags := 1, nameIndex := 5, descriptorIndex := 6, attributes := #[] }, { accessFlags := 9, nameIndex := 33, descriptorIndex := 178, attributes := #[] }] 33 2 #[] #[{ accessFlags := 25, nameIndex := 123, descriptorIndex := 124, attributes := #[] }, { accessFlags := 25, nameIndex := 130, descriptorIndex := 124, attributes := #[] }, { accessFlags := 25, nameIndex := 136, descriptorIndex := 124, attributes := #[] }])
  fields := #[{ name := "SIOOBE_FORMATTER", type := (.object "java/util/function/BiFunction"), accessFlags := 25, slot := 0, constantValue := 0 }, { name := "AIOOBE_FORMATTER", type := (.object "java/util/function/BiFunction"), accessFlags := 25, slot := 1, constantValue := 0 }, { name := "IOOBE_FORMATTER", type := (.object "java/util/function/BiFunction"), accessFlags := 25, slot := 2, constantValue := 0 }]
  methods := #[k23m0, k23m1]
  instanceTypes := #[]
  staticTypes := #[(.object "java/util/function/BiFunction"), (.object "java/util/function/BiFunction"), (.object "java/util/function/BiFunction")]
  resolved := Array.replicate 194 none
  statics := some 2 }

def pool24 : Array CpInfo := pool [(9, u "<init>"), (6, .class_ 18), (1, u "java/lang/Object"), (0, u "()V"), (1, .class_ 23), (1, u "jdk/internal/util/ArraysSupport"), (0, u "LOG2_ARRAY_LONG_INDEX_SCALE"), (0, u "I"), (2, u "U"), (0, u "Ljdk/internal/misc/Unsafe;"), (8, u "BIG_ENDIAN"), (0, u "Z"), (8, u "LOG2_BYTE_BIT_SIZE"), (4, u "LOG2_ARRAY_INT_INDEX_SCALE"), (54, u "JLA"), (0, u "Ljdk/internal/access/JavaLangAccess;"), (11, u "LOG2_ARRAY_BOOLEAN_INDEX_SCALE"), (9, u "LOG2_ARRAY_BYTE_INDEX_SCALE"), (5, u "LOG2_ARRAY_CHAR_INDEX_SCALE"), (5, u "LOG2_ARRAY_SHORT_INDEX_SCALE"), (18, u "LOG2_ARRAY_FLOAT_INDEX_SCALE"), (24, u "LOG2_ARRAY_DOUBLE_INDEX_SCALE"), (89, u "T_BOOLEAN"), (2, u "T_CHAR"), (1, u "T_FLOAT"), (1, u "T_DOUBLE"), (1, u "T_BYTE"), (1, u "T_SHORT"), (1, u "T_INT"), (1, u "T_LONG"), (1, u "SOFT_MAX_ARRAY_LENGTH")] 83

def k24m0 : Method := { name := "<init>", desc := "()V", sig := { parameters := [], returnType := none }, accessFlags := 2, code := none }
/-- jdk/internal/util/ArraysSupport -/
def k24 : Class := { plain "jdk/internal/util/ArraysSupport" (some 0) with
  accessFlags := 33
  interfaces := #[]
  cf := some (fileOf pool24 21 #[] #[{ accessFlags := 2, nameIndex := 9, descriptorIndex := 19, attributes := #[] }] 33 16 #[] #[{ accessFlags := 24, nameIndex := 28, descriptorIndex := 29, attributes := #[] }, { accessFlags := 26, nameIndex := 38, descriptorIndex := 39, attributes := #[] }, { accessFlags := 25, nameIndex := 121, descriptorIndex := 25, attributes := #[] }, { accessFlags := 25, nameIndex := 131, descriptorIndex := 25, attributes := #[] }, { accessFlags := 25, nameIndex := 137, descriptorIndex := 25, attributes := #[] }, { accessFlags := 25, nameIndex := 143, descriptorIndex := 25, attributes := #[] }, { accessFlags := 25, nameIndex := 53, descriptorIndex := 25, attributes := #[] }, { accessFlags := 25, nameIndex := 24, descriptorIndex := 25, attributes := #[] }, { accessFlags := 25, nameIndex := 162, descriptorIndex := 25, attributes := #[] }, { accessFlags := 25, nameIndex := 187, descriptorIndex := 25, attributes := #[] }, { accessFlags := 26, nameIndex := 48, descriptorIndex := 25, attributes := #[] }, { accessFlags := 25, nameIndex := 277, descriptorIndex := 25, attributes := #[] }, { accessFlags := 25, nameIndex := 280, descriptorIndex := 25, attributes := #[] }, { accessFlags := 25, nameIndex := 282, descriptorIndex := 25, attributes := #[] }, { accessFlags := 25, nameIndex := 284, descriptorIndex := 25, attributes := #[] }, { accessFlags := 25, nameIndex := 286, descriptorIndex := 25, attributes := #[] }, { accessFlags := 25, nameIndex := 288, descriptorIndex := 25, attributes := #[] }, { accessFlags := 25, nameIndex := 290, descriptorIndex := 25, attributes := #[] }, { accessFlags := 25, nameIndex := 292, descriptorIndex := 25, attributes := #[] }, { accessFlags := 26, nameIndex := 108, descriptorIndex := 109, attributes := #[] }, { accessFlags := 25, nameIndex := 294, descriptorIndex := 25, attributes := #[] }])
  fields := #[{ name := "U", type := (.object "jdk/internal/misc/Unsafe"), accessFlags := 24, slot := 0, constantValue := 0 }, { name := "BIG_ENDIAN", type := .boolean, accessFlags := 26, slot := 1, constantValue := 0 }, { name := "LOG2_ARRAY_BOOLEAN_INDEX_SCALE", type := .int, accessFlags := 25, slot := 2, constantValue := 0 }, { name := "LOG2_ARRAY_BYTE_INDEX_SCALE", type := .int, accessFlags := 25, slot := 3, constantValue := 0 }, { name := "LOG2_ARRAY_CHAR_INDEX_SCALE", type := .int, accessFlags := 25, slot := 4, constantValue := 0 }, { name := "LOG2_ARRAY_SHORT_INDEX_SCALE", type := .int, accessFlags := 25, slot := 5, constantValue := 0 }, { name := "LOG2_ARRAY_INT_INDEX_SCALE", type := .int, accessFlags := 25, slot := 6, constantValue := 0 }, { name := "LOG2_ARRAY_LONG_INDEX_SCALE", type := .int, accessFlags := 25, slot := 7, constantValue := 0 }, { name := "LOG2_ARRAY_FLOAT_INDEX_SCALE", type := .int, accessFlags := 25, slot := 8, constantValue := 0 }, { name := "LOG2_ARRAY_DOUBLE_INDEX_SCALE", type := .int, accessFlags := 25, slot := 9, constantValue := 0 }, { name := "LOG2_BYTE_BIT_SIZE", type := .int, accessFlags := 26, slot := 10, constantValue := 0 }, { name := "T_BOOLEAN", type := .int, accessFlags := 25, slot := 11, constantValue := 0 }, { name := "T_CHAR", type := .int, accessFlags := 25, slot := 12, constantValue := 0 }, { name := "T_FLOAT", type := .int, accessFlags := 25, slot := 13, constantValue := 0 }, { name := "T_DOUBLE", type := .int, accessFlags := 25, slot := 14, constantValue := 0 }, { name := "T_BYTE", type := .int, accessFlags := 25, slot := 15, constantValue := 0 }, { name := "T_SHORT", type := .int, accessFlags := 25, slot := 16, constantValue := 0 }, { name := "T_INT", type := .int, accessFlags := 25, slot := 17, constantValue := 0 }, { name := "T_LONG", type := .int, accessFlags := 25, slot := 18, constantValue := 0 }, { name := "JLA", type := (.object "jdk/internal/access/JavaLangAccess"), accessFlags := 26, slot := 19, constantValue := 0 }, { name := "SOFT_MAX_ARRAY_LENGTH", type := .int, accessFlags := 25, slot := 20, constantValue := 0 }]
  methods := #[k24m0]
  instanceTypes := #[]
  staticTypes := #[(.object "jdk/internal/misc/Unsafe"), .boolean, .int, .int, .int, .int, .int, .int, .int, .int, .int, .int, .int, .int, .int, .int, .int, .int, .int, (.object "jdk/internal/access/JavaLangAccess"), .int]
  resolved := Array.replicate 378 none
  statics := none }

/-- the primitive byte -/
def k25 : Class := { plain "byte" none with kind := .primitive 'B', accessFlags := 0x411 }
/-- [B -/
def k26 : Class := { plain "[B" (some 0) with kind := .array 25 .byte, interfaces := #[16, 2], accessFlags := 1041 }

/-- the primitive char -/
def k27 : Class := { plain "char" none with kind := .primitive 'C', accessFlags := 0x411 }
/-- [C -/
def k28 : Class := { plain "[C" (some 0) with kind := .array 27 .char, interfaces := #[16, 2], accessFlags := 1041 }

/-- the primitive int -/
def k29 : Class := { plain "int" none with kind := .primitive 'I', accessFlags := 0x411 }
/-- [I -/
def k30 : Class := { plain "[I" (some 0) with kind := .array 29 .int, interfaces := #[16, 2], accessFlags := 1041 }

/-- [Ljava/lang/Object; -/
def k31 : Class := { plain "[Ljava/lang/Object;" (some 0) with kind := .array 0 (.object "java/lang/Object"), interfaces := #[16, 2], accessFlags := 1041 }

def heap : Heap := #[{ cls := 7, slots := #[.long 0, .int 1, .null, .int 0, .null, .int 0, .int 0], vm := .statics 7 },
  { cls := 17, slots := #[.long 0, .int 0, .ref 3, .ref 4], vm := .statics 17 },
  { cls := 23, slots := #[.null, .null, .null], vm := .statics 23 },
  { cls := 31, slots := #[], vm := .none },
  { cls := 31, slots := #[], vm := .none }]
def classes : Array Class := #[k0, k1, k2, k3, k4, k5, k6, k7, k8, k9, k10, k11, k12, k13, k14, k15, k16, k17, k18, k19, k20, k21, k22, k23, k24, k25, k26, k27, k28, k29, k30, k31]
def interned : List (Array UInt16 × Addr) := []
def slotsUsed : Nat := 14
def theMethod : MethodId := ⟨1, 2⟩
def args0 : Array Value := #[.int 5, .int 5, .int 5, .int 5, .int 5]
def aboutOver (below : List Frame) : State where
  vm := { classes := classes, interned := interned.toArray }
  heap := heap
  slotsUsed := slotsUsed
  threads := #[{ frames := .invoking theMethod args0 :: below }]
def below0 : List Frame := [.native { method := ⟨0, 0⟩, args := #[] }]
def about1 : State := aboutOver below0
def p0 : Program := .bare "" "" ""
def e0 : Env := launch0.env 0 0 0
theorem w_frames : about1.frames = Frame.invoking theMethod args0 :: below0 := rfl
set_option maxRecDepth 65536 in
theorem w_args : argsFit about1.vm theMethod args0 = true := by decide +kernel
set_option maxRecDepth 65536 in
theorem w_heap : heapFits about1 = true := by decide +kernel
set_option maxRecDepth 65536 in
theorem w_runnable : about1.curStatus? = some .runnable := by decide +kernel
set_option maxRecDepth 65536 in
theorem w_alone : about1.alone = true := by decide +kernel
set_option maxRecDepth 65536 in
theorem w_named : about1.methodNamed? x = some theMethod := by decide +kernel
set_option maxRecDepth 65536 in
theorem w_hears : about1.hears theMethod below0 = true := by decide +kernel
set_option maxRecDepth 65536 in
theorem w_ripe : about1.ripe theMethod args0 below0 = true := by decide +kernel
theorem w_running : about1.status = .running := rfl
set_option maxRecDepth 65536 in
theorem w_room : about1.hasRoom e0.platform room_1 = true :=
  launch0.hasRoom_least _ room_1 (by decide +kernel) (by decide +kernel) (by decide +kernel) (by decide +kernel) (by decide +kernel) (by decide +kernel)
theorem allAtoms_all (ts : List Jvm.Cond) (a : Array Jvm.Value) (st : Jvm.State) : (allAtoms ts).before a st = ts.all (fun c => c.before a st) := by
  induction ts with
  | nil => rfl
  | cons c t ih =>
    show (Jvm.Cond.and c (allAtoms t)).before a st = _
    rw [Jvm.Cond.before_and, ih, List.all_cons]
def words1 : List Jvm.Cond := Jvm.Cond.code x code maxLocals ret :: tables_1
/-- a 'code' word, met by the world's own term for the bytes: nothing is compared byte by byte -/
theorem code_word {y : MethodName} {bytes : ByteArray} {mx : Nat} {rt : Option FieldType} {a : Array Value} {s : State} {m : MethodId} {meth : Method} {c : Code} (h1 : s.methodNamed? y = some m) (h2 : s.vm.method? m = some meth) (h3 : meth.code = some c) (h4 : c.code = bytes)
    (h5 : (c.maxLocals == mx && c.exceptionTable.isEmpty && decide (c.maxStack ≤ mostOperands) && decide (meth.sig.returnType = rt) && !meth.locks && decide (parseMethodDescriptor y.desc = some meth.sig)) = true) : (Jvm.Cond.code y bytes mx rt).before a s = true := by
  simp only [Bool.and_eq_true, beq_iff_eq, Bool.not_eq_true', decide_eq_true_eq] at h5
  obtain ⟨⟨⟨⟨⟨g1, g2⟩, g3⟩, g4⟩, g5⟩, g6⟩ := h5
  simp [Cond.before, Cond.holds, Cond.value, h1, h2, h3, h4, g1, g2, g3, g4, g5, g6]
def isCode : Jvm.Cond → Bool
  | .code _ _ _ _ => true
  | _ => false
theorem all_split {L : List Jvm.Cond} {P : Jvm.Cond → Bool} (h1 : L.all (fun c => isCode c || P c) = true) (h2 : ∀ c ∈ L.filter isCode, P c = true) : L.all P = true := by
  refine List.all_eq_true.mpr fun c hc => ?_
  have h := List.all_eq_true.mp h1 c hc
  rcases Bool.eq_false_or_eq_true (isCode c) with hi | hi
  · exact h2 c (List.mem_filter.mpr ⟨hc, hi⟩)
  · simpa [hi] using h
set_option maxRecDepth 65536 in
theorem w_c0 : (Jvm.Cond.code x code maxLocals ret).before args0 about1 = true := code_word (m := ⟨1, 2⟩) (meth := k1m2) (c := k1c2) (by decide +kernel) rfl rfl rfl (by decide +kernel)
set_option maxRecDepth 65536 in
theorem w_c1 : (Jvm.Cond.code ({ cls := "com/example/vestibule/vestibule/RecordFieldPinLaw", name := "make", desc := "(CC)Ljava/lang/String;" } : Jvm.MethodName) method_2_code (3 : Nat) (Option.some (Jvm.ClassFile.FieldType.object "java/lang/String"))).before args0 about1 = true := code_word (m := ⟨1, 1⟩) (meth := k1m1) (c := k1c1) (by decide +kernel) rfl rfl rfl (by decide +kernel)
set_option maxRecDepth 65536 in
theorem w_c2 : (Jvm.Cond.code ({ cls := "java/lang/String", name := "<init>", desc := "([C)V" } : Jvm.MethodName) jdk_42_method_3_code (2 : Nat) (Option.none : Option Jvm.ClassFile.FieldType)).before args0 about1 = true := code_word (m := ⟨7, 1⟩) (meth := k7m1) (c := k7c1) (by decide +kernel) rfl rfl rfl (by decide +kernel)
set_option maxRecDepth 65536 in
theorem w_c3 : (Jvm.Cond.code ({ cls := "java/lang/String", name := "<init>", desc := "([CIILjava/lang/Void;)V" } : Jvm.MethodName) jdk_42_method_149_code (6 : Nat) (Option.none : Option Jvm.ClassFile.FieldType)).before args0 about1 = true := code_word (m := ⟨7, 4⟩) (meth := k7m4) (c := k7c4) (by decide +kernel) rfl rfl rfl (by decide +kernel)
set_option maxRecDepth 65536 in
theorem w_c4 : (Jvm.Cond.code ({ cls := "java/lang/Object", name := "<init>", desc := "()V" } : Jvm.MethodName) object_method_1_code (1 : Nat) (Option.none : Option Jvm.ClassFile.FieldType)).before args0 about1 = true := code_word (m := ⟨0, 0⟩) (meth := k0m0) (c := k0c0) (by decide +kernel) rfl rfl rfl (by decide +kernel)
set_option maxRecDepth 65536 in
theorem w_c5 : (Jvm.Cond.code ({ cls := "java/lang/StringUTF16", name := "compress", desc := "([CII)[B" } : Jvm.MethodName) jdk_52_method_16_code (6 : Nat) (Option.some (Jvm.ClassFile.FieldType.array Jvm.ClassFile.FieldType.byte))).before args0 about1 = true := code_word (m := ⟨8, 2⟩) (meth := k8m2) (c := k8c2) (by decide +kernel) rfl rfl rfl (by decide +kernel)
set_option maxRecDepth 65536 in
theorem w_c6 : (Jvm.Cond.code ({ cls := "java/lang/StringUTF16", name := "compress", desc := "([CI[BII)I" } : Jvm.MethodName) jdk_52_method_21_code (7 : Nat) (Option.some Jvm.ClassFile.FieldType.int)).before args0 about1 = true := code_word (m := ⟨8, 3⟩) (meth := k8m3) (c := k8c3) (by decide +kernel) rfl rfl rfl (by decide +kernel)
set_option maxRecDepth 65536 in
theorem w_c7 : (Jvm.Cond.code ({ cls := "java/lang/StringUTF16", name := "coderFromArrayLen", desc := "([BI)B" } : Jvm.MethodName) jdk_52_method_15_code (2 : Nat) (Option.some Jvm.ClassFile.FieldType.byte)).before args0 about1 = true := code_word (m := ⟨8, 1⟩) (meth := k8m1) (c := k8c1) (by decide +kernel) rfl rfl rfl (by decide +kernel)
set_option maxRecDepth 65536 in
theorem w_c8 : (Jvm.Cond.code ({ cls := "java/util/ArrayList", name := "<init>", desc := "()V" } : Jvm.MethodName) jdk_38_method_2_code (1 : Nat) (Option.none : Option Jvm.ClassFile.FieldType)).before args0 about1 = true := code_word (m := ⟨17, 0⟩) (meth := k17m0) (c := k17c0) (by decide +kernel) rfl rfl rfl (by decide +kernel)
set_option maxRecDepth 65536 in
theorem w_c9 : (Jvm.Cond.code ({ cls := "java/util/AbstractList", name := "<init>", desc := "()V" } : Jvm.MethodName) jdk_39_method_1_code (1 : Nat) (Option.none : Option Jvm.ClassFile.FieldType)).before args0 about1 = true := code_word (m := ⟨14, 0⟩) (meth := k14m0) (c := k14c0) (by decide +kernel) rfl rfl rfl (by decide +kernel)
set_option maxRecDepth 65536 in
theorem w_c10 : (Jvm.Cond.code ({ cls := "java/util/AbstractCollection", name := "<init>", desc := "()V" } : Jvm.MethodName) jdk_22_method_1_code (1 : Nat) (Option.none : Option Jvm.ClassFile.FieldType)).before args0 about1 = true := code_word (m := ⟨11, 0⟩) (meth := k11m0) (c := k11c0) (by decide +kernel) rfl rfl rfl (by decide +kernel)
set_option maxRecDepth 65536 in
theorem w_c11 : (Jvm.Cond.code ({ cls := "java/util/ArrayList", name := "add", desc := "(Ljava/lang/Object;)Z" } : Jvm.MethodName) jdk_38_method_25_code (2 : Nat) (Option.some Jvm.ClassFile.FieldType.boolean)).before args0 about1 = true := code_word (m := ⟨17, 6⟩) (meth := k17m6) (c := k17c6) (by decide +kernel) rfl rfl rfl (by decide +kernel)
set_option maxRecDepth 65536 in
theorem w_c12 : (Jvm.Cond.code ({ cls := "java/util/ArrayList", name := "add", desc := "(Ljava/lang/Object;[Ljava/lang/Object;I)V" } : Jvm.MethodName) jdk_38_method_24_code (4 : Nat) (Option.none : Option Jvm.ClassFile.FieldType)).before args0 about1 = true := code_word (m := ⟨17, 5⟩) (meth := k17m5) (c := k17c5) (by decide +kernel) rfl rfl rfl (by decide +kernel)
set_option maxRecDepth 65536 in
theorem w_c13 : (Jvm.Cond.code ({ cls := "java/util/ArrayList", name := "grow", desc := "()[Ljava/lang/Object;" } : Jvm.MethodName) jdk_38_method_7_code (1 : Nat) (Option.some (Jvm.ClassFile.FieldType.array (Jvm.ClassFile.FieldType.object "java/lang/Object")))).before args0 about1 = true := code_word (m := ⟨17, 2⟩) (meth := k17m2) (c := k17c2) (by decide +kernel) rfl rfl rfl (by decide +kernel)
set_option maxRecDepth 65536 in
theorem w_c14 : (Jvm.Cond.code ({ cls := "java/util/ArrayList", name := "grow", desc := "(I)[Ljava/lang/Object;" } : Jvm.MethodName) jdk_38_method_6_code (4 : Nat) (Option.some (Jvm.ClassFile.FieldType.array (Jvm.ClassFile.FieldType.object "java/lang/Object")))).before args0 about1 = true := code_word (m := ⟨17, 1⟩) (meth := k17m1) (c := k17c1) (by decide +kernel) rfl rfl rfl (by decide +kernel)
set_option maxRecDepth 65536 in
theorem w_c15 : (Jvm.Cond.code ({ cls := "java/lang/Math", name := "max", desc := "(II)I" } : Jvm.MethodName) jdk_29_method_65_code (2 : Nat) (Option.some Jvm.ClassFile.FieldType.int)).before args0 about1 = true := code_word (m := ⟨18, 1⟩) (meth := k18m1) (c := k18c1) (by decide +kernel) rfl rfl rfl (by decide +kernel)
set_option maxRecDepth 65536 in
theorem w_c16 : (Jvm.Cond.code ({ cls := "java/lang/String", name := "valueOf", desc := "(C)Ljava/lang/String;" } : Jvm.MethodName) jdk_42_method_139_code (1 : Nat) (Option.some (Jvm.ClassFile.FieldType.object "java/lang/String"))).before args0 about1 = true := code_word (m := ⟨7, 3⟩) (meth := k7m3) (c := k7c3) (by decide +kernel) rfl rfl rfl (by decide +kernel)
set_option maxRecDepth 65536 in
theorem w_c17 : (Jvm.Cond.code ({ cls := "java/lang/StringLatin1", name := "canEncode", desc := "(C)Z" } : Jvm.MethodName) jdk_43_method_3_code (1 : Nat) (Option.some Jvm.ClassFile.FieldType.boolean)).before args0 about1 = true := code_word (m := ⟨21, 1⟩) (meth := k21m1) (c := k21c1) (by decide +kernel) rfl rfl rfl (by decide +kernel)
set_option maxRecDepth 65536 in
theorem w_c18 : (Jvm.Cond.code ({ cls := "java/lang/StringLatin1", name := "toBytes", desc := "(C)[B" } : Jvm.MethodName) jdk_43_method_46_code (1 : Nat) (Option.some (Jvm.ClassFile.FieldType.array Jvm.ClassFile.FieldType.byte))).before args0 about1 = true := code_word (m := ⟨21, 2⟩) (meth := k21m2) (c := k21c2) (by decide +kernel) rfl rfl rfl (by decide +kernel)
set_option maxRecDepth 65536 in
theorem w_c19 : (Jvm.Cond.code ({ cls := "java/lang/String", name := "<init>", desc := "([BB)V" } : Jvm.MethodName) jdk_42_method_151_code (3 : Nat) (Option.none : Option Jvm.ClassFile.FieldType)).before args0 about1 = true := code_word (m := ⟨7, 5⟩) (meth := k7m5) (c := k7c5) (by decide +kernel) rfl rfl rfl (by decide +kernel)
set_option maxRecDepth 65536 in
theorem w_c20 : (Jvm.Cond.code ({ cls := "com/example/vestibule/vestibule/RecordFile$Record", name := "<init>", desc := "(Ljava/lang/String;ILjava/util/List;)V" } : Jvm.MethodName) prog_40_method_1_code (4 : Nat) (Option.none : Option Jvm.ClassFile.FieldType)).before args0 about1 = true := code_word (m := ⟨20, 0⟩) (meth := k20m0) (c := k20c0) (by decide +kernel) rfl rfl rfl (by decide +kernel)
set_option maxRecDepth 65536 in
theorem w_c21 : (Jvm.Cond.code ({ cls := "java/lang/Record", name := "<init>", desc := "()V" } : Jvm.MethodName) jdk_30_method_1_code (1 : Nat) (Option.none : Option Jvm.ClassFile.FieldType)).before args0 about1 = true := code_word (m := ⟨19, 0⟩) (meth := k19m0) (c := k19c0) (by decide +kernel) rfl rfl rfl (by decide +kernel)
set_option maxRecDepth 65536 in
theorem w_c22 : (Jvm.Cond.code ({ cls := "com/example/vestibule/vestibule/RecordFile$Record", name := "field", desc := "(I)Ljava/lang/String;" } : Jvm.MethodName) prog_40_method_3_code (2 : Nat) (Option.some (Jvm.ClassFile.FieldType.object "java/lang/String"))).before args0 about1 = true := code_word (m := ⟨20, 1⟩) (meth := k20m1) (c := k20c1) (by decide +kernel) rfl rfl rfl (by decide +kernel)
set_option maxRecDepth 65536 in
theorem w_c23 : (Jvm.Cond.code ({ cls := "java/util/ArrayList", name := "get", desc := "(I)Ljava/lang/Object;" } : Jvm.MethodName) jdk_38_method_20_code (2 : Nat) (Option.some (Jvm.ClassFile.FieldType.object "java/lang/Object"))).before args0 about1 = true := code_word (m := ⟨17, 4⟩) (meth := k17m4) (c := k17c4) (by decide +kernel) rfl rfl rfl (by decide +kernel)
set_option maxRecDepth 65536 in
theorem w_c24 : (Jvm.Cond.code ({ cls := "java/util/Objects", name := "checkIndex", desc := "(II)I" } : Jvm.MethodName) jdk_31_method_17_code (2 : Nat) (Option.some Jvm.ClassFile.FieldType.int)).before args0 about1 = true := code_word (m := ⟨22, 1⟩) (meth := k22m1) (c := k22c1) (by decide +kernel) rfl rfl rfl (by decide +kernel)
set_option maxRecDepth 65536 in
theorem w_c25 : (Jvm.Cond.code ({ cls := "jdk/internal/util/Preconditions", name := "checkIndex", desc := "(IILjava/util/function/BiFunction;)I" } : Jvm.MethodName) jdk_41_method_11_code (3 : Nat) (Option.some Jvm.ClassFile.FieldType.int)).before args0 about1 = true := code_word (m := ⟨23, 1⟩) (meth := k23m1) (c := k23c1) (by decide +kernel) rfl rfl rfl (by decide +kernel)
set_option maxRecDepth 65536 in
theorem w_c26 : (Jvm.Cond.code ({ cls := "java/util/ArrayList", name := "elementData", desc := "(I)Ljava/lang/Object;" } : Jvm.MethodName) jdk_38_method_18_code (2 : Nat) (Option.some (Jvm.ClassFile.FieldType.object "java/lang/Object"))).before args0 about1 = true := code_word (m := ⟨17, 3⟩) (meth := k17m3) (c := k17c3) (by decide +kernel) rfl rfl rfl (by decide +kernel)
set_option maxRecDepth 65536 in
theorem w_c27 : (Jvm.Cond.code ({ cls := "java/lang/String", name := "equals", desc := "(Ljava/lang/Object;)Z" } : Jvm.MethodName) jdk_42_method_66_code (3 : Nat) (Option.some Jvm.ClassFile.FieldType.boolean)).before args0 about1 = true := code_word (m := ⟨7, 2⟩) (meth := k7m2) (c := k7c2) (by decide +kernel) rfl rfl rfl (by decide +kernel)
def codes1 : List Jvm.Cond := [Jvm.Cond.code x code maxLocals ret, Jvm.Cond.code ({ cls := "com/example/vestibule/vestibule/RecordFieldPinLaw", name := "make", desc := "(CC)Ljava/lang/String;" } : Jvm.MethodName) method_2_code (3 : Nat) (Option.some (Jvm.ClassFile.FieldType.object "java/lang/String")), Jvm.Cond.code ({ cls := "java/lang/String", name := "<init>", desc := "([C)V" } : Jvm.MethodName) jdk_42_method_3_code (2 : Nat) (Option.none : Option Jvm.ClassFile.FieldType), Jvm.Cond.code ({ cls := "java/lang/String", name := "<init>", desc := "([CIILjava/lang/Void;)V" } : Jvm.MethodName) jdk_42_method_149_code (6 : Nat) (Option.none : Option Jvm.ClassFile.FieldType), Jvm.Cond.code ({ cls := "java/lang/Object", name := "<init>", desc := "()V" } : Jvm.MethodName) object_method_1_code (1 : Nat) (Option.none : Option Jvm.ClassFile.FieldType), Jvm.Cond.code ({ cls := "java/lang/StringUTF16", name := "compress", desc := "([CII)[B" } : Jvm.MethodName) jdk_52_method_16_code (6 : Nat) (Option.some (Jvm.ClassFile.FieldType.array Jvm.ClassFile.FieldType.byte)), Jvm.Cond.code ({ cls := "java/lang/StringUTF16", name := "compress", desc := "([CI[BII)I" } : Jvm.MethodName) jdk_52_method_21_code (7 : Nat) (Option.some Jvm.ClassFile.FieldType.int), Jvm.Cond.code ({ cls := "java/lang/StringUTF16", name := "coderFromArrayLen", desc := "([BI)B" } : Jvm.MethodName) jdk_52_method_15_code (2 : Nat) (Option.some Jvm.ClassFile.FieldType.byte), Jvm.Cond.code ({ cls := "java/util/ArrayList", name := "<init>", desc := "()V" } : Jvm.MethodName) jdk_38_method_2_code (1 : Nat) (Option.none : Option Jvm.ClassFile.FieldType), Jvm.Cond.code ({ cls := "java/util/AbstractList", name := "<init>", desc := "()V" } : Jvm.MethodName) jdk_39_method_1_code (1 : Nat) (Option.none : Option Jvm.ClassFile.FieldType), Jvm.Cond.code ({ cls := "java/util/AbstractCollection", name := "<init>", desc := "()V" } : Jvm.MethodName) jdk_22_method_1_code (1 : Nat) (Option.none : Option Jvm.ClassFile.FieldType), Jvm.Cond.code ({ cls := "java/util/ArrayList", name := "add", desc := "(Ljava/lang/Object;)Z" } : Jvm.MethodName) jdk_38_method_25_code (2 : Nat) (Option.some Jvm.ClassFile.FieldType.boolean), Jvm.Cond.code ({ cls := "java/util/ArrayList", name := "add", desc := "(Ljava/lang/Object;[Ljava/lang/Object;I)V" } : Jvm.MethodName) jdk_38_method_24_code (4 : Nat) (Option.none : Option Jvm.ClassFile.FieldType), Jvm.Cond.code ({ cls := "java/util/ArrayList", name := "grow", desc := "()[Ljava/lang/Object;" } : Jvm.MethodName) jdk_38_method_7_code (1 : Nat) (Option.some (Jvm.ClassFile.FieldType.array (Jvm.ClassFile.FieldType.object "java/lang/Object"))), Jvm.Cond.code ({ cls := "java/util/ArrayList", name := "grow", desc := "(I)[Ljava/lang/Object;" } : Jvm.MethodName) jdk_38_method_6_code (4 : Nat) (Option.some (Jvm.ClassFile.FieldType.array (Jvm.ClassFile.FieldType.object "java/lang/Object"))), Jvm.Cond.code ({ cls := "java/lang/Math", name := "max", desc := "(II)I" } : Jvm.MethodName) jdk_29_method_65_code (2 : Nat) (Option.some Jvm.ClassFile.FieldType.int), Jvm.Cond.code ({ cls := "java/lang/String", name := "valueOf", desc := "(C)Ljava/lang/String;" } : Jvm.MethodName) jdk_42_method_139_code (1 : Nat) (Option.some (Jvm.ClassFile.FieldType.object "java/lang/String")), Jvm.Cond.code ({ cls := "java/lang/StringLatin1", name := "canEncode", desc := "(C)Z" } : Jvm.MethodName) jdk_43_method_3_code (1 : Nat) (Option.some Jvm.ClassFile.FieldType.boolean), Jvm.Cond.code ({ cls := "java/lang/StringLatin1", name := "toBytes", desc := "(C)[B" } : Jvm.MethodName) jdk_43_method_46_code (1 : Nat) (Option.some (Jvm.ClassFile.FieldType.array Jvm.ClassFile.FieldType.byte)), Jvm.Cond.code ({ cls := "java/lang/String", name := "<init>", desc := "([BB)V" } : Jvm.MethodName) jdk_42_method_151_code (3 : Nat) (Option.none : Option Jvm.ClassFile.FieldType), Jvm.Cond.code ({ cls := "com/example/vestibule/vestibule/RecordFile$Record", name := "<init>", desc := "(Ljava/lang/String;ILjava/util/List;)V" } : Jvm.MethodName) prog_40_method_1_code (4 : Nat) (Option.none : Option Jvm.ClassFile.FieldType), Jvm.Cond.code ({ cls := "java/lang/Record", name := "<init>", desc := "()V" } : Jvm.MethodName) jdk_30_method_1_code (1 : Nat) (Option.none : Option Jvm.ClassFile.FieldType), Jvm.Cond.code ({ cls := "com/example/vestibule/vestibule/RecordFile$Record", name := "field", desc := "(I)Ljava/lang/String;" } : Jvm.MethodName) prog_40_method_3_code (2 : Nat) (Option.some (Jvm.ClassFile.FieldType.object "java/lang/String")), Jvm.Cond.code ({ cls := "java/util/ArrayList", name := "get", desc := "(I)Ljava/lang/Object;" } : Jvm.MethodName) jdk_38_method_20_code (2 : Nat) (Option.some (Jvm.ClassFile.FieldType.object "java/lang/Object")), Jvm.Cond.code ({ cls := "java/util/Objects", name := "checkIndex", desc := "(II)I" } : Jvm.MethodName) jdk_31_method_17_code (2 : Nat) (Option.some Jvm.ClassFile.FieldType.int), Jvm.Cond.code ({ cls := "jdk/internal/util/Preconditions", name := "checkIndex", desc := "(IILjava/util/function/BiFunction;)I" } : Jvm.MethodName) jdk_41_method_11_code (3 : Nat) (Option.some Jvm.ClassFile.FieldType.int), Jvm.Cond.code ({ cls := "java/util/ArrayList", name := "elementData", desc := "(I)Ljava/lang/Object;" } : Jvm.MethodName) jdk_38_method_18_code (2 : Nat) (Option.some (Jvm.ClassFile.FieldType.object "java/lang/Object")), Jvm.Cond.code ({ cls := "java/lang/String", name := "equals", desc := "(Ljava/lang/Object;)Z" } : Jvm.MethodName) jdk_42_method_66_code (3 : Nat) (Option.some Jvm.ClassFile.FieldType.boolean)]
set_option maxRecDepth 65536 in
theorem codes_eq : words1.filter isCode = codes1 := rfl
theorem w_codes : ∀ c ∈ words1.filter isCode, c.before args0 about1 = true := by
  rw [codes_eq]
  intro c hc
  simp only [codes1, List.mem_cons, List.not_mem_nil, or_false] at hc
  rcases hc with rfl | rfl | rfl | rfl | rfl | rfl | rfl | rfl | rfl | rfl | rfl | rfl | rfl | rfl | rfl | rfl | rfl | rfl | rfl | rfl | rfl | rfl | rfl | rfl | rfl | rfl | rfl | rfl
  · exact w_c0
  · exact w_c1
  · exact w_c2
  · exact w_c3
  · exact w_c4
  · exact w_c5
  · exact w_c6
  · exact w_c7
  · exact w_c8
  · exact w_c9
  · exact w_c10
  · exact w_c11
  · exact w_c12
  · exact w_c13
  · exact w_c14
  · exact w_c15
  · exact w_c16
  · exact w_c17
  · exact w_c18
  · exact w_c19
  · exact w_c20
  · exact w_c21
  · exact w_c22
  · exact w_c23
  · exact w_c24
  · exact w_c25
  · exact w_c26
  · exact w_c27
set_option maxRecDepth 65536 in
theorem w_t1 : (words1.take 24).all (fun c => isCode c || c.before args0 about1) = true := by decide +kernel
set_option maxRecDepth 65536 in
theorem w_t2 : ((words1.drop 24).take 24).all (fun c => isCode c || c.before args0 about1) = true := by decide +kernel
set_option maxRecDepth 65536 in
theorem w_t3 : (((words1.drop 24).drop 24).take 24).all (fun c => isCode c || c.before args0 about1) = true := by decide +kernel
set_option maxRecDepth 65536 in
theorem w_t4 : ((((words1.drop 24).drop 24).drop 24).take 24).all (fun c => isCode c || c.before args0 about1) = true := by decide +kernel
set_option maxRecDepth 65536 in
theorem w_t5 : (((((words1.drop 24).drop 24).drop 24).drop 24).take 24).all (fun c => isCode c || c.before args0 about1) = true := by decide +kernel
set_option maxRecDepth 65536 in
theorem w_t6 : ((((((words1.drop 24).drop 24).drop 24).drop 24).drop 24).take 24).all (fun c => isCode c || c.before args0 about1) = true := by decide +kernel
set_option maxRecDepth 65536 in
theorem w_t7 : ((((((words1.drop 24).drop 24).drop 24).drop 24).drop 24).drop 24).all (fun c => isCode c || c.before args0 about1) = true := by decide +kernel
theorem w_tables : (allAtoms (Jvm.Cond.code x code maxLocals ret :: tables_1)).before args0 about1 = true := by
  rw [allAtoms_all]
  show words1.all (fun c => c.before args0 about1) = true
  refine all_split ?_ w_codes
  rw [← List.take_append_drop 24 words1, List.all_append, w_t1, ← List.take_append_drop 24 (words1.drop 24), List.all_append, w_t2, ← List.take_append_drop 24 ((words1.drop 24).drop 24), List.all_append, w_t3, ← List.take_append_drop 24 (((words1.drop 24).drop 24).drop 24), List.all_append, w_t4, ← List.take_append_drop 24 ((((words1.drop 24).drop 24).drop 24).drop 24), List.all_append, w_t5, ← List.take_append_drop 24 (((((words1.drop 24).drop 24).drop 24).drop 24).drop 24), List.all_append, w_t6, w_t7]
  rfl
set_option maxRecDepth 65536 in
theorem w_rest : rest_1_c.before args0 about1 = true := by decide +kernel
set_option maxRecDepth 65536 in
theorem w_case : (Jvm.Cond.and given_1 narrow_1).before args0 about1 = true := by decide +kernel
theorem w_applies : (headSpec (Jvm.Cond.code x code maxLocals ret :: tables_1) room_1).applies x e0.platform about1 = true :=
  (Spec.applies_iff w_frames).mpr ⟨w_running, w_runnable, w_alone, w_named, w_hears, w_ripe, w_room, w_tables⟩
theorem atStart : AtStart classFile x code maxLocals ret World_1 tables_1 room_1 Calls_1 rest_1 Pre_1 launch0 p0 e0 about1 theMethod args0 below0 :=
  ⟨lists_1, trivial, launch0.admits_env _ _ _, launch0.least_env, fairChoices_fair.cas, fairChoices_fair.clock, w_frames, w_args, w_heap, w_applies, trivial, w_rest, w_case⟩
end start1
theorem witness_1 : WitnessClaimed_1 := ⟨start1.p0, start1.e0, start1.about1, start1.theMethod, start1.args0, start1.below0, start1.atStart⟩
end Jvm.Pilot.@@N@@
