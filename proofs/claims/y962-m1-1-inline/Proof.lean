import JvmDerived
import JvmDerived.Pilot.@@N@@Statement
import JvmDerived.Pilot.@@N@@Code
set_option linter.unusedVariables false
set_option linter.unusedSimpArgs false
namespace Jvm.Pilot.@@N@@
open Jvm Jvm.ClassFile Sem Op Lib Jvm.Free Jvm.Stand Jvm.LawKit Jvm.RoadKit Bundle Jvm.Pilot.@@N@@.Jvm.D
section OwnKit
variable {p : Program} {l : Launch} {e : Env} {R : Room} {s : State} {m : MethodId} {args : Array Value} {below : List Frame} {meth : Method} {c : Code} {T : State} {locs : List Loc} {cells slots : Nat}
/-- the contract of a body at given arguments and a given heap -/
def own_Con (l : Launch) (Z : State) (y : MethodName) (bytes : ByteArray) (maxL : Nat) (ret : Option FieldType) (ws : List Jvm.Cond) (rm : Room) (as' : Array Value) (h0 : Heap) (Q : Option Value → Heap → List Loc → Prop) : Prop :=
  MetFree l y (head1 (Jvm.Cond.code y bytes maxL ret :: ws) rm) (fun a U => a = as' ∧ Z.Warmed39 U.vm ∧ U.heap = h0) (fun _ _ _ _ _ => True) (fun _ U o U' => ∃ v L, o = .returned v ∧ Q v U'.heap L ∧ FrameEnd U o U' L rm.cells rm.slots)
/-- G holds of a state where the walk is owed; it goes backwards over steps -/
def own_Bk (p : Program) (e : Env) (below : List Frame) (G : State → Prop) : Prop := ∀ S S', (∀ t, Steps p.tables e below S' t → Steps p.tables e below S t) → G S' → G S
/-- a walk may end where its body returns -/
def own_Rt (p : Program) (l : Launch) (e : Env) (rm : Room) (s : State) (m : MethodId) (as' : Array Value) (below : List Frame) (meth : Method) (c : Code) (ret : Option FieldType) (Q : Option Value → Heap → List Loc → Prop) (G : State → Prop) : Prop :=
  ∀ T locs cells slots v S, Stand p l e rm s m as' below meth c T locs cells slots → cells ≤ rm.cells → slots ≤ rm.slots → (ret = none → v = none) → Q v T.heap locs →
    (∀ fs, (∀ (f : JFrame) (acts : List Action), f.method = m → f.locked = none → f.entered = [] → (doReturn e (T.setTop f) acts v).1 = T.setFrames fs) → Steps p.tables e below S (T.setFrames fs)) → G S
theorem own_intro {Z : State} {y : MethodName} {bytes : ByteArray} {maxL : Nat} {ret : Option FieldType} {ws : List Jvm.Cond} {rm : Room} {as' : Array Value} {h0 : Heap} {Q : Option Value → Heap → List Loc → Prop} (hpn : plainFor y = true)
    (H : ∀ (p : Program) (e : Env) (s : State) (m : MethodId) (below : List Frame) (meth : Method) (c : Code) (s₁ : State) (G : State → Prop), p.tables.exec = Jvm.exec → c.code = bytes → c.maxLocals = maxL → s.vm.findClass y.cls = some m.cls → meth.name = y.name → meth.sig.returnType = ret → Z.Warmed39 s.vm →
      Stand p l e rm s m as' below meth c s₁ [] 0 0 → s₁.heap = h0 → own_Bk p e below G → own_Rt p l e rm s m as' below meth c ret Q G → G (s₁.setTop (entryFrame m as' maxL))) : own_Con l Z y bytes maxL ret ws rm as' h0 Q := by
  refine MetFree.of_bodySF hpn hisR ?_
  intro p e s m args below meth c s₁ Bd hml hP hK
  obtain ⟨rfl, hZ, hh⟩ := hP
  refine H p e s m below meth c s₁ (fun S => ∃ s₂ o, Steps p.tables e below S s₂ ∧ s₂.status = .running ∧ Ended s₂ below o ∧ ∃ v L, o = .returned v ∧ Q v s₂.heap L ∧ FrameEnd s o s₂ L rm.cells rm.slots) Bd.exec Bd.bytes hml (findClass_of_methodNamed Bd.named) (name_of_methodNamed Bd.named Bd.method).1 Bd.returns hZ (Stand.of_body Bd) (by rw [← hh, Bd.state]; rfl) ?_ ?_
  · rintro S S' st ⟨s₂, o, h1, h2⟩
    exact ⟨s₂, o, st _ h1, h2⟩
  · intro T locs cells slots v S X hc hs hv hQ hst
    obtain ⟨fs, hr, hrun, hended, hW, hsame⟩ := X.leave (v := v) (fun h => hv (Bd.returns ▸ h))
    exact ⟨_, _, hst fs hr, hrun, hended, v, locs, rfl, hQ, ⟨_, rfl⟩, hW, hsame.mono hc hs⟩
section Rets
variable {Q : Option Value → Heap → List Loc → Prop} {G : State → Prop} {ret : Option FieldType} {pc : Nat} {Ls : Array Slot} {rest : List Value}
theorem own_retV (hR : own_Rt p l e R s m args below meth c none Q G) (hret : meth.sig.returnType = none) (X : Stand p l e R s m args below meth c T locs cells slots) (hx : p.tables.exec = Jvm.exec) (hd : decode c.code pc = .ok (.return_, 1)) (hc : cells ≤ R.cells) (hs : slots ≤ R.slots) (hQ : Q none T.heap locs) : G (T.setTop (mkF m pc Ls [])) :=
  hR T locs cells slots none _ X hc hs (fun _ => rfl) hQ fun fs hr => X.returnOut hx hret hd hr
theorem own_retA {t : FieldType} {v : Value} (hR : own_Rt p l e R s m args below meth c (some t) Q G) (hret : meth.sig.returnType = some t) (ht : t.isReference = true) (hv : v.isRef = true) (X : Stand p l e R s m args below meth c T locs cells slots) (hx : p.tables.exec = Jvm.exec) (hd : decode c.code pc = .ok (.areturn, 1)) (hc : cells ≤ R.cells) (hs : slots ≤ R.slots) (hQ : Q (some v) T.heap locs) : G (T.setTop (mkF m pc Ls (v :: rest))) :=
  hR T locs cells slots (some v) _ X hc hs (fun h => nomatch h) hQ fun fs hr => retOut X hx hret (by cases t <;> simp_all [FieldType.isReference, narrow]) (Or.inr (Or.inr (Or.inr (Or.inr ⟨rfl, ht, hv⟩)))) hd hr
theorem own_retI {z : Int32} (hR : own_Rt p l e R s m args below meth c (some .int) Q G) (hret : meth.sig.returnType = some .int) (X : Stand p l e R s m args below meth c T locs cells slots) (hx : p.tables.exec = Jvm.exec) (hd : decode c.code pc = .ok (.ireturn, 1)) (hc : cells ≤ R.cells) (hs : slots ≤ R.slots) (hQ : Q (some (.int z)) T.heap locs) : G (T.setTop (mkF m pc Ls (.int z :: rest))) :=
  hR T locs cells slots (some (.int z)) _ X hc hs (fun h => nomatch h) hQ fun fs hr => retOut X hx hret rfl (Or.inl ⟨rfl, Or.inl rfl, z, rfl⟩) hd hr
theorem own_retL {z : Int64} (hR : own_Rt p l e R s m args below meth c (some .long) Q G) (hret : meth.sig.returnType = some .long) (X : Stand p l e R s m args below meth c T locs cells slots) (hx : p.tables.exec = Jvm.exec) (hd : decode c.code pc = .ok (.lreturn, 1)) (hc : cells ≤ R.cells) (hs : slots ≤ R.slots) (hQ : Q (some (.long z)) T.heap locs) : G (T.setTop (mkF m pc Ls (.long z :: rest))) :=
  hR T locs cells slots (some (.long z)) _ X hc hs (fun h => nomatch h) hQ fun fs hr => retOut X hx hret rfl (Or.inr (Or.inl ⟨rfl, rfl, z, rfl⟩)) hd hr
theorem own_retN {z : Int32} {t : FieldType} (hR : own_Rt p l e R s m args below meth c (some t) Q G) (hret : meth.sig.returnType = some t) (ht : t = .boolean ∨ t = .byte ∨ t = .char ∨ t = .short) (X : Stand p l e R s m args below meth c T locs cells slots) (hx : p.tables.exec = Jvm.exec) (hd : decode c.code pc = .ok (.ireturn, 1)) (hc : cells ≤ R.cells) (hs : slots ≤ R.slots) (hQ : Q (some (.int (nar t z))) T.heap locs) : G (T.setTop (mkF m pc Ls (.int z :: rest))) :=
  hR T locs cells slots (some (.int (nar t z))) _ X hc hs (fun h => nomatch h) hQ fun fs hr => retN X hx hret ht hd hr
end Rets
section Calls
variable {Z : State} {a0 : Array Value} {own : String} {index : Nat} {y z : MethodName} {bytes : ByteArray} {maxL : Nat} {ret : Option FieldType} {rm : Room} {as' : Array Value} {h : Heap} {Q : Option Value → Heap → List Loc → Prop} {G : State → Prop} {pc : Nat} {Ls : Array Slot} {stk argsL rest : List Value}
theorem own_callS (X : Stand p l e R s m args below meth c T locs cells slots) (hx : p.tables.exec = Jvm.exec) (hZ : Z.Warmed39 s.vm) (hG : own_Bk p e below G) (hown : s.vm.findClass own = some m.cls)
    (w1 : (Jvm.Cond.methodLink own index y).before a0 Z = true) (w2 : (Jvm.Cond.static y).before a0 Z = true) (w3 : (Jvm.Cond.initialized y.cls).before a0 Z = true) (w4 : (Jvm.Cond.code y bytes maxL ret).before a0 Z = true)
    (hy : y.cls ≠ "java/lang/invoke/MethodHandle" ∧ y.cls ≠ "java/lang/invoke/VarHandle") (W : Nat) (hM : own_Con l Z y bytes maxL ret [] rm as' h Q) (hf : rm.frames + 1 ≤ R.frames) (hlo : W + (maxL + 11) + rm.locals ≤ R.locals) (eT : T.heap = h)
    (hsize : Ls.size = c.maxLocals) (hlen : ∀ sig, parseMethodDescriptor y.desc = some sig → argsL.length = sig.parameters.length) (has : argsL.toArray = as') (hst : stk = argsL.reverse ++ rest) (hW : (rest.map fun v => v.category).sum ≤ W)
    (hd : decode c.code pc = .ok (.invokestatic index, 3)) (hc : cells + rm.cells ≤ R.cells) (hs : slots + rm.slots ≤ R.slots)
    (k : ∀ T' h' v L, Stand p l e R s m args below meth c T' (locs ++ L) (cells + rm.cells) (slots + rm.slots) → T'.heap = h' → Q v h' L → G (T'.setTop (mkF m (pc + 3) Ls (v.toList ++ rest)))) : G (T.setTop (mkF m pc Ls stk)) := by
  obtain ⟨v, _, ⟨T1, L1, k1, n1⟩, -, X1, ⟨L, hQ, rfl, rfl, rfl⟩, st⟩ := Jvm.LawKit.callS X hx (y := y) hown (mvT hZ w1) (mvT hZ w2) (mvT hZ w3) (mvT hZ w4) hy (backOf (W := W) hM hZ w4 w3 hf hlo) (g := mkF m pc Ls stk) rfl hsize (argsL := argsL) (rest := rest) hlen hst (by show 2 * 0 + _ ≤ _; rw [Nat.mul_zero, Nat.zero_add]; exact hW) hd (fun _ _ => ⟨has, eT, hc, hs⟩)
  exact hG _ _ st (k T1 _ v L X1 rfl hQ)
theorem own_callI (X : Stand p l e R s m args below meth c T locs cells slots) (hx : p.tables.exec = Jvm.exec) (hZ : Z.Warmed39 s.vm) (hG : own_Bk p e below G) (hown : s.vm.findClass own = some m.cls) (hy1 : y.name = "<init>")
    (w1 : (Jvm.Cond.methodLink own index y).before a0 Z = true) (w2 : (Jvm.Cond.instanceMethod y).before a0 Z = true) (w3 : (Jvm.Cond.initialized y.cls).before a0 Z = true) (w4 : (Jvm.Cond.code y bytes maxL none).before a0 Z = true)
    (hy : y.cls ≠ "java/lang/invoke/MethodHandle" ∧ y.cls ≠ "java/lang/invoke/VarHandle") (W : Nat) (hM : own_Con l Z y bytes maxL none [] rm as' h Q) (hf : rm.frames + 1 ≤ R.frames) (hlo : W + (maxL + 11) + rm.locals ≤ R.locals) (eT : T.heap = h)
    (hsize : Ls.size = c.maxLocals) (hlen : ∀ sig, parseMethodDescriptor y.desc = some sig → argsL.length = sig.parameters.length) {a : Addr} (has : (.ref a :: argsL).toArray = as') (hst : stk = argsL.reverse ++ .ref a :: rest) (hW : (rest.map fun v => v.category).sum ≤ W)
    (hd : decode c.code pc = .ok (.invokespecial index, 3)) (hc : cells + rm.cells ≤ R.cells) (hs : slots + rm.slots ≤ R.slots)
    (k : ∀ T' h' v L, Stand p l e R s m args below meth c T' (locs ++ L) (cells + rm.cells) (slots + rm.slots) → T'.heap = h' → Q v h' L → G (T'.setTop (mkF m (pc + 3) Ls (v.toList ++ rest)))) : G (T.setTop (mkF m pc Ls stk)) := by
  obtain ⟨v, _, ⟨T1, L1, k1, n1⟩, -, X1, ⟨L, hQ, rfl, rfl, rfl⟩, st⟩ := X.specialBack hx (y := y) hy1 hown (mvT hZ w1) (mvT hZ w2) (mvT hZ w4) hy (backOf (W := W) hM hZ w4 w3 hf hlo) (g := mkF m pc Ls stk) rfl hsize (Steps.refl _) (a := a) (argsL := argsL) (rest := rest) hlen hst (by show 2 * 0 + _ ≤ _; rw [Nat.mul_zero, Nat.zero_add]; exact hW) hd (fun _ _ => ⟨has, eT, hc, hs⟩)
  exact hG _ _ (fun t kk => st.trans kk) (k T1 _ v L X1 rfl hQ)
theorem own_callV {C : String} (X : Stand p l e R s m args below meth c T locs cells slots) (hx : p.tables.exec = Jvm.exec) (hZ : Z.Warmed39 s.vm) (hG : own_Bk p e below G) (hown : s.vm.findClass own = some m.cls)
    (w1 : (Jvm.Cond.methodLink own index y).before a0 Z = true) (w2 : (Jvm.Cond.declares y).before a0 Z = true) (w3 : (Jvm.Cond.selects C y y).before a0 Z = true) (w4 : (Jvm.Cond.instanceMethod y).before a0 Z = true) (w5 : (Jvm.Cond.initialized y.cls).before a0 Z = true) (w6 : (Jvm.Cond.code y bytes maxL ret).before a0 Z = true)
    (hy : y.cls ≠ "java/lang/invoke/MethodHandle" ∧ y.cls ≠ "java/lang/invoke/VarHandle") (W : Nat) (hM : own_Con l Z y bytes maxL ret [] rm as' h Q) (hf : rm.frames + 1 ≤ R.frames) (hlo : W + (maxL + 11) + rm.locals ≤ R.locals) (eT : T.heap = h) {b : Addr} (E : Exa Z h b C)
    (hsize : Ls.size = c.maxLocals) (hlen : ∀ sig, parseMethodDescriptor y.desc = some sig → argsL.length = sig.parameters.length) (has : (.ref b :: argsL).toArray = as') (hst : stk = argsL.reverse ++ .ref b :: rest) (hW : (rest.map fun v => v.category).sum ≤ W)
    (hd : decode c.code pc = .ok (.invokevirtual index, 3)) (hc : cells + rm.cells ≤ R.cells) (hs : slots + rm.slots ≤ R.slots)
    (k : ∀ T' h' v L, Stand p l e R s m args below meth c T' (locs ++ L) (cells + rm.cells) (slots + rm.slots) → T'.heap = h' → Q v h' L → G (T'.setTop (mkF m (pc + 3) Ls (v.toList ++ rest)))) : G (T.setTop (mkF m pc Ls stk)) := by
  obtain ⟨cq, kq, qa, qb, qc⟩ := isOf hZ eT E
  obtain ⟨v, _, ⟨T1, L1, k1, n1⟩, -, X1, ⟨L, hQ, rfl, rfl, rfl⟩, st⟩ := X.virtualBack hx (y := y) (z := y) hown (mvT hZ w1) (mvT hZ w2) (notFace_of_selects (args := #[]) (mvT hZ w3)) (mvT hZ w3) (mvT hZ w4) hy (backOf (W := W) hM hZ w6 w5 hf hlo) qa qc (g := mkF m pc Ls stk) rfl hsize (Steps.refl _) (argsL := argsL) (rest := rest) hlen hst (by show 2 * 0 + _ ≤ _; rw [Nat.mul_zero, Nat.zero_add]; exact hW) hd (fun _ _ => ⟨has, eT, hc, hs⟩)
  exact hG _ _ (fun t kk => st.trans kk) (k T1 _ v L X1 rfl hQ)
theorem own_callP (X : Stand p l e R s m args below meth c T locs cells slots) (hx : p.tables.exec = Jvm.exec) (hZ : Z.Warmed39 s.vm) (hG : own_Bk p e below G) (hown : s.vm.findClass own = some m.cls)
    (w1 : (Jvm.Cond.methodLink own index y).before a0 Z = true) (w2 : (Jvm.Cond.instanceMethod y).before a0 Z = true) (w3 : (Jvm.Cond.selects y.cls y y).before a0 Z = true) (wp : (Jvm.Cond.privateMethod y).before a0 Z = true) (w5 : (Jvm.Cond.initialized y.cls).before a0 Z = true) (w6 : (Jvm.Cond.code y bytes maxL ret).before a0 Z = true)
    (hy : y.cls ≠ "java/lang/invoke/MethodHandle" ∧ y.cls ≠ "java/lang/invoke/VarHandle") (W : Nat) (hM : own_Con l Z y bytes maxL ret [] rm as' h Q) (hf : rm.frames + 1 ≤ R.frames) (hlo : W + (maxL + 11) + rm.locals ≤ R.locals) (eT : T.heap = h) {b : Addr} {C : String} (E : Exa Z h b C)
    (hsize : Ls.size = c.maxLocals) (hlen : ∀ sig, parseMethodDescriptor y.desc = some sig → argsL.length = sig.parameters.length) (has : (.ref b :: argsL).toArray = as') (hst : stk = argsL.reverse ++ .ref b :: rest) (hW : (rest.map fun v => v.category).sum ≤ W)
    (hd : decode c.code pc = .ok (.invokevirtual index, 3)) (hc : cells + rm.cells ≤ R.cells) (hs : slots + rm.slots ≤ R.slots)
    (k : ∀ T' h' v L, Stand p l e R s m args below meth c T' (locs ++ L) (cells + rm.cells) (slots + rm.slots) → T'.heap = h' → Q v h' L → G (T'.setTop (mkF m (pc + 3) Ls (v.toList ++ rest)))) : G (T.setTop (mkF m pc Ls stk)) := by
  obtain ⟨cell, hc1, hc2⟩ := (Ins.self E).cell
  obtain ⟨v, _, ⟨T1, L1, k1, n1⟩, -, X1, ⟨L, hQ, rfl, rfl, rfl⟩, st⟩ := X.privateBack hx (y := y) hown (mvT hZ w1) (mvT hZ w2) (mvT hZ w3) (Cond.privateMethod_at (mvP hZ wp (args := #[]))) (mvT hZ w6) hy (backOf (W := W) hM hZ w6 w5 hf hlo) (g := mkF m pc Ls stk) rfl hsize (Steps.refl _) (a := b) (by rw [eT]; exact hc1) hc2 (argsL := argsL) (rest := rest) hlen hst (by show 2 * 0 + _ ≤ _; rw [Nat.mul_zero, Nat.zero_add]; exact hW) hd (fun _ _ => ⟨has, eT, hc, hs⟩)
  exact hG _ _ (fun t kk => st.trans kk) (k T1 _ v L X1 rfl hQ)
theorem own_callF {C : String} {count : Nat} (X : Stand p l e R s m args below meth c T locs cells slots) (hx : p.tables.exec = Jvm.exec) (hZ : Z.Warmed39 s.vm) (hG : own_Bk p e below G) (hown : s.vm.findClass own = some m.cls)
    (w1 : (Jvm.Cond.methodLink own index z).before a0 Z = true) (w2 : (Jvm.Cond.declares z).before a0 Z = true) (wf : ∀ s' : State, Z.Warmed39 s'.vm → (Jvm.Cond.interfaceMethod z.cls z.cls z.name z.desc).before args s' = true) (w3 : (Jvm.Cond.selects C z y).before a0 Z = true) (w4 : (Jvm.Cond.instanceMethod y).before a0 Z = true) (wp : (Jvm.Cond.publicMethod y).before a0 Z = true) (wu : (Jvm.Cond.unhidden C z.name z.desc).before a0 Z = true) (wc : (Jvm.Cond.castable C z.cls).before a0 Z = true) (w5 : (Jvm.Cond.initialized y.cls).before a0 Z = true) (w6 : (Jvm.Cond.code y bytes maxL ret).before a0 Z = true)
    (hy : z.cls ≠ "java/lang/invoke/MethodHandle" ∧ z.cls ≠ "java/lang/invoke/VarHandle") (W : Nat) (hM : own_Con l Z y bytes maxL ret [] rm as' h Q) (hf : rm.frames + 1 ≤ R.frames) (hlo : W + (maxL + 11) + rm.locals ≤ R.locals) (eT : T.heap = h) {b : Addr} (E : Exa Z h b C)
    (hsize : Ls.size = c.maxLocals) (hlen : ∀ sig, parseMethodDescriptor z.desc = some sig → argsL.length = sig.parameters.length) (has : (.ref b :: argsL).toArray = as') (hst : stk = argsL.reverse ++ .ref b :: rest) (hW : (rest.map fun v => v.category).sum ≤ W)
    (hd : decode c.code pc = .ok (.invokeinterface index count, 5)) (hc : cells + rm.cells ≤ R.cells) (hs : slots + rm.slots ≤ R.slots)
    (k : ∀ T' h' v L, Stand p l e R s m args below meth c T' (locs ++ L) (cells + rm.cells) (slots + rm.slots) → T'.heap = h' → Q v h' L → G (T'.setTop (mkF m (pc + 5) Ls (v.toList ++ rest)))) : G (T.setTop (mkF m pc Ls stk)) := by
  obtain ⟨cq, kq, qa, qb, qc⟩ := isOf hZ eT E
  obtain ⟨v, _, ⟨T1, L1, k1, n1⟩, -, X1, ⟨L, hQ, rfl, rfl, rfl⟩, st⟩ := X.interfaceBack hx (xi := z) (y := y) hown (mvT hZ w1) (mvT hZ w2) (wf s hZ) (mvT hZ w3) (mvT hZ w4) (mvT hZ wp) (mvT hZ wu) (mvT hZ wc) hy (backOf (W := W) hM hZ w6 w5 hf hlo) qa qb qc (g := mkF m pc Ls stk) rfl hsize (Steps.refl _) (argsL := argsL) (rest := rest) hlen hst (by show 2 * 0 + _ ≤ _; rw [Nat.mul_zero, Nat.zero_add]; exact hW) hd (fun _ _ => ⟨has, eT, hc, hs⟩)
  exact hG _ _ (fun t kk => st.trans kk) (k T1 _ v L X1 rfl hQ)
end Calls
theorem own_entry {G : State → Prop} {n : Nat} {Ls : Array Slot} (q : entryFrame m args n = mkF m 0 Ls []) (k : G (T.setTop (mkF m 0 Ls []))) : G (T.setTop (entryFrame m args n)) := q ▸ k
abbrev own_Old (Z : State) (h : Heap) : Prop := Old Z Z.heap.size h
abbrev own_Fr (Z : State) (L : List Loc) : Prop := Fr Z.heap.size L
theorem own_ge {Z : State} {h : Heap} (O : own_Old Z h) {b : Addr} (q : h.size ≤ b) : Z.heap.size ≤ b := Nat.le_trans O.2.1 q
theorem own_sta {Z : State} {h : Heap} {C n d : String} {v : Value} (S : Sta Z Z.heap C n d v) (O : own_Old Z h) : Sta Z h C n d v := S.ext O.2
theorem own_ne {h : Heap} {a b : Addr} (q : a < h.size) (r : h.size ≤ b) : a ≠ b := Nat.ne_of_lt (Nat.lt_of_lt_of_le q r)
end OwnKit
theorem own_toInt {i : Nat} (h : i < 2147483648) : (Int32.ofNat i).toInt = i := Int32.toInt_ofNat_of_lt (by omega)
theorem own_clamp {i : Nat} (h : i < 2147483648) : (Int32.ofNat i).toNatClampNeg = i := by
  show ((Int32.ofNat i).toInt).toNat = i
  rw [own_toInt h]; rfl
theorem own_inc (i : Nat) : Int32.ofNat i + 1 = Int32.ofNat (i + 1) := (Int32.ofNat_add i 1).symm
theorem own_nn {i : Nat} (h : i < 2147483648) : ¬ Int32.ofNat i < 0 := by
  rw [Int32.lt_iff_toInt_lt, own_toInt h]; simp
theorem own_lt {i n : Nat} (h : i < n) (hn : n < 2147483648) : Int32.ofNat i < Int32.ofNat n := by
  rw [Int32.lt_iff_toInt_lt, own_toInt (by omega), own_toInt hn]; omega
theorem own_nlt {i n : Nat} (h : n ≤ i) (hi : i < 2147483648) : ¬ Int32.ofNat i < Int32.ofNat n := by
  rw [Int32.lt_iff_toInt_lt, own_toInt hi, own_toInt (by omega)]; omega
theorem own_ofNat_inj {i n : Nat} (hi : i < 2147483648) (hn : n < 2147483648) (h : Int32.ofNat i = Int32.ofNat n) : i = n := by
  have := congrArg Int32.toInt h
  rw [own_toInt hi, own_toInt hn] at this; omega
theorem own_getD_set {α : Type} (vs : List α) (i j : Nat) (x d : α) (h : i < vs.length) : (vs.set i x).getD j d = if j = i then x else vs.getD j d := by
  simp only [List.getD_eq_getElem?_getD, List.getElem?_set]
  by_cases e : i = j
  · subst e; simp [h]
  · simp [e, Ne.symm e]
theorem own_getD_map {α β : Type} (f : α → β) (cs : List α) (j : Nat) (d : β) (e : α) (h : j < cs.length) : (cs.map f).getD j d = f (cs.getD j e) := by
  simp [List.getD_eq_getElem?_getD, List.getElem?_map, h]
theorem own_mapEq {α β : Type} (f : α → β) (cs : List α) (vs : List β) (d : β) (e : α) (hl : vs.length = cs.length) (h : ∀ j, j < cs.length → vs.getD j d = f (cs.getD j e)) : vs = cs.map f := by
  apply List.ext_getElem (by simpa using hl)
  intro j h1 h2
  have q := h j (by simpa using h2)
  have h3 : j < cs.length := by simpa using h2
  simp [List.getD_eq_getElem?_getD, h1, h3] at q
  simpa using q
theorem own_narR {t : FieldType} {v : Value} (ht : t.isReference = true) (hv : v.isRef = true) : narrow t v = v := by cases t <;> simp_all [FieldType.isReference, narrow]
theorem own_nb (x : Int32) : nar .byte x.toInt8.toInt32 = x.toInt8.toInt32 := by
  show x.toInt8.toInt32.toInt8.toInt32 = _
  rw [Int8.toInt8_toInt32]
theorem own_nc (x : Int32) : nar .char x.toUInt32.toUInt16.toUInt32.toInt32 = x.toUInt32.toUInt16.toUInt32.toInt32 := by
  simp only [nar, UInt32.toUInt32_toInt32, UInt16.toUInt16_toUInt32]
theorem own_getD_mem {α : Type} (cs : List α) (i : Nat) (d : α) (h : i < cs.length) : cs.getD i d ∈ cs := by
  rw [List.getD_eq_getElem?_getD, List.getElem?_eq_getElem h]; exact List.getElem_mem h
theorem own_alln {α : Type} {P : α → Prop} : ∀ c ∈ ([] : List α), P c := fun _ q => nomatch q
theorem own_allc {α : Type} {P : α → Prop} {x : α} {L : List α} (q : P x) (r : ∀ c ∈ L, P c) : ∀ c ∈ x :: L, P c := fun c z => (List.mem_cons.mp z).elim (fun u => u ▸ q) (r c)
theorem own_and255 (x : Int32) : 0 ≤ (x &&& 255).toInt ∧ (x &&& 255).toInt ≤ 255 := by
  rw [c_mask x 255 8 (by decide) (by decide)]
  have h1 := Int.emod_nonneg x.toInt (show ((2 ^ 8 : Nat) : Int) ≠ 0 by decide)
  have h2 := Int.emod_lt_of_pos x.toInt (show (0 : Int) < ((2 ^ 8 : Nat) : Int) by decide)
  omega
theorem own_mask8 {x c : Int32} (h : (x &&& 255).toUInt32.toUInt16.toUInt32.toInt32 = c) : 0 ≤ c.toInt ∧ c.toInt ≤ 255 := by
  rw [i2c_mask] at h; subst h; exact own_and255 x
theorem own_narC {c : Int32} (h : 0 ≤ c.toInt ∧ c.toInt ≤ 65535) : nar .char c = c := by
  apply Int32.toInt_inj.mp
  have q := c_i2c c
  show c.toUInt32.toUInt16.toUInt32.toInt32.toInt = c.toInt
  omega
theorem own_le255 {c : Int32} (h : 0 ≤ c.toInt ∧ c.toInt ≤ 255) : ¬ ((255 : Int32) < c) := by
  rw [Int32.lt_iff_toInt_lt]
  have : (255 : Int32).toInt = 255 := by decide
  omega
theorem own_nar8 {c : Int32} (h : 0 ≤ c.toInt ∧ c.toInt ≤ 255) : ¬ ((255 : Int32) < nar .char c) := by
  rw [own_narC ⟨h.1, by omega⟩]; exact own_le255 h
theorem own_setNext {vs : List Value} {cs : List Int32} {i : Nat} (f : Int32 → Value) (d x : Value) (hi : i < vs.length) (hx : x = f (cs.getD i 0)) (hv : ∀ j, j < i → vs.getD j d = f (cs.getD j 0)) : ∀ j, j < i + 1 → (vs.set i x).getD j d = f (cs.getD j 0) := by
  intro j hj
  rw [own_getD_set _ _ _ _ _ hi]
  by_cases e : j = i
  · subst e; rw [if_pos rfl]; exact hx
  · rw [if_neg e]; exact hv j (by omega)
theorem own_fitR {t : FieldType} {v : Value} (ht : t.isReference = true) (hv : v.isRef = true) : fits t v = true := by
  rcases ref_cases hv with rfl | ⟨a, rfl⟩ <;> cases t <;> simp_all [FieldType.isReference, fits]
theorem own_fitC {c : Int32} (h : 0 ≤ c.toInt ∧ c.toInt ≤ 65535) : fits .char (.int c) = true := by
  have q := fits_nar_char c
  rw [own_narC h] at q; exact q
theorem own_zero1 : (0 : Int32) + (1 : Int32) = (1 : Int32) := by decide
theorem own_emptyArv {s : State} {args : Array Value} {t : Term} {a : Addr} {cl : Cell} {ty : FieldType} {dv : Value} (hf : Fit s) (ev : t.eval args s none [] s = some (.ref a)) (A : Arr s s.heap a cl ty) (hl : (Term.length t).eval args s none [] s = some (.int (0 : Int32))) : Arv s s.heap a cl.cls ty (0 : Int32) [] dv := by
  obtain ⟨x, cl', e1, e2, -⟩ := Term.length_spec hl
  cases ev.symm.trans e1
  have hc : s.arrayAt? a = some cl := A.fin (Vm.Alike.refl _)
  cases e2.symm.trans hc
  have h31 := Jvm.Free.SBG.length_lt e1 hc hl
  have e : (Term.length t).eval args s none [] s = some (.int (Int32.ofNat cl.slots.size)) := by simp [Term.eval, e1, hc, h31]
  have q : Int32.ofNat cl.slots.size = (0 : Int32) := by simpa using Option.some.inj (e.symm.trans hl)
  exact Arv.start hf A h31 q (by decide) rfl trivial
theorem own_sz {x n : Int32} (h : ((1 : Int32) + (x &&& (3 : Int32))) = n) : 1 ≤ n.toInt ∧ n.toInt ≤ 4 := by
  have q : (x &&& (3 : Int32)).toInt = x.toInt % (2 ^ 2 : Nat) := c_mask x 3 2 (by decide) (by decide)
  have e := c_iadd 1 (x &&& (3 : Int32)); rw [h] at e
  have e1 : (1 : Int32).toInt = 1 := by decide
  have r := rng32 n
  omega
theorem own_sz0 {n : Int32} (h : 1 ≤ n.toInt ∧ n.toInt ≤ 4) : n ≠ 0 := fun e => by rw [e] at h; exact absurd h.1 (by decide)
theorem own_ixr {x n r : Int32} (h : 1 ≤ n.toInt ∧ n.toInt ≤ 4) (hr : ((x &&& (2147483647 : Int32)) % n) = r) : 0 ≤ r.toInt ∧ r.toInt < n.toInt := by
  have q := c_and x 2147483647 (by decide)
  have c := (c_iremV (x &&& 2147483647) n).1 q.1 (by omega)
  rw [hr] at c
  exact ⟨c.1, c.2.1⟩
theorem own_szb {n k : Int32} {m : Int} (h : ¬ (k < n)) (hk : k.toInt = m) : n.toInt ≤ m := by
  rw [Int32.lt_iff_toInt_lt] at h; omega
theorem own_ix1 {i n : Int32} (h0 : 0 ≤ i.toInt) (h1 : i.toInt < n.toInt) (h2 : n.toInt ≤ 1) : i = (0 : Int32) := Int32.toInt_inj.mp (by have : (0 : Int32).toInt = 0 := (by decide); omega)
theorem own_ix2 {i n : Int32} (h0 : 0 ≤ i.toInt) (h1 : i.toInt < n.toInt) (h2 : n.toInt ≤ 2) : i = (0 : Int32) ∨ i = (1 : Int32) := by
  have e0 : (0 : Int32).toInt = 0 := by decide
  have e1 : (1 : Int32).toInt = 1 := by decide
  simp only [← Int32.toInt_inj]; omega
theorem own_ix3 {i n : Int32} (h0 : 0 ≤ i.toInt) (h1 : i.toInt < n.toInt) (h2 : n.toInt ≤ 3) : i = (0 : Int32) ∨ i = (1 : Int32) ∨ i = (2 : Int32) := by
  have e0 : (0 : Int32).toInt = 0 := by decide
  have e1 : (1 : Int32).toInt = 1 := by decide
  have e2 : (2 : Int32).toInt = 2 := by decide
  simp only [← Int32.toInt_inj]; omega
theorem own_ix4 {i n : Int32} (h0 : 0 ≤ i.toInt) (h1 : i.toInt < n.toInt) (h2 : n.toInt ≤ 4) : i = (0 : Int32) ∨ i = (1 : Int32) ∨ i = (2 : Int32) ∨ i = (3 : Int32) := by
  have e0 : (0 : Int32).toInt = 0 := by decide
  have e1 : (1 : Int32).toInt = 1 := by decide
  have e2 : (2 : Int32).toInt = 2 := by decide
  have e3 : (3 : Int32).toInt = 3 := by decide
  simp only [← Int32.toInt_inj]; omega
section OwnKitW
variable {p : Program} {l : Launch} {e : Env} {R : Room} {s : State} {m : MethodId} {args : Array Value} {below : List Frame} {meth : Method} {c : Code} {T : State} {locs : List Loc} {cells slots : Nat} {EL : List (String × Nat)} {Z : State} {a0 : Array Value}
/-- the contract of a body that may load String constants -/
def own_ConW (l : Launch) (Z : State) (EL : List (String × Nat)) (y : MethodName) (bytes : ByteArray) (maxL : Nat) (ret : Option FieldType) (ws : List Jvm.Cond) (rm : Room) (as' : Array Value) (h0 : Heap) (Q : Option Value → Heap → List Loc → Prop) : Prop :=
  MetFree l y (head1 (Jvm.Cond.code y bytes maxL ret :: ws) rm) (fun a U => a = as' ∧ Z.Warmed39 U.vm ∧ U.heap = h0 ∧ CHv Z EL U.vm h0) (fun _ _ _ _ _ => True) (fun _ U o U' => ∃ v L, o = .returned v ∧ Q v U'.heap L ∧ CHr Z EL U.vm U.heap U'.vm U'.heap ∧ ReturnedEndW U o U' L rm.cells rm.slots)
def own_RtW (p : Program) (l : Launch) (e : Env) (Z : State) (EL : List (String × Nat)) (rm : Room) (s : State) (m : MethodId) (as' : Array Value) (below : List Frame) (meth : Method) (c : Code) (ret : Option FieldType) (h0 : Heap) (Q : Option Value → Heap → List Loc → Prop) (G : State → Prop) : Prop :=
  ∀ T locs cells slots v S vm0 k0, Stand p l e rm (s.setVm vm0) m as' below meth c T locs cells slots → s.Since vm0 k0 → k0 ≤ T.heap.size → Z.Warmed39 vm0 → CHr Z EL s.vm h0 vm0 T.heap → cells ≤ rm.cells → slots ≤ rm.slots → (ret = none → v = none) → Q v T.heap locs →
    (∀ fs, (∀ (f : JFrame) (acts : List Action), f.method = m → f.locked = none → f.entered = [] → (doReturn e (T.setTop f) acts v).1 = T.setFrames fs) → Steps p.tables e below S (T.setFrames fs)) → G S
theorem own_introW {y : MethodName} {bytes : ByteArray} {maxL : Nat} {ret : Option FieldType} {ws : List Jvm.Cond} {rm : Room} {as' : Array Value} {h0 : Heap} {Q : Option Value → Heap → List Loc → Prop} (hEL : EW Z a0 EL) (hpn : plainFor y = true)
    (H : ∀ (p : Program) (e : Env) (s : State) (m : MethodId) (below : List Frame) (meth : Method) (c : Code) (s₁ : State) (G : State → Prop), p.tables.exec = Jvm.exec → c.code = bytes → c.maxLocals = maxL → (s.setVm s.vm).vm.findClass y.cls = some m.cls → meth.name = y.name → meth.sig.returnType = ret → Z.Warmed39 (s.setVm s.vm).vm →
      Stand p l e rm (s.setVm s.vm) m as' below meth c s₁ [] 0 0 → s₁.heap = h0 → CHv Z EL s.vm h0 → s.Since s.vm h0.size → own_Bk p e below G → own_RtW p l e Z EL rm s m as' below meth c ret h0 Q G → G (s₁.setTop (entryFrame m as' maxL))) : own_ConW l Z EL y bytes maxL ret ws rm as' h0 Q := by
  refine MetFree.of_bodySF hpn hisR ?_
  intro p e s m args below meth c s₁ Bd hml hP hK
  obtain ⟨rfl, hZ, hh, hC⟩ := hP
  refine H p e s m below meth c s₁ (fun S => ∃ s₂ o, Steps p.tables e below S s₂ ∧ s₂.status = .running ∧ Ended s₂ below o ∧ ∃ v L, o = .returned v ∧ Q v s₂.heap L ∧ CHr Z EL s.vm s.heap s₂.vm s₂.heap ∧ ReturnedEndW s o s₂ L rm.cells rm.slots) Bd.exec Bd.bytes hml (findClass_of_methodNamed Bd.named) (name_of_methodNamed Bd.named Bd.method).1 Bd.returns hZ (Stand.of_body Bd) (by rw [← hh, Bd.state]; rfl) hC ((State.WarmedH.refl s).since _) ?_ ?_
  · rintro S S' st ⟨s₂, o, h1, h2⟩
    exact ⟨s₂, o, st _ h1, h2⟩
  · intro T locs cells slots v S vm0 k0 X hS hk hZ0 hC0 hc hs hv hQ hst
    obtain ⟨fs, hr, hrun, hended, hW, hsame⟩ := X.leave (v := v) (fun h => hv (Bd.returns ▸ h)) Bd.notSynchronized
    obtain ⟨q1, q2, q3⟩ := hS.ended (U := T.setFrames fs) hW hk hsame
    have hA : CHr Z EL vm0 T.heap T.vm T.heap := CHv.at X hZ0 hEL hC0.1
    refine ⟨_, _, hst fs hr, hrun, hended, v, locs, rfl, hQ, ?_, ⟨_, rfl⟩, q1, q2, q3.mono hc hs⟩
    rw [hh]
    exact hC0.trans hA
section Rets
variable {Q : Option Value → Heap → List Loc → Prop} {G : State → Prop} {pc : Nat} {Ls : Array Slot} {rest : List Value} {h0 h : Heap} {vm0 : Vm} {k0 : Nat}
theorem own_retVW (hR : own_RtW p l e Z EL R s m args below meth c none h0 Q G) (hret : meth.sig.returnType = none) (X : Stand p l e R (s.setVm vm0) m args below meth c T locs cells slots) (hx : p.tables.exec = Jvm.exec) (hd : decode c.code pc = .ok (.return_, 1)) (eT : T.heap = h) (hS : s.Since vm0 k0) (hk : k0 ≤ h.size) (hZ : Z.Warmed39 (s.setVm vm0).vm) (hC : CHr Z EL s.vm h0 vm0 h) (hc : cells ≤ R.cells) (hs : slots ≤ R.slots) (hQ : Q none h locs) : G (T.setTop (mkF m pc Ls [])) :=
  hR T locs cells slots none _ vm0 k0 X hS (by rw [eT]; exact hk) hZ (by rw [eT]; exact hC) hc hs (fun _ => rfl) (by rw [eT]; exact hQ) fun fs hr => X.returnOut hx hret hd hr
theorem own_retAW {t : FieldType} {v : Value} (hR : own_RtW p l e Z EL R s m args below meth c (some t) h0 Q G) (hret : meth.sig.returnType = some t) (ht : t.isReference = true) (hv : v.isRef = true) (X : Stand p l e R (s.setVm vm0) m args below meth c T locs cells slots) (hx : p.tables.exec = Jvm.exec) (hd : decode c.code pc = .ok (.areturn, 1)) (eT : T.heap = h) (hS : s.Since vm0 k0) (hk : k0 ≤ h.size) (hZ : Z.Warmed39 (s.setVm vm0).vm) (hC : CHr Z EL s.vm h0 vm0 h) (hc : cells ≤ R.cells) (hs : slots ≤ R.slots) (hQ : Q (some v) h locs) : G (T.setTop (mkF m pc Ls (v :: rest))) :=
  hR T locs cells slots (some v) _ vm0 k0 X hS (by rw [eT]; exact hk) hZ (by rw [eT]; exact hC) hc hs (fun h => nomatch h) (by rw [eT]; exact hQ) fun fs hr => retOut X hx hret (by cases t <;> simp_all [FieldType.isReference, narrow]) (Or.inr (Or.inr (Or.inr (Or.inr ⟨rfl, ht, hv⟩)))) hd hr
theorem own_retNW {z : Int32} {t : FieldType} (hR : own_RtW p l e Z EL R s m args below meth c (some t) h0 Q G) (hret : meth.sig.returnType = some t) (ht : t = .boolean ∨ t = .byte ∨ t = .char ∨ t = .short) (X : Stand p l e R (s.setVm vm0) m args below meth c T locs cells slots) (hx : p.tables.exec = Jvm.exec) (hd : decode c.code pc = .ok (.ireturn, 1)) (eT : T.heap = h) (hS : s.Since vm0 k0) (hk : k0 ≤ h.size) (hZ : Z.Warmed39 (s.setVm vm0).vm) (hC : CHr Z EL s.vm h0 vm0 h) (hc : cells ≤ R.cells) (hs : slots ≤ R.slots) (hQ : Q (some (.int (nar t z))) h locs) : G (T.setTop (mkF m pc Ls (.int z :: rest))) :=
  hR T locs cells slots (some (.int (nar t z))) _ vm0 k0 X hS (by rw [eT]; exact hk) hZ (by rw [eT]; exact hC) hc hs (fun h => nomatch h) (by rw [eT]; exact hQ) fun fs hr => retN X hx hret ht hd hr
end Rets
section Calls
variable {own : String} {index : Nat} {y : MethodName} {bytes : ByteArray} {maxL : Nat} {ret : Option FieldType} {rm : Room} {as' : Array Value} {h : Heap} {Q : Option Value → Heap → List Loc → Prop} {G : State → Prop} {pc : Nat} {Ls : Array Slot} {stk argsL rest : List Value} {vm0 : Vm} {k0 : Nat}
theorem own_callSW (X : Stand p l e R (s.setVm vm0) m args below meth c T locs cells slots) (hx : p.tables.exec = Jvm.exec) (hZ : Z.Warmed39 (s.setVm vm0).vm) (hG : own_Bk p e below G) (hown : (s.setVm vm0).vm.findClass own = some m.cls)
    (w1 : (Jvm.Cond.methodLink own index y).before a0 Z = true) (w2 : (Jvm.Cond.static y).before a0 Z = true) (w3 : (Jvm.Cond.initialized y.cls).before a0 Z = true) (w4 : (Jvm.Cond.code y bytes maxL ret).before a0 Z = true)
    (hy : y.cls ≠ "java/lang/invoke/MethodHandle" ∧ y.cls ≠ "java/lang/invoke/VarHandle") (W : Nat) (hM : own_ConW l Z EL y bytes maxL ret [] rm as' h Q) (hf : rm.frames + 1 ≤ R.frames) (hlo : W + (maxL + 11) + rm.locals ≤ R.locals) (eT : T.heap = h)
    (hS : s.Since vm0 k0) (hk : k0 ≤ h.size) (hEL : EW Z a0 EL) (H : CHv Z EL vm0 h)
    (hsize : Ls.size = c.maxLocals) (hlen : ∀ sig, parseMethodDescriptor y.desc = some sig → argsL.length = sig.parameters.length) (has : argsL.toArray = as') (hst : stk = argsL.reverse ++ rest) (hW : (rest.map fun v => v.category).sum ≤ W)
    (hd : decode c.code pc = .ok (.invokestatic index, 3)) (hc : cells + rm.cells ≤ R.cells) (hs : slots + rm.slots ≤ R.slots)
    (k : ∀ T' h' v L, Stand p l e R (s.setVm T'.vm) m args below meth c T' (locs ++ L) (cells + rm.cells) (slots + rm.slots) → T'.heap = h' → s.Since T'.vm h'.size → Z.Warmed39 (s.setVm T'.vm).vm → (s.setVm T'.vm).vm.findClass own = some m.cls → CHr Z EL vm0 h T'.vm h' → Q v h' L → G (T'.setTop (mkF m (pc + 3) Ls (v.toList ++ rest)))) : G (T.setTop (mkF m pc Ls stk)) := by
  obtain ⟨v, _, ⟨T1, L1, k1, n1⟩, -, X1, hS1, hg1, ⟨L, hQ, rfl, rfl, rfl, hC⟩, st⟩ := callSS X hx (y := y) hown (mvT hZ w1) (mvT hZ w2) (mvT hZ w3) (mvT hZ w4) hy (backOfSH (W := W) hM hZ w4 w3 hf hlo hEL H) (g := mkF m pc Ls stk) rfl hsize (argsL := argsL) (rest := rest) hlen hst (by show 2 * 0 + _ ≤ _; rw [Nat.mul_zero, Nat.zero_add]; exact hW) hd (fun _ _ => ⟨has, eT, hc, hs⟩)
  obtain ⟨X2, hS2, hZ2, hown2⟩ := rebS hS (by rw [eT]; exact hk) X1 hS1 hg1 hZ hown
  exact hG _ _ (fun t kk => st.trans kk) (k T1 _ v L X2 rfl hS2 hZ2 hown2 hC hQ)
theorem own_callIW (X : Stand p l e R (s.setVm vm0) m args below meth c T locs cells slots) (hx : p.tables.exec = Jvm.exec) (hZ : Z.Warmed39 (s.setVm vm0).vm) (hG : own_Bk p e below G) (hown : (s.setVm vm0).vm.findClass own = some m.cls) (hy1 : y.name = "<init>")
    (w1 : (Jvm.Cond.methodLink own index y).before a0 Z = true) (w2 : (Jvm.Cond.instanceMethod y).before a0 Z = true) (w3 : (Jvm.Cond.initialized y.cls).before a0 Z = true) (w4 : (Jvm.Cond.code y bytes maxL none).before a0 Z = true)
    (hy : y.cls ≠ "java/lang/invoke/MethodHandle" ∧ y.cls ≠ "java/lang/invoke/VarHandle") (W : Nat) (hM : own_ConW l Z EL y bytes maxL none [] rm as' h Q) (hf : rm.frames + 1 ≤ R.frames) (hlo : W + (maxL + 11) + rm.locals ≤ R.locals) (eT : T.heap = h)
    (hS : s.Since vm0 k0) (hk : k0 ≤ h.size) (hEL : EW Z a0 EL) (H : CHv Z EL vm0 h)
    (hsize : Ls.size = c.maxLocals) (hlen : ∀ sig, parseMethodDescriptor y.desc = some sig → argsL.length = sig.parameters.length) {a : Addr} (has : (.ref a :: argsL).toArray = as') (hst : stk = argsL.reverse ++ .ref a :: rest) (hW : (rest.map fun v => v.category).sum ≤ W)
    (hd : decode c.code pc = .ok (.invokespecial index, 3)) (hc : cells + rm.cells ≤ R.cells) (hs : slots + rm.slots ≤ R.slots)
    (k : ∀ T' h' v L, Stand p l e R (s.setVm T'.vm) m args below meth c T' (locs ++ L) (cells + rm.cells) (slots + rm.slots) → T'.heap = h' → s.Since T'.vm h'.size → Z.Warmed39 (s.setVm T'.vm).vm → (s.setVm T'.vm).vm.findClass own = some m.cls → CHr Z EL vm0 h T'.vm h' → Q v h' L → G (T'.setTop (mkF m (pc + 3) Ls (v.toList ++ rest)))) : G (T.setTop (mkF m pc Ls stk)) := by
  obtain ⟨v, _, ⟨T1, L1, k1, n1⟩, -, X1, hS1, hg1, ⟨L, hQ, rfl, rfl, rfl, hC⟩, st⟩ := X.specialBackS hx (y := y) hy1 hown (mvT hZ w1) (mvT hZ w2) (mvT hZ w4) hy (backOfSH (W := W) hM hZ w4 w3 hf hlo hEL H) (g := mkF m pc Ls stk) rfl hsize (Steps.refl _) (a := a) (argsL := argsL) (rest := rest) hlen hst (by show 2 * 0 + _ ≤ _; rw [Nat.mul_zero, Nat.zero_add]; exact hW) hd (fun _ _ => ⟨has, eT, hc, hs⟩)
  obtain ⟨X2, hS2, hZ2, hown2⟩ := rebS hS (by rw [eT]; exact hk) X1 hS1 hg1 hZ hown
  exact hG _ _ (fun t kk => st.trans kk) (k T1 _ v L X2 rfl hS2 hZ2 hown2 hC hQ)
theorem own_callVW {C : String} (X : Stand p l e R (s.setVm vm0) m args below meth c T locs cells slots) (hx : p.tables.exec = Jvm.exec) (hZ : Z.Warmed39 (s.setVm vm0).vm) (hG : own_Bk p e below G) (hown : (s.setVm vm0).vm.findClass own = some m.cls)
    (w1 : (Jvm.Cond.methodLink own index y).before a0 Z = true) (w2 : (Jvm.Cond.declares y).before a0 Z = true) (w3 : (Jvm.Cond.selects C y y).before a0 Z = true) (w4 : (Jvm.Cond.instanceMethod y).before a0 Z = true) (w5 : (Jvm.Cond.initialized y.cls).before a0 Z = true) (w6 : (Jvm.Cond.code y bytes maxL ret).before a0 Z = true)
    (hy : y.cls ≠ "java/lang/invoke/MethodHandle" ∧ y.cls ≠ "java/lang/invoke/VarHandle") (W : Nat) (hM : own_ConW l Z EL y bytes maxL ret [] rm as' h Q) (hf : rm.frames + 1 ≤ R.frames) (hlo : W + (maxL + 11) + rm.locals ≤ R.locals) (eT : T.heap = h)
    (hS : s.Since vm0 k0) (hk : k0 ≤ h.size) (hEL : EW Z a0 EL) (H : CHv Z EL vm0 h) {b : Addr} (E : Exa Z h b C)
    (hsize : Ls.size = c.maxLocals) (hlen : ∀ sig, parseMethodDescriptor y.desc = some sig → argsL.length = sig.parameters.length) (has : (.ref b :: argsL).toArray = as') (hst : stk = argsL.reverse ++ .ref b :: rest) (hW : (rest.map fun v => v.category).sum ≤ W)
    (hd : decode c.code pc = .ok (.invokevirtual index, 3)) (hc : cells + rm.cells ≤ R.cells) (hs : slots + rm.slots ≤ R.slots)
    (k : ∀ T' h' v L, Stand p l e R (s.setVm T'.vm) m args below meth c T' (locs ++ L) (cells + rm.cells) (slots + rm.slots) → T'.heap = h' → s.Since T'.vm h'.size → Z.Warmed39 (s.setVm T'.vm).vm → (s.setVm T'.vm).vm.findClass own = some m.cls → CHr Z EL vm0 h T'.vm h' → Q v h' L → G (T'.setTop (mkF m (pc + 3) Ls (v.toList ++ rest)))) : G (T.setTop (mkF m pc Ls stk)) := by
  obtain ⟨cq, kq, qa, qb, qc⟩ := isOf hZ eT E
  obtain ⟨v, _, ⟨T1, L1, k1, n1⟩, -, X1, hS1, hg1, ⟨L, hQ, rfl, rfl, rfl, hC⟩, st⟩ := X.virtualBackS hx (y := y) (z := y) hown (mvT hZ w1) (mvT hZ w2) (notFace_of_selects (args := #[]) (mvT hZ w3)) (mvT hZ w3) (mvT hZ w4) hy (backOfSH (W := W) hM hZ w6 w5 hf hlo hEL H) qa qc (g := mkF m pc Ls stk) rfl hsize (Steps.refl _) (argsL := argsL) (rest := rest) hlen hst (by show 2 * 0 + _ ≤ _; rw [Nat.mul_zero, Nat.zero_add]; exact hW) hd (fun _ _ => ⟨has, eT, hc, hs⟩)
  obtain ⟨X2, hS2, hZ2, hown2⟩ := rebS hS (by rw [eT]; exact hk) X1 hS1 hg1 hZ hown
  exact hG _ _ (fun t kk => st.trans kk) (k T1 _ v L X2 rfl hS2 hZ2 hown2 hC hQ)
end Calls
/-- a String whose value is still null is none that the JVM holds for a constant -/
theorem own_safeStr {vm : Vm} {h : Heap} {a : Addr} (hal : Z.vm.Alike vm) (E : Exa Z h a "java/lang/String") (F : Fld Z h a "java/lang/String" "value" "[B" .null) : Safe Z EL vm h a := fun B => by
  obtain ⟨p0, hp0, u, a', hb, q, hqa, S, hy⟩ := B
  obtain ⟨cS, ⟨⟨s1, s2, s3, ⟨cv, kv, iv, s4, s4'⟩, ⟨cc, kc, ic, s5, s5'⟩, s6, s7, s8, s9, s10, -⟩, hfS, hcS⟩, -, hB, -⟩ := S
  obtain ⟨kv', z4⟩ := ff_back (U := Wst Z vm h) hal s4
  rcases hy with rfl | rfl
  · have G : Fld Z h q.sa "java/lang/String" "value" "[B" (.ref q.sd) := ⟨q.sC, cv, kv', iv, q.fSV, s1, z4, s6, s2, s3, by rw [← hal.assignable]; exact s4', s8⟩
    exact Fld.ne F G (by simp) rfl
  · obtain ⟨cell, k, e1, e2, -⟩ := E
    have s10' : h[q.sd]? = some q.SA := s10
    cases s10'.symm.trans e1
    have hB' : vm.findClass "[B" = some q.SA.cls := hB
    have hBZ : Z.vm.findClass "[B" = some q.SA.cls := by rw [← hal.findClass]; exact hB'
    obtain ⟨k1, x1, x2⟩ := Vm.findClass_spec e2
    obtain ⟨k2, y1, y2⟩ := Vm.findClass_spec hBZ
    cases x1.symm.trans y1
    exact absurd (x2.symm.trans y2) (by decide)
theorem own_safeArv {vm : Vm} {h : Heap} {a : Addr} {k : ClassId} {ty : FieldType} {z : Int32} {vs : List Value} {d : Value} (hal : Z.vm.Alike vm) (A : Arv Z h a k ty z vs d) (ht : ty ≠ .byte) : Safe Z EL vm h a := by
  obtain ⟨cl, Ar, -⟩ := A
  exact Safe.arr hal Ar ht
end OwnKitW

def own_lo (ch : Int32) : Int32 := nar .byte ((ch >>> ((0 : Int32) &&& 31)).toInt8.toInt32)
def own_hi (ch : Int32) : Int32 := nar .byte ((ch >>> ((8 : Int32) &&& 31)).toInt8.toInt32)
def own_join (x y : Int32) : Int32 := nar .char ((((x &&& (255 : Int32)) <<< ((0 : Int32) &&& 31)) ||| ((y &&& (255 : Int32)) <<< ((8 : Int32) &&& 31))).toUInt32.toUInt16.toUInt32.toInt32)
def own_is16 (cs : List Int32) (vs : List Value) : Prop := vs.length = 2 * cs.length ∧ ∀ j, j < cs.length → vs.getD (2 * j) (.int (0 : Int32)) = .int (own_lo (cs.getD j 0)) ∧ vs.getD (2 * j + 1) (.int (0 : Int32)) = .int (own_hi (cs.getD j 0))
/-- the bytes of a String of these chars -/
def own_enc (cs : List Int32) (cd nb : Int32) (vs : List Value) : Prop :=
  ((∀ c ∈ cs, ¬ ((255 : Int32) < c)) ∧ cd = 0 ∧ nb = Int32.ofNat cs.length ∧ vs = (cs.map fun c => Value.int c.toInt8.toInt32)) ∨
    ((∃ k, k < cs.length ∧ (255 : Int32) < cs.getD k 0) ∧ cd = 1 ∧ nb = Int32.ofNat (2 * cs.length) ∧ own_is16 cs vs)
theorem own_shl1 (i : Nat) : Int32.ofNat i <<< ((1 : Int32) &&& 31) = Int32.ofNat (2 * i) := by
  rw [shlm (x := Int32.ofNat i) (k := 1) (m := 2) (by decide), Nat.mul_comm, Int32.ofNat_mul]; rfl
theorem own_lo_rng (ch : Int32) : (own_lo ch).toInt % 256 = ch.toInt % 256 := by
  have h0 : (ch >>> ((0 : Int32) &&& 31)).toInt = ch.toInt / (2 ^ 0 : Nat) := c_ishr ch 0 0 (by decide)
  have h1 := c_i2b (ch >>> ((0 : Int32) &&& 31))
  show (nar .byte _).toInt % 256 = _
  rw [own_nb]
  omega
theorem own_hi_rng (ch : Int32) : (own_hi ch).toInt % 256 = (ch.toInt / 256) % 256 := by
  have h0 : (ch >>> ((8 : Int32) &&& 31)).toInt = ch.toInt / (2 ^ 8 : Nat) := c_ishr ch 8 8 (by decide)
  have h1 := c_i2b (ch >>> ((8 : Int32) &&& 31))
  show (nar .byte _).toInt % 256 = _
  rw [own_nb]
  omega
theorem own_join_eq {ch : Int32} (h : 0 ≤ ch.toInt ∧ ch.toInt ≤ 65535) : own_join (own_lo ch) (own_hi ch) = ch := by
  have l := own_lo_rng ch; have g := own_hi_rng ch
  unfold own_join
  rw [own_nc]
  generalize own_lo ch = x at *
  generalize own_hi ch = y at *
  have m1 : (x &&& (255 : Int32)).toInt = x.toInt % 256 := c_mask x 255 8 (by decide) (by decide)
  have m2 : (y &&& (255 : Int32)).toInt = y.toInt % 256 := c_mask y 255 8 (by decide) (by decide)
  have s1 : ((x &&& (255 : Int32)) <<< ((0 : Int32) &&& 31)) = (x &&& (255 : Int32)) := by
    rw [shlm (m := 1) (by decide)]; simp
  have s2 := c_ishl (y &&& (255 : Int32)) 8 8 (by decide)
  rw [s1]
  generalize (x &&& (255 : Int32)) = X at *
  generalize ((y &&& (255 : Int32)) <<< ((8 : Int32) &&& 31)) = Y at *
  have rY := rng32 Y
  have eY : Y.toInt = (y.toInt % 256) * 256 := by omega
  have o := c_or' X Y 8 (by decide) 256 rfl (by omega) (by omega) (by omega)
  have rO := rng32 (X ||| Y)
  have c2 := c_i2c (X ||| Y)
  apply Int32.toInt_inj.mp
  omega
theorem own_coder0 (n : Int32) : nar .byte ((((n - n).toUInt32 >>> ((31 : Int32) &&& 31).toUInt32).toInt32).toInt8.toInt32) = 0 := by rw [Int32.sub_self]; rfl
theorem own_coder1 {n : Nat} (h0 : 0 < n) (h : n < 536870912) : nar .byte ((((Int32.ofNat n - Int32.ofNat (2 * n)).toUInt32 >>> ((31 : Int32) &&& 31).toUInt32).toInt32).toInt8.toInt32) = 1 := by
  have e := c_isub (Int32.ofNat n) (Int32.ofNat (2 * n))
  rw [own_toInt (by omega), own_toInt (by omega)] at e
  have r := rng32 (Int32.ofNat n - Int32.ofNat (2 * n))
  have s := c_iushr (Int32.ofNat n - Int32.ofNat (2 * n)) 31 31 (by decide) (by decide)
  generalize Int32.ofNat n - Int32.ofNat (2 * n) = D at *
  generalize ((D.toUInt32 >>> ((31 : Int32) &&& 31).toUInt32).toInt32) = S at *
  have hS : S.toInt = 1 := by rw [s]; omega
  have : S = 1 := Int32.toInt_inj.mp (by rw [hS]; rfl)
  rw [this]; rfl
theorem own_mask16 {x c : Int32} (h : (x &&& 65535).toUInt32.toUInt16.toUInt32.toInt32 = c) : 0 ≤ c.toInt ∧ c.toInt ≤ 65535 := by
  have q := c_i2c (x &&& 65535); rw [h] at q; omega
theorem own_i2c16 {x c : Int32} (h : x.toUInt32.toUInt16.toUInt32.toInt32 = c) : 0 ≤ c.toInt ∧ c.toInt ≤ 65535 := by
  have q := c_i2c x; rw [h] at q; omega
theorem own_nar16 {c : Int32} (h : 0 ≤ c.toInt ∧ c.toInt ≤ 65535) : 0 ≤ (nar .char c).toInt ∧ (nar .char c).toInt ≤ 65535 := by rw [own_narC h]; exact h
theorem own_ltK {n : Nat} (h : n < 1073741823) : Int32.ofNat n < (1073741823 : Int32) := by
  rw [Int32.lt_iff_toInt_lt, own_toInt (by omega)]
  have : (1073741823 : Int32).toInt = 1073741823 := by decide
  omega
theorem own_ofNat_ne {i n : Nat} (h : i < n) (hn : n < 2147483648) : ¬ (Int32.ofNat i = Int32.ofNat n) := fun e => by
  have := own_ofNat_inj (by omega) hn e; omega
theorem own_set16 {cs : List Int32} {vs : List Value} {i : Nat} (hl : vs.length = 2 * cs.length) (hi : i < cs.length)
    (hv : ∀ j, j < i → vs.getD (2 * j) (.int (0 : Int32)) = .int (own_lo (cs.getD j 0)) ∧ vs.getD (2 * j + 1) (.int (0 : Int32)) = .int (own_hi (cs.getD j 0))) :
    ∀ j, j < i + 1 → ((vs.set (2 * i) (.int (own_lo (cs.getD i 0)))).set (2 * i + 1) (.int (own_hi (cs.getD i 0)))).getD (2 * j) (.int (0 : Int32)) = .int (own_lo (cs.getD j 0)) ∧ ((vs.set (2 * i) (.int (own_lo (cs.getD i 0)))).set (2 * i + 1) (.int (own_hi (cs.getD i 0)))).getD (2 * j + 1) (.int (0 : Int32)) = .int (own_hi (cs.getD j 0)) := by
  intro j hj
  have h1 : 2 * i + 1 < (vs.set (2 * i) (Value.int (own_lo (cs.getD i 0)))).length := by rw [List.length_set]; omega
  have h2 : 2 * i < vs.length := by omega
  rw [own_getD_set _ _ _ _ _ h1, own_getD_set _ _ _ _ _ h2, own_getD_set _ _ _ _ _ h1, own_getD_set _ _ _ _ _ h2]
  by_cases e : j = i
  · subst e
    rw [if_neg (by omega), if_pos rfl, if_pos rfl]; exact ⟨rfl, rfl⟩
  · rw [if_neg (by omega), if_neg (by omega), if_neg (by omega), if_neg (by omega)]; exact hv j (by omega)
theorem own_allD {α : Type} {P : α → Prop} (cs : List α) (d : α) (h : ∀ j, j < cs.length → P (cs.getD j d)) : ∀ c ∈ cs, P c := by
  intro c hc
  obtain ⟨j, hj, rfl⟩ := List.getElem_of_mem hc
  have q := h j hj
  rw [List.getD_eq_getElem?_getD, List.getElem?_eq_getElem hj] at q
  exact q
theorem own_nextD {P : Int32 → Prop} {cs : List Int32} {i : Nat} (h : ∀ j, j < i → P (cs.getD j 0)) (q : P (cs.getD i 0)) : ∀ j, j < i + 1 → P (cs.getD j 0) := by
  intro j hj
  by_cases e : j = i
  · subst e; exact q
  · exact h j (by omega)
theorem own_is16_1 (ch : Int32) : own_is16 [ch] [.int (own_lo ch), .int (own_hi ch)] := ⟨rfl, fun j hj => by
  have e : j = 0 := by simpa using hj
  subst e; exact ⟨rfl, rfl⟩⟩
theorem own_enc_lat1 {ch : Int32} (h : ¬ ((255 : Int32) < ch)) : own_enc [ch] 0 (1 : Int32) [.int (nar .byte (ch.toInt8.toInt32))] :=
  Or.inl ⟨own_allc h own_alln, rfl, rfl, by rw [own_nb]; rfl⟩
theorem own_enc_u1 {ch : Int32} (h : (255 : Int32) < ch) : own_enc [ch] 1 (2 : Int32) [.int (own_lo ch), .int (own_hi ch)] :=
  Or.inr ⟨⟨0, Nat.zero_lt_one, h⟩, rfl, rfl, own_is16_1 ch⟩
theorem own_enc_nil : own_enc [] 0 (0 : Int32) [] := Or.inl ⟨own_alln, rfl, rfl, rfl⟩
theorem own_8to16 {c : Int32} (h : 0 ≤ c.toInt ∧ c.toInt ≤ 255) : 0 ≤ c.toInt ∧ c.toInt ≤ 65535 := ⟨h.1, by omega⟩
theorem own_narrng (x : Int32) : 0 ≤ (nar .char x).toInt ∧ (nar .char x).toInt ≤ 65535 := by
  have q := c_i2c x
  show 0 ≤ x.toUInt32.toUInt16.toUInt32.toInt32.toInt ∧ x.toUInt32.toUInt16.toUInt32.toInt32.toInt ≤ 65535
  omega
theorem own_shr0 (x : Int32) : x >>> ((0 : Int32) &&& 31) = x := Int32.toInt_inj.mp (by rw [c_ishr x 0 0 (by decide)]; simp)
theorem own_shr1 {n : Nat} (h : n < 1073741824) : Int32.ofNat (2 * n) >>> ((1 : Int32) &&& 31) = Int32.ofNat n := by
  apply Int32.toInt_inj.mp
  rw [c_ishr _ 1 1 (by decide), own_toInt (by omega), own_toInt (by omega)]
  omega
theorem own_byteEq {c d : Int32} (hc : 0 ≤ c.toInt ∧ c.toInt ≤ 255) (hd : 0 ≤ d.toInt ∧ d.toInt ≤ 255) : c.toInt8.toInt32 = d.toInt8.toInt32 ↔ c = d := by
  constructor
  · intro h
    have h1 := c_i2b c; have h2 := c_i2b d
    rw [h] at h1
    exact Int32.toInt_inj.mp (by omega)
  · intro h; rw [h]
theorem own_lat_rng {cs : List Int32} (hall : ∀ c ∈ cs, ¬ ((255 : Int32) < c)) (h16 : ∀ c ∈ cs, 0 ≤ c.toInt ∧ c.toInt ≤ 65535) : ∀ c ∈ cs, 0 ≤ c.toInt ∧ c.toInt ≤ 255 := fun c hc => by
  have q := hall c hc; have r := h16 c hc
  rw [Int32.lt_iff_toInt_lt] at q
  have : (255 : Int32).toInt = 255 := by decide
  omega
theorem own_m1 {P : Int32 → Prop} {cs : List Int32} (h : cs.length = 0) : (-1 : Int32) < (0 : Int32) ↔ ∀ c ∈ cs, P c :=
  ⟨fun _ => by rw [List.eq_nil_of_length_eq_zero h]; exact own_alln, fun _ => by decide⟩
theorem own_pos0 {n : Nat} (h : ¬ (0 : Int32) < Int32.ofNat n) (hn : n < 2147483648) : n = 0 := by
  rcases Nat.eq_zero_or_pos n with e | e
  · exact e
  · exact absurd (own_lt (i := 0) e hn) h
theorem own_n3 {x n : Int32} (h : (x &&& (3 : Int32)) = n) (h0 : ¬ (n = (0 : Int32))) (h1 : ¬ (n = (1 : Int32))) (h2 : ¬ (n = (2 : Int32))) : n = (3 : Int32) := by
  have q : (x &&& (3 : Int32)).toInt = x.toInt % (2 ^ 2 : Nat) := c_mask x 3 2 (by decide) (by decide)
  rw [h] at q
  have a0 := mt Int32.toInt_inj.mp h0; have a1 := mt Int32.toInt_inj.mp h1; have a2 := mt Int32.toInt_inj.mp h2
  have e0 : (0 : Int32).toInt = 0 := by decide
  have e1 : (1 : Int32).toInt = 1 := by decide
  have e2 : (2 : Int32).toInt = 2 := by decide
  have e3 : (3 : Int32).toInt = 3 := by decide
  apply Int32.toInt_inj.mp
  omega

theorem own_byteBack {c : Int32} (h : 0 ≤ c.toInt ∧ c.toInt ≤ 255) : nar .char ((c.toInt8.toInt32 &&& (255 : Int32)).toUInt32.toUInt16.toUInt32.toInt32) = c := by
  have h1 := c_i2b c
  have m1 : (c.toInt8.toInt32 &&& (255 : Int32)).toInt = c.toInt8.toInt32.toInt % 256 := c_mask _ 255 8 (by decide) (by decide)
  rw [i2c_mask, own_narC (by omega)]
  exact Int32.toInt_inj.mp (by omega)
theorem own_getD_rng {cs : List Int32} (h : ∀ c ∈ cs, 0 ≤ c.toInt ∧ c.toInt ≤ 65535) (i : Nat) : 0 ≤ (cs.getD i 0).toInt ∧ (cs.getD i 0).toInt ≤ 65535 := by
  by_cases hi : i < cs.length
  · exact h _ (own_getD_mem cs i 0 hi)
  · rw [List.getD_eq_getElem?_getD, List.getElem?_eq_none (by omega)]; decide

section OwnKitSB
variable {p : Program} {l : Launch} {e : Env} {R : Room} {s : State} {m : MethodId} {args : Array Value} {below : List Frame} {meth : Method} {c : Code} {T : State} {locs : List Loc} {cells slots : Nat}
theorem own_selfSel {C : String} {y : MethodName} (h : (Jvm.Cond.selects C y y).before args s = true) (hp : s.PrivateAt y) (hi : (Jvm.Cond.instanceMethod y).before args s = true) (hy : y.cls ≠ "java/lang/invoke/MethodHandle" ∧ y.cls ≠ "java/lang/invoke/VarHandle") : (Jvm.Cond.selects y.cls y y).before args s = true := by
  obtain ⟨mk, methM, hnamed, -, -, -⟩ := Cond.instanceMethod_spec hi
  obtain ⟨c2, r2, m2, -, -, q3, -, kP, hkP, hkPi⟩ := Cond.selects_spec h
  cases hnamed.symm.trans q3
  exact selects_self_of_private (findClass_of_methodNamed hnamed) hkP hkPi hp hi hy
theorem own_face {C : String} {w : MethodName} (h : (Jvm.Cond.selects C w w).before args s = true) : ∃ c k, s.vm.findClass w.cls = some c ∧ s.vm.classes[c]? = some k ∧ k.isInterface = false := by
  obtain ⟨c2, r2, m2, -, -, q3, -, kP, hkP, hkPi⟩ := Cond.selects_spec h
  exact ⟨_, kP, findClass_of_methodNamed q3, hkP, hkPi⟩
theorem own_sameSelf {C : String} {y w : MethodName} (hi : (Jvm.Cond.instanceMethod y).before args s = true) (hw : (Jvm.Cond.selects C w w).before args s = true) (hc : w.cls = y.cls) (hy : y.cls ≠ "java/lang/invoke/MethodHandle" ∧ y.cls ≠ "java/lang/invoke/VarHandle") : (Jvm.Cond.sameMethod y.cls y.cls y.name y.desc).before args s = true := by
  obtain ⟨mk, methM, hnamed, -, -, -⟩ := Cond.instanceMethod_spec hi
  obtain ⟨c, k, h1, h2, h3⟩ := own_face hw
  rw [hc] at h1
  have hfound : s.methodFound? y.cls y.name y.desc = some mk := State.methodFound?_of_named hnamed hy
  have hn : s.methodNamed? ⟨y.cls, y.name, y.desc⟩ = some mk := hnamed
  simp only [Cond.before, Cond.holds, Cond.value, hfound, hn, h1]
  simp [h2, h3]
theorem own_notFace {C : String} {y w : MethodName} (hw : (Jvm.Cond.selects C w w).before args s = true) (hc : w.cls = y.cls) : NotFace s y := fun r0 h0 => by
  obtain ⟨c, k, h1, h2, h3⟩ := own_face hw
  rw [hc] at h1
  cases (findClass_of_methodNamed h0).symm.trans h1
  exact ⟨k, h2, h3⟩
variable {Z : State} {a0 : Array Value} {own : String} {index : Nat} {y z : MethodName} {bytes : ByteArray} {maxL : Nat} {ret : Option FieldType} {rm : Room} {as' : Array Value} {h : Heap} {Q : Option Value → Heap → List Loc → Prop} {G : State → Prop} {pc : Nat} {Ls : Array Slot} {stk argsL rest : List Value}
theorem own_callP2 {C : String} (X : Stand p l e R s m args below meth c T locs cells slots) (hx : p.tables.exec = Jvm.exec) (hZ : Z.Warmed39 s.vm) (hG : own_Bk p e below G) (hown : s.vm.findClass own = some m.cls)
    (w1 : (Jvm.Cond.methodLink own index y).before a0 Z = true) (w2 : (Jvm.Cond.instanceMethod y).before a0 Z = true) (w3 : (Jvm.Cond.selects C y y).before a0 Z = true) (wp : (Jvm.Cond.privateMethod y).before a0 Z = true) (w5 : (Jvm.Cond.initialized y.cls).before a0 Z = true) (w6 : (Jvm.Cond.code y bytes maxL ret).before a0 Z = true)
    (hy : y.cls ≠ "java/lang/invoke/MethodHandle" ∧ y.cls ≠ "java/lang/invoke/VarHandle") (W : Nat) (hM : own_Con l Z y bytes maxL ret [] rm as' h Q) (hf : rm.frames + 1 ≤ R.frames) (hlo : W + (maxL + 11) + rm.locals ≤ R.locals) (eT : T.heap = h) {b : Addr} {D : String} (E : Exa Z h b D)
    (hsize : Ls.size = c.maxLocals) (hlen : ∀ sig, parseMethodDescriptor y.desc = some sig → argsL.length = sig.parameters.length) (has : (.ref b :: argsL).toArray = as') (hst : stk = argsL.reverse ++ .ref b :: rest) (hW : (rest.map fun v => v.category).sum ≤ W)
    (hd : decode c.code pc = .ok (.invokevirtual index, 3)) (hc : cells + rm.cells ≤ R.cells) (hs : slots + rm.slots ≤ R.slots)
    (k : ∀ T' h' v L, Stand p l e R s m args below meth c T' (locs ++ L) (cells + rm.cells) (slots + rm.slots) → T'.heap = h' → Q v h' L → G (T'.setTop (mkF m (pc + 3) Ls (v.toList ++ rest)))) : G (T.setTop (mkF m pc Ls stk)) := by
  have hp : Z.PrivateAt y := Cond.privateMethod_at wp
  exact own_callP X hx hZ hG hown w1 w2 (own_selfSel w3 hp w2 hy) wp w5 w6 hy W hM hf hlo eT E hsize hlen has hst hW hd hc hs k
theorem own_callVZ {C D : String} {w : MethodName} (X : Stand p l e R s m args below meth c T locs cells slots) (hx : p.tables.exec = Jvm.exec) (hZ : Z.Warmed39 s.vm) (hG : own_Bk p e below G) (hown : s.vm.findClass own = some m.cls)
    (w1 : (Jvm.Cond.methodLink own index z).before a0 Z = true) (w2 : (Jvm.Cond.declares z).before a0 Z = true) (w3 : (Jvm.Cond.selects C z y).before a0 Z = true) (wq : (Jvm.Cond.selects D w w).before a0 Z = true) (hq : w.cls = z.cls) (w4 : (Jvm.Cond.instanceMethod y).before a0 Z = true) (w5 : (Jvm.Cond.initialized y.cls).before a0 Z = true) (w6 : (Jvm.Cond.code y bytes maxL ret).before a0 Z = true)
    (hy : z.cls ≠ "java/lang/invoke/MethodHandle" ∧ z.cls ≠ "java/lang/invoke/VarHandle") (W : Nat) (hM : own_Con l Z y bytes maxL ret [] rm as' h Q) (hf : rm.frames + 1 ≤ R.frames) (hlo : W + (maxL + 11) + rm.locals ≤ R.locals) (eT : T.heap = h) {b : Addr} (E : Exa Z h b C)
    (hsize : Ls.size = c.maxLocals) (hlen : ∀ sig, parseMethodDescriptor z.desc = some sig → argsL.length = sig.parameters.length) (has : (.ref b :: argsL).toArray = as') (hst : stk = argsL.reverse ++ .ref b :: rest) (hW : (rest.map fun v => v.category).sum ≤ W)
    (hd : decode c.code pc = .ok (.invokevirtual index, 3)) (hc : cells + rm.cells ≤ R.cells) (hs : slots + rm.slots ≤ R.slots)
    (k : ∀ T' h' v L, Stand p l e R s m args below meth c T' (locs ++ L) (cells + rm.cells) (slots + rm.slots) → T'.heap = h' → Q v h' L → G (T'.setTop (mkF m (pc + 3) Ls (v.toList ++ rest)))) : G (T.setTop (mkF m pc Ls stk)) := by
  obtain ⟨cq, kq, qa, qb, qc⟩ := isOf hZ eT E
  obtain ⟨v, _, ⟨T1, L1, k1, n1⟩, -, X1, ⟨L, hQ, rfl, rfl, rfl⟩, st⟩ := X.virtualBack hx (y := z) (z := y) hown (mvT hZ w1) (mvT hZ w2) (own_notFace (args := #[]) (mvT hZ wq) hq) (mvT hZ w3) (mvT hZ w4) hy (backOf (W := W) hM hZ w6 w5 hf hlo) qa qc (g := mkF m pc Ls stk) rfl hsize (Steps.refl _) (argsL := argsL) (rest := rest) hlen hst (by show 2 * 0 + _ ≤ _; rw [Nat.mul_zero, Nat.zero_add]; exact hW) hd (fun _ _ => ⟨has, eT, hc, hs⟩)
  exact hG _ _ (fun t kk => st.trans kk) (k T1 _ v L X1 rfl hQ)
theorem own_callU {B : String} {w : MethodName} (X : Stand p l e R s m args below meth c T locs cells slots) (hx : p.tables.exec = Jvm.exec) (hZ : Z.Warmed39 s.vm) (hG : own_Bk p e below G) (hown : s.vm.findClass own = some m.cls)
    (w1 : (Jvm.Cond.methodLink own index y).before a0 Z = true) (w2 : (Jvm.Cond.instanceMethod y).before a0 Z = true) (w4 : (Jvm.Cond.superclass own y.cls).before a0 Z = true) (wq : (Jvm.Cond.selects B w w).before a0 Z = true) (hq : w.cls = y.cls) (w5 : (Jvm.Cond.initialized y.cls).before a0 Z = true) (w6 : (Jvm.Cond.code y bytes maxL ret).before a0 Z = true)
    (hn : y.name ≠ "<init>") (hy : y.cls ≠ "java/lang/invoke/MethodHandle" ∧ y.cls ≠ "java/lang/invoke/VarHandle") (W : Nat) (hM : own_Con l Z y bytes maxL ret [] rm as' h Q) (hf : rm.frames + 1 ≤ R.frames) (hlo : W + (maxL + 11) + rm.locals ≤ R.locals) (eT : T.heap = h) {b : Addr} {D : String} (E : Exa Z h b D)
    (hsize : Ls.size = c.maxLocals) (hlen : ∀ sig, parseMethodDescriptor y.desc = some sig → argsL.length = sig.parameters.length) (has : (.ref b :: argsL).toArray = as') (hst : stk = argsL.reverse ++ .ref b :: rest) (hW : (rest.map fun v => v.category).sum ≤ W)
    (hd : decode c.code pc = .ok (.invokespecial index, 3)) (hc : cells + rm.cells ≤ R.cells) (hs : slots + rm.slots ≤ R.slots)
    (k : ∀ T' h' v L, Stand p l e R s m args below meth c T' (locs ++ L) (cells + rm.cells) (slots + rm.slots) → T'.heap = h' → Q v h' L → G (T'.setTop (mkF m (pc + 3) Ls (v.toList ++ rest)))) : G (T.setTop (mkF m pc Ls stk)) := by
  obtain ⟨v, _, ⟨T1, L1, k1, n1⟩, -, X1, ⟨L, hQ, rfl, rfl, rfl⟩, st⟩ := superBack X hx hZ hown w1 (own_sameSelf w2 wq hq hy) w2 w4 hn (backOf (W := W) hM hZ w6 w5 hf hlo) eT (Ins.self E) (g := mkF m pc Ls stk) rfl hsize w6 (argsL := argsL) (rest := rest) hlen hst (by show 2 * 0 + _ ≤ _; rw [Nat.mul_zero, Nat.zero_add]; exact hW) hd (fun _ _ => ⟨has, eT, hc, hs⟩)
  exact hG _ _ (fun t kk => st.trans kk) (k T1 _ v L X1 rfl hQ)
end OwnKitSB

section OwnSBL
abbrev own_ins (k : Nat) (ws ss : List Value) : List Value := ws.take k ++ ss ++ ws.drop (k + ss.length)
abbrev own_fit (x cd nt nd : Int32) (k : Nat) (ws ss : List Value) : Prop := ¬ (x <<< (cd &&& 31)) < 0 ∧ (x <<< (cd &&& 31)).toNatClampNeg = k ∧ ss.length = nt.toNatClampNeg ∧ ¬ nt < 0 ∧ k + nt.toNatClampNeg ≤ nd.toNatClampNeg ∧ k + ss.length ≤ ws.length
theorem own_z0 : (0 : Int32).toNatClampNeg = 0 := by decide
theorem own_rangeG (ss : List Value) (d : Value) : (List.range ss.length).map (fun i => ss.getD ((0 : Int32).toNatClampNeg + i) d) = ss := by
  rw [own_z0]
  apply List.ext_getElem
  · simp
  · intro i h1 h2
    simp [List.getD, h2]
theorem own_fit4 {nt : Int32} : (0 : Int32).toNatClampNeg + nt.toNatClampNeg ≤ nt.toNatClampNeg := by rw [own_z0, Nat.zero_add]; exact Nat.le_refl _
theorem own_fit5 {x cd nt nd : Int32} {k : Nat} {ws ss : List Value} (H : own_fit x cd nt nd k ws ss) : (x <<< (cd &&& 31)).toNatClampNeg + nt.toNatClampNeg ≤ nd.toNatClampNeg := by rw [H.2.1]; exact H.2.2.2.2.1
theorem own_fitl {x cd nt nd : Int32} {k : Nat} {ws ss : List Value} (H : own_fit x cd nt nd k ws ss) : (x <<< (cd &&& 31)).toNatClampNeg + nt.toNatClampNeg ≤ ws.length := by rw [H.2.1, ← H.2.2.1]; exact H.2.2.2.2.2
theorem own_insA {Z : State} {h : Heap} {d : Addr} {kd : ClassId} {x cd nt nd : Int32} {k : Nat} {ws ss : List Value} {dv : Value} (H : own_fit x cd nt nd k ws ss)
    (V : Arv Z h d kd .byte nd (ws.take (x <<< (cd &&& 31)).toNatClampNeg ++ ((List.range nt.toNatClampNeg).map fun i => ss.getD ((0 : Int32).toNatClampNeg + i) dv) ++ ws.drop ((x <<< (cd &&& 31)).toNatClampNeg + nt.toNatClampNeg)) dv) : Arv Z h d kd .byte nd (own_ins k ws ss) dv := by
  rw [H.2.1, ← H.2.2.1, own_rangeG] at V; exact V
abbrev own_cut (nd n : Int32) (k : Nat) (ws : List Value) : Prop := ¬ n < 0 ∧ n.toNatClampNeg = k ∧ n < nd ∧ k ≤ 32 ∧ k ≤ ws.length
theorem own_cut_ne {nd n : Int32} {k : Nat} {ws : List Value} (H : own_cut nd n k ws) : ¬ (n = nd) := fun q => by subst q; exact Int32.lt_irrefl H.2.2.1
theorem own_cutc {nd n : Int32} {k : Nat} {ws : List Value} (H : own_cut nd n k ws) : n.toNatClampNeg ≤ 32 := by rw [H.2.1]; exact H.2.2.2.1
theorem own_cut4 {nd n : Int32} {k : Nat} {ws : List Value} (H : own_cut nd n k ws) : (0 : Int32).toNatClampNeg + n.toNatClampNeg ≤ nd.toNatClampNeg := by
  rw [own_z0, Nat.zero_add]
  have h1 := Int32.lt_iff_toInt_lt.mp H.2.2.1
  have e1 : n.toNatClampNeg = n.toInt.toNat := rfl
  have e2 : nd.toNatClampNeg = nd.toInt.toNat := rfl
  omega
theorem own_cutA {Z : State} {h : Heap} {d : Addr} {kd : ClassId} {nd n : Int32} {k : Nat} {ws vd : List Value} {dv : Value} (H : own_cut nd n k ws) (hv : vd.length = n.toNatClampNeg)
    (V : Arv Z h d kd .byte n (vd.take (0 : Int32).toNatClampNeg ++ ((List.range n.toNatClampNeg).map fun i => ws.getD ((0 : Int32).toNatClampNeg + i) dv) ++ vd.drop ((0 : Int32).toNatClampNeg + n.toNatClampNeg)) dv) : Arv Z h d kd .byte n (ws.take k) dv := by
  have e : (List.range n.toNatClampNeg).map (fun i => ws.getD ((0 : Int32).toNatClampNeg + i) dv) = ws.take k := by
    rw [own_z0, H.2.1]
    have hk := H.2.2.2.2
    apply List.ext_getElem
    · simp; omega
    · intro i h1 h2
      have h3 : i < ws.length := by simp at h1; omega
      simp [List.getD, h3]
  rw [e, own_z0, Nat.zero_add, ← hv, List.drop_length, List.take_zero, List.nil_append, List.append_nil] at V; exact V
theorem own_sub0 (x : Int32) : x - (0 : Int32) = x := by simp
end OwnSBL

def own_bytes : List Int32 → List Value
  | [] => []
  | c :: r => .int (own_lo c) :: .int (own_hi c) :: own_bytes r
theorem own_bytes_len : ∀ cs : List Int32, (own_bytes cs).length = 2 * cs.length
  | [] => rfl
  | c :: r => by show (own_bytes r).length + 1 + 1 = 2 * (r.length + 1); rw [own_bytes_len r]; omega
theorem own_is16_bytes : ∀ cs : List Int32, own_is16 cs (own_bytes cs)
  | [] => ⟨rfl, fun j hj => absurd hj (Nat.not_lt_zero j)⟩
  | c :: r => ⟨own_bytes_len _, fun j hj => by
      cases j with
      | zero => exact ⟨rfl, rfl⟩
      | succ j =>
        have q := (own_is16_bytes r).2 j (Nat.lt_of_succ_lt_succ hj)
        rw [show 2 * (j + 1) = 2 * j + 1 + 1 by omega, show 2 * j + 1 + 1 + 1 = (2 * j + 1) + 1 + 1 by omega]
        exact q⟩
theorem own_is16_list {cs : List Int32} {vs : List Value} (h : own_is16 cs vs) : vs = own_bytes cs := by
  have b := own_is16_bytes cs
  have hl : vs.length = (own_bytes cs).length := h.1.trans b.1.symm
  have key : ∀ j, j < vs.length → vs.getD j (.int (0 : Int32)) = (own_bytes cs).getD j (.int (0 : Int32)) := fun j hj => by
    have hj2 : j < 2 * cs.length := h.1 ▸ hj
    rcases Nat.mod_two_eq_zero_or_one j with e | e
    · have q1 := (h.2 (j / 2) (by omega)).1; have q2 := (b.2 (j / 2) (by omega)).1
      rw [show 2 * (j / 2) = j by omega] at q1 q2; rw [q1, q2]
    · have q1 := (h.2 (j / 2) (by omega)).2; have q2 := (b.2 (j / 2) (by omega)).2
      rw [show 2 * (j / 2) + 1 = j by omega] at q1 q2; rw [q1, q2]
  apply List.ext_getElem? ; intro j
  by_cases hj : j < vs.length
  · have q := key j hj
    rw [List.getD_eq_getElem?_getD, List.getD_eq_getElem?_getD, List.getElem?_eq_getElem hj, List.getElem?_eq_getElem (hl ▸ hj)] at q
    rw [List.getElem?_eq_getElem hj, List.getElem?_eq_getElem (hl ▸ hj)]
    exact congrArg some q
  · rw [List.getElem?_eq_none (by omega), List.getElem?_eq_none (by omega)]
theorem own_big_app (p : List Int32) {cs : List Int32} (h : ∃ k, k < cs.length ∧ (255 : Int32) < cs.getD k 0) : ∃ k, k < (p ++ cs).length ∧ (255 : Int32) < (p ++ cs).getD k 0 := by
  obtain ⟨k, h1, h2⟩ := h
  refine ⟨p.length + k, by rw [List.length_append]; omega, ?_⟩
  rw [List.getD_eq_getElem?_getD, List.getElem?_append_right (by omega), show p.length + k - p.length = k by omega, ← List.getD_eq_getElem?_getD]
  exact h2
theorem own_m3' {x r : Int32} (h : (x &&& (3 : Int32)) = r) : r = (0 : Int32) ∨ r = (1 : Int32) ∨ r = (2 : Int32) ∨ r = (3 : Int32) := by
  have q : (x &&& (3 : Int32)).toInt = x.toInt % (2 ^ 2 : Nat) := c_mask x 3 2 (by decide) (by decide)
  rw [h] at q
  have e0 : (0 : Int32).toInt = 0 := by decide
  have e1 : (1 : Int32).toInt = 1 := by decide
  have e2 : (2 : Int32).toInt = 2 := by decide
  have e3 : (3 : Int32).toInt = 3 := by decide
  simp only [← Int32.toInt_inj]; omega

abbrev own_W (Z : State) (a0 : Array Value) : Prop := ∀ d ∈ tables_1, d.before a0 Z = true
theorem ow {Z : State} {a0 : Array Value} (hw : own_W Z a0) (i : Nat) {d : Jvm.Cond} (h : tables_1[i]? = some d) : d.before a0 Z = true := hw d (List.mem_of_getElem? h)
theorem own_mi {α : Type} {L : List α} {x : α} {P : Prop} (i : Nat) (h : L[i]? = some x) : x ∈ L ∨ P := Or.inl (List.mem_of_getElem? h)
def own_Bd (p : Program) (e : Env) (below : List Frame) (G : State → Prop) (c : Code) (bytes : ByteArray) (ml : Nat) (Z : State) (a0 : Array Value) : Prop := own_Bk p e below G ∧ p.tables.exec = Jvm.exec ∧ c.code = bytes ∧ c.maxLocals = ml ∧ own_W Z a0
section OwnShort
variable {p : Program} {l : Launch} {e : Env} {R : Room} {s : State} {m : MethodId} {args : Array Value} {below : List Frame} {meth : Method} {c : Code} {T : State} {locs : List Loc} {cells slots : Nat} {Z : State} {a0 : Array Value} {own : String} {index : Nat} {y z : MethodName} {bytes code0 : ByteArray} {maxL ml : Nat} {ret : Option FieldType} {rm : Room} {as' : Array Value} {h h0 : Heap} {Q : Option Value → Heap → List Loc → Prop} {G : State → Prop} {pc : Nat} {Ls : Array Slot} {stk argsL rest : List Value}
theorem own_st {ws : List Jvm.Cond} (hw : own_W Z a0) (hpn : plainFor y = true) (Ls : Array Slot) (q : ∀ m, entryFrame m as' maxL = mkF m 0 Ls [])
    (H : ∀ (p : Program) (e : Env) (s : State) (m : MethodId) (below : List Frame) (meth : Method) (c : Code) (s₁ : State) (G : State → Prop), own_Bd p e below G c bytes maxL Z a0 → s.vm.findClass y.cls = some m.cls → meth.name = y.name → meth.sig.returnType = ret → Z.Warmed39 s.vm →
      Stand p l e rm s m as' below meth c s₁ [] 0 0 → s₁.heap = h0 → own_Fr Z [] → own_Rt p l e rm s m as' below meth c ret Q G → G (s₁.setTop (mkF m 0 Ls []))) : own_Con l Z y bytes maxL ret ws rm as' h0 Q :=
  own_intro hpn fun p e s m below meth c s₁ G hx hby hml hown hnm hret hZ X0 e0 hG hR => own_entry (q m) (H p e s m below meth c s₁ G ⟨hG, hx, hby, hml, hw⟩ hown hnm hret hZ X0 e0 (Fr.nil Z.heap.size) hR)
theorem qgf {R0 O n d : String} {a : Addr} {v : Value} (B : own_Bd p e below G c code0 ml Z a0) (X : Stand p l e R s m args below meth c T locs cells slots) (hZ : Z.Warmed39 s.vm) (hown : s.vm.findClass own = some m.cls) (i : Nat) (hi : tables_1[i]? = some (Jvm.Cond.fieldLink own index R0 n d)) (via : Via Z R0 O n d) (eT : T.heap = h) (F : Fld Z h a O n d v) (hd : decode code0 pc = .ok (.getfield index, 3))
    (k : ∀ T', Stand p l e R s m args below meth c T' locs cells slots → T'.heap = h → G (T'.setTop (mkF m (pc + 3) Ls (v :: rest)))) : G (T.setTop (mkF m pc Ls (.ref a :: rest))) := by
  obtain ⟨T', X', e', st⟩ := getF X B.2.1 hZ hown (host := "") (Or.inl (ow B.2.2.2.2 i hi)) via eT F (g := mkF m pc Ls (.ref a :: rest)) rfl rfl (hb B.2.2.1 hd)
  exact B.1 _ _ st (k T' X' e')
theorem qgs {R0 O n d : String} {v : Value} (B : own_Bd p e below G c code0 ml Z a0) (X : Stand p l e R s m args below meth c T locs cells slots) (hZ : Z.Warmed39 s.vm) (hown : s.vm.findClass own = some m.cls) (i : Nat) (hi : tables_1[i]? = some (Jvm.Cond.fieldLink own index R0 n d)) (via : Via Z R0 O n d) (eT : T.heap = h) (F : Sta Z Z.heap O n d v) (O0 : own_Old Z h) (hd : decode code0 pc = .ok (.getstatic index, 3))
    (k : ∀ T', Stand p l e R s m args below meth c T' locs cells slots → T'.heap = h → G (T'.setTop (mkF m (pc + 3) Ls (v :: stk)))) : G (T.setTop (mkF m pc Ls stk)) := by
  obtain ⟨T', X', e', st⟩ := getS2 X B.2.1 hZ hown (host := "") (Or.inl (ow B.2.2.2.2 i hi)) via eT (own_sta F O0) (g := mkF m pc Ls stk) rfl (hb B.2.2.1 hd)
  exact B.1 _ _ st (k T' X' e')
theorem qpf {R0 O n d C : String} {kk : Nat} {ty : FieldType} {a : Addr} {v old : Value} (B : own_Bd p e below G c code0 ml Z a0) (X : Stand p l e R s m args below meth c T locs cells slots) (hZ : Z.Warmed39 s.vm) (hown : s.vm.findClass own = some m.cls) (i j : Nat) (hi : tables_1[i]? = some (Jvm.Cond.fieldLink own index R0 n d)) (hj : tables_1[j]? = some (Jvm.Cond.instantiable C kk)) (via : Via Z R0 O n d) (eT : T.heap = h) (F : Fld Z h a O n d old) (E : Exa Z h a C)
    (Lw : (Jvm.Cond.lays C O n d).before a0 Z = true ∨ ((Jvm.Cond.laysFinal C O n d).before a0 Z = true ∧ own = O ∧ meth.name = "<init>")) (hty : parseFieldDescriptor d = some ty) (hn : narrow ty v = v) (hf : fits ty v = true) (hd : decode code0 pc = .ok (.putfield index, 3))
    (k : ∀ T' h', Stand p l e R s m args below meth c T' (locs ++ [⟨a, Jvm.RoadKit.slotOf Z O n d⟩]) cells slots → T'.heap = h' → Wr h h' a (Jvm.RoadKit.slotOf Z O n d) v → G (T'.setTop (mkF m (pc + 3) Ls rest))) : G (T.setTop (mkF m pc Ls (v :: .ref a :: rest))) := by
  obtain ⟨T', h', X', e', W, st⟩ := putF X B.2.1 hZ hown (host := "") (Or.inl (ow B.2.2.2.2 i hi)) via eT F E Lw (ow B.2.2.2.2 j hj) hty hn hf (g := mkF m pc Ls (v :: .ref a :: rest)) rfl rfl (hb B.2.2.1 hd)
  exact B.1 _ _ st (k T' h' X' e' W)
theorem qpn {R0 O n d C : String} {kk : Nat} {ty : FieldType} {a : Addr} {v old : Value} (v' : Value) (B : own_Bd p e below G c code0 ml Z a0) (X : Stand p l e R s m args below meth c T locs cells slots) (hZ : Z.Warmed39 s.vm) (hown : s.vm.findClass own = some m.cls) (i j : Nat) (hi : tables_1[i]? = some (Jvm.Cond.fieldLink own index R0 n d)) (hj : tables_1[j]? = some (Jvm.Cond.instantiable C kk)) (via : Via Z R0 O n d) (eT : T.heap = h) (F : Fld Z h a O n d old) (E : Exa Z h a C)
    (Lw : (Jvm.Cond.lays C O n d).before a0 Z = true ∨ ((Jvm.Cond.laysFinal C O n d).before a0 Z = true ∧ own = O ∧ meth.name = "<init>")) (hty : parseFieldDescriptor d = some ty) (hn : narrow ty v = v') (hf : fits ty v' = true) (hd : decode code0 pc = .ok (.putfield index, 3))
    (k : ∀ T' h', Stand p l e R s m args below meth c T' (locs ++ [⟨a, Jvm.RoadKit.slotOf Z O n d⟩]) cells slots → T'.heap = h' → Wr h h' a (Jvm.RoadKit.slotOf Z O n d) v' → G (T'.setTop (mkF m (pc + 3) Ls rest))) : G (T.setTop (mkF m pc Ls (v :: .ref a :: rest))) := by
  obtain ⟨T', h', X', e', W, st⟩ := putFN X B.2.1 hZ hown (ow B.2.2.2.2 i hi) via eT F E Lw (ow B.2.2.2.2 j hj) hty hn hf (g := mkF m pc Ls (v :: .ref a :: rest)) rfl rfl (hb B.2.2.1 hd)
  exact B.1 _ _ st (k T' h' X' e' W)
theorem qnw {C : String} {n : Nat} (B : own_Bd p e below G c code0 ml Z a0) (X : Stand p l e R s m args below meth c T locs cells slots) (hZ : Z.Warmed39 s.vm) (hown : s.vm.findClass own = some m.cls) (i1 i2 i3 : Nat) (r1 : tables_1[i1]? = some (Jvm.Cond.classLink own index C)) (r2 : tables_1[i2]? = some (Jvm.Cond.instantiable C n)) (r3 : tables_1[i3]? = some (Jvm.Cond.initialized C)) (eT : T.heap = h) (hd : decode code0 pc = .ok (.new index, 3)) (ck : cells + 1 ≤ R.cells ∧ slots + n ≤ R.slots)
    (k : ∀ T' h' b, b = h.size → Stand p l e R s m args below meth c T' locs (cells + 1) (slots + n) → T'.heap = h' → Ext h h' → Exa Z h' b C → (∀ {O nm d : String} {ty : FieldType}, Laid Z a0 C O nm d → parseFieldDescriptor d = some ty → Fld Z h' b O nm d (defaultValue ty)) → G (T'.setTop (mkF m (pc + 3) Ls (.ref b :: stk)))) : G (T.setTop (mkF m pc Ls stk)) := by
  obtain ⟨T', h', X', e', E, A, D, -, st⟩ := newO X B.2.1 hZ hown (ow B.2.2.2.2 i1 r1) (ow B.2.2.2.2 i2 r2) (ow B.2.2.2.2 i3 r3) eT (g := mkF m pc Ls stk) rfl (hb B.2.2.1 hd) ck.1 ck.2
  exact B.1 _ _ st (k T' h' _ rfl X' e' E A D)
theorem qna {aty : ArrayType} {n : Int32} (cap : Nat) (B : own_Bd p e below G c code0 ml Z a0) (X : Stand p l e R s m args below meth c T locs cells slots) (hZ : Z.Warmed39 s.vm) (i1 : Nat) (r1 : tables_1[i1]? = some (Jvm.Cond.arrayClass (newarray.typeOf aty))) (eT : T.heap = h) (hd : decode code0 pc = .ok (.newarray aty, 2)) (hn : ¬ n < 0) (hcap : n.toNatClampNeg ≤ cap) (ck : cap * 8 ≤ 536870912 ∧ cells + 1 ≤ R.cells ∧ slots + cap ≤ R.slots)
    (k : ∀ T' h' k b, b = h.size → Stand p l e R s m args below meth c T' locs (cells + 1) (slots + cap) → T'.heap = h' → Ext h h' → Arr Z h' b (newA k (newarray.typeOf aty) n) (newarray.typeOf aty) → G (T'.setTop (mkF m (pc + 2) Ls (.ref b :: rest)))) : G (T.setTop (mkF m pc Ls (.int n :: rest))) := by
  obtain ⟨T', h', k', X', e', E, A, st⟩ := newP X B.2.1 hZ (ow B.2.2.2.2 i1 r1) eT (g := mkF m pc Ls (.int n :: rest)) rfl (hb B.2.2.1 hd) rfl hn (cap := cap) hcap ck.1 ck.2.1 ck.2.2
  exact B.1 _ _ st (k T' h' k' _ rfl X' e' E A)
theorem qal {a : Addr} {ka : ClassId} {ty : FieldType} {n : Int32} {vs : List Value} {dv : Value} (B : own_Bd p e below G c code0 ml Z a0) (X : Stand p l e R s m args below meth c T locs cells slots) (hZ : Z.Warmed39 s.vm) (eT : T.heap = h) (F : Arv Z h a ka ty n vs dv) (hd : decode code0 pc = .ok (.arraylength, 1)) (k : G (T.setTop (mkF m (pc + 1) Ls (.int n :: rest)))) : G (T.setTop (mkF m pc Ls (.ref a :: rest))) := by
  obtain ⟨cl, Ar, -, S, M, -, -⟩ := F
  refine B.1 _ _ (X.arraylength B.2.1 (by rw [eT]; exact Ar.1) (State.isArrayOf_alike hZ.alike Ar.2.1) (g := mkF m pc Ls (.ref a :: rest)) rfl rfl (hb B.2.2.1 hd)) ?_
  rw [len_of S M]; exact k
theorem qlb {a : Addr} {ka : ClassId} {n j : Int32} {vs : List Value} {dv v : Value} (B : own_Bd p e below G c code0 ml Z a0) (X : Stand p l e R s m args below meth c T locs cells slots) (hZ : Z.Warmed39 s.vm) (eT : T.heap = h) (F : Arv Z h a ka .byte n vs dv) (hd : decode code0 pc = .ok (.baload, 1)) (hj : ¬ j < 0 ∧ j < n) (hv : vs.getD j.toNatClampNeg dv = v) (k : G (T.setTop (mkF m (pc + 1) Ls (v :: rest)))) : G (T.setTop (mkF m pc Ls (.int j :: .ref a :: rest))) := by
  obtain ⟨cl, Ar, q, S, M, H, -⟩ := F
  exact B.1 _ _ (X.baloadBytes B.2.1 (j := j) (v := v) (by rw [eT]; exact Ar.1) (State.isArrayOf_alike hZ.alike Ar.2.1) Ar.2.2 (inb_of S hj) (Has.at H (inb_of S hj) hv) (g := mkF m pc Ls (.int j :: .ref a :: rest)) rfl rfl (hb B.2.2.1 hd)) k
theorem qlc {a : Addr} {ka : ClassId} {n j : Int32} {vs : List Value} {dv v : Value} (B : own_Bd p e below G c code0 ml Z a0) (X : Stand p l e R s m args below meth c T locs cells slots) (hZ : Z.Warmed39 s.vm) (eT : T.heap = h) (F : Arv Z h a ka .char n vs dv) (hd : decode code0 pc = .ok (.caload, 1)) (hj : ¬ j < 0 ∧ j < n) (hv : vs.getD j.toNatClampNeg dv = v) (k : G (T.setTop (mkF m (pc + 1) Ls (v :: rest)))) : G (T.setTop (mkF m pc Ls (.int j :: .ref a :: rest))) := by
  obtain ⟨cl, Ar, q, S, M, H, -⟩ := F
  exact B.1 _ _ (X.caload B.2.1 (j := j) (v := v) (by rw [eT]; exact Ar.1) (State.isArrayOf_alike hZ.alike Ar.2.1) Ar.2.2 (inb_of S hj) (Has.at H (inb_of S hj) hv) (g := mkF m pc Ls (.int j :: .ref a :: rest)) rfl rfl (hb B.2.2.1 hd)) k
theorem qsc {a : Addr} {ka : ClassId} {n j x : Int32} {vs : List Value} {dv : Value} (i : Nat) (B : own_Bd p e below G c code0 ml Z a0) (X : Stand p l e R s m args below meth c T locs cells slots) (hZ : Z.Warmed39 s.vm) (eT : T.heap = h) (F : Arv Z h a ka .char n vs dv) (hd : decode code0 pc = .ok (.castore, 1)) (hj : ¬ j < 0 ∧ j < n) (hi : j.toNatClampNeg = i) (hl : i < vs.length) (k : ∀ T' h', Stand p l e R s m args below meth c T' (locs ++ [⟨a, j.toNatClampNeg⟩]) cells slots → T'.heap = h' → Wr h h' a j.toNatClampNeg (.int (nar .char x)) → Arv Z h' a ka .char n (vs.set i (.int (nar .char x))) dv → G (T'.setTop (mkF m (pc + 1) Ls rest))) : G (T.setTop (mkF m pc Ls (.int x :: .int j :: .ref a :: rest))) := by
  obtain ⟨cl, Ar, q, S, M, H, Gq⟩ := F
  obtain ⟨T', h', X', e', W, st⟩ := stC X B.2.1 hZ eT Ar (inb_of S hj) (g := mkF m pc Ls (.int x :: .int j :: .ref a :: rest)) rfl rfl (hb B.2.2.1 hd)
  exact B.1 _ _ st (k T' h' X' e' W (Arv.set Ar q S M H Gq (fits_nar_char _) W i hi hl))
theorem qRV (bd : own_Bd p e below G c code0 ml Z a0) (hR : own_Rt p l e R s m args below meth c none Q G) (hret : meth.sig.returnType = none) (X : Stand p l e R s m args below meth c T locs cells slots) (hd : decode code0 pc = .ok (.return_, 1)) (eT : T.heap = h) (hQ : Q none h locs) (ck : (cells ≤ R.cells) ∧ (slots ≤ R.slots)) : G (T.setTop (mkF m pc Ls [])) := own_retV hR hret X bd.2.1 (hb bd.2.2.1 hd) ck.1 ck.2 (eT ▸ hQ)
theorem qRA (bd : own_Bd p e below G c code0 ml Z a0) {t : FieldType} {v : Value} (hR : own_Rt p l e R s m args below meth c (some t) Q G) (hret : meth.sig.returnType = some t) (ht : t.isReference = true) (hv : v.isRef = true) (X : Stand p l e R s m args below meth c T locs cells slots) (hd : decode code0 pc = .ok (.areturn, 1)) (eT : T.heap = h) (hQ : Q (some v) h locs) (ck : (cells ≤ R.cells) ∧ (slots ≤ R.slots)) : G (T.setTop (mkF m pc Ls (v :: rest))) := own_retA hR hret ht hv X bd.2.1 (hb bd.2.2.1 hd) ck.1 ck.2 (eT ▸ hQ)
theorem qRI (bd : own_Bd p e below G c code0 ml Z a0) {z : Int32} (hR : own_Rt p l e R s m args below meth c (some .int) Q G) (hret : meth.sig.returnType = some .int) (X : Stand p l e R s m args below meth c T locs cells slots) (hd : decode code0 pc = .ok (.ireturn, 1)) (eT : T.heap = h) (hQ : Q (some (.int z)) h locs) (ck : (cells ≤ R.cells) ∧ (slots ≤ R.slots)) : G (T.setTop (mkF m pc Ls (.int z :: rest))) := own_retI hR hret X bd.2.1 (hb bd.2.2.1 hd) ck.1 ck.2 (eT ▸ hQ)
theorem qRN (bd : own_Bd p e below G c code0 ml Z a0) {z : Int32} {t : FieldType} (hR : own_Rt p l e R s m args below meth c (some t) Q G) (hret : meth.sig.returnType = some t) (ht : t = .boolean ∨ t = .byte ∨ t = .char ∨ t = .short) (X : Stand p l e R s m args below meth c T locs cells slots) (hd : decode code0 pc = .ok (.ireturn, 1)) (eT : T.heap = h) (hQ : Q (some (.int (nar t z))) h locs) (ck : (cells ≤ R.cells) ∧ (slots ≤ R.slots)) : G (T.setTop (mkF m pc Ls (.int z :: rest))) := own_retN hR hret ht X bd.2.1 (hb bd.2.2.1 hd) ck.1 ck.2 (eT ▸ hQ)
theorem qS (bd : own_Bd p e below G c code0 ml Z a0) (X : Stand p l e R s m args below meth c T locs cells slots) (hZ : Z.Warmed39 s.vm) (hown : s.vm.findClass own = some m.cls) (iw1 iw2 iw3 iw4 : Nat) (rw1 : tables_1[iw1]? = some (Jvm.Cond.methodLink own index y)) (rw2 : tables_1[iw2]? = some (Jvm.Cond.static y)) (rw3 : tables_1[iw3]? = some (Jvm.Cond.initialized y.cls)) (rw4 : tables_1[iw4]? = some (Jvm.Cond.code y bytes maxL ret)) (hM : own_Con l Z y bytes maxL ret [] rm as' h Q) (eT : T.heap = h) {sg : MethodDescriptor} (pd : parseMethodDescriptor y.desc = some sg) (has : argsL.toArray = as') (hst : stk = argsL.reverse ++ rest) (hd : decode code0 pc = .ok (.invokestatic index, 3)) (W : Nat) (hsz : Ls.size = ml) (hln : argsL.length = sg.parameters.length) (hW : (rest.map fun v => v.category).sum = W) (ck : (y.cls ≠ "java/lang/invoke/MethodHandle" ∧ y.cls ≠ "java/lang/invoke/VarHandle") ∧ (rm.frames + 1 ≤ R.frames) ∧ (W + (maxL + 11) + rm.locals ≤ R.locals) ∧ (cells + rm.cells ≤ R.cells) ∧ (slots + rm.slots ≤ R.slots)) (k : ∀ T' h' v L, Stand p l e R s m args below meth c T' (locs ++ L) (cells + rm.cells) (slots + rm.slots) → T'.heap = h' → Q v h' L → G (T'.setTop (mkF m (pc + 3) Ls (v.toList ++ rest)))) : G (T.setTop (mkF m pc Ls stk)) := own_callS X bd.2.1 hZ bd.1 hown (ow bd.2.2.2.2 iw1 rw1) (ow bd.2.2.2.2 iw2 rw2) (ow bd.2.2.2.2 iw3 rw3) (ow bd.2.2.2.2 iw4 rw4) ck.1 W hM ck.2.1 ck.2.2.1 eT (Eq.trans hsz bd.2.2.2.1.symm) (lenOf pd hln) has hst (Nat.le_of_eq hW) (hb bd.2.2.1 hd) ck.2.2.2.1 ck.2.2.2.2 k
theorem qI (bd : own_Bd p e below G c code0 ml Z a0) (X : Stand p l e R s m args below meth c T locs cells slots) (hZ : Z.Warmed39 s.vm) (hown : s.vm.findClass own = some m.cls) (iw1 iw2 iw3 iw4 : Nat) (rw1 : tables_1[iw1]? = some (Jvm.Cond.methodLink own index y)) (rw2 : tables_1[iw2]? = some (Jvm.Cond.instanceMethod y)) (rw3 : tables_1[iw3]? = some (Jvm.Cond.initialized y.cls)) (rw4 : tables_1[iw4]? = some (Jvm.Cond.code y bytes maxL none)) (hy1 : y.name = "<init>") (hM : own_Con l Z y bytes maxL none [] rm as' h Q) (eT : T.heap = h) {sg : MethodDescriptor} (pd : parseMethodDescriptor y.desc = some sg) {a : Addr} (has : (.ref a :: argsL).toArray = as') (hst : stk = argsL.reverse ++ .ref a :: rest) (hd : decode code0 pc = .ok (.invokespecial index, 3)) (W : Nat) (hsz : Ls.size = ml) (hln : argsL.length = sg.parameters.length) (hW : (rest.map fun v => v.category).sum = W) (ck : (y.cls ≠ "java/lang/invoke/MethodHandle" ∧ y.cls ≠ "java/lang/invoke/VarHandle") ∧ (rm.frames + 1 ≤ R.frames) ∧ (W + (maxL + 11) + rm.locals ≤ R.locals) ∧ (cells + rm.cells ≤ R.cells) ∧ (slots + rm.slots ≤ R.slots)) (k : ∀ T' h' v L, Stand p l e R s m args below meth c T' (locs ++ L) (cells + rm.cells) (slots + rm.slots) → T'.heap = h' → Q v h' L → G (T'.setTop (mkF m (pc + 3) Ls (v.toList ++ rest)))) : G (T.setTop (mkF m pc Ls stk)) := own_callI X bd.2.1 hZ bd.1 hown hy1 (ow bd.2.2.2.2 iw1 rw1) (ow bd.2.2.2.2 iw2 rw2) (ow bd.2.2.2.2 iw3 rw3) (ow bd.2.2.2.2 iw4 rw4) ck.1 W hM ck.2.1 ck.2.2.1 eT (Eq.trans hsz bd.2.2.2.1.symm) (lenOf pd hln) has hst (Nat.le_of_eq hW) (hb bd.2.2.1 hd) ck.2.2.2.1 ck.2.2.2.2 k
theorem qV (bd : own_Bd p e below G c code0 ml Z a0) {C : String} (X : Stand p l e R s m args below meth c T locs cells slots) (hZ : Z.Warmed39 s.vm) (hown : s.vm.findClass own = some m.cls) (iw1 iw2 iw3 iw4 iw5 iw6 : Nat) (rw1 : tables_1[iw1]? = some (Jvm.Cond.methodLink own index y)) (rw2 : tables_1[iw2]? = some (Jvm.Cond.declares y)) (rw3 : tables_1[iw3]? = some (Jvm.Cond.selects C y y)) (rw4 : tables_1[iw4]? = some (Jvm.Cond.instanceMethod y)) (rw5 : tables_1[iw5]? = some (Jvm.Cond.initialized y.cls)) (rw6 : tables_1[iw6]? = some (Jvm.Cond.code y bytes maxL ret)) (hM : own_Con l Z y bytes maxL ret [] rm as' h Q) (eT : T.heap = h) {b : Addr} (E : Exa Z h b C) {sg : MethodDescriptor} (pd : parseMethodDescriptor y.desc = some sg) (has : (.ref b :: argsL).toArray = as') (hst : stk = argsL.reverse ++ .ref b :: rest) (hd : decode code0 pc = .ok (.invokevirtual index, 3)) (W : Nat) (hsz : Ls.size = ml) (hln : argsL.length = sg.parameters.length) (hW : (rest.map fun v => v.category).sum = W) (ck : (y.cls ≠ "java/lang/invoke/MethodHandle" ∧ y.cls ≠ "java/lang/invoke/VarHandle") ∧ (rm.frames + 1 ≤ R.frames) ∧ (W + (maxL + 11) + rm.locals ≤ R.locals) ∧ (cells + rm.cells ≤ R.cells) ∧ (slots + rm.slots ≤ R.slots)) (k : ∀ T' h' v L, Stand p l e R s m args below meth c T' (locs ++ L) (cells + rm.cells) (slots + rm.slots) → T'.heap = h' → Q v h' L → G (T'.setTop (mkF m (pc + 3) Ls (v.toList ++ rest)))) : G (T.setTop (mkF m pc Ls stk)) := own_callV X bd.2.1 hZ bd.1 hown (ow bd.2.2.2.2 iw1 rw1) (ow bd.2.2.2.2 iw2 rw2) (ow bd.2.2.2.2 iw3 rw3) (ow bd.2.2.2.2 iw4 rw4) (ow bd.2.2.2.2 iw5 rw5) (ow bd.2.2.2.2 iw6 rw6) ck.1 W hM ck.2.1 ck.2.2.1 eT E (Eq.trans hsz bd.2.2.2.1.symm) (lenOf pd hln) has hst (Nat.le_of_eq hW) (hb bd.2.2.1 hd) ck.2.2.2.1 ck.2.2.2.2 k
variable {EL : List (String × Nat)} {vm0 : Vm} {k0 : Nat}
theorem qRVW (bd : own_Bd p e below G c code0 ml Z a0) (hR : own_RtW p l e Z EL R s m args below meth c none h0 Q G) (hret : meth.sig.returnType = none) (X : Stand p l e R (s.setVm vm0) m args below meth c T locs cells slots) (hd : decode code0 pc = .ok (.return_, 1)) (eT : T.heap = h) (hS : s.Since vm0 k0) (hk : k0 ≤ h.size) (hZ : Z.Warmed39 (s.setVm vm0).vm) (hC : CHr Z EL s.vm h0 vm0 h) (hQ : Q none h locs) (ck : (cells ≤ R.cells) ∧ (slots ≤ R.slots)) : G (T.setTop (mkF m pc Ls [])) := own_retVW hR hret X bd.2.1 (hb bd.2.2.1 hd) eT hS hk hZ hC ck.1 ck.2 hQ
theorem qRAW (bd : own_Bd p e below G c code0 ml Z a0) {t : FieldType} {v : Value} (hR : own_RtW p l e Z EL R s m args below meth c (some t) h0 Q G) (hret : meth.sig.returnType = some t) (ht : t.isReference = true) (hv : v.isRef = true) (X : Stand p l e R (s.setVm vm0) m args below meth c T locs cells slots) (hd : decode code0 pc = .ok (.areturn, 1)) (eT : T.heap = h) (hS : s.Since vm0 k0) (hk : k0 ≤ h.size) (hZ : Z.Warmed39 (s.setVm vm0).vm) (hC : CHr Z EL s.vm h0 vm0 h) (hQ : Q (some v) h locs) (ck : (cells ≤ R.cells) ∧ (slots ≤ R.slots)) : G (T.setTop (mkF m pc Ls (v :: rest))) := own_retAW hR hret ht hv X bd.2.1 (hb bd.2.2.1 hd) eT hS hk hZ hC ck.1 ck.2 hQ
theorem qRNW (bd : own_Bd p e below G c code0 ml Z a0) {z : Int32} {t : FieldType} (hR : own_RtW p l e Z EL R s m args below meth c (some t) h0 Q G) (hret : meth.sig.returnType = some t) (ht : t = .boolean ∨ t = .byte ∨ t = .char ∨ t = .short) (X : Stand p l e R (s.setVm vm0) m args below meth c T locs cells slots) (hd : decode code0 pc = .ok (.ireturn, 1)) (eT : T.heap = h) (hS : s.Since vm0 k0) (hk : k0 ≤ h.size) (hZ : Z.Warmed39 (s.setVm vm0).vm) (hC : CHr Z EL s.vm h0 vm0 h) (hQ : Q (some (.int (nar t z))) h locs) (ck : (cells ≤ R.cells) ∧ (slots ≤ R.slots)) : G (T.setTop (mkF m pc Ls (.int z :: rest))) := own_retNW hR hret ht X bd.2.1 (hb bd.2.2.1 hd) eT hS hk hZ hC ck.1 ck.2 hQ
theorem qSW (bd : own_Bd p e below G c code0 ml Z a0) (X : Stand p l e R (s.setVm vm0) m args below meth c T locs cells slots) (hZ : Z.Warmed39 (s.setVm vm0).vm) (hown : (s.setVm vm0).vm.findClass own = some m.cls) (iw1 iw2 iw3 iw4 : Nat) (rw1 : tables_1[iw1]? = some (Jvm.Cond.methodLink own index y)) (rw2 : tables_1[iw2]? = some (Jvm.Cond.static y)) (rw3 : tables_1[iw3]? = some (Jvm.Cond.initialized y.cls)) (rw4 : tables_1[iw4]? = some (Jvm.Cond.code y bytes maxL ret)) (hM : own_ConW l Z EL y bytes maxL ret [] rm as' h Q) (eT : T.heap = h) (hS : s.Since vm0 k0) (hk : k0 ≤ h.size) (hEL : EW Z a0 EL) (H : CHv Z EL vm0 h) {sg : MethodDescriptor} (pd : parseMethodDescriptor y.desc = some sg) (has : argsL.toArray = as') (hst : stk = argsL.reverse ++ rest) (hd : decode code0 pc = .ok (.invokestatic index, 3)) (W : Nat) (hsz : Ls.size = ml) (hln : argsL.length = sg.parameters.length) (hW : (rest.map fun v => v.category).sum = W) (ck : (y.cls ≠ "java/lang/invoke/MethodHandle" ∧ y.cls ≠ "java/lang/invoke/VarHandle") ∧ (rm.frames + 1 ≤ R.frames) ∧ (W + (maxL + 11) + rm.locals ≤ R.locals) ∧ (cells + rm.cells ≤ R.cells) ∧ (slots + rm.slots ≤ R.slots)) (k : ∀ T' h' v L, Stand p l e R (s.setVm T'.vm) m args below meth c T' (locs ++ L) (cells + rm.cells) (slots + rm.slots) → T'.heap = h' → s.Since T'.vm h'.size → Z.Warmed39 (s.setVm T'.vm).vm → (s.setVm T'.vm).vm.findClass own = some m.cls → CHr Z EL vm0 h T'.vm h' → Q v h' L → G (T'.setTop (mkF m (pc + 3) Ls (v.toList ++ rest)))) : G (T.setTop (mkF m pc Ls stk)) := own_callSW X bd.2.1 hZ bd.1 hown (ow bd.2.2.2.2 iw1 rw1) (ow bd.2.2.2.2 iw2 rw2) (ow bd.2.2.2.2 iw3 rw3) (ow bd.2.2.2.2 iw4 rw4) ck.1 W hM ck.2.1 ck.2.2.1 eT hS hk hEL H (Eq.trans hsz bd.2.2.2.1.symm) (lenOf pd hln) has hst (Nat.le_of_eq hW) (hb bd.2.2.1 hd) ck.2.2.2.1 ck.2.2.2.2 k
theorem qIW (bd : own_Bd p e below G c code0 ml Z a0) (X : Stand p l e R (s.setVm vm0) m args below meth c T locs cells slots) (hZ : Z.Warmed39 (s.setVm vm0).vm) (hown : (s.setVm vm0).vm.findClass own = some m.cls) (iw1 iw2 iw3 iw4 : Nat) (rw1 : tables_1[iw1]? = some (Jvm.Cond.methodLink own index y)) (rw2 : tables_1[iw2]? = some (Jvm.Cond.instanceMethod y)) (rw3 : tables_1[iw3]? = some (Jvm.Cond.initialized y.cls)) (rw4 : tables_1[iw4]? = some (Jvm.Cond.code y bytes maxL none)) (hy1 : y.name = "<init>") (hM : own_ConW l Z EL y bytes maxL none [] rm as' h Q) (eT : T.heap = h) (hS : s.Since vm0 k0) (hk : k0 ≤ h.size) (hEL : EW Z a0 EL) (H : CHv Z EL vm0 h) {sg : MethodDescriptor} (pd : parseMethodDescriptor y.desc = some sg) {a : Addr} (has : (.ref a :: argsL).toArray = as') (hst : stk = argsL.reverse ++ .ref a :: rest) (hd : decode code0 pc = .ok (.invokespecial index, 3)) (W : Nat) (hsz : Ls.size = ml) (hln : argsL.length = sg.parameters.length) (hW : (rest.map fun v => v.category).sum = W) (ck : (y.cls ≠ "java/lang/invoke/MethodHandle" ∧ y.cls ≠ "java/lang/invoke/VarHandle") ∧ (rm.frames + 1 ≤ R.frames) ∧ (W + (maxL + 11) + rm.locals ≤ R.locals) ∧ (cells + rm.cells ≤ R.cells) ∧ (slots + rm.slots ≤ R.slots)) (k : ∀ T' h' v L, Stand p l e R (s.setVm T'.vm) m args below meth c T' (locs ++ L) (cells + rm.cells) (slots + rm.slots) → T'.heap = h' → s.Since T'.vm h'.size → Z.Warmed39 (s.setVm T'.vm).vm → (s.setVm T'.vm).vm.findClass own = some m.cls → CHr Z EL vm0 h T'.vm h' → Q v h' L → G (T'.setTop (mkF m (pc + 3) Ls (v.toList ++ rest)))) : G (T.setTop (mkF m pc Ls stk)) := own_callIW X bd.2.1 hZ bd.1 hown hy1 (ow bd.2.2.2.2 iw1 rw1) (ow bd.2.2.2.2 iw2 rw2) (ow bd.2.2.2.2 iw3 rw3) (ow bd.2.2.2.2 iw4 rw4) ck.1 W hM ck.2.1 ck.2.2.1 eT hS hk hEL H (Eq.trans hsz bd.2.2.2.1.symm) (lenOf pd hln) has hst (Nat.le_of_eq hW) (hb bd.2.2.1 hd) ck.2.2.2.1 ck.2.2.2.2 k
theorem qVW (bd : own_Bd p e below G c code0 ml Z a0) {C : String} (X : Stand p l e R (s.setVm vm0) m args below meth c T locs cells slots) (hZ : Z.Warmed39 (s.setVm vm0).vm) (hown : (s.setVm vm0).vm.findClass own = some m.cls) (iw1 iw2 iw3 iw4 iw5 iw6 : Nat) (rw1 : tables_1[iw1]? = some (Jvm.Cond.methodLink own index y)) (rw2 : tables_1[iw2]? = some (Jvm.Cond.declares y)) (rw3 : tables_1[iw3]? = some (Jvm.Cond.selects C y y)) (rw4 : tables_1[iw4]? = some (Jvm.Cond.instanceMethod y)) (rw5 : tables_1[iw5]? = some (Jvm.Cond.initialized y.cls)) (rw6 : tables_1[iw6]? = some (Jvm.Cond.code y bytes maxL ret)) (hM : own_ConW l Z EL y bytes maxL ret [] rm as' h Q) (eT : T.heap = h) (hS : s.Since vm0 k0) (hk : k0 ≤ h.size) (hEL : EW Z a0 EL) (H : CHv Z EL vm0 h) {b : Addr} (E : Exa Z h b C) {sg : MethodDescriptor} (pd : parseMethodDescriptor y.desc = some sg) (has : (.ref b :: argsL).toArray = as') (hst : stk = argsL.reverse ++ .ref b :: rest) (hd : decode code0 pc = .ok (.invokevirtual index, 3)) (W : Nat) (hsz : Ls.size = ml) (hln : argsL.length = sg.parameters.length) (hW : (rest.map fun v => v.category).sum = W) (ck : (y.cls ≠ "java/lang/invoke/MethodHandle" ∧ y.cls ≠ "java/lang/invoke/VarHandle") ∧ (rm.frames + 1 ≤ R.frames) ∧ (W + (maxL + 11) + rm.locals ≤ R.locals) ∧ (cells + rm.cells ≤ R.cells) ∧ (slots + rm.slots ≤ R.slots)) (k : ∀ T' h' v L, Stand p l e R (s.setVm T'.vm) m args below meth c T' (locs ++ L) (cells + rm.cells) (slots + rm.slots) → T'.heap = h' → s.Since T'.vm h'.size → Z.Warmed39 (s.setVm T'.vm).vm → (s.setVm T'.vm).vm.findClass own = some m.cls → CHr Z EL vm0 h T'.vm h' → Q v h' L → G (T'.setTop (mkF m (pc + 3) Ls (v.toList ++ rest)))) : G (T.setTop (mkF m pc Ls stk)) := own_callVW X bd.2.1 hZ bd.1 hown (ow bd.2.2.2.2 iw1 rw1) (ow bd.2.2.2.2 iw2 rw2) (ow bd.2.2.2.2 iw3 rw3) (ow bd.2.2.2.2 iw4 rw4) (ow bd.2.2.2.2 iw5 rw5) (ow bd.2.2.2.2 iw6 rw6) ck.1 W hM ck.2.1 ck.2.2.1 eT hS hk hEL H E (Eq.trans hsz bd.2.2.2.1.symm) (lenOf pd hln) has hst (Nat.le_of_eq hW) (hb bd.2.2.1 hd) ck.2.2.2.1 ck.2.2.2.2 k
theorem own_stW {ws : List Jvm.Cond} (hw : own_W Z a0) (hEL : EW Z a0 EL) (hpn : plainFor y = true) (Ls : Array Slot) (q : ∀ m, entryFrame m as' maxL = mkF m 0 Ls [])
    (H : ∀ (p : Program) (e : Env) (s : State) (m : MethodId) (below : List Frame) (meth : Method) (c : Code) (s₁ : State) (G : State → Prop), own_Bd p e below G c bytes maxL Z a0 → (s.setVm s.vm).vm.findClass y.cls = some m.cls → meth.name = y.name → meth.sig.returnType = ret → Z.Warmed39 (s.setVm s.vm).vm →
      Stand p l e rm (s.setVm s.vm) m as' below meth c s₁ [] 0 0 → s₁.heap = h0 → CHv Z EL s.vm h0 → s.Since s.vm h0.size → own_Fr Z [] → own_RtW p l e Z EL rm s m as' below meth c ret h0 Q G → G (s₁.setTop (mkF m 0 Ls []))) : own_ConW l Z EL y bytes maxL ret ws rm as' h0 Q :=
  own_introW hEL hpn fun p e s m below meth c s₁ G hx hby hml hown hnm hret hZ X0 e0 H0 SI0 hG hR => own_entry (q m) (H p e s m below meth c s₁ G ⟨hG, hx, hby, hml, hw⟩ hown hnm hret hZ X0 e0 H0 SI0 (Fr.nil Z.heap.size) hR)
theorem qP2 (bd : own_Bd p e below G c code0 ml Z a0) {C : String} (X : Stand p l e R s m args below meth c T locs cells slots) (hZ : Z.Warmed39 s.vm) (hown : s.vm.findClass own = some m.cls) (iw1 iw2 iw3 iwp iw5 iw6 : Nat) (rw1 : tables_1[iw1]? = some (Jvm.Cond.methodLink own index y)) (rw2 : tables_1[iw2]? = some (Jvm.Cond.instanceMethod y)) (rw3 : tables_1[iw3]? = some (Jvm.Cond.selects C y y)) (rwp : tables_1[iwp]? = some (Jvm.Cond.privateMethod y)) (rw5 : tables_1[iw5]? = some (Jvm.Cond.initialized y.cls)) (rw6 : tables_1[iw6]? = some (Jvm.Cond.code y bytes maxL ret)) (hM : own_Con l Z y bytes maxL ret [] rm as' h Q) (eT : T.heap = h) {b : Addr} {D : String} (E : Exa Z h b D) {sg : MethodDescriptor} (pd : parseMethodDescriptor y.desc = some sg) (has : (.ref b :: argsL).toArray = as') (hst : stk = argsL.reverse ++ .ref b :: rest) (hd : decode code0 pc = .ok (.invokevirtual index, 3)) (W : Nat) (hsz : Ls.size = ml) (hln : argsL.length = sg.parameters.length) (hW : (rest.map fun v => v.category).sum = W) (ck : (y.cls ≠ "java/lang/invoke/MethodHandle" ∧ y.cls ≠ "java/lang/invoke/VarHandle") ∧ (rm.frames + 1 ≤ R.frames) ∧ (W + (maxL + 11) + rm.locals ≤ R.locals) ∧ (cells + rm.cells ≤ R.cells) ∧ (slots + rm.slots ≤ R.slots)) (k : ∀ T' h' v L, Stand p l e R s m args below meth c T' (locs ++ L) (cells + rm.cells) (slots + rm.slots) → T'.heap = h' → Q v h' L → G (T'.setTop (mkF m (pc + 3) Ls (v.toList ++ rest)))) : G (T.setTop (mkF m pc Ls stk)) := own_callP2 X bd.2.1 hZ bd.1 hown (ow bd.2.2.2.2 iw1 rw1) (ow bd.2.2.2.2 iw2 rw2) (ow bd.2.2.2.2 iw3 rw3) (ow bd.2.2.2.2 iwp rwp) (ow bd.2.2.2.2 iw5 rw5) (ow bd.2.2.2.2 iw6 rw6) ck.1 W hM ck.2.1 ck.2.2.1 eT E (Eq.trans hsz bd.2.2.2.1.symm) (lenOf pd hln) has hst (Nat.le_of_eq hW) (hb bd.2.2.1 hd) ck.2.2.2.1 ck.2.2.2.2 k
theorem qVZ (bd : own_Bd p e below G c code0 ml Z a0) {C D : String} {w : MethodName} (X : Stand p l e R s m args below meth c T locs cells slots) (hZ : Z.Warmed39 s.vm) (hown : s.vm.findClass own = some m.cls) (iw1 iw2 iw3 iwq iw4 iw5 iw6 : Nat) (rw1 : tables_1[iw1]? = some (Jvm.Cond.methodLink own index z)) (rw2 : tables_1[iw2]? = some (Jvm.Cond.declares z)) (rw3 : tables_1[iw3]? = some (Jvm.Cond.selects C z y)) (rwq : tables_1[iwq]? = some (Jvm.Cond.selects D w w)) (rw4 : tables_1[iw4]? = some (Jvm.Cond.instanceMethod y)) (rw5 : tables_1[iw5]? = some (Jvm.Cond.initialized y.cls)) (rw6 : tables_1[iw6]? = some (Jvm.Cond.code y bytes maxL ret)) (hq : w.cls = z.cls) (hM : own_Con l Z y bytes maxL ret [] rm as' h Q) (eT : T.heap = h) {b : Addr} (E : Exa Z h b C) {sg : MethodDescriptor} (pd : parseMethodDescriptor z.desc = some sg) (has : (.ref b :: argsL).toArray = as') (hst : stk = argsL.reverse ++ .ref b :: rest) (hd : decode code0 pc = .ok (.invokevirtual index, 3)) (W : Nat) (hsz : Ls.size = ml) (hln : argsL.length = sg.parameters.length) (hW : (rest.map fun v => v.category).sum = W) (ck : (z.cls ≠ "java/lang/invoke/MethodHandle" ∧ z.cls ≠ "java/lang/invoke/VarHandle") ∧ (rm.frames + 1 ≤ R.frames) ∧ (W + (maxL + 11) + rm.locals ≤ R.locals) ∧ (cells + rm.cells ≤ R.cells) ∧ (slots + rm.slots ≤ R.slots)) (k : ∀ T' h' v L, Stand p l e R s m args below meth c T' (locs ++ L) (cells + rm.cells) (slots + rm.slots) → T'.heap = h' → Q v h' L → G (T'.setTop (mkF m (pc + 3) Ls (v.toList ++ rest)))) : G (T.setTop (mkF m pc Ls stk)) := own_callVZ X bd.2.1 hZ bd.1 hown (ow bd.2.2.2.2 iw1 rw1) (ow bd.2.2.2.2 iw2 rw2) (ow bd.2.2.2.2 iw3 rw3) (ow bd.2.2.2.2 iwq rwq) hq (ow bd.2.2.2.2 iw4 rw4) (ow bd.2.2.2.2 iw5 rw5) (ow bd.2.2.2.2 iw6 rw6) ck.1 W hM ck.2.1 ck.2.2.1 eT E (Eq.trans hsz bd.2.2.2.1.symm) (lenOf pd hln) has hst (Nat.le_of_eq hW) (hb bd.2.2.1 hd) ck.2.2.2.1 ck.2.2.2.2 k
theorem qU (bd : own_Bd p e below G c code0 ml Z a0) {B : String} {w : MethodName} (X : Stand p l e R s m args below meth c T locs cells slots) (hZ : Z.Warmed39 s.vm) (hown : s.vm.findClass own = some m.cls) (iw1 iw2 iw4 iwq iw5 iw6 : Nat) (rw1 : tables_1[iw1]? = some (Jvm.Cond.methodLink own index y)) (rw2 : tables_1[iw2]? = some (Jvm.Cond.instanceMethod y)) (rw4 : tables_1[iw4]? = some (Jvm.Cond.superclass own y.cls)) (rwq : tables_1[iwq]? = some (Jvm.Cond.selects B w w)) (rw5 : tables_1[iw5]? = some (Jvm.Cond.initialized y.cls)) (rw6 : tables_1[iw6]? = some (Jvm.Cond.code y bytes maxL ret)) (hq : w.cls = y.cls) (hM : own_Con l Z y bytes maxL ret [] rm as' h Q) (eT : T.heap = h) {b : Addr} {D : String} (E : Exa Z h b D) {sg : MethodDescriptor} (pd : parseMethodDescriptor y.desc = some sg) (has : (.ref b :: argsL).toArray = as') (hst : stk = argsL.reverse ++ .ref b :: rest) (hd : decode code0 pc = .ok (.invokespecial index, 3)) (W : Nat) (hsz : Ls.size = ml) (hln : argsL.length = sg.parameters.length) (hW : (rest.map fun v => v.category).sum = W) (ck : (y.name ≠ "<init>") ∧ (y.cls ≠ "java/lang/invoke/MethodHandle" ∧ y.cls ≠ "java/lang/invoke/VarHandle") ∧ (rm.frames + 1 ≤ R.frames) ∧ (W + (maxL + 11) + rm.locals ≤ R.locals) ∧ (cells + rm.cells ≤ R.cells) ∧ (slots + rm.slots ≤ R.slots)) (k : ∀ T' h' v L, Stand p l e R s m args below meth c T' (locs ++ L) (cells + rm.cells) (slots + rm.slots) → T'.heap = h' → Q v h' L → G (T'.setTop (mkF m (pc + 3) Ls (v.toList ++ rest)))) : G (T.setTop (mkF m pc Ls stk)) := own_callU X bd.2.1 hZ bd.1 hown (ow bd.2.2.2.2 iw1 rw1) (ow bd.2.2.2.2 iw2 rw2) (ow bd.2.2.2.2 iw4 rw4) (ow bd.2.2.2.2 iwq rwq) hq (ow bd.2.2.2.2 iw5 rw5) (ow bd.2.2.2.2 iw6 rw6) ck.1 ck.2.1 W hM ck.2.2.1 ck.2.2.2.1 eT E (Eq.trans hsz bd.2.2.2.1.symm) (lenOf pd hln) has hst (Nat.le_of_eq hW) (hb bd.2.2.1 hd) ck.2.2.2.2.1 ck.2.2.2.2.2 k
end OwnShort
abbrev oi (x : Int32) : Slot := .val (.int x)
abbrev oa (a : Addr) : Slot := .val (.ref a)
set_option maxRecDepth 65536
set_option maxHeartbeats 40000000
section OwnQ
variable {p : Program} {l : Launch} {e : Env} {R : Room} {s : State} {m : MethodId} {args : Array Value} {below : List Frame} {meth : Method} {c : Code} {T : State} {locs : List Loc} {cells slots : Nat} {G : State → Prop} {bytes : ByteArray} {g : JFrame}
variable {Z : State} {a0 : Array Value} {ml : Nat}
theorem q_goto   {o : Int} {pc0 : Nat}  (pc' : Nat) (B : own_Bd p e below G c bytes ml Z a0) (X : Stand p l e R s m args below meth c T locs cells slots) (hd : decode bytes pc0 = .ok (.goto o, 3))         (hg : g.method = m) (hpc : g.pc = pc0) (ck : 0 ≤ (pc0 : Int) + o ∧ ((pc0 : Int) + o).toNat = pc') (k_ : G (T.setTop { g with pc := pc' })) : G (T.setTop g) := B.1 _ _ (fun _ y_ => XS.goto X.here B.2.1 hg hpc (by rw [B.2.2.1, hpc]; exact hd)  ck.1 ck.2 y_) k_
theorem q_icmpYes  {cd : ClassFile.Cond} {x y : Int32} {rest : List Value} {o : Int} {pc0 : Nat}  (pc' : Nat) (B : own_Bd p e below G c bytes ml Z a0) (X : Stand p l e R s m args below meth c T locs cells slots) (hd : decode bytes pc0 = .ok (.if_icmp cd o, 3))  (hs : g.stack = .int y :: .int x :: rest) (hc : if_icmp.holds cd x y = true)       (hg : g.method = m) (hpc : g.pc = pc0) (ck : 0 ≤ (pc0 : Int) + o ∧ ((pc0 : Int) + o).toNat = pc') (k_ : G (T.setTop { g with pc := pc', stack := rest })) : G (T.setTop g) := B.1 _ _ (fun _ y_ => XS.icmpYes X.here B.2.1 hg hpc (by rw [B.2.2.1, hpc]; exact hd) hs hc ck.1 ck.2 y_) k_
theorem q_ifYes  {cd : ClassFile.Cond} {x : Int32} {rest : List Value} {o : Int} {pc0 : Nat}  (pc' : Nat) (B : own_Bd p e below G c bytes ml Z a0) (X : Stand p l e R s m args below meth c T locs cells slots) (hd : decode bytes pc0 = .ok (.ifCond cd o, 3))  (hs : g.stack = .int x :: rest) (hc : ifCond.holds cd x = true)       (hg : g.method = m) (hpc : g.pc = pc0) (ck : 0 ≤ (pc0 : Int) + o ∧ ((pc0 : Int) + o).toNat = pc') (k_ : G (T.setTop { g with pc := pc', stack := rest })) : G (T.setTop g) := B.1 _ _ (fun _ y_ => XS.ifYes X.here B.2.1 hg hpc (by rw [B.2.2.1, hpc]; exact hd) hs hc ck.1 ck.2 y_) k_
theorem q_ifnonnullYes  {b : Addr} {rest : List Value} {o : Int} {pc0 : Nat}  (pc' : Nat) (B : own_Bd p e below G c bytes ml Z a0) (X : Stand p l e R s m args below meth c T locs cells slots) (hd : decode bytes pc0 = .ok (.ifnonnull o, 3))  (hs : g.stack = .ref b :: rest)       (hg : g.method = m) (hpc : g.pc = pc0) (ck : 0 ≤ (pc0 : Int) + o ∧ ((pc0 : Int) + o).toNat = pc') (k_ : G (T.setTop { g with pc := pc', stack := rest })) : G (T.setTop g) := B.1 _ _ (fun _ y_ => XS.ifnonnullYes X.here B.2.1 hg hpc (by rw [B.2.2.1, hpc]; exact hd) hs ck.1 ck.2 y_) k_
theorem q_aconstNull (B : own_Bd p e below G c bytes ml Z a0) (X : Stand p l e R s m args below meth c T locs cells slots) (hd : decode bytes g.pc = .ok (.aconst_null, 1)) (hg : g.method = m) (k_ : G (T.setTop { g with pc := g.pc + 1, stack := .null :: g.stack })) : G (T.setTop g) := B.1 _ _ (fun _ y_ => XS.aconstNull X.here B.2.1 hg (B.2.2.1 ▸ hd) y_) k_
theorem q_aload (B : own_Bd p e below G c bytes ml Z a0) (X : Stand p l e R s m args below meth c T locs cells slots) {k : Nat} {v : Value} (hd : decode bytes g.pc = .ok (.aload k, 2)) (hl : g.locals[k]? = some (.val v)) (hv : v.isRef = true) (hg : g.method = m) (k_ : G (T.setTop { g with pc := g.pc + 2, stack := v :: g.stack })) : G (T.setTop g) := B.1 _ _ (fun _ y_ => XS.aload X.here B.2.1 hg (B.2.2.1 ▸ hd) hl hv y_) k_
theorem q_aloadN (B : own_Bd p e below G c bytes ml Z a0) (X : Stand p l e R s m args below meth c T locs cells slots) {k : Fin 4} {v : Value} (hd : decode bytes g.pc = .ok (.aload_n k, 1)) (hl : g.locals[k.val]? = some (.val v)) (hv : v.isRef = true) (hg : g.method = m) (k_ : G (T.setTop { g with pc := g.pc + 1, stack := v :: g.stack })) : G (T.setTop g) := B.1 _ _ (fun _ y_ => XS.aloadN X.here B.2.1 hg (B.2.2.1 ▸ hd) hl hv y_) k_
theorem q_astore (B : own_Bd p e below G c bytes ml Z a0) (X : Stand p l e R s m args below meth c T locs cells slots) {k : Nat} {x : Value} {rest : List Value} {l' : Array Slot} (hd : decode bytes g.pc = .ok (.astore k, 2)) (hs : g.stack = x :: rest) (hv : x.isRef = true) (hl : storeLocals g.locals k x = some l') (hg : g.method = m) (k_ : G (T.setTop { g with pc := g.pc + 2, stack := rest, locals := l' })) : G (T.setTop g) := B.1 _ _ (fun _ y_ => XS.astore X.here B.2.1 hg (B.2.2.1 ▸ hd) hs hv hl y_) k_
theorem q_astoreN (B : own_Bd p e below G c bytes ml Z a0) (X : Stand p l e R s m args below meth c T locs cells slots) {k : Fin 4} {x : Value} {rest : List Value} {l' : Array Slot} (hd : decode bytes g.pc = .ok (.astore_n k, 1)) (hs : g.stack = x :: rest) (hv : x.isRef = true) (hl : storeLocals g.locals k.val x = some l') (hg : g.method = m) (k_ : G (T.setTop { g with pc := g.pc + 1, stack := rest, locals := l' })) : G (T.setTop g) := B.1 _ _ (fun _ y_ => XS.astoreN X.here B.2.1 hg (B.2.2.1 ▸ hd) hs hv hl y_) k_
theorem q_bipush (B : own_Bd p e below G c bytes ml Z a0) (X : Stand p l e R s m args below meth c T locs cells slots) {i : Int} (hd : decode bytes g.pc = .ok (.bipush i, 2)) (hg : g.method = m) (k_ : G (T.setTop { g with pc := g.pc + 2, stack := .int (Int8.ofInt i).toInt32 :: g.stack })) : G (T.setTop g) := B.1 _ _ (fun _ y_ => XS.bipush X.here B.2.1 hg (B.2.2.1 ▸ hd) y_) k_
theorem q_dup (B : own_Bd p e below G c bytes ml Z a0) (X : Stand p l e R s m args below meth c T locs cells slots) {x : Value} {rest : List Value} (hd : decode bytes g.pc = .ok (.dup, 1)) (hs : g.stack = x :: rest) (hc : x.category = 1) (hg : g.method = m) (k_ : G (T.setTop { g with pc := g.pc + 1, stack := x :: x :: rest })) : G (T.setTop g) := B.1 _ _ (fun _ y_ => XS.dup X.here B.2.1 hg (B.2.2.1 ▸ hd) hs hc y_) k_
theorem q_i2b (B : own_Bd p e below G c bytes ml Z a0) (X : Stand p l e R s m args below meth c T locs cells slots) {v : Int32} {rest : List Value} (hd : decode bytes g.pc = .ok (.i2b, 1)) (hs : g.stack = .int v :: rest) (hg : g.method = m) (k_ : G (T.setTop { g with pc := g.pc + 1, stack := .int (v.toInt8.toInt32) :: rest })) : G (T.setTop g) := B.1 _ _ (fun _ y_ => XS.i2b X.here B.2.1 hg (B.2.2.1 ▸ hd) hs y_) k_
theorem q_i2c (B : own_Bd p e below G c bytes ml Z a0) (X : Stand p l e R s m args below meth c T locs cells slots) {v : Int32} {rest : List Value} (hd : decode bytes g.pc = .ok (.i2c, 1)) (hs : g.stack = .int v :: rest) (hg : g.method = m) (k_ : G (T.setTop { g with pc := g.pc + 1, stack := .int (v.toUInt32.toUInt16.toUInt32.toInt32) :: rest })) : G (T.setTop g) := B.1 _ _ (fun _ y_ => XS.i2c X.here B.2.1 hg (B.2.2.1 ▸ hd) hs y_) k_
theorem q_iadd (B : own_Bd p e below G c bytes ml Z a0) (X : Stand p l e R s m args below meth c T locs cells slots) {x y : Int32} {rest : List Value} (hd : decode bytes g.pc = .ok (.iadd, 1)) (hs : g.stack = .int y :: .int x :: rest) (hg : g.method = m) (k_ : G (T.setTop { g with pc := g.pc + 1, stack := .int (x + y) :: rest })) : G (T.setTop g) := B.1 _ _ (fun _ y_ => XS.iadd X.here B.2.1 hg (B.2.2.1 ▸ hd) hs y_) k_
theorem q_iand (B : own_Bd p e below G c bytes ml Z a0) (X : Stand p l e R s m args below meth c T locs cells slots) {x y : Int32} {rest : List Value} (hd : decode bytes g.pc = .ok (.iand, 1)) (hs : g.stack = .int y :: .int x :: rest) (hg : g.method = m) (k_ : G (T.setTop { g with pc := g.pc + 1, stack := .int (x &&& y) :: rest })) : G (T.setTop g) := B.1 _ _ (fun _ y_ => XS.iand X.here B.2.1 hg (B.2.2.1 ▸ hd) hs y_) k_
theorem q_icmpNo (B : own_Bd p e below G c bytes ml Z a0) (X : Stand p l e R s m args below meth c T locs cells slots) {cd : ClassFile.Cond} {o : Int} {x y : Int32} {rest : List Value} (hd : decode bytes g.pc = .ok (.if_icmp cd o, 3)) (hs : g.stack = .int y :: .int x :: rest) (hc : if_icmp.holds cd x y = false) (hg : g.method = m) (k_ : G (T.setTop { g with pc := g.pc + 3, stack := rest })) : G (T.setTop g) := B.1 _ _ (fun _ y_ => XS.icmpNo X.here B.2.1 hg (B.2.2.1 ▸ hd) hs hc y_) k_
theorem q_iconst (B : own_Bd p e below G c bytes ml Z a0) (X : Stand p l e R s m args below meth c T locs cells slots) {i : Int} (hd : decode bytes g.pc = .ok (.iconst i, 1)) (hg : g.method = m) (k_ : G (T.setTop { g with pc := g.pc + 1, stack := .int (Int32.ofInt i) :: g.stack })) : G (T.setTop g) := B.1 _ _ (fun _ y_ => XS.iconst X.here B.2.1 hg (B.2.2.1 ▸ hd) y_) k_
theorem q_ifNo (B : own_Bd p e below G c bytes ml Z a0) (X : Stand p l e R s m args below meth c T locs cells slots) {cd : ClassFile.Cond} {o : Int} {x : Int32} {rest : List Value} (hd : decode bytes g.pc = .ok (.ifCond cd o, 3)) (hs : g.stack = .int x :: rest) (hc : ifCond.holds cd x = false) (hg : g.method = m) (k_ : G (T.setTop { g with pc := g.pc + 3, stack := rest })) : G (T.setTop g) := B.1 _ _ (fun _ y_ => XS.ifNo X.here B.2.1 hg (B.2.2.1 ▸ hd) hs hc y_) k_
theorem q_ifnullNo (B : own_Bd p e below G c bytes ml Z a0) (X : Stand p l e R s m args below meth c T locs cells slots) {o : Int} {b : Addr} {rest : List Value} (hd : decode bytes g.pc = .ok (.ifnull o, 3)) (hs : g.stack = .ref b :: rest) (hg : g.method = m) (k_ : G (T.setTop { g with pc := g.pc + 3, stack := rest })) : G (T.setTop g) := B.1 _ _ (fun _ y_ => XS.ifnullNo X.here B.2.1 hg (B.2.2.1 ▸ hd) hs y_) k_
theorem q_iinc (B : own_Bd p e below G c bytes ml Z a0) (X : Stand p l e R s m args below meth c T locs cells slots) {k : Nat} {cst : Int} {x : Int32} {l' : Array Slot} (hd : decode bytes g.pc = .ok (.iinc k cst, 3)) (hl : g.locals[k]? = some (.val (.int x))) (hl' : storeLocals g.locals k (.int (x + Int32.ofInt cst)) = some l') (hg : g.method = m) (k_ : G (T.setTop { g with pc := g.pc + 3, locals := l' })) : G (T.setTop g) := B.1 _ _ (fun _ y_ => XS.iinc X.here B.2.1 hg (B.2.2.1 ▸ hd) hl hl' y_) k_
theorem q_iload (B : own_Bd p e below G c bytes ml Z a0) (X : Stand p l e R s m args below meth c T locs cells slots) {k : Nat} {v : Int32} (hd : decode bytes g.pc = .ok (.iload k, 2)) (hl : g.locals[k]? = some (.val (.int v))) (hg : g.method = m) (k_ : G (T.setTop { g with pc := g.pc + 2, stack := .int v :: g.stack })) : G (T.setTop g) := B.1 _ _ (fun _ y_ => XS.iload X.here B.2.1 hg (B.2.2.1 ▸ hd) hl y_) k_
theorem q_iloadN (B : own_Bd p e below G c bytes ml Z a0) (X : Stand p l e R s m args below meth c T locs cells slots) {k : Fin 4} {v : Int32} (hd : decode bytes g.pc = .ok (.iload_n k, 1)) (hl : g.locals[k.val]? = some (.val (.int v))) (hg : g.method = m) (k_ : G (T.setTop { g with pc := g.pc + 1, stack := .int v :: g.stack })) : G (T.setTop g) := B.1 _ _ (fun _ y_ => XS.iloadN X.here B.2.1 hg (B.2.2.1 ▸ hd) hl y_) k_
theorem q_ior (B : own_Bd p e below G c bytes ml Z a0) (X : Stand p l e R s m args below meth c T locs cells slots) {x : Int32} {y : Int32} {rest : List Value} (hd : decode bytes g.pc = .ok (.ior, 1)) (hs : g.stack = .int y :: .int x :: rest) (hg : g.method = m) (k_ : G (T.setTop { g with pc := g.pc + 1, stack := .int (x ||| y) :: rest })) : G (T.setTop g) := B.1 _ _ (fun _ y_ => XS.ior X.here B.2.1 hg (B.2.2.1 ▸ hd) hs y_) k_
theorem q_ishl (B : own_Bd p e below G c bytes ml Z a0) (X : Stand p l e R s m args below meth c T locs cells slots) {x : Int32} {y : Int32} {rest : List Value} (hd : decode bytes g.pc = .ok (.ishl, 1)) (hs : g.stack = .int y :: .int x :: rest) (hg : g.method = m) (k_ : G (T.setTop { g with pc := g.pc + 1, stack := .int (x <<< (y &&& 31)) :: rest })) : G (T.setTop g) := B.1 _ _ (fun _ y_ => XS.ishl X.here B.2.1 hg (B.2.2.1 ▸ hd) hs y_) k_
theorem q_ishr (B : own_Bd p e below G c bytes ml Z a0) (X : Stand p l e R s m args below meth c T locs cells slots) {x : Int32} {y : Int32} {rest : List Value} (hd : decode bytes g.pc = .ok (.ishr, 1)) (hs : g.stack = .int y :: .int x :: rest) (hg : g.method = m) (k_ : G (T.setTop { g with pc := g.pc + 1, stack := .int (x >>> (y &&& 31)) :: rest })) : G (T.setTop g) := B.1 _ _ (fun _ y_ => XS.ishr X.here B.2.1 hg (B.2.2.1 ▸ hd) hs y_) k_
theorem q_istore (B : own_Bd p e below G c bytes ml Z a0) (X : Stand p l e R s m args below meth c T locs cells slots) {k : Nat} {x : Int32} {rest : List Value} {l' : Array Slot} (hd : decode bytes g.pc = .ok (.istore k, 2)) (hs : g.stack = .int x :: rest) (hl : storeLocals g.locals k (.int x) = some l') (hg : g.method = m) (k_ : G (T.setTop { g with pc := g.pc + 2, stack := rest, locals := l' })) : G (T.setTop g) := B.1 _ _ (fun _ y_ => XS.istore X.here B.2.1 hg (B.2.2.1 ▸ hd) hs hl y_) k_
theorem q_istoreN (B : own_Bd p e below G c bytes ml Z a0) (X : Stand p l e R s m args below meth c T locs cells slots) {k : Fin 4} {x : Int32} {rest : List Value} {l' : Array Slot} (hd : decode bytes g.pc = .ok (.istore_n k, 1)) (hs : g.stack = .int x :: rest) (hl : storeLocals g.locals k.val (.int x) = some l') (hg : g.method = m) (k_ : G (T.setTop { g with pc := g.pc + 1, stack := rest, locals := l' })) : G (T.setTop g) := B.1 _ _ (fun _ y_ => XS.istoreN X.here B.2.1 hg (B.2.2.1 ▸ hd) hs hl y_) k_
theorem q_istoreS (B : own_Bd p e below G c bytes ml Z a0) (X : Stand p l e R s m args below meth c T locs cells slots) {k : Nat} {x : Int32} {rest : List Value} {o : Slot} (hd : decode bytes g.pc = .ok (.istore k, 2)) (hs : g.stack = .int x :: rest) (hold : g.locals[k]? = some o) (ho : o = .unset ∨ ∃ w, o = .val w ∧ w.category = 1) (hg : g.method = m) (k_ : G (T.setTop { g with pc := g.pc + 2, stack := rest, locals := g.locals.setIfInBounds k (.val (.int x)) })) : G (T.setTop g) := B.1 _ _ (fun _ y_ => XS.istoreS X.here B.2.1 hg (B.2.2.1 ▸ hd) hs hold ho y_) k_
theorem q_isub (B : own_Bd p e below G c bytes ml Z a0) (X : Stand p l e R s m args below meth c T locs cells slots) {x y : Int32} {rest : List Value} (hd : decode bytes g.pc = .ok (.isub, 1)) (hs : g.stack = .int y :: .int x :: rest) (hg : g.method = m) (k_ : G (T.setTop { g with pc := g.pc + 1, stack := .int (x - y) :: rest })) : G (T.setTop g) := B.1 _ _ (fun _ y_ => XS.isub X.here B.2.1 hg (B.2.2.1 ▸ hd) hs y_) k_
theorem q_iushr (B : own_Bd p e below G c bytes ml Z a0) (X : Stand p l e R s m args below meth c T locs cells slots) {x : Int32} {y : Int32} {rest : List Value} (hd : decode bytes g.pc = .ok (.iushr, 1)) (hs : g.stack = .int y :: .int x :: rest) (hg : g.method = m) (k_ : G (T.setTop { g with pc := g.pc + 1, stack := .int ((x.toUInt32 >>> (y &&& 31).toUInt32).toInt32) :: rest })) : G (T.setTop g) := B.1 _ _ (fun _ y_ => XS.iushr X.here B.2.1 hg (B.2.2.1 ▸ hd) hs y_) k_
theorem q_pop (B : own_Bd p e below G c bytes ml Z a0) (X : Stand p l e R s m args below meth c T locs cells slots) {x : Value} {rest : List Value} (hd : decode bytes g.pc = .ok (.pop, 1)) (hs : g.stack = x :: rest) (hc : x.category = 1) (hg : g.method = m) (k_ : G (T.setTop { g with pc := g.pc + 1, stack := rest })) : G (T.setTop g) := B.1 _ _ (fun _ y_ => XS.pop X.here B.2.1 hg (B.2.2.1 ▸ hd) hs hc y_) k_
theorem q_sipush (B : own_Bd p e below G c bytes ml Z a0) (X : Stand p l e R s m args below meth c T locs cells slots) {i : Int} (hd : decode bytes g.pc = .ok (.sipush i, 3)) (hg : g.method = m) (k_ : G (T.setTop { g with pc := g.pc + 3, stack := .int (Int16.ofInt i).toInt32 :: g.stack })) : G (T.setTop g) := B.1 _ _ (fun _ y_ => XS.sipush X.here B.2.1 hg (B.2.2.1 ▸ hd) y_) k_
end OwnQ
theorem d1_0 : decode method_2_code 0 = .ok (.iload_n 0, 1) := by decide +kernel
theorem d1_1 : decode method_2_code 1 = .ok (.ifCond .ne 14, 3) := by decide +kernel
theorem d1_4 : decode method_2_code 4 = .ok (.new 7, 3) := by decide +kernel
theorem d1_7 : decode method_2_code 7 = .ok (.dup, 1) := by decide +kernel
theorem d1_8 : decode method_2_code 8 = .ok (.iconst 0, 1) := by decide +kernel
theorem d1_9 : decode method_2_code 9 = .ok (.newarray .char, 2) := by decide +kernel
theorem d1_11 : decode method_2_code 11 = .ok (.invokespecial 9, 3) := by decide +kernel
theorem d1_14 : decode method_2_code 14 = .ok (.areturn, 1) := by decide +kernel
theorem d1_15 : decode method_2_code 15 = .ok (.iload_n 0, 1) := by decide +kernel
theorem d1_16 : decode method_2_code 16 = .ok (.iconst 1, 1) := by decide +kernel
theorem d1_17 : decode method_2_code 17 = .ok (.if_icmp .ne 23, 3) := by decide +kernel
theorem d1_20 : decode method_2_code 20 = .ok (.iconst 1, 1) := by decide +kernel
theorem d1_21 : decode method_2_code 21 = .ok (.newarray .char, 2) := by decide +kernel
theorem d1_23 : decode method_2_code 23 = .ok (.astore 4, 2) := by decide +kernel
theorem d1_25 : decode method_2_code 25 = .ok (.aload 4, 2) := by decide +kernel
theorem d1_27 : decode method_2_code 27 = .ok (.iconst 0, 1) := by decide +kernel
theorem d1_28 : decode method_2_code 28 = .ok (.iload_n 1, 1) := by decide +kernel
theorem d1_29 : decode method_2_code 29 = .ok (.castore, 1) := by decide +kernel
theorem d1_30 : decode method_2_code 30 = .ok (.new 7, 3) := by decide +kernel
theorem d1_33 : decode method_2_code 33 = .ok (.dup, 1) := by decide +kernel
theorem d1_34 : decode method_2_code 34 = .ok (.aload 4, 2) := by decide +kernel
theorem d1_36 : decode method_2_code 36 = .ok (.invokespecial 9, 3) := by decide +kernel
theorem d1_39 : decode method_2_code 39 = .ok (.areturn, 1) := by decide +kernel
theorem d1_40 : decode method_2_code 40 = .ok (.iload_n 0, 1) := by decide +kernel
theorem d1_41 : decode method_2_code 41 = .ok (.iconst 2, 1) := by decide +kernel
theorem d1_42 : decode method_2_code 42 = .ok (.if_icmp .ne 28, 3) := by decide +kernel
theorem d1_45 : decode method_2_code 45 = .ok (.iconst 2, 1) := by decide +kernel
theorem d1_46 : decode method_2_code 46 = .ok (.newarray .char, 2) := by decide +kernel
theorem d1_48 : decode method_2_code 48 = .ok (.astore 4, 2) := by decide +kernel
theorem d1_50 : decode method_2_code 50 = .ok (.aload 4, 2) := by decide +kernel
theorem d1_52 : decode method_2_code 52 = .ok (.iconst 0, 1) := by decide +kernel
theorem d1_53 : decode method_2_code 53 = .ok (.iload_n 1, 1) := by decide +kernel
theorem d1_54 : decode method_2_code 54 = .ok (.castore, 1) := by decide +kernel
theorem d1_55 : decode method_2_code 55 = .ok (.aload 4, 2) := by decide +kernel
theorem d1_57 : decode method_2_code 57 = .ok (.iconst 1, 1) := by decide +kernel
theorem d1_58 : decode method_2_code 58 = .ok (.iload_n 2, 1) := by decide +kernel
theorem d1_59 : decode method_2_code 59 = .ok (.castore, 1) := by decide +kernel
theorem d1_60 : decode method_2_code 60 = .ok (.new 7, 3) := by decide +kernel
theorem d1_63 : decode method_2_code 63 = .ok (.dup, 1) := by decide +kernel
theorem d1_64 : decode method_2_code 64 = .ok (.aload 4, 2) := by decide +kernel
theorem d1_66 : decode method_2_code 66 = .ok (.invokespecial 9, 3) := by decide +kernel
theorem d1_69 : decode method_2_code 69 = .ok (.areturn, 1) := by decide +kernel
theorem d1_70 : decode method_2_code 70 = .ok (.iconst 3, 1) := by decide +kernel
theorem d1_71 : decode method_2_code 71 = .ok (.newarray .char, 2) := by decide +kernel
theorem d1_73 : decode method_2_code 73 = .ok (.astore 4, 2) := by decide +kernel
theorem d1_75 : decode method_2_code 75 = .ok (.aload 4, 2) := by decide +kernel
theorem d1_77 : decode method_2_code 77 = .ok (.iconst 0, 1) := by decide +kernel
theorem d1_78 : decode method_2_code 78 = .ok (.iload_n 1, 1) := by decide +kernel
theorem d1_79 : decode method_2_code 79 = .ok (.castore, 1) := by decide +kernel
theorem d1_80 : decode method_2_code 80 = .ok (.aload 4, 2) := by decide +kernel
theorem d1_82 : decode method_2_code 82 = .ok (.iconst 1, 1) := by decide +kernel
theorem d1_83 : decode method_2_code 83 = .ok (.iload_n 2, 1) := by decide +kernel
theorem d1_84 : decode method_2_code 84 = .ok (.castore, 1) := by decide +kernel
theorem d1_85 : decode method_2_code 85 = .ok (.aload 4, 2) := by decide +kernel
theorem d1_87 : decode method_2_code 87 = .ok (.iconst 2, 1) := by decide +kernel
theorem d1_88 : decode method_2_code 88 = .ok (.iload_n 3, 1) := by decide +kernel
theorem d1_89 : decode method_2_code 89 = .ok (.castore, 1) := by decide +kernel
theorem d1_90 : decode method_2_code 90 = .ok (.new 7, 3) := by decide +kernel
theorem d1_93 : decode method_2_code 93 = .ok (.dup, 1) := by decide +kernel
theorem d1_94 : decode method_2_code 94 = .ok (.aload 4, 2) := by decide +kernel
theorem d1_96 : decode method_2_code 96 = .ok (.invokespecial 9, 3) := by decide +kernel
theorem d1_99 : decode method_2_code 99 = .ok (.areturn, 1) := by decide +kernel
theorem d2_0 : decode jdk_42_method_3_code 0 = .ok (.aload_n 0, 1) := by decide +kernel
theorem d2_1 : decode jdk_42_method_3_code 1 = .ok (.aload_n 1, 1) := by decide +kernel
theorem d2_2 : decode jdk_42_method_3_code 2 = .ok (.iconst 0, 1) := by decide +kernel
theorem d2_3 : decode jdk_42_method_3_code 3 = .ok (.aload_n 1, 1) := by decide +kernel
theorem d2_4 : decode jdk_42_method_3_code 4 = .ok (.arraylength, 1) := by decide +kernel
theorem d2_5 : decode jdk_42_method_3_code 5 = .ok (.aconst_null, 1) := by decide +kernel
theorem d2_6 : decode jdk_42_method_3_code 6 = .ok (.invokespecial 27, 3) := by decide +kernel
theorem d2_9 : decode jdk_42_method_3_code 9 = .ok (.return_, 1) := by decide +kernel
theorem d3_0 : decode jdk_42_method_149_code 0 = .ok (.aload_n 0, 1) := by decide +kernel
theorem d3_1 : decode jdk_42_method_149_code 1 = .ok (.invokespecial 1, 3) := by decide +kernel
theorem d3_4 : decode jdk_42_method_149_code 4 = .ok (.iload_n 3, 1) := by decide +kernel
theorem d3_5 : decode jdk_42_method_149_code 5 = .ok (.ifCond .ne 22, 3) := by decide +kernel
theorem d3_8 : decode jdk_42_method_149_code 8 = .ok (.aload_n 0, 1) := by decide +kernel
theorem d3_9 : decode jdk_42_method_149_code 9 = .ok (.ldc 7, 2) := by decide +kernel
theorem d3_11 : decode jdk_42_method_149_code 11 = .ok (.getfield 9, 3) := by decide +kernel
theorem d3_14 : decode jdk_42_method_149_code 14 = .ok (.putfield 9, 3) := by decide +kernel
theorem d3_17 : decode jdk_42_method_149_code 17 = .ok (.aload_n 0, 1) := by decide +kernel
theorem d3_18 : decode jdk_42_method_149_code 18 = .ok (.ldc 7, 2) := by decide +kernel
theorem d3_20 : decode jdk_42_method_149_code 20 = .ok (.getfield 15, 3) := by decide +kernel
theorem d3_23 : decode jdk_42_method_149_code 23 = .ok (.putfield 15, 3) := by decide +kernel
theorem d3_26 : decode jdk_42_method_149_code 26 = .ok (.return_, 1) := by decide +kernel
theorem d3_27 : decode jdk_42_method_149_code 27 = .ok (.getstatic 38, 3) := by decide +kernel
theorem d3_30 : decode jdk_42_method_149_code 30 = .ok (.ifCond .eq 28, 3) := by decide +kernel
theorem d3_33 : decode jdk_42_method_149_code 33 = .ok (.aload_n 1, 1) := by decide +kernel
theorem d3_34 : decode jdk_42_method_149_code 34 = .ok (.iload_n 2, 1) := by decide +kernel
theorem d3_35 : decode jdk_42_method_149_code 35 = .ok (.iload_n 3, 1) := by decide +kernel
theorem d3_36 : decode jdk_42_method_149_code 36 = .ok (.invokestatic 177, 3) := by decide +kernel
theorem d3_39 : decode jdk_42_method_149_code 39 = .ok (.astore 5, 2) := by decide +kernel
theorem d3_41 : decode jdk_42_method_149_code 41 = .ok (.aload_n 0, 1) := by decide +kernel
theorem d3_42 : decode jdk_42_method_149_code 42 = .ok (.aload 5, 2) := by decide +kernel
theorem d3_44 : decode jdk_42_method_149_code 44 = .ok (.iload_n 3, 1) := by decide +kernel
theorem d3_45 : decode jdk_42_method_149_code 45 = .ok (.invokestatic 47, 3) := by decide +kernel
theorem d3_48 : decode jdk_42_method_149_code 48 = .ok (.putfield 15, 3) := by decide +kernel
theorem d3_51 : decode jdk_42_method_149_code 51 = .ok (.aload_n 0, 1) := by decide +kernel
theorem d3_52 : decode jdk_42_method_149_code 52 = .ok (.aload 5, 2) := by decide +kernel
theorem d3_54 : decode jdk_42_method_149_code 54 = .ok (.putfield 9, 3) := by decide +kernel
theorem d3_57 : decode jdk_42_method_149_code 57 = .ok (.return_, 1) := by decide +kernel
theorem d5_0 : decode jdk_52_method_16_code 0 = .ok (.iload_n 2, 1) := by decide +kernel
theorem d5_1 : decode jdk_52_method_16_code 1 = .ok (.newarray .byte, 2) := by decide +kernel
theorem d5_3 : decode jdk_52_method_16_code 3 = .ok (.astore_n 3, 1) := by decide +kernel
theorem d5_4 : decode jdk_52_method_16_code 4 = .ok (.aload_n 0, 1) := by decide +kernel
theorem d5_5 : decode jdk_52_method_16_code 5 = .ok (.iload_n 1, 1) := by decide +kernel
theorem d5_6 : decode jdk_52_method_16_code 6 = .ok (.aload_n 3, 1) := by decide +kernel
theorem d5_7 : decode jdk_52_method_16_code 7 = .ok (.iconst 0, 1) := by decide +kernel
theorem d5_8 : decode jdk_52_method_16_code 8 = .ok (.iload_n 2, 1) := by decide +kernel
theorem d5_9 : decode jdk_52_method_16_code 9 = .ok (.invokestatic 115, 3) := by decide +kernel
theorem d5_12 : decode jdk_52_method_16_code 12 = .ok (.istore 4, 2) := by decide +kernel
theorem d5_14 : decode jdk_52_method_16_code 14 = .ok (.iload 4, 2) := by decide +kernel
theorem d5_16 : decode jdk_52_method_16_code 16 = .ok (.iload_n 2, 1) := by decide +kernel
theorem d5_17 : decode jdk_52_method_16_code 17 = .ok (.if_icmp .eq 40, 3) := by decide +kernel
theorem d5_20 : decode jdk_52_method_16_code 20 = .ok (.aload_n 0, 1) := by decide +kernel
theorem d5_21 : decode jdk_52_method_16_code 21 = .ok (.iload_n 1, 1) := by decide +kernel
theorem d5_22 : decode jdk_52_method_16_code 22 = .ok (.iload_n 2, 1) := by decide +kernel
theorem d5_23 : decode jdk_52_method_16_code 23 = .ok (.invokestatic 119, 3) := by decide +kernel
theorem d5_26 : decode jdk_52_method_16_code 26 = .ok (.astore 5, 2) := by decide +kernel
theorem d5_28 : decode jdk_52_method_16_code 28 = .ok (.aload 5, 2) := by decide +kernel
theorem d5_30 : decode jdk_52_method_16_code 30 = .ok (.iload 4, 2) := by decide +kernel
theorem d5_32 : decode jdk_52_method_16_code 32 = .ok (.invokestatic 71, 3) := by decide +kernel
theorem d5_35 : decode jdk_52_method_16_code 35 = .ok (.sipush 255, 3) := by decide +kernel
theorem d5_38 : decode jdk_52_method_16_code 38 = .ok (.if_icmp .gt 16, 3) := by decide +kernel
theorem d5_54 : decode jdk_52_method_16_code 54 = .ok (.aload 5, 2) := by decide +kernel
theorem d5_56 : decode jdk_52_method_16_code 56 = .ok (.areturn, 1) := by decide +kernel
theorem d5_57 : decode jdk_52_method_16_code 57 = .ok (.aload_n 3, 1) := by decide +kernel
theorem d5_58 : decode jdk_52_method_16_code 58 = .ok (.areturn, 1) := by decide +kernel
theorem d6_0 : decode jdk_52_method_21_code 0 = .ok (.iconst 0, 1) := by decide +kernel
theorem d6_1 : decode jdk_52_method_21_code 1 = .ok (.istore 5, 2) := by decide +kernel
theorem d6_3 : decode jdk_52_method_21_code 3 = .ok (.iload 5, 2) := by decide +kernel
theorem d6_5 : decode jdk_52_method_21_code 5 = .ok (.iload 4, 2) := by decide +kernel
theorem d6_7 : decode jdk_52_method_21_code 7 = .ok (.if_icmp .ge 37, 3) := by decide +kernel
theorem d6_10 : decode jdk_52_method_21_code 10 = .ok (.aload_n 0, 1) := by decide +kernel
theorem d6_11 : decode jdk_52_method_21_code 11 = .ok (.iload_n 1, 1) := by decide +kernel
theorem d6_12 : decode jdk_52_method_21_code 12 = .ok (.caload, 1) := by decide +kernel
theorem d6_13 : decode jdk_52_method_21_code 13 = .ok (.istore 6, 2) := by decide +kernel
theorem d6_15 : decode jdk_52_method_21_code 15 = .ok (.iload 6, 2) := by decide +kernel
theorem d6_17 : decode jdk_52_method_21_code 17 = .ok (.sipush 255, 3) := by decide +kernel
theorem d6_20 : decode jdk_52_method_21_code 20 = .ok (.if_icmp .le 6, 3) := by decide +kernel
theorem d6_23 : decode jdk_52_method_21_code 23 = .ok (.iload 5, 2) := by decide +kernel
theorem d6_25 : decode jdk_52_method_21_code 25 = .ok (.ireturn, 1) := by decide +kernel
theorem d6_26 : decode jdk_52_method_21_code 26 = .ok (.aload_n 2, 1) := by decide +kernel
theorem d6_27 : decode jdk_52_method_21_code 27 = .ok (.iload_n 3, 1) := by decide +kernel
theorem d6_28 : decode jdk_52_method_21_code 28 = .ok (.iload 6, 2) := by decide +kernel
theorem d6_30 : decode jdk_52_method_21_code 30 = .ok (.i2b, 1) := by decide +kernel
theorem d6_31 : decode jdk_52_method_21_code 31 = .ok (.bastore, 1) := by decide +kernel
theorem d6_32 : decode jdk_52_method_21_code 32 = .ok (.iinc 1 1, 3) := by decide +kernel
theorem d6_35 : decode jdk_52_method_21_code 35 = .ok (.iinc 3 1, 3) := by decide +kernel
theorem d6_38 : decode jdk_52_method_21_code 38 = .ok (.iinc 5 1, 3) := by decide +kernel
theorem d6_41 : decode jdk_52_method_21_code 41 = .ok (.goto (-38), 3) := by decide +kernel
theorem d6_44 : decode jdk_52_method_21_code 44 = .ok (.iload 4, 2) := by decide +kernel
theorem d6_46 : decode jdk_52_method_21_code 46 = .ok (.ireturn, 1) := by decide +kernel
theorem d7_0 : decode jdk_52_method_15_code 0 = .ok (.iload_n 1, 1) := by decide +kernel
theorem d7_1 : decode jdk_52_method_15_code 1 = .ok (.aload_n 0, 1) := by decide +kernel
theorem d7_2 : decode jdk_52_method_15_code 2 = .ok (.arraylength, 1) := by decide +kernel
theorem d7_3 : decode jdk_52_method_15_code 3 = .ok (.isub, 1) := by decide +kernel
theorem d7_4 : decode jdk_52_method_15_code 4 = .ok (.bipush 31, 2) := by decide +kernel
theorem d7_6 : decode jdk_52_method_15_code 6 = .ok (.iushr, 1) := by decide +kernel
theorem d7_7 : decode jdk_52_method_15_code 7 = .ok (.i2b, 1) := by decide +kernel
theorem d7_8 : decode jdk_52_method_15_code 8 = .ok (.ireturn, 1) := by decide +kernel
theorem d8_0 : decode prog_12_method_1_code 0 = .ok (.aload_n 0, 1) := by decide +kernel
theorem d8_1 : decode prog_12_method_1_code 1 = .ok (.invokespecial 1, 3) := by decide +kernel
theorem d8_4 : decode prog_12_method_1_code 4 = .ok (.aload_n 0, 1) := by decide +kernel
theorem d8_5 : decode prog_12_method_1_code 5 = .ok (.iload_n 1, 1) := by decide +kernel
theorem d8_6 : decode prog_12_method_1_code 6 = .ok (.putfield 7, 3) := by decide +kernel
theorem d8_9 : decode prog_12_method_1_code 9 = .ok (.aload_n 0, 1) := by decide +kernel
theorem d8_10 : decode prog_12_method_1_code 10 = .ok (.aload_n 2, 1) := by decide +kernel
theorem d8_11 : decode prog_12_method_1_code 11 = .ok (.putfield 13, 3) := by decide +kernel
theorem d8_14 : decode prog_12_method_1_code 14 = .ok (.return_, 1) := by decide +kernel
theorem d9_0 : decode jdk_30_method_1_code 0 = .ok (.aload_n 0, 1) := by decide +kernel
theorem d9_1 : decode jdk_30_method_1_code 1 = .ok (.invokespecial 1, 3) := by decide +kernel
theorem d9_4 : decode jdk_30_method_1_code 4 = .ok (.return_, 1) := by decide +kernel
theorem d10_0 : decode prog_12_method_3_code 0 = .ok (.new 17, 3) := by decide +kernel
theorem d10_3 : decode prog_12_method_3_code 3 = .ok (.dup, 1) := by decide +kernel
theorem d10_4 : decode prog_12_method_3_code 4 = .ok (.invokespecial 19, 3) := by decide +kernel
theorem d10_7 : decode prog_12_method_3_code 7 = .ok (.aload_n 0, 1) := by decide +kernel
theorem d10_8 : decode prog_12_method_3_code 8 = .ok (.getfield 7, 3) := by decide +kernel
theorem d10_11 : decode prog_12_method_3_code 11 = .ok (.ifCond .eq 8, 3) := by decide +kernel
theorem d10_14 : decode prog_12_method_3_code 14 = .ok (.ldc 33, 2) := by decide +kernel
theorem d10_16 : decode prog_12_method_3_code 16 = .ok (.goto 5, 3) := by decide +kernel
theorem d10_19 : decode prog_12_method_3_code 19 = .ok (.ldc 35, 2) := by decide +kernel
theorem d10_21 : decode prog_12_method_3_code 21 = .ok (.invokevirtual 22, 3) := by decide +kernel
theorem d10_24 : decode prog_12_method_3_code 24 = .ok (.aload_n 0, 1) := by decide +kernel
theorem d10_25 : decode prog_12_method_3_code 25 = .ok (.getfield 13, 3) := by decide +kernel
theorem d10_28 : decode prog_12_method_3_code 28 = .ok (.invokevirtual 22, 3) := by decide +kernel
theorem d10_31 : decode prog_12_method_3_code 31 = .ok (.invokevirtual 26, 3) := by decide +kernel
theorem d10_34 : decode prog_12_method_3_code 34 = .ok (.areturn, 1) := by decide +kernel
theorem d11_0 : decode jdk_67_method_1_code 0 = .ok (.aload_n 0, 1) := by decide +kernel
theorem d11_1 : decode jdk_67_method_1_code 1 = .ok (.bipush 16, 2) := by decide +kernel
theorem d11_3 : decode jdk_67_method_1_code 3 = .ok (.invokespecial 1, 3) := by decide +kernel
theorem d11_6 : decode jdk_67_method_1_code 6 = .ok (.return_, 1) := by decide +kernel
theorem d12_0 : decode jdk_68_method_2_code 0 = .ok (.aload_n 0, 1) := by decide +kernel
theorem d12_1 : decode jdk_68_method_2_code 1 = .ok (.invokespecial 3, 3) := by decide +kernel
theorem d12_4 : decode jdk_68_method_2_code 4 = .ok (.getstatic 18, 3) := by decide +kernel
theorem d12_7 : decode jdk_68_method_2_code 7 = .ok (.ifCond .eq 18, 3) := by decide +kernel
theorem d12_10 : decode jdk_68_method_2_code 10 = .ok (.aload_n 0, 1) := by decide +kernel
theorem d12_11 : decode jdk_68_method_2_code 11 = .ok (.iload_n 1, 1) := by decide +kernel
theorem d12_12 : decode jdk_68_method_2_code 12 = .ok (.newarray .byte, 2) := by decide +kernel
theorem d12_14 : decode jdk_68_method_2_code 14 = .ok (.putfield 15, 3) := by decide +kernel
theorem d12_17 : decode jdk_68_method_2_code 17 = .ok (.aload_n 0, 1) := by decide +kernel
theorem d12_18 : decode jdk_68_method_2_code 18 = .ok (.iconst 0, 1) := by decide +kernel
theorem d12_19 : decode jdk_68_method_2_code 19 = .ok (.putfield 22, 3) := by decide +kernel
theorem d12_22 : decode jdk_68_method_2_code 22 = .ok (.goto 16, 3) := by decide +kernel
theorem d12_38 : decode jdk_68_method_2_code 38 = .ok (.return_, 1) := by decide +kernel
theorem d13_0 : decode jdk_67_method_7_code 0 = .ok (.aload_n 0, 1) := by decide +kernel
theorem d13_1 : decode jdk_67_method_7_code 1 = .ok (.aload_n 1, 1) := by decide +kernel
theorem d13_2 : decode jdk_67_method_7_code 2 = .ok (.invokespecial 29, 3) := by decide +kernel
theorem d13_5 : decode jdk_67_method_7_code 5 = .ok (.pop, 1) := by decide +kernel
theorem d13_6 : decode jdk_67_method_7_code 6 = .ok (.aload_n 0, 1) := by decide +kernel
theorem d13_7 : decode jdk_67_method_7_code 7 = .ok (.areturn, 1) := by decide +kernel
theorem d14_0 : decode jdk_68_method_22_code 0 = .ok (.aload_n 1, 1) := by decide +kernel
theorem d14_1 : decode jdk_68_method_22_code 1 = .ok (.ifnonnull 8, 3) := by decide +kernel
theorem d14_9 : decode jdk_68_method_22_code 9 = .ok (.aload_n 1, 1) := by decide +kernel
theorem d14_10 : decode jdk_68_method_22_code 10 = .ok (.invokevirtual 32, 3) := by decide +kernel
theorem d14_13 : decode jdk_68_method_22_code 13 = .ok (.istore_n 2, 1) := by decide +kernel
theorem d14_14 : decode jdk_68_method_22_code 14 = .ok (.aload_n 0, 1) := by decide +kernel
theorem d14_15 : decode jdk_68_method_22_code 15 = .ok (.aload_n 0, 1) := by decide +kernel
theorem d14_16 : decode jdk_68_method_22_code 16 = .ok (.getfield 79, 3) := by decide +kernel
theorem d14_19 : decode jdk_68_method_22_code 19 = .ok (.iload_n 2, 1) := by decide +kernel
theorem d14_20 : decode jdk_68_method_22_code 20 = .ok (.iadd, 1) := by decide +kernel
theorem d14_21 : decode jdk_68_method_22_code 21 = .ok (.invokevirtual 100, 3) := by decide +kernel
theorem d14_24 : decode jdk_68_method_22_code 24 = .ok (.aload_n 0, 1) := by decide +kernel
theorem d14_25 : decode jdk_68_method_22_code 25 = .ok (.aload_n 0, 1) := by decide +kernel
theorem d14_26 : decode jdk_68_method_22_code 26 = .ok (.getfield 79, 3) := by decide +kernel
theorem d14_29 : decode jdk_68_method_22_code 29 = .ok (.aload_n 1, 1) := by decide +kernel
theorem d14_30 : decode jdk_68_method_22_code 30 = .ok (.invokevirtual 208, 3) := by decide +kernel
theorem d14_33 : decode jdk_68_method_22_code 33 = .ok (.aload_n 0, 1) := by decide +kernel
theorem d14_34 : decode jdk_68_method_22_code 34 = .ok (.dup, 1) := by decide +kernel
theorem d14_35 : decode jdk_68_method_22_code 35 = .ok (.getfield 79, 3) := by decide +kernel
theorem d14_38 : decode jdk_68_method_22_code 38 = .ok (.iload_n 2, 1) := by decide +kernel
theorem d14_39 : decode jdk_68_method_22_code 39 = .ok (.iadd, 1) := by decide +kernel
theorem d14_40 : decode jdk_68_method_22_code 40 = .ok (.putfield 79, 3) := by decide +kernel
theorem d14_43 : decode jdk_68_method_22_code 43 = .ok (.aload_n 0, 1) := by decide +kernel
theorem d14_44 : decode jdk_68_method_22_code 44 = .ok (.areturn, 1) := by decide +kernel
theorem d15_0 : decode jdk_42_method_54_code 0 = .ok (.aload_n 0, 1) := by decide +kernel
theorem d15_1 : decode jdk_42_method_54_code 1 = .ok (.getfield 9, 3) := by decide +kernel
theorem d15_4 : decode jdk_42_method_54_code 4 = .ok (.arraylength, 1) := by decide +kernel
theorem d15_5 : decode jdk_42_method_54_code 5 = .ok (.aload_n 0, 1) := by decide +kernel
theorem d15_6 : decode jdk_42_method_54_code 6 = .ok (.invokevirtual 335, 3) := by decide +kernel
theorem d15_9 : decode jdk_42_method_54_code 9 = .ok (.ishr, 1) := by decide +kernel
theorem d15_10 : decode jdk_42_method_54_code 10 = .ok (.ireturn, 1) := by decide +kernel
theorem d16_0 : decode jdk_42_method_152_code 0 = .ok (.getstatic 38, 3) := by decide +kernel
theorem d16_3 : decode jdk_42_method_152_code 3 = .ok (.ifCond .eq 10, 3) := by decide +kernel
theorem d16_6 : decode jdk_42_method_152_code 6 = .ok (.aload_n 0, 1) := by decide +kernel
theorem d16_7 : decode jdk_42_method_152_code 7 = .ok (.getfield 15, 3) := by decide +kernel
theorem d16_10 : decode jdk_42_method_152_code 10 = .ok (.goto 4, 3) := by decide +kernel
theorem d16_14 : decode jdk_42_method_152_code 14 = .ok (.ireturn, 1) := by decide +kernel
theorem d17_0 : decode jdk_68_method_9_code 0 = .ok (.aload_n 0, 1) := by decide +kernel
theorem d17_1 : decode jdk_68_method_9_code 1 = .ok (.getfield 15, 3) := by decide +kernel
theorem d17_4 : decode jdk_68_method_9_code 4 = .ok (.arraylength, 1) := by decide +kernel
theorem d17_5 : decode jdk_68_method_9_code 5 = .ok (.aload_n 0, 1) := by decide +kernel
theorem d17_6 : decode jdk_68_method_9_code 6 = .ok (.getfield 22, 3) := by decide +kernel
theorem d17_9 : decode jdk_68_method_9_code 9 = .ok (.ishr, 1) := by decide +kernel
theorem d17_10 : decode jdk_68_method_9_code 10 = .ok (.istore_n 2, 1) := by decide +kernel
theorem d17_11 : decode jdk_68_method_9_code 11 = .ok (.iload_n 1, 1) := by decide +kernel
theorem d17_12 : decode jdk_68_method_9_code 12 = .ok (.iload_n 2, 1) := by decide +kernel
theorem d17_13 : decode jdk_68_method_9_code 13 = .ok (.isub, 1) := by decide +kernel
theorem d17_14 : decode jdk_68_method_9_code 14 = .ok (.ifCond .le 24, 3) := by decide +kernel
theorem d17_38 : decode jdk_68_method_9_code 38 = .ok (.return_, 1) := by decide +kernel
theorem d18_0 : decode jdk_68_method_73_code 0 = .ok (.aload_n 0, 1) := by decide +kernel
theorem d18_1 : decode jdk_68_method_73_code 1 = .ok (.aload_n 2, 1) := by decide +kernel
theorem d18_2 : decode jdk_68_method_73_code 2 = .ok (.invokevirtual 397, 3) := by decide +kernel
theorem d18_5 : decode jdk_68_method_73_code 5 = .ok (.aload_n 2, 1) := by decide +kernel
theorem d18_6 : decode jdk_68_method_73_code 6 = .ok (.aload_n 0, 1) := by decide +kernel
theorem d18_7 : decode jdk_68_method_73_code 7 = .ok (.getfield 15, 3) := by decide +kernel
theorem d18_10 : decode jdk_68_method_73_code 10 = .ok (.iload_n 1, 1) := by decide +kernel
theorem d18_11 : decode jdk_68_method_73_code 11 = .ok (.aload_n 0, 1) := by decide +kernel
theorem d18_12 : decode jdk_68_method_73_code 12 = .ok (.getfield 22, 3) := by decide +kernel
theorem d18_15 : decode jdk_68_method_73_code 15 = .ok (.invokevirtual 399, 3) := by decide +kernel
theorem d18_18 : decode jdk_68_method_73_code 18 = .ok (.return_, 1) := by decide +kernel
theorem d19_0 : decode jdk_68_method_71_code 0 = .ok (.getstatic 18, 3) := by decide +kernel
theorem d19_3 : decode jdk_68_method_71_code 3 = .ok (.ifCond .eq 18, 3) := by decide +kernel
theorem d19_6 : decode jdk_68_method_71_code 6 = .ok (.aload_n 0, 1) := by decide +kernel
theorem d19_7 : decode jdk_68_method_71_code 7 = .ok (.getfield 22, 3) := by decide +kernel
theorem d19_10 : decode jdk_68_method_71_code 10 = .ok (.aload_n 1, 1) := by decide +kernel
theorem d19_11 : decode jdk_68_method_71_code 11 = .ok (.invokevirtual 40, 3) := by decide +kernel
theorem d19_14 : decode jdk_68_method_71_code 14 = .ok (.if_icmp .eq 7, 3) := by decide +kernel
theorem d19_17 : decode jdk_68_method_71_code 17 = .ok (.aload_n 0, 1) := by decide +kernel
theorem d19_18 : decode jdk_68_method_71_code 18 = .ok (.invokevirtual 195, 3) := by decide +kernel
theorem d19_21 : decode jdk_68_method_71_code 21 = .ok (.return_, 1) := by decide +kernel
theorem d20_0 : decode jdk_42_method_147_code 0 = .ok (.aload_n 0, 1) := by decide +kernel
theorem d20_1 : decode jdk_42_method_147_code 1 = .ok (.invokevirtual 335, 3) := by decide +kernel
theorem d20_4 : decode jdk_42_method_147_code 4 = .ok (.iload_n 3, 1) := by decide +kernel
theorem d20_5 : decode jdk_42_method_147_code 5 = .ok (.if_icmp .ne 23, 3) := by decide +kernel
theorem d20_8 : decode jdk_42_method_147_code 8 = .ok (.aload_n 0, 1) := by decide +kernel
theorem d20_9 : decode jdk_42_method_147_code 9 = .ok (.getfield 9, 3) := by decide +kernel
theorem d20_12 : decode jdk_42_method_147_code 12 = .ok (.iconst 0, 1) := by decide +kernel
theorem d20_13 : decode jdk_42_method_147_code 13 = .ok (.aload_n 1, 1) := by decide +kernel
theorem d20_14 : decode jdk_42_method_147_code 14 = .ok (.iload_n 2, 1) := by decide +kernel
theorem d20_15 : decode jdk_42_method_147_code 15 = .ok (.iload_n 3, 1) := by decide +kernel
theorem d20_16 : decode jdk_42_method_147_code 16 = .ok (.ishl, 1) := by decide +kernel
theorem d20_17 : decode jdk_42_method_147_code 17 = .ok (.aload_n 0, 1) := by decide +kernel
theorem d20_18 : decode jdk_42_method_147_code 18 = .ok (.getfield 9, 3) := by decide +kernel
theorem d20_21 : decode jdk_42_method_147_code 21 = .ok (.arraylength, 1) := by decide +kernel
theorem d20_22 : decode jdk_42_method_147_code 22 = .ok (.invokestatic 212, 3) := by decide +kernel
theorem d20_25 : decode jdk_42_method_147_code 25 = .ok (.goto 18, 3) := by decide +kernel
theorem d20_43 : decode jdk_42_method_147_code 43 = .ok (.return_, 1) := by decide +kernel
theorem d21_0 : decode jdk_67_method_42_code 0 = .ok (.new 18, 3) := by decide +kernel
theorem d21_3 : decode jdk_67_method_42_code 3 = .ok (.dup, 1) := by decide +kernel
theorem d21_4 : decode jdk_67_method_42_code 4 = .ok (.aload_n 0, 1) := by decide +kernel
theorem d21_5 : decode jdk_67_method_42_code 5 = .ok (.invokespecial 137, 3) := by decide +kernel
theorem d21_8 : decode jdk_67_method_42_code 8 = .ok (.areturn, 1) := by decide +kernel
theorem d22_0 : decode jdk_42_method_53_code 0 = .ok (.aload_n 0, 1) := by decide +kernel
theorem d22_1 : decode jdk_42_method_53_code 1 = .ok (.aload_n 1, 1) := by decide +kernel
theorem d22_2 : decode jdk_42_method_53_code 2 = .ok (.aconst_null, 1) := by decide +kernel
theorem d22_3 : decode jdk_42_method_53_code 3 = .ok (.invokespecial 489, 3) := by decide +kernel
theorem d22_6 : decode jdk_42_method_53_code 6 = .ok (.return_, 1) := by decide +kernel
theorem d23_0 : decode jdk_42_method_150_code 0 = .ok (.aload_n 0, 1) := by decide +kernel
theorem d23_1 : decode jdk_42_method_150_code 1 = .ok (.invokespecial 1, 3) := by decide +kernel
theorem d23_4 : decode jdk_42_method_150_code 4 = .ok (.aload_n 1, 1) := by decide +kernel
theorem d23_5 : decode jdk_42_method_150_code 5 = .ok (.invokevirtual 552, 3) := by decide +kernel
theorem d23_8 : decode jdk_42_method_150_code 8 = .ok (.astore_n 3, 1) := by decide +kernel
theorem d23_9 : decode jdk_42_method_150_code 9 = .ok (.aload_n 1, 1) := by decide +kernel
theorem d23_10 : decode jdk_42_method_150_code 10 = .ok (.invokevirtual 549, 3) := by decide +kernel
theorem d23_13 : decode jdk_42_method_150_code 13 = .ok (.istore 4, 2) := by decide +kernel
theorem d23_15 : decode jdk_42_method_150_code 15 = .ok (.aload_n 1, 1) := by decide +kernel
theorem d23_16 : decode jdk_42_method_150_code 16 = .ok (.invokevirtual 1047, 3) := by decide +kernel
theorem d23_19 : decode jdk_42_method_150_code 19 = .ok (.ifCond .eq 22, 3) := by decide +kernel
theorem d23_22 : decode jdk_42_method_150_code 22 = .ok (.aload_n 0, 1) := by decide +kernel
theorem d23_23 : decode jdk_42_method_150_code 23 = .ok (.iconst 0, 1) := by decide +kernel
theorem d23_24 : decode jdk_42_method_150_code 24 = .ok (.putfield 15, 3) := by decide +kernel
theorem d23_27 : decode jdk_42_method_150_code 27 = .ok (.aload_n 0, 1) := by decide +kernel
theorem d23_28 : decode jdk_42_method_150_code 28 = .ok (.aload_n 3, 1) := by decide +kernel
theorem d23_29 : decode jdk_42_method_150_code 29 = .ok (.iconst 0, 1) := by decide +kernel
theorem d23_30 : decode jdk_42_method_150_code 30 = .ok (.iload 4, 2) := by decide +kernel
theorem d23_32 : decode jdk_42_method_150_code 32 = .ok (.invokestatic 54, 3) := by decide +kernel
theorem d23_35 : decode jdk_42_method_150_code 35 = .ok (.putfield 9, 3) := by decide +kernel
theorem d23_38 : decode jdk_42_method_150_code 38 = .ok (.goto 59, 3) := by decide +kernel
theorem d23_41 : decode jdk_42_method_150_code 41 = .ok (.getstatic 38, 3) := by decide +kernel
theorem d23_44 : decode jdk_42_method_150_code 44 = .ok (.ifCond .eq 35, 3) := by decide +kernel
theorem d23_47 : decode jdk_42_method_150_code 47 = .ok (.aload_n 1, 1) := by decide +kernel
theorem d23_48 : decode jdk_42_method_150_code 48 = .ok (.getfield 1048, 3) := by decide +kernel
theorem d23_51 : decode jdk_42_method_150_code 51 = .ok (.ifCond .eq 28, 3) := by decide +kernel
theorem d23_79 : decode jdk_42_method_150_code 79 = .ok (.aload_n 0, 1) := by decide +kernel
theorem d23_80 : decode jdk_42_method_150_code 80 = .ok (.iconst 1, 1) := by decide +kernel
theorem d23_81 : decode jdk_42_method_150_code 81 = .ok (.putfield 15, 3) := by decide +kernel
theorem d23_84 : decode jdk_42_method_150_code 84 = .ok (.aload_n 0, 1) := by decide +kernel
theorem d23_85 : decode jdk_42_method_150_code 85 = .ok (.aload_n 3, 1) := by decide +kernel
theorem d23_86 : decode jdk_42_method_150_code 86 = .ok (.iconst 0, 1) := by decide +kernel
theorem d23_87 : decode jdk_42_method_150_code 87 = .ok (.iload 4, 2) := by decide +kernel
theorem d23_89 : decode jdk_42_method_150_code 89 = .ok (.iconst 1, 1) := by decide +kernel
theorem d23_90 : decode jdk_42_method_150_code 90 = .ok (.ishl, 1) := by decide +kernel
theorem d23_91 : decode jdk_42_method_150_code 91 = .ok (.invokestatic 54, 3) := by decide +kernel
theorem d23_94 : decode jdk_42_method_150_code 94 = .ok (.putfield 9, 3) := by decide +kernel
theorem d23_97 : decode jdk_42_method_150_code 97 = .ok (.return_, 1) := by decide +kernel
theorem d24_0 : decode jdk_68_method_64_code 0 = .ok (.aload_n 0, 1) := by decide +kernel
theorem d24_1 : decode jdk_68_method_64_code 1 = .ok (.getfield 15, 3) := by decide +kernel
theorem d24_4 : decode jdk_68_method_64_code 4 = .ok (.areturn, 1) := by decide +kernel
theorem d25_0 : decode jdk_67_method_93_code 0 = .ok (.aload_n 0, 1) := by decide +kernel
theorem d25_1 : decode jdk_67_method_93_code 1 = .ok (.invokespecial 343, 3) := by decide +kernel
theorem d25_4 : decode jdk_67_method_93_code 4 = .ok (.ireturn, 1) := by decide +kernel
theorem d26_0 : decode jdk_68_method_6_code 0 = .ok (.aload_n 0, 1) := by decide +kernel
theorem d26_1 : decode jdk_68_method_6_code 1 = .ok (.getfield 79, 3) := by decide +kernel
theorem d26_4 : decode jdk_68_method_6_code 4 = .ok (.ireturn, 1) := by decide +kernel
theorem d27_0 : decode jdk_68_method_68_code 0 = .ok (.getstatic 18, 3) := by decide +kernel
theorem d27_3 : decode jdk_68_method_68_code 3 = .ok (.ifCond .eq 14, 3) := by decide +kernel
theorem d27_6 : decode jdk_68_method_68_code 6 = .ok (.aload_n 0, 1) := by decide +kernel
theorem d27_7 : decode jdk_68_method_68_code 7 = .ok (.getfield 22, 3) := by decide +kernel
theorem d27_10 : decode jdk_68_method_68_code 10 = .ok (.ifCond .ne 7, 3) := by decide +kernel
theorem d27_13 : decode jdk_68_method_68_code 13 = .ok (.iconst 1, 1) := by decide +kernel
theorem d27_14 : decode jdk_68_method_68_code 14 = .ok (.goto 4, 3) := by decide +kernel
theorem d27_17 : decode jdk_68_method_68_code 17 = .ok (.iconst 0, 1) := by decide +kernel
theorem d27_18 : decode jdk_68_method_68_code 18 = .ok (.ireturn, 1) := by decide +kernel
theorem d28_0 : decode jdk_65_method_132_code 0 = .ok (.iload_n 1, 1) := by decide +kernel
theorem d28_1 : decode jdk_65_method_132_code 1 = .ok (.ifCond .ne 9, 3) := by decide +kernel
theorem d28_4 : decode jdk_65_method_132_code 4 = .ok (.iload_n 2, 1) := by decide +kernel
theorem d28_5 : decode jdk_65_method_132_code 5 = .ok (.aload_n 0, 1) := by decide +kernel
theorem d28_6 : decode jdk_65_method_132_code 6 = .ok (.arraylength, 1) := by decide +kernel
theorem d28_7 : decode jdk_65_method_132_code 7 = .ok (.if_icmp .eq 10, 3) := by decide +kernel
theorem d28_10 : decode jdk_65_method_132_code 10 = .ok (.aload_n 0, 1) := by decide +kernel
theorem d28_11 : decode jdk_65_method_132_code 11 = .ok (.iload_n 1, 1) := by decide +kernel
theorem d28_12 : decode jdk_65_method_132_code 12 = .ok (.iload_n 2, 1) := by decide +kernel
theorem d28_13 : decode jdk_65_method_132_code 13 = .ok (.invokestatic 339, 3) := by decide +kernel
theorem d28_16 : decode jdk_65_method_132_code 16 = .ok (.areturn, 1) := by decide +kernel
theorem d29_0 : decode jdk_65_method_133_code 0 = .ok (.iload_n 1, 1) := by decide +kernel
theorem d29_1 : decode jdk_65_method_133_code 1 = .ok (.iload_n 2, 1) := by decide +kernel
theorem d29_2 : decode jdk_65_method_133_code 2 = .ok (.invokestatic 343, 3) := by decide +kernel
theorem d29_5 : decode jdk_65_method_133_code 5 = .ok (.iload_n 2, 1) := by decide +kernel
theorem d29_6 : decode jdk_65_method_133_code 6 = .ok (.iload_n 1, 1) := by decide +kernel
theorem d29_7 : decode jdk_65_method_133_code 7 = .ok (.isub, 1) := by decide +kernel
theorem d29_8 : decode jdk_65_method_133_code 8 = .ok (.istore_n 3, 1) := by decide +kernel
theorem d29_9 : decode jdk_65_method_133_code 9 = .ok (.iload_n 3, 1) := by decide +kernel
theorem d29_10 : decode jdk_65_method_133_code 10 = .ok (.newarray .byte, 2) := by decide +kernel
theorem d29_12 : decode jdk_65_method_133_code 12 = .ok (.astore 4, 2) := by decide +kernel
theorem d29_14 : decode jdk_65_method_133_code 14 = .ok (.aload_n 0, 1) := by decide +kernel
theorem d29_15 : decode jdk_65_method_133_code 15 = .ok (.iload_n 1, 1) := by decide +kernel
theorem d29_16 : decode jdk_65_method_133_code 16 = .ok (.aload 4, 2) := by decide +kernel
theorem d29_18 : decode jdk_65_method_133_code 18 = .ok (.iconst 0, 1) := by decide +kernel
theorem d29_19 : decode jdk_65_method_133_code 19 = .ok (.aload_n 0, 1) := by decide +kernel
theorem d29_20 : decode jdk_65_method_133_code 20 = .ok (.arraylength, 1) := by decide +kernel
theorem d29_21 : decode jdk_65_method_133_code 21 = .ok (.iload_n 1, 1) := by decide +kernel
theorem d29_22 : decode jdk_65_method_133_code 22 = .ok (.isub, 1) := by decide +kernel
theorem d29_23 : decode jdk_65_method_133_code 23 = .ok (.iload_n 3, 1) := by decide +kernel
theorem d29_24 : decode jdk_65_method_133_code 24 = .ok (.invokestatic 304, 3) := by decide +kernel
theorem d29_27 : decode jdk_65_method_133_code 27 = .ok (.invokestatic 150, 3) := by decide +kernel
theorem d29_30 : decode jdk_65_method_133_code 30 = .ok (.aload 4, 2) := by decide +kernel
theorem d29_32 : decode jdk_65_method_133_code 32 = .ok (.areturn, 1) := by decide +kernel
theorem d30_0 : decode jdk_65_method_131_code 0 = .ok (.iload_n 1, 1) := by decide +kernel
theorem d30_1 : decode jdk_65_method_131_code 1 = .ok (.iload_n 0, 1) := by decide +kernel
theorem d30_2 : decode jdk_65_method_131_code 2 = .ok (.if_icmp .ge 35, 3) := by decide +kernel
theorem d30_37 : decode jdk_65_method_131_code 37 = .ok (.return_, 1) := by decide +kernel
theorem d31_0 : decode jdk_29_method_69_code 0 = .ok (.iload_n 0, 1) := by decide +kernel
theorem d31_1 : decode jdk_29_method_69_code 1 = .ok (.iload_n 1, 1) := by decide +kernel
theorem d31_2 : decode jdk_29_method_69_code 2 = .ok (.if_icmp .gt 7, 3) := by decide +kernel
theorem d31_9 : decode jdk_29_method_69_code 9 = .ok (.iload_n 1, 1) := by decide +kernel
theorem d31_10 : decode jdk_29_method_69_code 10 = .ok (.ireturn, 1) := by decide +kernel
theorem d32_0 : decode jdk_42_method_56_code 0 = .ok (.aload_n 0, 1) := by decide +kernel
theorem d32_1 : decode jdk_42_method_56_code 1 = .ok (.invokevirtual 492, 3) := by decide +kernel
theorem d32_4 : decode jdk_42_method_56_code 4 = .ok (.ifCond .eq 12, 3) := by decide +kernel
theorem d32_7 : decode jdk_42_method_56_code 7 = .ok (.aload_n 0, 1) := by decide +kernel
theorem d32_8 : decode jdk_42_method_56_code 8 = .ok (.getfield 9, 3) := by decide +kernel
theorem d32_11 : decode jdk_42_method_56_code 11 = .ok (.iload_n 1, 1) := by decide +kernel
theorem d32_12 : decode jdk_42_method_56_code 12 = .ok (.invokestatic 495, 3) := by decide +kernel
theorem d32_15 : decode jdk_42_method_56_code 15 = .ok (.ireturn, 1) := by decide +kernel
theorem d32_16 : decode jdk_42_method_56_code 16 = .ok (.aload_n 0, 1) := by decide +kernel
theorem d32_17 : decode jdk_42_method_56_code 17 = .ok (.getfield 9, 3) := by decide +kernel
theorem d32_20 : decode jdk_42_method_56_code 20 = .ok (.iload_n 1, 1) := by decide +kernel
theorem d32_21 : decode jdk_42_method_56_code 21 = .ok (.invokestatic 498, 3) := by decide +kernel
theorem d32_24 : decode jdk_42_method_56_code 24 = .ok (.ireturn, 1) := by decide +kernel
theorem d33_0 : decode jdk_42_method_154_code 0 = .ok (.getstatic 38, 3) := by decide +kernel
theorem d33_3 : decode jdk_42_method_154_code 3 = .ok (.ifCond .eq 14, 3) := by decide +kernel
theorem d33_6 : decode jdk_42_method_154_code 6 = .ok (.aload_n 0, 1) := by decide +kernel
theorem d33_7 : decode jdk_42_method_154_code 7 = .ok (.getfield 15, 3) := by decide +kernel
theorem d33_10 : decode jdk_42_method_154_code 10 = .ok (.ifCond .ne 7, 3) := by decide +kernel
theorem d33_13 : decode jdk_42_method_154_code 13 = .ok (.iconst 1, 1) := by decide +kernel
theorem d33_14 : decode jdk_42_method_154_code 14 = .ok (.goto 4, 3) := by decide +kernel
theorem d33_17 : decode jdk_42_method_154_code 17 = .ok (.iconst 0, 1) := by decide +kernel
theorem d33_18 : decode jdk_42_method_154_code 18 = .ok (.ireturn, 1) := by decide +kernel
theorem d34_0 : decode jdk_43_method_2_code 0 = .ok (.iload_n 1, 1) := by decide +kernel
theorem d34_1 : decode jdk_43_method_2_code 1 = .ok (.aload_n 0, 1) := by decide +kernel
theorem d34_2 : decode jdk_43_method_2_code 2 = .ok (.arraylength, 1) := by decide +kernel
theorem d34_3 : decode jdk_43_method_2_code 3 = .ok (.invokestatic 9, 3) := by decide +kernel
theorem d34_6 : decode jdk_43_method_2_code 6 = .ok (.aload_n 0, 1) := by decide +kernel
theorem d34_7 : decode jdk_43_method_2_code 7 = .ok (.iload_n 1, 1) := by decide +kernel
theorem d34_8 : decode jdk_43_method_2_code 8 = .ok (.baload, 1) := by decide +kernel
theorem d34_9 : decode jdk_43_method_2_code 9 = .ok (.sipush 255, 3) := by decide +kernel
theorem d34_12 : decode jdk_43_method_2_code 12 = .ok (.iand, 1) := by decide +kernel
theorem d34_13 : decode jdk_43_method_2_code 13 = .ok (.i2c, 1) := by decide +kernel
theorem d34_14 : decode jdk_43_method_2_code 14 = .ok (.ireturn, 1) := by decide +kernel
theorem d35_0 : decode jdk_42_method_155_code 0 = .ok (.iload_n 0, 1) := by decide +kernel
theorem d35_1 : decode jdk_42_method_155_code 1 = .ok (.iload_n 1, 1) := by decide +kernel
theorem d35_2 : decode jdk_42_method_155_code 2 = .ok (.getstatic 1053, 3) := by decide +kernel
theorem d35_5 : decode jdk_42_method_155_code 5 = .ok (.invokestatic 1059, 3) := by decide +kernel
theorem d35_8 : decode jdk_42_method_155_code 8 = .ok (.pop, 1) := by decide +kernel
theorem d35_9 : decode jdk_42_method_155_code 9 = .ok (.return_, 1) := by decide +kernel
theorem d36_0 : decode jdk_41_method_11_code 0 = .ok (.iload_n 0, 1) := by decide +kernel
theorem d36_1 : decode jdk_41_method_11_code 1 = .ok (.ifCond .lt 8, 3) := by decide +kernel
theorem d36_4 : decode jdk_41_method_11_code 4 = .ok (.iload_n 0, 1) := by decide +kernel
theorem d36_5 : decode jdk_41_method_11_code 5 = .ok (.iload_n 1, 1) := by decide +kernel
theorem d36_6 : decode jdk_41_method_11_code 6 = .ok (.if_icmp .lt 10, 3) := by decide +kernel
theorem d36_16 : decode jdk_41_method_11_code 16 = .ok (.iload_n 0, 1) := by decide +kernel
theorem d36_17 : decode jdk_41_method_11_code 17 = .ok (.ireturn, 1) := by decide +kernel
theorem d37_0 : decode jdk_52_method_14_code 0 = .ok (.iload_n 2, 1) := by decide +kernel
theorem d37_1 : decode jdk_52_method_14_code 1 = .ok (.invokestatic 107, 3) := by decide +kernel
theorem d37_4 : decode jdk_52_method_14_code 4 = .ok (.astore_n 3, 1) := by decide +kernel
theorem d37_5 : decode jdk_52_method_14_code 5 = .ok (.iconst 0, 1) := by decide +kernel
theorem d37_6 : decode jdk_52_method_14_code 6 = .ok (.istore 4, 2) := by decide +kernel
theorem d37_8 : decode jdk_52_method_14_code 8 = .ok (.iload 4, 2) := by decide +kernel
theorem d37_10 : decode jdk_52_method_14_code 10 = .ok (.iload_n 2, 1) := by decide +kernel
theorem d37_11 : decode jdk_52_method_14_code 11 = .ok (.if_icmp .ge 21, 3) := by decide +kernel
theorem d37_14 : decode jdk_52_method_14_code 14 = .ok (.aload_n 3, 1) := by decide +kernel
theorem d37_15 : decode jdk_52_method_14_code 15 = .ok (.iload 4, 2) := by decide +kernel
theorem d37_17 : decode jdk_52_method_14_code 17 = .ok (.aload_n 0, 1) := by decide +kernel
theorem d37_18 : decode jdk_52_method_14_code 18 = .ok (.iload_n 1, 1) := by decide +kernel
theorem d37_19 : decode jdk_52_method_14_code 19 = .ok (.caload, 1) := by decide +kernel
theorem d37_20 : decode jdk_52_method_14_code 20 = .ok (.invokestatic 111, 3) := by decide +kernel
theorem d37_23 : decode jdk_52_method_14_code 23 = .ok (.iinc 1 1, 3) := by decide +kernel
theorem d37_26 : decode jdk_52_method_14_code 26 = .ok (.iinc 4 1, 3) := by decide +kernel
theorem d37_29 : decode jdk_52_method_14_code 29 = .ok (.goto (-21), 3) := by decide +kernel
theorem d37_32 : decode jdk_52_method_14_code 32 = .ok (.aload_n 3, 1) := by decide +kernel
theorem d37_33 : decode jdk_52_method_14_code 33 = .ok (.areturn, 1) := by decide +kernel
theorem d38_0 : decode jdk_52_method_2_code 0 = .ok (.iload_n 0, 1) := by decide +kernel
theorem d38_1 : decode jdk_52_method_2_code 1 = .ok (.invokestatic 11, 3) := by decide +kernel
theorem d38_4 : decode jdk_52_method_2_code 4 = .ok (.newarray .byte, 2) := by decide +kernel
theorem d38_6 : decode jdk_52_method_2_code 6 = .ok (.areturn, 1) := by decide +kernel
theorem d39_0 : decode jdk_52_method_3_code 0 = .ok (.iload_n 0, 1) := by decide +kernel
theorem d39_1 : decode jdk_52_method_3_code 1 = .ok (.ifCond .ge 11, 3) := by decide +kernel
theorem d39_12 : decode jdk_52_method_3_code 12 = .ok (.iload_n 0, 1) := by decide +kernel
theorem d39_13 : decode jdk_52_method_3_code 13 = .ok (.ldc 20, 2) := by decide +kernel
theorem d39_15 : decode jdk_52_method_3_code 15 = .ok (.if_icmp .lt 40, 3) := by decide +kernel
theorem d39_55 : decode jdk_52_method_3_code 55 = .ok (.iload_n 0, 1) := by decide +kernel
theorem d39_56 : decode jdk_52_method_3_code 56 = .ok (.iconst 1, 1) := by decide +kernel
theorem d39_57 : decode jdk_52_method_3_code 57 = .ok (.ishl, 1) := by decide +kernel
theorem d39_58 : decode jdk_52_method_3_code 58 = .ok (.ireturn, 1) := by decide +kernel
theorem d40_0 : decode jdk_52_method_4_code 0 = .ok (.getstatic 44, 3) := by decide +kernel
theorem d40_3 : decode jdk_52_method_4_code 3 = .ok (.ifCond .ne 25, 3) := by decide +kernel
theorem d40_28 : decode jdk_52_method_4_code 28 = .ok (.iload_n 1, 1) := by decide +kernel
theorem d40_29 : decode jdk_52_method_4_code 29 = .ok (.iconst 1, 1) := by decide +kernel
theorem d40_30 : decode jdk_52_method_4_code 30 = .ok (.ishl, 1) := by decide +kernel
theorem d40_31 : decode jdk_52_method_4_code 31 = .ok (.istore_n 1, 1) := by decide +kernel
theorem d40_32 : decode jdk_52_method_4_code 32 = .ok (.aload_n 0, 1) := by decide +kernel
theorem d40_33 : decode jdk_52_method_4_code 33 = .ok (.iload_n 1, 1) := by decide +kernel
theorem d40_34 : decode jdk_52_method_4_code 34 = .ok (.iinc 1 1, 3) := by decide +kernel
theorem d40_37 : decode jdk_52_method_4_code 37 = .ok (.iload_n 2, 1) := by decide +kernel
theorem d40_38 : decode jdk_52_method_4_code 38 = .ok (.getstatic 59, 3) := by decide +kernel
theorem d40_41 : decode jdk_52_method_4_code 41 = .ok (.ishr, 1) := by decide +kernel
theorem d40_42 : decode jdk_52_method_4_code 42 = .ok (.i2b, 1) := by decide +kernel
theorem d40_43 : decode jdk_52_method_4_code 43 = .ok (.bastore, 1) := by decide +kernel
theorem d40_44 : decode jdk_52_method_4_code 44 = .ok (.aload_n 0, 1) := by decide +kernel
theorem d40_45 : decode jdk_52_method_4_code 45 = .ok (.iload_n 1, 1) := by decide +kernel
theorem d40_46 : decode jdk_52_method_4_code 46 = .ok (.iload_n 2, 1) := by decide +kernel
theorem d40_47 : decode jdk_52_method_4_code 47 = .ok (.getstatic 63, 3) := by decide +kernel
theorem d40_50 : decode jdk_52_method_4_code 50 = .ok (.ishr, 1) := by decide +kernel
theorem d40_51 : decode jdk_52_method_4_code 51 = .ok (.i2b, 1) := by decide +kernel
theorem d40_52 : decode jdk_52_method_4_code 52 = .ok (.bastore, 1) := by decide +kernel
theorem d40_53 : decode jdk_52_method_4_code 53 = .ok (.return_, 1) := by decide +kernel
theorem d41_0 : decode jdk_52_method_5_code 0 = .ok (.getstatic 44, 3) := by decide +kernel
theorem d41_3 : decode jdk_52_method_5_code 3 = .ok (.ifCond .ne 25, 3) := by decide +kernel
theorem d41_28 : decode jdk_52_method_5_code 28 = .ok (.iload_n 1, 1) := by decide +kernel
theorem d41_29 : decode jdk_52_method_5_code 29 = .ok (.iconst 1, 1) := by decide +kernel
theorem d41_30 : decode jdk_52_method_5_code 30 = .ok (.ishl, 1) := by decide +kernel
theorem d41_31 : decode jdk_52_method_5_code 31 = .ok (.istore_n 1, 1) := by decide +kernel
theorem d41_32 : decode jdk_52_method_5_code 32 = .ok (.aload_n 0, 1) := by decide +kernel
theorem d41_33 : decode jdk_52_method_5_code 33 = .ok (.iload_n 1, 1) := by decide +kernel
theorem d41_34 : decode jdk_52_method_5_code 34 = .ok (.iinc 1 1, 3) := by decide +kernel
theorem d41_37 : decode jdk_52_method_5_code 37 = .ok (.baload, 1) := by decide +kernel
theorem d41_38 : decode jdk_52_method_5_code 38 = .ok (.sipush 255, 3) := by decide +kernel
theorem d41_41 : decode jdk_52_method_5_code 41 = .ok (.iand, 1) := by decide +kernel
theorem d41_42 : decode jdk_52_method_5_code 42 = .ok (.getstatic 59, 3) := by decide +kernel
theorem d41_45 : decode jdk_52_method_5_code 45 = .ok (.ishl, 1) := by decide +kernel
theorem d41_46 : decode jdk_52_method_5_code 46 = .ok (.aload_n 0, 1) := by decide +kernel
theorem d41_47 : decode jdk_52_method_5_code 47 = .ok (.iload_n 1, 1) := by decide +kernel
theorem d41_48 : decode jdk_52_method_5_code 48 = .ok (.baload, 1) := by decide +kernel
theorem d41_49 : decode jdk_52_method_5_code 49 = .ok (.sipush 255, 3) := by decide +kernel
theorem d41_52 : decode jdk_52_method_5_code 52 = .ok (.iand, 1) := by decide +kernel
theorem d41_53 : decode jdk_52_method_5_code 53 = .ok (.getstatic 63, 3) := by decide +kernel
theorem d41_56 : decode jdk_52_method_5_code 56 = .ok (.ishl, 1) := by decide +kernel
theorem d41_57 : decode jdk_52_method_5_code 57 = .ok (.ior, 1) := by decide +kernel
theorem d41_58 : decode jdk_52_method_5_code 58 = .ok (.i2c, 1) := by decide +kernel
theorem d41_59 : decode jdk_52_method_5_code 59 = .ok (.ireturn, 1) := by decide +kernel
theorem d42_0 : decode jdk_68_method_11_code 0 = .ok (.aload_n 0, 1) := by decide +kernel
theorem d42_1 : decode jdk_68_method_11_code 1 = .ok (.invokevirtual 83, 3) := by decide +kernel
theorem d42_4 : decode jdk_68_method_11_code 4 = .ok (.ifCond .ne 4, 3) := by decide +kernel
theorem d42_8 : decode jdk_68_method_11_code 8 = .ok (.aload_n 0, 1) := by decide +kernel
theorem d42_9 : decode jdk_68_method_11_code 9 = .ok (.getfield 15, 3) := by decide +kernel
theorem d42_12 : decode jdk_68_method_11_code 12 = .ok (.arraylength, 1) := by decide +kernel
theorem d42_13 : decode jdk_68_method_11_code 13 = .ok (.invokestatic 26, 3) := by decide +kernel
theorem d42_16 : decode jdk_68_method_11_code 16 = .ok (.astore_n 1, 1) := by decide +kernel
theorem d42_17 : decode jdk_68_method_11_code 17 = .ok (.aload_n 0, 1) := by decide +kernel
theorem d42_18 : decode jdk_68_method_11_code 18 = .ok (.getfield 15, 3) := by decide +kernel
theorem d42_21 : decode jdk_68_method_11_code 21 = .ok (.iconst 0, 1) := by decide +kernel
theorem d42_22 : decode jdk_68_method_11_code 22 = .ok (.aload_n 1, 1) := by decide +kernel
theorem d42_23 : decode jdk_68_method_11_code 23 = .ok (.iconst 0, 1) := by decide +kernel
theorem d42_24 : decode jdk_68_method_11_code 24 = .ok (.aload_n 0, 1) := by decide +kernel
theorem d42_25 : decode jdk_68_method_11_code 25 = .ok (.getfield 79, 3) := by decide +kernel
theorem d42_28 : decode jdk_68_method_11_code 28 = .ok (.invokestatic 125, 3) := by decide +kernel
theorem d42_31 : decode jdk_68_method_11_code 31 = .ok (.aload_n 0, 1) := by decide +kernel
theorem d42_32 : decode jdk_68_method_11_code 32 = .ok (.aload_n 1, 1) := by decide +kernel
theorem d42_33 : decode jdk_68_method_11_code 33 = .ok (.putfield 15, 3) := by decide +kernel
theorem d42_36 : decode jdk_68_method_11_code 36 = .ok (.aload_n 0, 1) := by decide +kernel
theorem d42_37 : decode jdk_68_method_11_code 37 = .ok (.iconst 1, 1) := by decide +kernel
theorem d42_38 : decode jdk_68_method_11_code 38 = .ok (.putfield 22, 3) := by decide +kernel
theorem d42_41 : decode jdk_68_method_11_code 41 = .ok (.return_, 1) := by decide +kernel
theorem d43_0 : decode jdk_43_method_50_code 0 = .ok (.aload_n 0, 1) := by decide +kernel
theorem d43_1 : decode jdk_43_method_50_code 1 = .ok (.iload_n 1, 1) := by decide +kernel
theorem d43_2 : decode jdk_43_method_50_code 2 = .ok (.aload_n 2, 1) := by decide +kernel
theorem d43_3 : decode jdk_43_method_50_code 3 = .ok (.iload_n 3, 1) := by decide +kernel
theorem d43_4 : decode jdk_43_method_50_code 4 = .ok (.iload 4, 2) := by decide +kernel
theorem d43_6 : decode jdk_43_method_50_code 6 = .ok (.invokestatic 240, 3) := by decide +kernel
theorem d43_9 : decode jdk_43_method_50_code 9 = .ok (.return_, 1) := by decide +kernel
theorem d44_0 : decode jdk_52_method_86_code 0 = .ok (.iload_n 3, 1) := by decide +kernel
theorem d44_1 : decode jdk_52_method_86_code 1 = .ok (.iload 4, 2) := by decide +kernel
theorem d44_3 : decode jdk_52_method_86_code 3 = .ok (.aload_n 2, 1) := by decide +kernel
theorem d44_4 : decode jdk_52_method_86_code 4 = .ok (.invokestatic 173, 3) := by decide +kernel
theorem d44_7 : decode jdk_52_method_86_code 7 = .ok (.iconst 0, 1) := by decide +kernel
theorem d44_8 : decode jdk_52_method_86_code 8 = .ok (.istore 5, 2) := by decide +kernel
theorem d44_10 : decode jdk_52_method_86_code 10 = .ok (.iload 5, 2) := by decide +kernel
theorem d44_12 : decode jdk_52_method_86_code 12 = .ok (.iload 4, 2) := by decide +kernel
theorem d44_14 : decode jdk_52_method_86_code 14 = .ok (.if_icmp .ge 27, 3) := by decide +kernel
theorem d44_17 : decode jdk_52_method_86_code 17 = .ok (.aload_n 2, 1) := by decide +kernel
theorem d44_18 : decode jdk_52_method_86_code 18 = .ok (.iload_n 3, 1) := by decide +kernel
theorem d44_19 : decode jdk_52_method_86_code 19 = .ok (.iinc 3 1, 3) := by decide +kernel
theorem d44_22 : decode jdk_52_method_86_code 22 = .ok (.aload_n 0, 1) := by decide +kernel
theorem d44_23 : decode jdk_52_method_86_code 23 = .ok (.iload_n 1, 1) := by decide +kernel
theorem d44_24 : decode jdk_52_method_86_code 24 = .ok (.iinc 1 1, 3) := by decide +kernel
theorem d44_27 : decode jdk_52_method_86_code 27 = .ok (.baload, 1) := by decide +kernel
theorem d44_28 : decode jdk_52_method_86_code 28 = .ok (.sipush 255, 3) := by decide +kernel
theorem d44_31 : decode jdk_52_method_86_code 31 = .ok (.iand, 1) := by decide +kernel
theorem d44_32 : decode jdk_52_method_86_code 32 = .ok (.invokestatic 111, 3) := by decide +kernel
theorem d44_35 : decode jdk_52_method_86_code 35 = .ok (.iinc 5 1, 3) := by decide +kernel
theorem d44_38 : decode jdk_52_method_86_code 38 = .ok (.goto (-28), 3) := by decide +kernel
theorem d44_41 : decode jdk_52_method_86_code 41 = .ok (.return_, 1) := by decide +kernel
theorem d45_0 : decode jdk_52_method_94_code 0 = .ok (.iload_n 0, 1) := by decide +kernel
theorem d45_1 : decode jdk_52_method_94_code 1 = .ok (.iload_n 1, 1) := by decide +kernel
theorem d45_2 : decode jdk_52_method_94_code 2 = .ok (.aload_n 2, 1) := by decide +kernel
theorem d45_3 : decode jdk_52_method_94_code 3 = .ok (.invokestatic 48, 3) := by decide +kernel
theorem d45_6 : decode jdk_52_method_94_code 6 = .ok (.invokestatic 419, 3) := by decide +kernel
theorem d45_9 : decode jdk_52_method_94_code 9 = .ok (.pop, 1) := by decide +kernel
theorem d45_10 : decode jdk_52_method_94_code 10 = .ok (.return_, 1) := by decide +kernel
theorem d46_0 : decode jdk_52_method_6_code 0 = .ok (.aload_n 0, 1) := by decide +kernel
theorem d46_1 : decode jdk_52_method_6_code 1 = .ok (.arraylength, 1) := by decide +kernel
theorem d46_2 : decode jdk_52_method_6_code 2 = .ok (.iconst 1, 1) := by decide +kernel
theorem d46_3 : decode jdk_52_method_6_code 3 = .ok (.ishr, 1) := by decide +kernel
theorem d46_4 : decode jdk_52_method_6_code 4 = .ok (.ireturn, 1) := by decide +kernel
theorem d47_0 : decode jdk_42_method_157_code 0 = .ok (.iload_n 0, 1) := by decide +kernel
theorem d47_1 : decode jdk_42_method_157_code 1 = .ok (.iload_n 1, 1) := by decide +kernel
theorem d47_2 : decode jdk_42_method_157_code 2 = .ok (.iload_n 2, 1) := by decide +kernel
theorem d47_3 : decode jdk_42_method_157_code 3 = .ok (.getstatic 1053, 3) := by decide +kernel
theorem d47_6 : decode jdk_42_method_157_code 6 = .ok (.invokestatic 1065, 3) := by decide +kernel
theorem d47_9 : decode jdk_42_method_157_code 9 = .ok (.ireturn, 1) := by decide +kernel
theorem d48_0 : decode jdk_41_method_13_code 0 = .ok (.iload_n 2, 1) := by decide +kernel
theorem d48_1 : decode jdk_41_method_13_code 1 = .ok (.iload_n 0, 1) := by decide +kernel
theorem d48_2 : decode jdk_41_method_13_code 2 = .ok (.ior, 1) := by decide +kernel
theorem d48_3 : decode jdk_41_method_13_code 3 = .ok (.iload_n 1, 1) := by decide +kernel
theorem d48_4 : decode jdk_41_method_13_code 4 = .ok (.ior, 1) := by decide +kernel
theorem d48_5 : decode jdk_41_method_13_code 5 = .ok (.ifCond .lt 10, 3) := by decide +kernel
theorem d48_8 : decode jdk_41_method_13_code 8 = .ok (.iload_n 1, 1) := by decide +kernel
theorem d48_9 : decode jdk_41_method_13_code 9 = .ok (.iload_n 2, 1) := by decide +kernel
theorem d48_10 : decode jdk_41_method_13_code 10 = .ok (.iload_n 0, 1) := by decide +kernel
theorem d48_11 : decode jdk_41_method_13_code 11 = .ok (.isub, 1) := by decide +kernel
theorem d48_12 : decode jdk_41_method_13_code 12 = .ok (.if_icmp .le 11, 3) := by decide +kernel
theorem d48_23 : decode jdk_41_method_13_code 23 = .ok (.iload_n 0, 1) := by decide +kernel
theorem d48_24 : decode jdk_41_method_13_code 24 = .ok (.ireturn, 1) := by decide +kernel
theorem d49_0 : decode jdk_52_method_83_code 0 = .ok (.iload_n 1, 1) := by decide +kernel
theorem d49_1 : decode jdk_52_method_83_code 1 = .ok (.aload_n 0, 1) := by decide +kernel
theorem d49_2 : decode jdk_52_method_83_code 2 = .ok (.invokestatic 67, 3) := by decide +kernel
theorem d49_5 : decode jdk_52_method_83_code 5 = .ok (.aload_n 0, 1) := by decide +kernel
theorem d49_6 : decode jdk_52_method_83_code 6 = .ok (.iload_n 1, 1) := by decide +kernel
theorem d49_7 : decode jdk_52_method_83_code 7 = .ok (.invokestatic 71, 3) := by decide +kernel
theorem d49_10 : decode jdk_52_method_83_code 10 = .ok (.ireturn, 1) := by decide +kernel
theorem d50_0 : decode jdk_52_method_91_code 0 = .ok (.iload_n 0, 1) := by decide +kernel
theorem d50_1 : decode jdk_52_method_91_code 1 = .ok (.aload_n 1, 1) := by decide +kernel
theorem d50_2 : decode jdk_52_method_91_code 2 = .ok (.invokestatic 48, 3) := by decide +kernel
theorem d50_5 : decode jdk_52_method_91_code 5 = .ok (.invokestatic 414, 3) := by decide +kernel
theorem d50_8 : decode jdk_52_method_91_code 8 = .ok (.return_, 1) := by decide +kernel
theorem own_wS {Z : State} {a0 : Array Value} (hw : ∀ d ∈ tables_1, d.before a0 Z = true) : ∀ a ∈ Bundle.stringAtoms, a.before a0 Z = true := by
  intro a ha
  simp only [Bundle.stringAtoms, List.mem_cons, List.not_mem_nil, or_false] at ha
  rcases ha with rfl | rfl | rfl | rfl | rfl | rfl | rfl
  · exact (ow hw 8 rfl)
  · exact (ow hw 7 rfl)
  · exact (ow hw 24 rfl)
  · exact (ow hw 34 rfl)
  · exact (ow hw 32 rfl)
  · exact (ow hw 75 rfl)
  · exact (ow hw 76 rfl)
theorem own_pd0 : parseMethodDescriptor "()V" = some ⟨[], none⟩ := by decide +kernel
theorem own_pd1 : parseMethodDescriptor "([BII)V" = some ⟨[(.array .byte), .int, .int], none⟩ := by decide +kernel
theorem own_pd2 : parseMethodDescriptor "([BI)C" = some ⟨[(.array .byte), .int], some .char⟩ := by decide +kernel
theorem own_pd3 : parseMethodDescriptor "([CI[BII)I" = some ⟨[(.array .char), .int, (.array .byte), .int, .int], some .int⟩ := by decide +kernel
theorem own_pd4 : parseMethodDescriptor "(I)I" = some ⟨[.int], some .int⟩ := by decide +kernel
theorem own_pd5 : parseMethodDescriptor "(I)[B" = some ⟨[.int], some (.array .byte)⟩ := by decide +kernel
theorem own_pd6 : parseMethodDescriptor "([CII)[B" = some ⟨[(.array .char), .int, .int], some (.array .byte)⟩ := by decide +kernel
theorem own_pd7 : parseMethodDescriptor "([BI)B" = some ⟨[(.array .byte), .int], some .byte⟩ := by decide +kernel
theorem own_pd8 : parseMethodDescriptor "([CIILjava/lang/Void;)V" = some ⟨[(.array .char), .int, .int, (.object "java/lang/Void")], none⟩ := by decide +kernel
theorem own_pd9 : parseMethodDescriptor "([C)V" = some ⟨[(.array .char)], none⟩ := by decide +kernel
theorem own_pd10 : parseMethodDescriptor "()Z" = some ⟨[], some .boolean⟩ := by decide +kernel
theorem own_pd11 : parseMethodDescriptor "()B" = some ⟨[], some .byte⟩ := by decide +kernel
theorem own_pd12 : parseMethodDescriptor "()I" = some ⟨[], some .int⟩ := by decide +kernel
theorem own_pd13 : parseMethodDescriptor "(IILjava/util/function/BiFunction;)I" = some ⟨[.int, .int, (.object "java/util/function/BiFunction")], some .int⟩ := by decide +kernel
theorem own_pd14 : parseMethodDescriptor "(II)V" = some ⟨[.int, .int], none⟩ := by decide +kernel
theorem own_pd15 : parseMethodDescriptor "([B)I" = some ⟨[(.array .byte)], some .int⟩ := by decide +kernel
theorem own_pd16 : parseMethodDescriptor "(I[B)V" = some ⟨[.int, (.array .byte)], none⟩ := by decide +kernel
theorem own_pd17 : parseMethodDescriptor "(I)C" = some ⟨[.int], some .char⟩ := by decide +kernel
theorem own_pd18 : parseMethodDescriptor "(I)V" = some ⟨[.int], none⟩ := by decide +kernel
theorem own_pd19 : parseMethodDescriptor "(Ljava/lang/String;)V" = some ⟨[(.object "java/lang/String")], none⟩ := by decide +kernel
theorem own_pd20 : parseMethodDescriptor "()[B" = some ⟨[], some (.array .byte)⟩ := by decide +kernel
theorem own_pd21 : parseMethodDescriptor "(IIILjava/util/function/BiFunction;)I" = some ⟨[.int, .int, .int, (.object "java/util/function/BiFunction")], some .int⟩ := by decide +kernel
theorem own_pd22 : parseMethodDescriptor "(III)I" = some ⟨[.int, .int, .int], some .int⟩ := by decide +kernel
theorem own_pd23 : parseMethodDescriptor "([BIB)V" = some ⟨[(.array .byte), .int, .byte], none⟩ := by decide +kernel
theorem own_pd24 : parseMethodDescriptor "(ILjava/lang/String;)V" = some ⟨[.int, (.object "java/lang/String")], none⟩ := by decide +kernel
theorem own_pd25 : parseMethodDescriptor "(Ljava/lang/String;)Ljava/lang/AbstractStringBuilder;" = some ⟨[(.object "java/lang/String")], some (.object "java/lang/AbstractStringBuilder")⟩ := by decide +kernel
theorem own_pd26 : parseMethodDescriptor "(Ljava/lang/String;)Ljava/lang/StringBuilder;" = some ⟨[(.object "java/lang/String")], some (.object "java/lang/StringBuilder")⟩ := by decide +kernel
theorem own_pd27 : parseMethodDescriptor "(II)I" = some ⟨[.int, .int], some .int⟩ := by decide +kernel
theorem own_pd28 : parseMethodDescriptor "([BII)[B" = some ⟨[(.array .byte), .int, .int], some (.array .byte)⟩ := by decide +kernel
theorem own_pd29 : parseMethodDescriptor "(Ljava/lang/AbstractStringBuilder;Ljava/lang/Void;)V" = some ⟨[(.object "java/lang/AbstractStringBuilder"), (.object "java/lang/Void")], none⟩ := by decide +kernel
theorem own_pd30 : parseMethodDescriptor "(Ljava/lang/StringBuilder;)V" = some ⟨[(.object "java/lang/StringBuilder")], none⟩ := by decide +kernel
theorem own_pd31 : parseMethodDescriptor "()Ljava/lang/String;" = some ⟨[], some (.object "java/lang/String")⟩ := by decide +kernel
theorem own_pd32 : parseMethodDescriptor "(II[B)V" = some ⟨[.int, .int, (.array .byte)], none⟩ := by decide +kernel
abbrev own_z32 : List Value := List.replicate 32 (.int 0)
abbrev own_e6 : List Value := [(.int 97), (.int 108), (.int 108), (.int 111), (.int 119), (.int 32), (.int 0), (.int 0), (.int 0), (.int 0), (.int 0), (.int 0), (.int 0), (.int 0), (.int 0), (.int 0)]
abbrev own_r6 : List Value := [(.int (own_lo (97 : Int32))), (.int (own_hi (97 : Int32))), (.int (own_lo (108 : Int32))), (.int (own_hi (108 : Int32))), (.int (own_lo (108 : Int32))), (.int (own_hi (108 : Int32))), (.int (own_lo (111 : Int32))), (.int (own_hi (111 : Int32))), (.int (own_lo (119 : Int32))), (.int (own_hi (119 : Int32))), (.int (own_lo (32 : Int32))), (.int (own_hi (32 : Int32))), (.int 0), (.int 0), (.int 0), (.int 0), (.int 0), (.int 0), (.int 0), (.int 0), (.int 0), (.int 0), (.int 0), (.int 0), (.int 0), (.int 0), (.int 0), (.int 0), (.int 0), (.int 0), (.int 0), (.int 0)]
theorem own_pd33 : parseMethodDescriptor "([BI[BII)V" = some ⟨[(.array .byte), .int, (.array .byte), .int, .int], none⟩ := by decide +kernel
abbrev own_e5 : List Value := [(.int 100), (.int 101), (.int 110), (.int 121), (.int 32), (.int 0), (.int 0), (.int 0), (.int 0), (.int 0), (.int 0), (.int 0), (.int 0), (.int 0), (.int 0), (.int 0)]
abbrev own_r5 : List Value := [(.int (own_lo (100 : Int32))), (.int (own_hi (100 : Int32))), (.int (own_lo (101 : Int32))), (.int (own_hi (101 : Int32))), (.int (own_lo (110 : Int32))), (.int (own_hi (110 : Int32))), (.int (own_lo (121 : Int32))), (.int (own_hi (121 : Int32))), (.int (own_lo (32 : Int32))), (.int (own_hi (32 : Int32))), (.int 0), (.int 0), (.int 0), (.int 0), (.int 0), (.int 0), (.int 0), (.int 0), (.int 0), (.int 0), (.int 0), (.int 0), (.int 0), (.int 0), (.int 0), (.int 0), (.int 0), (.int 0), (.int 0), (.int 0), (.int 0), (.int 0)]
theorem own_pd34 : parseMethodDescriptor "(ZLjava/lang/String;)V" = some ⟨[.boolean, (.object "java/lang/String")], none⟩ := by decide +kernel
theorem own_pd35 : parseMethodDescriptor "(ICCC)Ljava/lang/String;" = some ⟨[.int, .char, .char, .char], some (.object "java/lang/String")⟩ := by decide +kernel
theorem own_pd36 : parseMethodDescriptor "(IIIII)Z" = some ⟨[.int, .int, .int, .int, .int], some .boolean⟩ := by decide +kernel
section OwnC
variable {l : Launch} {Z : State} {a0 : Array Value} {h0 : Heap}
theorem own_rec (hw : own_W Z a0) (a : Addr) (O0 : own_Old Z h0) : own_Con l Z ⟨"java/lang/Record", "<init>", "()V"⟩ jdk_30_method_1_code 1 none [] ⟨1, 0, 0, 12⟩ #[(.ref a)] h0 (fun rv rh rL => rv = none ∧ own_Fr Z rL ∧ h0 = rh) := by
  refine own_st hw (plainFor_of_name (by decide +kernel)) #[oa a] (fun _ => rfl) fun p e s m below meth c s₁ G B hown hnm hret hZ X0 e0 N0 hR => ?_
  obtain ⟨hG, hx, hby, hml, -⟩ := id B
  refine q_aloadN B X0 d9_0 rfl rfl rfl ?_
  show G (s₁.setTop (mkF m 1 #[oa a] [(.ref a)]))
  obtain ⟨T1, X1, e1, st1⟩ := initO X0 hx hZ hown (ow hw 46 rfl) (ow hw 17 rfl) (ow hw 18 rfl) e0 (g := (mkF m 1 #[oa a] [(.ref a)])) rfl (by rw [hml]; rfl) rfl (hb hby d9_1) (by decide) (W := 0) (by show 2 * 0 + _ ≤ _; exact Nat.le_of_eq rfl) (by decide)
  refine hG _ _ st1 ?_
  show G (T1.setTop (mkF m 4 #[oa a] []))
  exact qRV B hR hret X1 d9_4 e1 ⟨rfl, N0, rfl⟩ (by decide)
theorem own_put (hw : own_W Z a0) {b : Addr} {kb : ClassId} (M : Nat) {vs : List Value} (i : Nat) (ch : Int32) (O0 : own_Old Z h0) (g0_V : Arv Z h0 b kb .byte (Int32.ofNat M) vs (.int 0)) (g1_G : Z.heap.size ≤ b) (g2_hM : M < 2147483648) (g3_hi : 2 * i + 1 < M) (g4_hl : vs.length = M) (g5_S : Sta Z Z.heap "java/lang/StringUTF16" "$assertionsDisabled" "Z" (.int 1)) (g6_S : Sta Z Z.heap "java/lang/StringUTF16" "HI_BYTE_SHIFT" "I" (.int 0)) (g7_S : Sta Z Z.heap "java/lang/StringUTF16" "LO_BYTE_SHIFT" "I" (.int 8)) : own_Con l Z ⟨"java/lang/StringUTF16", "putChar", "([BII)V"⟩ jdk_52_method_4_code 3 none [] ⟨0, 0, 0, 0⟩ #[(.ref b), (.int (Int32.ofNat i)), (.int ch)] h0 (fun rv rh rL => rv = none ∧ own_Fr Z rL ∧ Keep h0 rh [b] ∧ (Arv Z rh b kb .byte (Int32.ofNat M) ((vs.set (2 * i) (.int (own_lo ch))).set (2 * i + 1) (.int (own_hi ch))) (.int 0))) := by
  refine own_st hw (plainFor_of_name (by decide +kernel)) #[oa b, oi (Int32.ofNat i), oi ch] (fun m => by first | (simp [entryFrame, mkF, argsToLocals, Value.category]; done) | rfl) fun p e s m below meth c s₁ G B hown hnm hret hZ X0 e0 N0 hR => ?_
  obtain ⟨hG, hx, hby, hml, -⟩ := id B
  refine qgs B X0 hZ hown 207 rfl Via.refl e0 g5_S O0 d40_0 fun T1 X1 e1 => ?_
  refine q_ifYes 28 B X1 d40_3 rfl ((if0 _ _).trans (feq (by decide)).2) rfl rfl (by decide) ?_
  refine q_iloadN B X1 d40_28 rfl rfl ?_
  refine q_iconst B X1 d40_29 rfl ?_
  refine q_ishl B X1 d40_30 rfl rfl ?_
  refine q_istoreN B X1 d40_31 rfl rfl rfl ?_
  show G (T1.setTop (mkF m 32 #[oa b, oi ((Int32.ofNat i) <<< ((1 : Int32) &&& 31)), oi ch] []))
  rw [own_shl1 i]
  show G (T1.setTop (mkF m 32 #[oa b, oi (Int32.ofNat (2 * i)), oi ch] []))
  refine q_aloadN B X1 d40_32 rfl rfl rfl ?_
  refine q_iloadN B X1 d40_33 rfl rfl ?_
  refine q_iinc B X1 d40_34 rfl rfl rfl ?_
  show G (T1.setTop (mkF m 37 #[oa b, oi ((Int32.ofNat (2 * i)) + (1 : Int32)), oi ch] [(.int (Int32.ofNat (2 * i))), (.ref b)]))
  rw [own_inc (2 * i)]
  show G (T1.setTop (mkF m 37 #[oa b, oi (Int32.ofNat (2 * i + 1)), oi ch] [(.int (Int32.ofNat (2 * i))), (.ref b)]))
  refine q_iloadN B X1 d40_37 rfl rfl ?_
  refine qgs B X1 hZ hown 208 rfl Via.refl e1 g6_S O0 d40_38 fun T2 X2 e2 => ?_
  refine q_ishr B X2 d40_41 rfl rfl ?_
  refine q_i2b B X2 d40_42 rfl rfl ?_
  show G (T2.setTop (mkF m 43 #[oa b, oi (Int32.ofNat (2 * i + 1)), oi ch] [(.int ((ch >>> ((0 : Int32) &&& 31)).toInt8.toInt32)), (.int (Int32.ofNat (2 * i))), (.ref b)]))
  obtain ⟨c3, Ar3, q3, S3, M3, H3, G3⟩ := id g0_V
  obtain ⟨T3, h3, X3, e3, W3, st3⟩ := stB X2 hx hZ e2 Ar3 (j := (Int32.ofNat (2 * i))) (inb_of S3 ⟨own_nn (by omega), own_lt (by omega) g2_hM⟩) (g := (mkF m 43 #[oa b, oi (Int32.ofNat (2 * i + 1)), oi ch] [(.int ((ch >>> ((0 : Int32) &&& 31)).toInt8.toInt32)), (.int (Int32.ofNat (2 * i))), (.ref b)])) rfl rfl (hb hby d40_43)
  refine hG _ _ st3 ?_
  have K3 := (Keep.refl h0 [b]).wr W3 (own_mi 0 rfl)
  have O3 := O0.wr W3 g1_G
  have V3 : Arv Z h3 b kb .byte (Int32.ofNat M) (vs.set (2 * i) (.int (nar .byte ((ch >>> ((0 : Int32) &&& 31)).toInt8.toInt32)))) (.int 0) := Arv.set Ar3 q3 S3 M3 H3 G3 (fits_nar_byte _) W3 (2 * i) (own_clamp (by omega)) (by omega)
  have N3 := Fr.snoc X3 N0 g1_G
  refine q_aloadN B X3 d40_44 rfl rfl rfl ?_
  refine q_iloadN B X3 d40_45 rfl rfl ?_
  refine q_iloadN B X3 d40_46 rfl rfl ?_
  refine qgs B X3 hZ hown 209 rfl Via.refl e3 g7_S O3 d40_47 fun T4 X4 e4 => ?_
  refine q_ishr B X4 d40_50 rfl rfl ?_
  refine q_i2b B X4 d40_51 rfl rfl ?_
  show G (T4.setTop (mkF m 52 #[oa b, oi (Int32.ofNat (2 * i + 1)), oi ch] [(.int ((ch >>> ((8 : Int32) &&& 31)).toInt8.toInt32)), (.int (Int32.ofNat (2 * i + 1))), (.ref b)]))
  obtain ⟨c5, Ar5, q5, S5, M5, H5, G5⟩ := id V3
  obtain ⟨T5, h5, X5, e5, W5, st5⟩ := stB X4 hx hZ e4 Ar5 (j := (Int32.ofNat (2 * i + 1))) (inb_of S5 ⟨own_nn (by omega), own_lt (by omega) g2_hM⟩) (g := (mkF m 52 #[oa b, oi (Int32.ofNat (2 * i + 1)), oi ch] [(.int ((ch >>> ((8 : Int32) &&& 31)).toInt8.toInt32)), (.int (Int32.ofNat (2 * i + 1))), (.ref b)])) rfl rfl (hb hby d40_52)
  refine hG _ _ st5 ?_
  have K5 := K3.wr W5 (own_mi 0 rfl)
  have O5 := O3.wr W5 g1_G
  have V5 : Arv Z h5 b kb .byte (Int32.ofNat M) ((vs.set (2 * i) (.int (nar .byte ((ch >>> ((0 : Int32) &&& 31)).toInt8.toInt32)))).set (2 * i + 1) (.int (nar .byte ((ch >>> ((8 : Int32) &&& 31)).toInt8.toInt32)))) (.int 0) := Arv.set Ar5 q5 S5 M5 H5 G5 (fits_nar_byte _) W5 (2 * i + 1) (own_clamp (by omega)) (by rw [List.length_set]; omega)
  have N5 := Fr.snoc X5 N3 g1_G
  show G (T5.setTop (mkF m 53 #[oa b, oi (Int32.ofNat (2 * i + 1)), oi ch] []))
  exact qRV B hR hret X5 d40_53 e5 ⟨rfl, N5, K5, V5⟩ (by decide)
theorem own_gch (hw : own_W Z a0) {b : Addr} {kb : ClassId} (M : Nat) {vs : List Value} (i : Nat) (x y : Int32) (O0 : own_Old Z h0) (g0_V : Arv Z h0 b kb .byte (Int32.ofNat M) vs (.int 0)) (g1_hM : M < 2147483648) (g2_hi : 2 * i + 1 < M) (g3_hx : vs.getD (2 * i) (.int 0) = .int x) (g4_hy : vs.getD (2 * i + 1) (.int 0) = .int y) (g5_S : Sta Z Z.heap "java/lang/StringUTF16" "$assertionsDisabled" "Z" (.int 1)) (g6_S : Sta Z Z.heap "java/lang/StringUTF16" "HI_BYTE_SHIFT" "I" (.int 0)) (g7_S : Sta Z Z.heap "java/lang/StringUTF16" "LO_BYTE_SHIFT" "I" (.int 8)) : own_Con l Z ⟨"java/lang/StringUTF16", "getChar", "([BI)C"⟩ jdk_52_method_5_code 2 (some .char) [] ⟨0, 0, 0, 0⟩ #[(.ref b), (.int (Int32.ofNat i))] h0 (fun rv rh rL => rv = some (.int (own_join x y)) ∧ own_Fr Z rL ∧ h0 = rh) := by
  refine own_st hw (plainFor_of_name (by decide +kernel)) #[oa b, oi (Int32.ofNat i)] (fun _ => rfl) fun p e s m below meth c s₁ G B hown hnm hret hZ X0 e0 N0 hR => ?_
  refine qgs B X0 hZ hown 207 rfl Via.refl e0 g5_S O0 d41_0 fun T1 X1 e1 => ?_
  refine q_ifYes 28 B X1 d41_3 rfl ((if0 _ _).trans (feq (by decide)).2) rfl rfl (by decide) ?_
  refine q_iloadN B X1 d41_28 rfl rfl ?_
  refine q_iconst B X1 d41_29 rfl ?_
  refine q_ishl B X1 d41_30 rfl rfl ?_
  refine q_istoreN B X1 d41_31 rfl rfl rfl ?_
  show G (T1.setTop (mkF m 32 #[oa b, oi ((Int32.ofNat i) <<< ((1 : Int32) &&& 31))] []))
  rw [own_shl1 i]
  show G (T1.setTop (mkF m 32 #[oa b, oi (Int32.ofNat (2 * i))] []))
  refine q_aloadN B X1 d41_32 rfl rfl rfl ?_
  refine q_iloadN B X1 d41_33 rfl rfl ?_
  refine q_iinc B X1 d41_34 rfl rfl rfl ?_
  show G (T1.setTop (mkF m 37 #[oa b, oi ((Int32.ofNat (2 * i)) + (1 : Int32))] [(.int (Int32.ofNat (2 * i))), (.ref b)]))
  rw [own_inc (2 * i)]
  show G (T1.setTop (mkF m 37 #[oa b, oi (Int32.ofNat (2 * i + 1))] [(.int (Int32.ofNat (2 * i))), (.ref b)]))
  refine qlb (v := (.int x)) B X1 hZ e1 g0_V d41_37 ⟨own_nn (by omega), own_lt (by omega) g1_hM⟩ (by rw [own_clamp (by omega)]; exact g3_hx) ?_
  refine q_sipush B X1 d41_38 rfl ?_
  refine q_iand B X1 d41_41 rfl rfl ?_
  refine qgs B X1 hZ hown 208 rfl Via.refl e1 g6_S O0 d41_42 fun T3 X3 e3 => ?_
  refine q_ishl B X3 d41_45 rfl rfl ?_
  refine q_aloadN B X3 d41_46 rfl rfl rfl ?_
  refine q_iloadN B X3 d41_47 rfl rfl ?_
  refine qlb (v := (.int y)) B X3 hZ e3 g0_V d41_48 ⟨own_nn (by omega), own_lt (by omega) g1_hM⟩ (by rw [own_clamp (by omega)]; exact g4_hy) ?_
  refine q_sipush B X3 d41_49 rfl ?_
  refine q_iand B X3 d41_52 rfl rfl ?_
  refine qgs B X3 hZ hown 209 rfl Via.refl e3 g7_S O0 d41_53 fun T5 X5 e5 => ?_
  refine q_ishl B X5 d41_56 rfl rfl ?_
  refine q_ior B X5 d41_57 rfl rfl ?_
  refine q_i2c B X5 d41_58 rfl rfl ?_
  show G (T5.setTop (mkF m 59 #[oa b, oi (Int32.ofNat (2 * i + 1))] [(.int ((((x &&& (255 : Int32)) <<< ((0 : Int32) &&& 31)) ||| ((y &&& (255 : Int32)) <<< ((8 : Int32) &&& 31))).toUInt32.toUInt16.toUInt32.toInt32))]))
  exact qRN B hR hret (by simp) X5 d41_59 e5 ⟨rfl, N0, rfl⟩ (by decide)
theorem own_gcmp5 (hw : own_W Z a0) {a b : Addr} {ka kb : ClassId} (cs : List Int32) (O0 : own_Old Z h0) (g0_V : Arv Z h0 a ka .char (Int32.ofNat cs.length) (cs.map Value.int) (.int 0)) (g1_V : Arv Z h0 b kb .byte (Int32.ofNat cs.length) [] (.int 0)) (g2_G : Z.heap.size ≤ b) (g3_hne : a ≠ b) (g4_hlen : cs.length < 2147483648) : own_Con l Z ⟨"java/lang/StringUTF16", "compress", "([CI[BII)I"⟩ jdk_52_method_21_code 7 (some .int) [] ⟨0, 0, 0, 0⟩ #[(.ref a), (.int 0), (.ref b), (.int 0), (.int (Int32.ofNat cs.length))] h0 (fun rv rh rL => ∃ (r : Int32) (vs : List Value), rv = some (.int r) ∧ own_Fr Z rL ∧ Keep h0 rh [b] ∧ (Arv Z rh b kb .byte (Int32.ofNat cs.length) vs (.int 0)) ∧ ((r = (Int32.ofNat cs.length) ∧ (∀ c ∈ cs, ¬ ((255 : Int32) < c)) ∧ vs = (cs.map fun c => Value.int c.toInt8.toInt32)) ∨ (∃ k, k < cs.length ∧ r = Int32.ofNat k ∧ (255 : Int32) < cs.getD k 0))) := by
  refine own_st hw (plainFor_of_name (by decide +kernel)) #[oa a, oi 0, oa b, oi 0, oi (Int32.ofNat cs.length), .unset, .unset] (fun m => by first | (simp [entryFrame, mkF, argsToLocals, Value.category]; done) | rfl) fun p e s m below meth c s₁ G B hown hnm hret hZ X0 e0 N0 hR => ?_
  obtain ⟨hG, hx, hby, hml, -⟩ := id B
  refine q_iconst B X0 d6_0 rfl ?_
  refine q_istore B X0 d6_1 rfl rfl rfl ?_
  show G (s₁.setTop (mkF m 3 #[oa a, oi 0, oa b, oi 0, oi (Int32.ofNat cs.length), oi 0, .unset] []))
  have loop : ∀ (r i : Nat) (T : State) (locs : List Loc) (hT : Heap) (vs : List Value) (ch : Slot), r + i = cs.length → Stand p l e ⟨0, 0, 0, 0⟩ s m #[(.ref a), (.int 0), (.ref b), (.int 0), (.int (Int32.ofNat cs.length))] below meth c T locs 0 0 → T.heap = hT → Keep h0 hT [b] → own_Old Z hT → own_Fr Z locs → Arv Z hT b kb .byte (Int32.ofNat cs.length) vs (.int 0) → vs.length = cs.length → (∀ j, j < i → vs.getD j (.int 0) = Value.int (cs.getD j 0).toInt8.toInt32) → (∀ j, j < i → ¬ ((255 : Int32) < cs.getD j 0)) → One ch → G (T.setTop (mkF m 3 #[oa a, oi (Int32.ofNat i), oa b, oi (Int32.ofNat i), oi (Int32.ofNat cs.length), oi (Int32.ofNat i), ch] [])) := by
    intro r
    induction r with
    | zero =>
      intro i T locs hT vs ch hri X eT K O N V hl hv hs hch
      have hi : i = cs.length := by omega
      subst hi
      have hvs := own_mapEq (fun c : Int32 => Value.int c.toInt8.toInt32) cs vs (.int 0) 0 hl hv
      refine q_iload B X d6_3 rfl rfl ?_
      refine q_iload B X d6_5 rfl rfl ?_
      refine q_icmpYes 44 B X d6_7 rfl (flt (own_nlt (Nat.le_refl _) g4_hlen)).2.1 rfl rfl (by decide) ?_
      refine q_iload B X d6_44 rfl rfl ?_
      show G (T.setTop (mkF m 46 #[oa a, oi (Int32.ofNat cs.length), oa b, oi (Int32.ofNat cs.length), oi (Int32.ofNat cs.length), oi (Int32.ofNat cs.length), ch] [(.int (Int32.ofNat cs.length))]))
      exact qRI B hR hret X d6_46 eT ⟨(Int32.ofNat cs.length), vs, rfl, N, K, V, (Or.inl ⟨rfl, own_allD cs 0 hs, hvs⟩)⟩ (by decide)
    | succ r ih =>
      intro i T locs hT vs ch hri X eT K O N V hl hv hs hch
      have hi : i < cs.length := by omega
      refine q_iload B X d6_3 rfl rfl ?_
      refine q_iload B X d6_5 rfl rfl ?_
      refine q_icmpNo B X d6_7 rfl (tlt (own_lt hi g4_hlen)).2.1 rfl ?_
      refine q_aloadN B X d6_10 rfl rfl rfl ?_
      refine q_iloadN B X d6_11 rfl rfl ?_
      refine qlc (v := (.int (cs.getD i 0))) B X hZ eT (g0_V.keep K (ninS g3_hne nin0)) d6_12 ⟨own_nn (by omega), own_lt hi g4_hlen⟩ (by rw [own_clamp (by omega)]; exact own_getD_map Value.int cs i _ 0 hi) ?_
      refine q_istoreS B X d6_13 rfl rfl hch rfl ?_
      refine q_iload B X d6_15 rfl rfl ?_
      refine q_sipush B X d6_17 rfl ?_
      by_cases hc20_2 : (255 : Int32) < (cs.getD i 0)
      · skip
        refine q_icmpNo B X d6_20 rfl (tlt hc20_2).2.2.2 rfl ?_
        refine q_iload B X d6_23 rfl rfl ?_
        show G (T.setTop (mkF m 25 #[oa a, oi (Int32.ofNat i), oa b, oi (Int32.ofNat i), oi (Int32.ofNat cs.length), oi (Int32.ofNat i), oi (cs.getD i 0)] [(.int (Int32.ofNat i))]))
        exact qRI B hR hret X d6_25 eT ⟨(Int32.ofNat i), vs, rfl, N, K, V, (Or.inr ⟨i, hi, rfl, hc20_2⟩)⟩ (by decide)
      · skip
        refine q_icmpYes 26 B X d6_20 rfl (flt hc20_2).2.2.2 rfl rfl (by decide) ?_
        refine q_aloadN B X d6_26 rfl rfl rfl ?_
        refine q_iloadN B X d6_27 rfl rfl ?_
        refine q_iload B X d6_28 rfl rfl ?_
        refine q_i2b B X d6_30 rfl rfl ?_
        show G (T.setTop (mkF m 31 #[oa a, oi (Int32.ofNat i), oa b, oi (Int32.ofNat i), oi (Int32.ofNat cs.length), oi (Int32.ofNat i), oi (cs.getD i 0)] [(.int ((cs.getD i 0).toInt8.toInt32)), (.int (Int32.ofNat i)), (.ref b)]))
        obtain ⟨c3, Ar3, q3, S3, M3, H3, G3⟩ := id V
        obtain ⟨T3, h3, X3, e3, W3, st3⟩ := stB X hx hZ eT Ar3 (j := (Int32.ofNat i)) (inb_of S3 ⟨own_nn (by omega), own_lt hi g4_hlen⟩) (g := (mkF m 31 #[oa a, oi (Int32.ofNat i), oa b, oi (Int32.ofNat i), oi (Int32.ofNat cs.length), oi (Int32.ofNat i), oi (cs.getD i 0)] [(.int ((cs.getD i 0).toInt8.toInt32)), (.int (Int32.ofNat i)), (.ref b)])) rfl rfl (hb hby d6_31)
        refine hG _ _ st3 ?_
        have K3 := K.wr W3 (own_mi 0 rfl)
        have O3 := O.wr W3 g2_G
        have V3 : Arv Z h3 b kb .byte (Int32.ofNat cs.length) (vs.set i (.int (nar .byte ((cs.getD i 0).toInt8.toInt32)))) (.int 0) := Arv.set Ar3 q3 S3 M3 H3 G3 (fits_nar_byte _) W3 i (own_clamp (by omega)) (by omega)
        have N3 := Fr.snoc X3 N g2_G
        refine q_iinc B X3 d6_32 rfl rfl rfl ?_
        refine q_iinc B X3 d6_35 rfl rfl rfl ?_
        refine q_iinc B X3 d6_38 rfl rfl rfl ?_
        refine q_goto 3 B X3 d6_41 rfl rfl (by decide) ?_
        show G (T3.setTop (mkF m 3 #[oa a, oi ((Int32.ofNat i) + (1 : Int32)), oa b, oi ((Int32.ofNat i) + (1 : Int32)), oi (Int32.ofNat cs.length), oi ((Int32.ofNat i) + (1 : Int32)), oi (cs.getD i 0)] []))
        rw [own_inc i]
        exact ih (i + 1) _ _ _ _ _ (by omega) X3 e3 K3 O3 N3 V3 (by rw [List.length_set]; exact hl) (own_setNext (fun c => Value.int c.toInt8.toInt32) _ _ (by omega) (by rw [own_nb]) hv) (own_nextD (P := fun c => ¬ ((255 : Int32) < c)) hs hc20_2) (One.val rfl)
  exact loop cs.length 0 _ _ _ _ _ rfl X0 e0 (Keep.refl h0 [b]) O0 N0 (g1_V.pad (pad_rep [] (.int 0) cs.length)) (by simp) (fun j hj => absurd hj (Nat.not_lt_zero j)) (fun j hj => absurd hj (Nat.not_lt_zero j)) One.u
theorem own_nbl (hw : own_W Z a0) (n : Nat) (O0 : own_Old Z h0) (g0_hn : n < 1073741823) : own_Con l Z ⟨"java/lang/StringUTF16", "newBytesLength", "(I)I"⟩ jdk_52_method_3_code 1 (some .int) [] ⟨0, 0, 0, 0⟩ #[(.int (Int32.ofNat n))] h0 (fun rv rh rL => rv = some (.int (Int32.ofNat (2 * n))) ∧ own_Fr Z rL ∧ h0 = rh) := by
  refine own_st hw (plainFor_of_name (by decide +kernel)) #[oi (Int32.ofNat n)] (fun _ => rfl) fun p e s m below meth c s₁ G B hown hnm hret hZ X0 e0 N0 hR => ?_
  obtain ⟨hG, hx, hby, hml, -⟩ := id B
  refine q_iloadN B X0 d39_0 rfl rfl ?_
  refine q_ifYes 12 B X0 d39_1 rfl ((if0 _ _).trans (flt (own_nn (by omega))).2.1) rfl rfl (by decide) ?_
  refine q_iloadN B X0 d39_12 rfl rfl ?_
  refine hG _ _ (X0.ldcInt hx hown (mvT hZ (ow hw 203 rfl)) (g := (mkF m 13 #[oi (Int32.ofNat n)] [(.int (Int32.ofNat n))])) rfl (hb hby d39_13)) ?_
  refine q_icmpYes 55 B X0 d39_15 rfl (tlt (own_ltK g0_hn)).1 rfl rfl (by decide) ?_
  refine q_iloadN B X0 d39_55 rfl rfl ?_
  refine q_iconst B X0 d39_56 rfl ?_
  refine q_ishl B X0 d39_57 rfl rfl ?_
  show G (s₁.setTop (mkF m 58 #[oi (Int32.ofNat n)] [(.int ((Int32.ofNat n) <<< ((1 : Int32) &&& 31)))]))
  exact qRI B hR hret X0 d39_58 e0 ⟨(by rw [own_shl1]), N0, rfl⟩ (by decide)
theorem own_nbf (hw : own_W Z a0) (n : Nat) (O0 : own_Old Z h0) (g0_hn : n ≤ 3) : own_Con l Z ⟨"java/lang/StringUTF16", "newBytesFor", "(I)[B"⟩ jdk_52_method_2_code 1 (some (.array .byte)) [] ⟨1, 1, 6, 12⟩ #[(.int (Int32.ofNat n))] h0 (fun rv rh rL => ∃ (t : Addr) (kt : ClassId), rv = some (.ref t) ∧ own_Fr Z rL ∧ Keep h0 rh [] ∧ h0.size ≤ t ∧ (Arv Z rh t kt .byte (Int32.ofNat (2 * n)) [] (.int 0))) := by
  refine own_st hw (plainFor_of_name (by decide +kernel)) #[oi (Int32.ofNat n)] (fun _ => rfl) fun p e s m below meth c s₁ G B hown hnm hret hZ X0 e0 N0 hR => ?_
  refine q_iloadN B X0 d38_0 rfl rfl ?_
  show G (s₁.setTop (mkF m 1 #[oi (Int32.ofNat n)] [(.int (Int32.ofNat n))]))
  refine qS B X0 hZ hown 200 201 22 202 rfl rfl rfl rfl (own_nbl hw n O0 (by omega)) e0 own_pd4 rfl rfl d38_1 0 rfl rfl rfl (by decide) ?_
  rintro T1 h1 _ L1 X1 e1 ⟨rfl, M1, rfl⟩
  have N1 := Fr.app N0 M1
  refine qna 6 B X1 hZ 24 rfl e1 d38_4 (own_nn (by omega)) (by rw [own_clamp (by omega)]; omega) (by decide) fun T2 h2 k2 b2 z2 X2 e2 E2 A2 => ?_
  have K2 := (Keep.refl h0 []).ext E2
  have O2 := O0.ext E2
  have V2 : Arv Z h2 b2 k2 .byte (Int32.ofNat (2 * n)) [] (.int 0) := Arv.new A2 (own_nn (by omega))
  show G (T2.setTop (mkF m 6 #[oi (Int32.ofNat n)] [(.ref b2)]))
  exact qRA B hR hret rfl rfl X2 d38_6 e2 ⟨b2, k2, rfl, N1, K2, (Nat.le_trans (Keep.refl h0 []).1 (Nat.le_of_eq z2.symm)), V2⟩ (by decide)
theorem own_tob (hw : own_W Z a0) {a : Addr} {ka : ClassId} (cs : List Int32) (O0 : own_Old Z h0) (g0_V : Arv Z h0 a ka .char (Int32.ofNat cs.length) (cs.map Value.int) (.int 0)) (g1_hcap : cs.length ≤ 3) (g2_S : Sta Z Z.heap "java/lang/StringUTF16" "$assertionsDisabled" "Z" (.int 1)) (g3_S : Sta Z Z.heap "java/lang/StringUTF16" "HI_BYTE_SHIFT" "I" (.int 0)) (g4_S : Sta Z Z.heap "java/lang/StringUTF16" "LO_BYTE_SHIFT" "I" (.int 8)) : own_Con l Z ⟨"java/lang/StringUTF16", "toBytes", "([CII)[B"⟩ jdk_52_method_14_code 5 (some (.array .byte)) [] ⟨2, 1, 6, 24⟩ #[(.ref a), (.int 0), (.int (Int32.ofNat cs.length))] h0 (fun rv rh rL => ∃ (t : Addr) (kt : ClassId) (vs : List Value), rv = some (.ref t) ∧ own_Fr Z rL ∧ Keep h0 rh [] ∧ h0.size ≤ t ∧ (Arv Z rh t kt .byte (Int32.ofNat (2 * cs.length)) vs (.int 0)) ∧ (own_is16 cs vs)) := by
  refine own_st hw (plainFor_of_name (by decide +kernel)) #[oa a, oi 0, oi (Int32.ofNat cs.length), .unset, .unset] (fun m => by first | (simp [entryFrame, mkF, argsToLocals, Value.category]; done) | rfl) fun p e s m below meth c s₁ G B hown hnm hret hZ X0 e0 N0 hR => ?_
  refine q_iloadN B X0 d37_0 rfl rfl ?_
  show G (s₁.setTop (mkF m 1 #[oa a, oi 0, oi (Int32.ofNat cs.length), .unset, .unset] [(.int (Int32.ofNat cs.length))]))
  refine qS B X0 hZ hown 197 198 22 199 rfl rfl rfl rfl (own_nbf hw cs.length O0 g1_hcap) e0 own_pd5 rfl rfl d37_1 0 rfl rfl rfl (by decide) ?_
  rintro T1 h1 _ L1 X1 e1 ⟨t_1, kt_1, rfl, M1, J1, y1_0, r1_0⟩
  have N1 := Fr.app N0 M1
  have K1 := (Keep.refl h0 []).trans J1 all0
  have O1 := O0.keep J1 all0
  refine q_astoreN B X1 d37_4 rfl rfl rfl rfl ?_
  refine q_iconst B X1 d37_5 rfl ?_
  refine q_istore B X1 d37_6 rfl rfl rfl ?_
  show G (T1.setTop (mkF m 8 #[oa a, oi 0, oi (Int32.ofNat cs.length), oa t_1, oi 0] []))
  have loop : ∀ (r i : Nat) (T : State) (locs : List Loc) (hT : Heap) (vs : List Value), r + i = cs.length → Stand p l e ⟨2, 1, 6, 24⟩ s m #[(.ref a), (.int 0), (.int (Int32.ofNat cs.length))] below meth c T locs 1 6 → T.heap = hT → Keep h0 hT [] → own_Old Z hT → own_Fr Z locs → Arv Z hT t_1 kt_1 .byte (Int32.ofNat (2 * cs.length)) vs (.int 0) → vs.length = 2 * cs.length → (∀ j, j < i → vs.getD (2 * j) (.int 0) = .int (own_lo (cs.getD j 0)) ∧ vs.getD (2 * j + 1) (.int 0) = .int (own_hi (cs.getD j 0))) → G (T.setTop (mkF m 8 #[oa a, oi (Int32.ofNat i), oi (Int32.ofNat cs.length), oa t_1, oi (Int32.ofNat i)] [])) := by
    intro r
    induction r with
    | zero =>
      intro i T locs hT vs hri X eT K O N V hl hv
      have hi : i = cs.length := by omega
      subst hi
      refine q_iload B X d37_8 rfl rfl ?_
      refine q_iloadN B X d37_10 rfl rfl ?_
      refine q_icmpYes 32 B X d37_11 rfl (flt (own_nlt (Nat.le_refl _) (by omega))).2.1 rfl rfl (by decide) ?_
      refine q_aloadN B X d37_32 rfl rfl rfl ?_
      show G (T.setTop (mkF m 33 #[oa a, oi (Int32.ofNat cs.length), oi (Int32.ofNat cs.length), oa t_1, oi (Int32.ofNat cs.length)] [(.ref t_1)]))
      exact qRA B hR hret rfl rfl X d37_33 eT ⟨t_1, kt_1, vs, rfl, N, K, (Nat.le_trans (Keep.refl h0 []).1 y1_0), V, ⟨hl, hv⟩⟩ (by decide)
    | succ r ih =>
      intro i T locs hT vs hri X eT K O N V hl hv
      have hi : i < cs.length := by omega
      refine q_iload B X d37_8 rfl rfl ?_
      refine q_iloadN B X d37_10 rfl rfl ?_
      refine q_icmpNo B X d37_11 rfl (tlt (own_lt hi (by omega))).2.1 rfl ?_
      refine q_aloadN B X d37_14 rfl rfl rfl ?_
      refine q_iload B X d37_15 rfl rfl ?_
      refine q_aloadN B X d37_17 rfl rfl rfl ?_
      refine q_iloadN B X d37_18 rfl rfl ?_
      refine qlc (v := (.int (cs.getD i 0))) B X hZ eT (g0_V.keep K nin0) d37_19 ⟨own_nn (by omega), own_lt hi (by omega)⟩ (by rw [own_clamp (by omega)]; exact own_getD_map Value.int cs i _ 0 hi) ?_
      show G (T.setTop (mkF m 20 #[oa a, oi (Int32.ofNat i), oi (Int32.ofNat cs.length), oa t_1, oi (Int32.ofNat i)] [(.int (cs.getD i 0)), (.int (Int32.ofNat i)), (.ref t_1)]))
      refine qS B X hZ hown 204 205 22 206 rfl rfl rfl rfl (own_put hw (2 * cs.length) i (cs.getD i 0) O V (own_ge O0 y1_0) (by omega) (by omega) hl g2_S g3_S g4_S) eT own_pd1 rfl rfl d37_20 0 rfl rfl rfl (by decide) ?_
      rintro T3 h3 _ L3 X3 e3 ⟨rfl, M3, J3, r3_0⟩
      have N3 := Fr.app N M3
      have K3 := K.trans J3 (allS (Or.inr (Nat.le_trans (Keep.refl h0 []).1 y1_0)) all0)
      have O3 := O.keep J3 (allS (own_ge O0 y1_0) all0)
      refine q_iinc B X3 d37_23 rfl rfl rfl ?_
      refine q_iinc B X3 d37_26 rfl rfl rfl ?_
      refine q_goto 8 B X3 d37_29 rfl rfl (by decide) ?_
      show G (T3.setTop (mkF m 8 #[oa a, oi ((Int32.ofNat i) + (1 : Int32)), oi (Int32.ofNat cs.length), oa t_1, oi ((Int32.ofNat i) + (1 : Int32))] []))
      rw [own_inc i]
      exact ih (i + 1) _ _ _ _ (by omega) X3 e3 K3 O3 N3 r3_0 (by rw [List.length_set, List.length_set]; exact hl) (own_set16 hl hi hv)
  exact loop cs.length 0 _ _ _ _ rfl X1 e1 K1 O1 N1 (r1_0.pad (pad_rep [] (.int 0) (2 * cs.length))) (by simp) (fun j hj => absurd hj (Nat.not_lt_zero j))
theorem own_gcmp3 (hw : own_W Z a0) {a : Addr} {ka : ClassId} (cs : List Int32) (O0 : own_Old Z h0) (g0_V : Arv Z h0 a ka .char (Int32.ofNat cs.length) (cs.map Value.int) (.int 0)) (g1_hcap : cs.length ≤ 3) (g2_h16 : ∀ c ∈ cs, 0 ≤ c.toInt ∧ c.toInt ≤ 65535) (g3_S : Sta Z Z.heap "java/lang/StringUTF16" "$assertionsDisabled" "Z" (.int 1)) (g4_S : Sta Z Z.heap "java/lang/StringUTF16" "HI_BYTE_SHIFT" "I" (.int 0)) (g5_S : Sta Z Z.heap "java/lang/StringUTF16" "LO_BYTE_SHIFT" "I" (.int 8)) : own_Con l Z ⟨"java/lang/StringUTF16", "compress", "([CII)[B"⟩ jdk_52_method_16_code 6 (some (.array .byte)) [] ⟨3, 2, 9, 40⟩ #[(.ref a), (.int 0), (.int (Int32.ofNat cs.length))] h0 (fun rv rh rL => ∃ (t : Addr) (kt : ClassId) (nb : Int32) (vs : List Value), rv = some (.ref t) ∧ own_Fr Z rL ∧ Keep h0 rh [] ∧ h0.size ≤ t ∧ (Arv Z rh t kt .byte nb vs (.int 0)) ∧ (((∀ c ∈ cs, ¬ ((255 : Int32) < c)) ∧ nb = (Int32.ofNat cs.length) ∧ vs = (cs.map fun c => Value.int c.toInt8.toInt32)) ∨ ((∃ k, k < cs.length ∧ (255 : Int32) < cs.getD k 0) ∧ nb = (Int32.ofNat (2 * cs.length)) ∧ own_is16 cs vs))) := by
  refine own_st hw (plainFor_of_name (by decide +kernel)) #[oa a, oi 0, oi (Int32.ofNat cs.length), .unset, .unset, .unset] (fun m => by first | (simp [entryFrame, mkF, argsToLocals, Value.category]; done) | rfl) fun p e s m below meth c s₁ G B hown hnm hret hZ X0 e0 N0 hR => ?_
  refine q_iloadN B X0 d5_0 rfl rfl ?_
  refine qna 3 B X0 hZ 24 rfl e0 d5_1 (own_nn (by omega)) (by rw [own_clamp (by omega)]; exact g1_hcap) (by decide) fun T1 h1 k1 b1 z1 X1 e1 E1 A1 => ?_
  have K1 := (Keep.refl h0 []).ext E1
  have O1 := O0.ext E1
  have V1 : Arv Z h1 b1 k1 .byte (Int32.ofNat cs.length) [] (.int 0) := Arv.new A1 (own_nn (by omega))
  refine q_astoreN B X1 d5_3 rfl rfl rfl rfl ?_
  refine q_aloadN B X1 d5_4 rfl rfl rfl ?_
  refine q_iloadN B X1 d5_5 rfl rfl ?_
  refine q_aloadN B X1 d5_6 rfl rfl rfl ?_
  refine q_iconst B X1 d5_7 rfl ?_
  refine q_iloadN B X1 d5_8 rfl rfl ?_
  show G (T1.setTop (mkF m 9 #[oa a, oi 0, oi (Int32.ofNat cs.length), oa b1, .unset, .unset] [(.int (Int32.ofNat cs.length)), (.int 0), (.ref b1), (.int 0), (.ref a)]))
  have f3 := (g0_V.ext E1)
  refine qS B X1 hZ hown 25 26 22 27 rfl rfl rfl rfl (own_gcmp5 hw cs O1 f3 V1 (own_ge O0 (Nat.le_of_eq z1.symm)) (own_ne g0_V.lt (Nat.le_of_eq z1.symm)) (by omega)) e1 own_pd3 rfl rfl d5_9 0 rfl rfl rfl (by decide) ?_
  rintro T2 h2 _ L2 X2 e2 ⟨r_2, vs_2, rfl, M2, J2, r2_0, r2_1⟩
  have N2 := Fr.app N0 M2
  have K2 := K1.trans J2 (allS (Or.inr (Nat.le_trans (Keep.refl h0 []).1 (Nat.le_of_eq z1.symm))) all0)
  have O2 := O1.keep J2 (allS (own_ge O0 (Nat.le_of_eq z1.symm)) all0)
  show G (T2.setTop (mkF m 12 #[oa a, oi 0, oi (Int32.ofNat cs.length), oa b1, .unset, .unset] [(.int r_2)]))
  rcases r2_1 with ⟨rfl, hall, rfl⟩ | ⟨kq, hkq, rfl, hbig⟩
  · skip
    show G (T2.setTop (mkF m 12 #[oa a, oi 0, oi (Int32.ofNat cs.length), oa b1, .unset, .unset] [(.int (Int32.ofNat cs.length))]))
    refine q_istore B X2 d5_12 rfl rfl rfl ?_
    refine q_iload B X2 d5_14 rfl rfl ?_
    refine q_iloadN B X2 d5_16 rfl rfl ?_
    refine q_icmpYes 57 B X2 d5_17 rfl (teq (rfl : (Int32.ofNat cs.length) = (Int32.ofNat cs.length))).1 rfl rfl (by decide) ?_
    refine q_aloadN B X2 d5_57 rfl rfl rfl ?_
    show G (T2.setTop (mkF m 58 #[oa a, oi 0, oi (Int32.ofNat cs.length), oa b1, oi (Int32.ofNat cs.length), .unset] [(.ref b1)]))
    exact qRA B hR hret rfl rfl X2 d5_58 e2 ⟨b1, k1, (Int32.ofNat cs.length), (cs.map fun c => Value.int c.toInt8.toInt32), rfl, N2, K2, (Nat.le_trans (Keep.refl h0 []).1 (Nat.le_of_eq z1.symm)), r2_0, (Or.inl ⟨hall, rfl, rfl⟩)⟩ (by decide)
  · skip
    show G (T2.setTop (mkF m 12 #[oa a, oi 0, oi (Int32.ofNat cs.length), oa b1, .unset, .unset] [(.int (Int32.ofNat kq))]))
    refine q_istore B X2 d5_12 rfl rfl rfl ?_
    refine q_iload B X2 d5_14 rfl rfl ?_
    refine q_iloadN B X2 d5_16 rfl rfl ?_
    refine q_icmpNo B X2 d5_17 rfl (feq (own_ofNat_ne hkq (by omega))).1 rfl ?_
    refine q_aloadN B X2 d5_20 rfl rfl rfl ?_
    refine q_iloadN B X2 d5_21 rfl rfl ?_
    refine q_iloadN B X2 d5_22 rfl rfl ?_
    show G (T2.setTop (mkF m 23 #[oa a, oi 0, oi (Int32.ofNat cs.length), oa b1, oi (Int32.ofNat kq), .unset] [(.int (Int32.ofNat cs.length)), (.int 0), (.ref a)]))
    have f5 := (f3.keep J2 (ninS (own_ne g0_V.lt (Nat.le_of_eq z1.symm)) nin0))
    refine qS B X2 hZ hown 194 195 22 196 rfl rfl rfl rfl (own_tob hw cs O2 f5 g1_hcap g3_S g4_S g5_S) e2 own_pd6 rfl rfl d5_23 0 rfl rfl rfl (by decide) ?_
    rintro T4 h4 _ L4 X4 e4 ⟨t_4, kt_4, vs_4, rfl, M4, J4, y4_0, r4_0, r4_1⟩
    have N4 := Fr.app N2 M4
    have K4 := K2.trans J4 all0
    have O4 := O2.keep J4 all0
    refine q_astore B X4 d5_26 rfl rfl rfl rfl ?_
    refine q_aload B X4 d5_28 rfl rfl rfl ?_
    refine q_iload B X4 d5_30 rfl rfl ?_
    show G (T4.setTop (mkF m 32 #[oa a, oi 0, oi (Int32.ofNat cs.length), oa b1, oi (Int32.ofNat kq), oa t_4] [(.int (Int32.ofNat kq)), (.ref t_4)]))
    refine qS B X4 hZ hown 210 211 22 212 rfl rfl rfl rfl (own_gch hw (2 * cs.length) kq (own_lo (cs.getD kq 0)) (own_hi (cs.getD kq 0)) O4 r4_0 (by omega) (by omega) (r4_1.2 kq hkq).1 (r4_1.2 kq hkq).2 g3_S g4_S g5_S) e4 own_pd2 rfl rfl d5_32 0 rfl rfl rfl (by decide) ?_
    rintro T6 h6 _ L6 X6 e6 ⟨rfl, M6, rfl⟩
    have N6 := Fr.app N4 M6
    show G (T6.setTop (mkF m 35 #[oa a, oi 0, oi (Int32.ofNat cs.length), oa b1, oi (Int32.ofNat kq), oa t_4] [(.int (own_join (own_lo (cs.getD kq 0)) (own_hi (cs.getD kq 0))))]))
    rw [own_join_eq (g2_h16 _ (own_getD_mem cs kq 0 hkq))]
    show G (T6.setTop (mkF m 35 #[oa a, oi 0, oi (Int32.ofNat cs.length), oa b1, oi (Int32.ofNat kq), oa t_4] [(.int (cs.getD kq 0))]))
    refine q_sipush B X6 d5_35 rfl ?_
    refine q_icmpYes 54 B X6 d5_38 rfl (tlt hbig).2.2.1 rfl rfl (by decide) ?_
    refine q_aload B X6 d5_54 rfl rfl rfl ?_
    show G (T6.setTop (mkF m 56 #[oa a, oi 0, oi (Int32.ofNat cs.length), oa b1, oi (Int32.ofNat kq), oa t_4] [(.ref t_4)]))
    exact qRA B hR hret rfl rfl X6 d5_56 e6 ⟨t_4, kt_4, (Int32.ofNat (2 * cs.length)), vs_4, rfl, N6, K4, (Nat.le_trans K2.1 y4_0), r4_0, (Or.inr ⟨⟨kq, hkq, hbig⟩, rfl, r4_1⟩)⟩ (by decide)
theorem own_coder (hw : own_W Z a0) {t : Addr} (n : Int32) {kt : ClassId} {n2 : Int32} {vs : List Value} (r : Int32) (O0 : own_Old Z h0) (g0_V : Arv Z h0 t kt .byte n2 vs (.int 0)) (g1_hr : nar .byte ((((n - n2).toUInt32 >>> ((31 : Int32) &&& 31).toUInt32).toInt32).toInt8.toInt32) = r) : own_Con l Z ⟨"java/lang/StringUTF16", "coderFromArrayLen", "([BI)B"⟩ jdk_52_method_15_code 2 (some .byte) [] ⟨0, 0, 0, 0⟩ #[(.ref t), (.int n)] h0 (fun rv rh rL => rv = some (.int r) ∧ own_Fr Z rL ∧ h0 = rh) := by
  refine own_st hw (plainFor_of_name (by decide +kernel)) #[oa t, oi n] (fun _ => rfl) fun p e s m below meth c s₁ G B hown hnm hret hZ X0 e0 N0 hR => ?_
  refine q_iloadN B X0 d7_0 rfl rfl ?_
  refine q_aloadN B X0 d7_1 rfl rfl rfl ?_
  refine qal B X0 hZ e0 g0_V d7_2 ?_
  refine q_isub B X0 d7_3 rfl rfl ?_
  refine q_bipush B X0 d7_4 rfl ?_
  refine q_iushr B X0 d7_6 rfl rfl ?_
  refine q_i2b B X0 d7_7 rfl rfl ?_
  show G (s₁.setTop (mkF m 8 #[oa t, oi n] [(.int ((((n - n2).toUInt32 >>> ((31 : Int32) &&& 31).toUInt32).toInt32).toInt8.toInt32))]))
  exact qRN B hR hret (by simp) X0 d7_8 e0 ⟨(by rw [g1_hr]), N0, rfl⟩ (by decide)
theorem own_gstr4 (hw : own_W Z a0) {a u : Addr} {ku : ClassId} (cs : List Int32) {cpt : Int32} {v0 v1 : Value} (O0 : own_Old Z h0) (g0_E : Exa Z h0 a "java/lang/String") (g1_F : Fld Z h0 a "java/lang/String" "coder" "B" v0) (g2_F : Fld Z h0 a "java/lang/String" "value" "[B" v1) (g3_G : Z.heap.size ≤ a) (g4_V : Arv Z h0 u ku .char (Int32.ofNat cs.length) (cs.map Value.int) (.int 0)) (g5_hpos : 0 < cs.length) (g6_hcap : cs.length ≤ 3) (g7_h16 : ∀ c ∈ cs, 0 ≤ c.toInt ∧ c.toInt ≤ 65535) (g8_S : Sta Z Z.heap "java/lang/String" "COMPACT_STRINGS" "Z" (.int cpt)) (g9_hcpt : ¬ (cpt = (0 : Int32))) (g10_S : Sta Z Z.heap "java/lang/StringUTF16" "$assertionsDisabled" "Z" (.int 1)) (g11_S : Sta Z Z.heap "java/lang/StringUTF16" "HI_BYTE_SHIFT" "I" (.int 0)) (g12_S : Sta Z Z.heap "java/lang/StringUTF16" "LO_BYTE_SHIFT" "I" (.int 8)) : own_Con l Z ⟨"java/lang/String", "<init>", "([CIILjava/lang/Void;)V"⟩ jdk_42_method_149_code 6 none [] ⟨4, 2, 9, 57⟩ #[(.ref a), (.ref u), (.int 0), (.int (Int32.ofNat cs.length)), .null] h0 (fun rv rh rL => ∃ (t : Addr) (kt : ClassId) (cd : Int32) (nb : Int32) (vs : List Value), rv = none ∧ own_Fr Z rL ∧ Keep h0 rh [a] ∧ h0.size ≤ t ∧ (Exa Z rh a "java/lang/String") ∧ (Fld Z rh a "java/lang/String" "coder" "B" (.int cd)) ∧ (Fld Z rh a "java/lang/String" "value" "[B" (.ref t)) ∧ (Arv Z rh t kt .byte nb vs (.int 0)) ∧ (own_enc cs cd nb vs)) := by
  refine own_st hw (plainFor_of_name (by decide +kernel)) #[oa a, oa u, oi 0, oi (Int32.ofNat cs.length), .val .null, .unset] (fun m => by first | (simp [entryFrame, mkF, argsToLocals, Value.category]; done) | rfl) fun p e s m below meth c s₁ G B hown hnm hret hZ X0 e0 N0 hR => ?_
  obtain ⟨hG, hx, hby, hml, -⟩ := id B
  refine q_aloadN B X0 d3_0 rfl rfl rfl ?_
  show G (s₁.setTop (mkF m 1 #[oa a, oa u, oi 0, oi (Int32.ofNat cs.length), .val .null, .unset] [(.ref a)]))
  obtain ⟨T1, X1, e1, st1⟩ := initO X0 hx hZ hown (ow hw 16 rfl) (ow hw 17 rfl) (ow hw 18 rfl) e0 (g := (mkF m 1 #[oa a, oa u, oi 0, oi (Int32.ofNat cs.length), .val .null, .unset] [(.ref a)])) rfl (by rw [hml]; rfl) rfl (hb hby d3_1) (by decide) (W := 0) (by show 2 * 0 + _ ≤ _; exact Nat.le_of_eq rfl) (by decide)
  refine hG _ _ st1 ?_
  show G (T1.setTop (mkF m 4 #[oa a, oa u, oi 0, oi (Int32.ofNat cs.length), .val .null, .unset] []))
  refine q_iloadN B X1 d3_4 rfl rfl ?_
  refine q_ifYes 27 B X1 d3_5 rfl ((if0 _ _).trans (feq (fun q => Nat.ne_of_gt g5_hpos (own_ofNat_inj (by omega) (by decide) q))).2) rfl rfl (by decide) ?_
  refine qgs B X1 hZ hown 19 rfl Via.refl e1 g8_S O0 d3_27 fun T2 X2 e2 => ?_
  refine q_ifNo B X2 d3_30 rfl ((if0 _ _).trans (feq g9_hcpt).1) rfl ?_
  refine q_aloadN B X2 d3_33 rfl rfl rfl ?_
  refine q_iloadN B X2 d3_34 rfl rfl ?_
  refine q_iloadN B X2 d3_35 rfl rfl ?_
  show G (T2.setTop (mkF m 36 #[oa a, oa u, oi 0, oi (Int32.ofNat cs.length), .val .null, .unset] [(.int (Int32.ofNat cs.length)), (.int 0), (.ref u)]))
  refine qS B X2 hZ hown 20 21 22 23 rfl rfl rfl rfl (own_gcmp3 hw cs O0 g4_V g6_hcap g7_h16 g10_S g11_S g12_S) e2 own_pd6 rfl rfl d3_36 0 rfl rfl rfl (by decide) ?_
  rintro T3 h3 _ L3 X3 e3 ⟨t_3, kt_3, nb_3, vs_3, rfl, M3, J3, y3_0, r3_0, r3_1⟩
  have N3 := Fr.app N0 M3
  have K3 := (Keep.refl h0 [a]).trans J3 all0
  have O3 := O0.keep J3 all0
  show G (T3.setTop (mkF m 39 #[oa a, oa u, oi 0, oi (Int32.ofNat cs.length), .val .null, .unset] [(.ref t_3)]))
  rcases r3_1 with ⟨hall, rfl, rfl⟩ | ⟨hbig, rfl, h16⟩
  · skip
    show G (T3.setTop (mkF m 39 #[oa a, oa u, oi 0, oi (Int32.ofNat cs.length), .val .null, .unset] [(.ref t_3)]))
    refine q_astore B X3 d3_39 rfl rfl rfl rfl ?_
    refine q_aloadN B X3 d3_41 rfl rfl rfl ?_
    refine q_aload B X3 d3_42 rfl rfl rfl ?_
    refine q_iloadN B X3 d3_44 rfl rfl ?_
    show G (T3.setTop (mkF m 45 #[oa a, oa u, oi 0, oi (Int32.ofNat cs.length), .val .null, oa t_3] [(.int (Int32.ofNat cs.length)), (.ref t_3), (.ref a)]))
    refine qS B X3 hZ hown 28 29 22 30 rfl rfl rfl rfl (own_coder hw (Int32.ofNat cs.length) (0 : Int32) O3 r3_0 (own_coder0 _)) e3 own_pd7 rfl rfl d3_45 1 rfl rfl rfl (by decide) ?_
    rintro T4 h4 _ L4 X4 e4 ⟨rfl, M4, rfl⟩
    have N4 := Fr.app N3 M4
    have f6 := (g1_F.keep J3 nin0)
    have f7 := (g0_E.keep J3)
    refine qpn (.int 0) B X4 hZ hown 31 7 rfl rfl Via.refl e4 f6 f7 (Or.inr ⟨(ow hw 32 rfl), rfl, hnm⟩) (ty := .byte) (by decide) rfl rfl d3_48 fun T5 h5 X5 e5 W5 => ?_
    have K5 := K3.wr W5 (own_mi 0 rfl)
    have O5 := O3.wr W5 g3_G
    have N5 := Fr.snoc X5 N4 g3_G
    refine q_aloadN B X5 d3_51 rfl rfl rfl ?_
    refine q_aload B X5 d3_52 rfl rfl rfl ?_
    have f9 := ((g2_F.keep J3 nin0).other W5 (Or.inr (slot_ne (Or.inr (ow hw 34 rfl)) (Or.inr (ow hw 32 rfl)) (by decide) (t := (.array .byte)) (t' := .byte) (by decide) (by decide))))
    have f10 := (f7.wr W5)
    refine qpf B X5 hZ hown 33 7 rfl rfl Via.refl e5 f9 f10 (Or.inr ⟨(ow hw 34 rfl), rfl, hnm⟩) (ty := (.array .byte)) (by decide) rfl rfl d3_54 fun T8 h8 X8 e8 W8 => ?_
    have K8 := K5.wr W8 (own_mi 0 rfl)
    have O8 := O5.wr W8 g3_G
    have N8 := Fr.snoc X8 N5 g3_G
    show G (T8.setTop (mkF m 57 #[oa a, oa u, oi 0, oi (Int32.ofNat cs.length), .val .null, oa t_3] []))
    have f11 := (f10.wr W8)
    have f12 := ((f6.same W5).other W8 (Or.inr (slot_ne (Or.inr (ow hw 32 rfl)) (Or.inr (ow hw 34 rfl)) (by decide) (t := .byte) (t' := (.array .byte)) (by decide) (by decide))))
    have f13 := ((r3_0.other W5 (Ne.symm (own_ne g0_E.lt y3_0))).other W8 (Ne.symm (own_ne g0_E.lt y3_0)))
    exact qRV B hR hret X8 d3_57 e8 ⟨t_3, kt_3, (0 : Int32), (Int32.ofNat cs.length), (cs.map fun c => Value.int c.toInt8.toInt32), rfl, N8, K8, (Nat.le_trans (Keep.refl h0 [a]).1 y3_0), f11, f12, (f9.same W8), f13, (Or.inl ⟨hall, rfl, rfl, rfl⟩)⟩ (by decide)
  · skip
    show G (T3.setTop (mkF m 39 #[oa a, oa u, oi 0, oi (Int32.ofNat cs.length), .val .null, .unset] [(.ref t_3)]))
    refine q_astore B X3 d3_39 rfl rfl rfl rfl ?_
    refine q_aloadN B X3 d3_41 rfl rfl rfl ?_
    refine q_aload B X3 d3_42 rfl rfl rfl ?_
    refine q_iloadN B X3 d3_44 rfl rfl ?_
    show G (T3.setTop (mkF m 45 #[oa a, oa u, oi 0, oi (Int32.ofNat cs.length), .val .null, oa t_3] [(.int (Int32.ofNat cs.length)), (.ref t_3), (.ref a)]))
    refine qS B X3 hZ hown 28 29 22 30 rfl rfl rfl rfl (own_coder hw (Int32.ofNat cs.length) (1 : Int32) O3 r3_0 (own_coder1 g5_hpos (by omega))) e3 own_pd7 rfl rfl d3_45 1 rfl rfl rfl (by decide) ?_
    rintro T14 h14 _ L14 X14 e14 ⟨rfl, M14, rfl⟩
    have N14 := Fr.app N3 M14
    have f16 := (g1_F.keep J3 nin0)
    have f17 := (g0_E.keep J3)
    refine qpn (.int 1) B X14 hZ hown 31 7 rfl rfl Via.refl e14 f16 f17 (Or.inr ⟨(ow hw 32 rfl), rfl, hnm⟩) (ty := .byte) (by decide) rfl rfl d3_48 fun T15 h15 X15 e15 W15 => ?_
    have K15 := K3.wr W15 (own_mi 0 rfl)
    have O15 := O3.wr W15 g3_G
    have N15 := Fr.snoc X15 N14 g3_G
    refine q_aloadN B X15 d3_51 rfl rfl rfl ?_
    refine q_aload B X15 d3_52 rfl rfl rfl ?_
    have f19 := ((g2_F.keep J3 nin0).other W15 (Or.inr (slot_ne (Or.inr (ow hw 34 rfl)) (Or.inr (ow hw 32 rfl)) (by decide) (t := (.array .byte)) (t' := .byte) (by decide) (by decide))))
    have f20 := (f17.wr W15)
    refine qpf B X15 hZ hown 33 7 rfl rfl Via.refl e15 f19 f20 (Or.inr ⟨(ow hw 34 rfl), rfl, hnm⟩) (ty := (.array .byte)) (by decide) rfl rfl d3_54 fun T18 h18 X18 e18 W18 => ?_
    have K18 := K15.wr W18 (own_mi 0 rfl)
    have O18 := O15.wr W18 g3_G
    have N18 := Fr.snoc X18 N15 g3_G
    show G (T18.setTop (mkF m 57 #[oa a, oa u, oi 0, oi (Int32.ofNat cs.length), .val .null, oa t_3] []))
    have f21 := (f20.wr W18)
    have f22 := ((f16.same W15).other W18 (Or.inr (slot_ne (Or.inr (ow hw 32 rfl)) (Or.inr (ow hw 34 rfl)) (by decide) (t := .byte) (t' := (.array .byte)) (by decide) (by decide))))
    have f23 := ((r3_0.other W15 (Ne.symm (own_ne g0_E.lt y3_0))).other W18 (Ne.symm (own_ne g0_E.lt y3_0)))
    exact qRV B hR hret X18 d3_57 e18 ⟨t_3, kt_3, (1 : Int32), (Int32.ofNat (2 * cs.length)), vs_3, rfl, N18, K18, (Nat.le_trans (Keep.refl h0 [a]).1 y3_0), f21, f22, (f19.same W18), f23, (Or.inr ⟨hbig, rfl, rfl, h16⟩)⟩ (by decide)
theorem own_gstr1 (hw : own_W Z a0) {a u : Addr} {ku : ClassId} (cs : List Int32) {cpt : Int32} {v0 v1 : Value} (O0 : own_Old Z h0) (g0_E : Exa Z h0 a "java/lang/String") (g1_F : Fld Z h0 a "java/lang/String" "coder" "B" v0) (g2_F : Fld Z h0 a "java/lang/String" "value" "[B" v1) (g3_G : Z.heap.size ≤ a) (g4_V : Arv Z h0 u ku .char (Int32.ofNat cs.length) (cs.map Value.int) (.int 0)) (g5_hpos : 0 < cs.length) (g6_hcap : cs.length ≤ 3) (g7_h16 : ∀ c ∈ cs, 0 ≤ c.toInt ∧ c.toInt ≤ 65535) (g8_S : Sta Z Z.heap "java/lang/String" "COMPACT_STRINGS" "Z" (.int cpt)) (g9_hcpt : ¬ (cpt = (0 : Int32))) (g10_S : Sta Z Z.heap "java/lang/StringUTF16" "$assertionsDisabled" "Z" (.int 1)) (g11_S : Sta Z Z.heap "java/lang/StringUTF16" "HI_BYTE_SHIFT" "I" (.int 0)) (g12_S : Sta Z Z.heap "java/lang/StringUTF16" "LO_BYTE_SHIFT" "I" (.int 8)) : own_Con l Z ⟨"java/lang/String", "<init>", "([C)V"⟩ jdk_42_method_3_code 2 none [] ⟨5, 2, 9, 74⟩ #[(.ref a), (.ref u)] h0 (fun rv rh rL => ∃ (t : Addr) (kt : ClassId) (cd : Int32) (nb : Int32) (vs : List Value), rv = none ∧ own_Fr Z rL ∧ Keep h0 rh [a] ∧ h0.size ≤ t ∧ (Exa Z rh a "java/lang/String") ∧ (Fld Z rh a "java/lang/String" "coder" "B" (.int cd)) ∧ (Fld Z rh a "java/lang/String" "value" "[B" (.ref t)) ∧ (Arv Z rh t kt .byte nb vs (.int 0)) ∧ (own_enc cs cd nb vs)) := by
  refine own_st hw (plainFor_of_name (by decide +kernel)) #[oa a, oa u] (fun _ => rfl) fun p e s m below meth c s₁ G B hown hnm hret hZ X0 e0 N0 hR => ?_
  refine q_aloadN B X0 d2_0 rfl rfl rfl ?_
  refine q_aloadN B X0 d2_1 rfl rfl rfl ?_
  refine q_iconst B X0 d2_2 rfl ?_
  refine q_aloadN B X0 d2_3 rfl rfl rfl ?_
  refine qal B X0 hZ e0 g4_V d2_4 ?_
  refine q_aconstNull B X0 d2_5 rfl ?_
  show G (s₁.setTop (mkF m 6 #[oa a, oa u] [.null, (.int (Int32.ofNat cs.length)), (.int 0), (.ref u), (.ref a)]))
  refine qI B X0 hZ hown 12 13 8 15 rfl rfl rfl rfl rfl (own_gstr4 hw cs O0 g0_E g1_F g2_F g3_G g4_V g5_hpos g6_hcap g7_h16 g8_S g9_hcpt g10_S g11_S g12_S) e0 own_pd8 rfl rfl d2_6 0 rfl rfl rfl (by decide) ?_
  rintro T2 h2 _ L2 X2 e2 ⟨t_2, kt_2, cd_2, nb_2, vs_2, rfl, M2, J2, y2_0, r2_0, r2_1, r2_2, r2_3, r2_4⟩
  have N2 := Fr.app N0 M2
  have K2 := (Keep.refl h0 [a]).trans J2 (allS (own_mi 0 rfl) all0)
  have O2 := O0.keep J2 (allS g3_G all0)
  show G (T2.setTop (mkF m 9 #[oa a, oa u] []))
  exact qRV B hR hret X2 d2_9 e2 ⟨t_2, kt_2, cd_2, nb_2, vs_2, rfl, N2, K2, (Nat.le_trans (Keep.refl h0 [a]).1 y2_0), r2_0, r2_1, r2_2, r2_3, r2_4⟩ (by decide)
theorem own_str4E (hw : own_W Z a0) (hEL : EW Z a0 consts_1) {a : Addr} (u : Addr) {v0 : Value} (O0 : own_Old Z h0) (g0_E : Exa Z h0 a "java/lang/String") (g1_F : Fld Z h0 a "java/lang/String" "coder" "B" v0) (g2_F : Fld Z h0 a "java/lang/String" "value" "[B" .null) (g3_G : Z.heap.size ≤ a) : own_ConW l Z consts_1 ⟨"java/lang/String", "<init>", "([CIILjava/lang/Void;)V"⟩ jdk_42_method_149_code 6 none [] ⟨1, 2, 4, 12⟩ #[(.ref a), (.ref u), (.int 0), (.int 0), .null] h0 (fun rv rh rL => ∃ (t : Addr) (kt : ClassId), rv = none ∧ own_Fr Z rL ∧ Keep h0 rh [a] ∧ (Exa Z rh a "java/lang/String") ∧ (Fld Z rh a "java/lang/String" "coder" "B" (.int 0)) ∧ (Fld Z rh a "java/lang/String" "value" "[B" (.ref t)) ∧ (Arv Z rh t kt .byte (0 : Int32) [] (.int 0))) := by
  refine own_stW hw hEL (plainFor_of_name (by decide +kernel)) #[oa a, oa u, oi 0, oi 0, .val .null, .unset] (fun m => by first | (simp [entryFrame, mkF, argsToLocals, Value.category]; done) | rfl) fun p e s m below meth c s₁ G B hown hnm hret hZ X0 e0 H0 SI0 N0 hR => ?_
  obtain ⟨hG, hx, hby, hml, -⟩ := id B
  refine q_aloadN B X0 d3_0 rfl rfl rfl ?_
  show G (s₁.setTop (mkF m 1 #[oa a, oa u, oi 0, oi 0, .val .null, .unset] [(.ref a)]))
  obtain ⟨T1, X1, e1, st1⟩ := initO X0 hx hZ hown (ow hw 16 rfl) (ow hw 17 rfl) (ow hw 18 rfl) e0 (g := (mkF m 1 #[oa a, oa u, oi 0, oi 0, .val .null, .unset] [(.ref a)])) rfl (by rw [hml]; rfl) rfl (hb hby d3_1) (by decide) (W := 0) (by show 2 * 0 + _ ≤ _; exact Nat.le_of_eq rfl) (by decide)
  refine hG _ _ st1 ?_
  show G (T1.setTop (mkF m 4 #[oa a, oa u, oi 0, oi 0, .val .null, .unset] []))
  refine q_iloadN B X1 d3_4 rfl rfl ?_
  refine q_ifNo B X1 d3_5 rfl ((if0 _ _).trans (teq (rfl : (0 : Int32) = (0 : Int32))).2) rfl ?_
  refine q_aloadN B X1 d3_8 rfl rfl rfl ?_
  obtain ⟨a2, T2, h2, k2, b2, kc2, X2, e2, E2, SI2, hk2, hZ2, hown2, Ea2, Fc2, Fv2, V2, la2, lb2, Y2, Li2, Nq2, st2⟩ := ldcCH X1 hx hZ hown (ow hw 192 rfl) (own_wS hw) e1 SI0 (Nat.le_refl _) hEL (List.mem_of_getElem? (i := 2) rfl) H0 (vs := []) (z := (0 : Int32)) ⟨by decide, by decide⟩ (by decide) rfl (g := (mkF m 9 #[oa a, oa u, oi 0, oi 0, .val .null, .unset] [(.ref a)])) rfl (hb hby d3_9) (n := 0) (by decide) (by decide) (by decide) (by decide)
  refine hG _ _ st2 ?_
  have R2 := Y2
  have C2 := (CHr.refl H0).trans R2
  have K2 := (Keep.refl h0 [a]).ext E2
  have O2 := O0.ext E2
  refine qgf B X2 hZ2 hown2 33 rfl Via.refl e2 Fv2 d3_11 fun T3 X3 e3 => ?_
  have f5 := (g2_F.ext E2)
  have f6 := (g0_E.ext E2)
  refine qpf B X3 hZ2 hown2 33 7 rfl rfl Via.refl e3 f5 f6 (Or.inr ⟨(ow hw 34 rfl), rfl, hnm⟩) (ty := (.array .byte)) (by decide) rfl rfl d3_14 fun T4 h4 X4 e4 W4 => ?_
  have sf7 : Safe Z consts_1 _ h2 a := (own_safeStr hZ2.alike f6 f5)
  have R4 := (CHr.wr W4 sf7 R2.1)
  have C4 := C2.trans R4
  have K4 := K2.wr W4 (own_mi 0 rfl)
  have O4 := O2.wr W4 g3_G
  have N4 := Fr.snoc X4 N0 g3_G
  refine q_aloadN B X4 d3_17 rfl rfl rfl ?_
  refine hG _ _ (ldcAgain X4 hx hZ2 hown2 (ow hw 192 rfl) Li2 (g := (mkF m 18 #[oa a, oa u, oi 0, oi 0, .val .null, .unset] [(.ref a)])) rfl (hb hby d3_18)) ?_
  have f9 := (Fc2.other W4 (Or.inl (Ne.symm (Nq2 a sf7).1)))
  refine qgf B X4 hZ2 hown2 31 rfl Via.refl e4 f9 d3_20 fun T8 X8 e8 => ?_
  have f11 := ((g1_F.ext E2).other W4 (Or.inr (slot_ne (Or.inr (ow hw 32 rfl)) (Or.inr (ow hw 34 rfl)) (by decide) (t := .byte) (t' := (.array .byte)) (by decide) (by decide))))
  have f12 := (f6.wr W4)
  refine qpn (.int 0) B X8 hZ2 hown2 31 7 rfl rfl Via.refl e8 f11 f12 (Or.inr ⟨(ow hw 32 rfl), rfl, hnm⟩) (ty := .byte) (by decide) rfl rfl d3_23 fun T10 h10 X10 e10 W10 => ?_
  have sf13 := (R4.safe f5.lt sf7)
  have R10 := (CHr.wr W10 sf13 R4.1)
  have C10 := C4.trans R10
  have K10 := K4.wr W10 (own_mi 0 rfl)
  have O10 := O4.wr W10 g3_G
  have N10 := Fr.snoc X10 N4 g3_G
  show G (T10.setTop (mkF m 26 #[oa a, oa u, oi 0, oi 0, .val .null, .unset] []))
  have f14 := (f12.wr W10)
  have f15 := ((f5.same W4).other W10 (Or.inr (slot_ne (Or.inr (ow hw 34 rfl)) (Or.inr (ow hw 32 rfl)) (by decide) (t := (.array .byte)) (t' := .byte) (by decide) (by decide))))
  have f16 := ((V2.other W4 (Ne.symm (Nq2 a sf7).2)).other W10 (Ne.symm (Nq2 a sf7).2))
  exact qRVW B hR hret X10 d3_26 e10 SI2 (Nat.le_trans (Nat.le_trans hk2 R4.2.1) R10.2.1) hZ2 C10 ⟨b2, kc2, rfl, N10, K10, f14, (f11.same W10), f15, f16⟩ (by decide)
theorem own_str1E (hw : own_W Z a0) (hEL : EW Z a0 consts_1) {a u : Addr} {v0 : Value} {ku : ClassId} (O0 : own_Old Z h0) (g0_E : Exa Z h0 a "java/lang/String") (g1_F : Fld Z h0 a "java/lang/String" "coder" "B" v0) (g2_F : Fld Z h0 a "java/lang/String" "value" "[B" .null) (g3_G : Z.heap.size ≤ a) (g4_V : Arv Z h0 u ku .char (0 : Int32) [] (.int 0)) : own_ConW l Z consts_1 ⟨"java/lang/String", "<init>", "([C)V"⟩ jdk_42_method_3_code 2 none [] ⟨2, 2, 4, 29⟩ #[(.ref a), (.ref u)] h0 (fun rv rh rL => ∃ (t : Addr) (kt : ClassId), rv = none ∧ own_Fr Z rL ∧ Keep h0 rh [a] ∧ (Exa Z rh a "java/lang/String") ∧ (Fld Z rh a "java/lang/String" "coder" "B" (.int 0)) ∧ (Fld Z rh a "java/lang/String" "value" "[B" (.ref t)) ∧ (Arv Z rh t kt .byte (0 : Int32) [] (.int 0))) := by
  refine own_stW hw hEL (plainFor_of_name (by decide +kernel)) #[oa a, oa u] (fun _ => rfl) fun p e s m below meth c s₁ G B hown hnm hret hZ X0 e0 H0 SI0 N0 hR => ?_
  refine q_aloadN B X0 d2_0 rfl rfl rfl ?_
  refine q_aloadN B X0 d2_1 rfl rfl rfl ?_
  refine q_iconst B X0 d2_2 rfl ?_
  refine q_aloadN B X0 d2_3 rfl rfl rfl ?_
  refine qal B X0 hZ e0 g4_V d2_4 ?_
  refine q_aconstNull B X0 d2_5 rfl ?_
  show G (s₁.setTop (mkF m 6 #[oa a, oa u] [.null, (.int 0), (.int 0), (.ref u), (.ref a)]))
  refine qIW B X0 hZ hown 12 13 8 15 rfl rfl rfl rfl rfl (own_str4E hw hEL u O0 g0_E g1_F g2_F g3_G) e0 SI0 (Nat.le_refl _) hEL H0 own_pd8 rfl rfl d2_6 0 rfl rfl rfl (by decide) ?_
  rintro T2 h2 v2 L2 X2 e2 SI2 hZ2 hown2 Y2 ⟨t_2, kt_2, rfl, M2, J2, r2_0, r2_1, r2_2, r2_3⟩
  have N2 := Fr.app N0 M2
  have R2 := Y2
  have C2 := (CHr.refl H0).trans R2
  have K2 := (Keep.refl h0 [a]).trans J2 (allS (own_mi 0 rfl) all0)
  have O2 := O0.keep J2 (allS g3_G all0)
  show G (T2.setTop (mkF m 9 #[oa a, oa u] []))
  exact qRVW B hR hret X2 d2_9 e2 SI2 (Nat.le_refl _) hZ2 C2 ⟨t_2, kt_2, rfl, N2, K2, r2_0, r2_1, r2_2, r2_3⟩ (by decide)
theorem own_isl0 (hw : own_W Z a0) {a : Addr} {cpt : Int32} (O0 : own_Old Z h0) (g0_F : Fld Z h0 a "java/lang/String" "coder" "B" (.int 0)) (g1_S : Sta Z Z.heap "java/lang/String" "COMPACT_STRINGS" "Z" (.int cpt)) (g2_hcpt : ¬ (cpt = (0 : Int32))) : own_Con l Z ⟨"java/lang/String", "isLatin1", "()Z"⟩ jdk_42_method_154_code 1 (some .boolean) [] ⟨0, 0, 0, 0⟩ #[(.ref a)] h0 (fun rv rh rL => rv = some (.int 1) ∧ own_Fr Z rL ∧ h0 = rh) := by
  refine own_st hw (plainFor_of_name (by decide +kernel)) #[oa a] (fun _ => rfl) fun p e s m below meth c s₁ G B hown hnm hret hZ X0 e0 N0 hR => ?_
  refine qgs B X0 hZ hown 19 rfl Via.refl e0 g1_S O0 d33_0 fun T1 X1 e1 => ?_
  refine q_ifNo B X1 d33_3 rfl ((if0 _ _).trans (feq g2_hcpt).1) rfl ?_
  refine q_aloadN B X1 d33_6 rfl rfl rfl ?_
  refine qgf B X1 hZ hown 31 rfl Via.refl e1 g0_F d33_7 fun T2 X2 e2 => ?_
  refine q_ifNo B X2 d33_10 rfl ((if0 _ _).trans (teq (by decide)).2) rfl ?_
  refine q_iconst B X2 d33_13 rfl ?_
  refine q_goto 18 B X2 d33_14 rfl rfl (by decide) ?_
  show G (T2.setTop (mkF m 18 #[oa a] [(.int 1)]))
  exact qRN B hR hret (by simp) X2 d33_18 e2 ⟨rfl, N0, rfl⟩ (by decide)
theorem own_isl1 (hw : own_W Z a0) {a : Addr} {cpt : Int32} (O0 : own_Old Z h0) (g0_F : Fld Z h0 a "java/lang/String" "coder" "B" (.int 1)) (g1_S : Sta Z Z.heap "java/lang/String" "COMPACT_STRINGS" "Z" (.int cpt)) (g2_hcpt : ¬ (cpt = (0 : Int32))) : own_Con l Z ⟨"java/lang/String", "isLatin1", "()Z"⟩ jdk_42_method_154_code 1 (some .boolean) [] ⟨0, 0, 0, 0⟩ #[(.ref a)] h0 (fun rv rh rL => rv = some (.int 0) ∧ own_Fr Z rL ∧ h0 = rh) := by
  refine own_st hw (plainFor_of_name (by decide +kernel)) #[oa a] (fun _ => rfl) fun p e s m below meth c s₁ G B hown hnm hret hZ X0 e0 N0 hR => ?_
  refine qgs B X0 hZ hown 19 rfl Via.refl e0 g1_S O0 d33_0 fun T1 X1 e1 => ?_
  refine q_ifNo B X1 d33_3 rfl ((if0 _ _).trans (feq g2_hcpt).1) rfl ?_
  refine q_aloadN B X1 d33_6 rfl rfl rfl ?_
  refine qgf B X1 hZ hown 31 rfl Via.refl e1 g0_F d33_7 fun T2 X2 e2 => ?_
  refine q_ifYes 17 B X2 d33_10 rfl ((if0 _ _).trans (feq (by decide)).2) rfl rfl (by decide) ?_
  refine q_iconst B X2 d33_17 rfl ?_
  show G (T2.setTop (mkF m 18 #[oa a] [(.int 0)]))
  exact qRN B hR hret (by simp) X2 d33_18 e2 ⟨rfl, N0, rfl⟩ (by decide)
theorem own_cod0 (hw : own_W Z a0) {a : Addr} {cpt : Int32} (O0 : own_Old Z h0) (g0_F : Fld Z h0 a "java/lang/String" "coder" "B" (.int 0)) (g1_S : Sta Z Z.heap "java/lang/String" "COMPACT_STRINGS" "Z" (.int cpt)) (g2_hcpt : ¬ (cpt = (0 : Int32))) : own_Con l Z ⟨"java/lang/String", "coder", "()B"⟩ jdk_42_method_152_code 1 (some .byte) [] ⟨0, 0, 0, 0⟩ #[(.ref a)] h0 (fun rv rh rL => rv = some (.int 0) ∧ own_Fr Z rL ∧ h0 = rh) := by
  refine own_st hw (plainFor_of_name (by decide +kernel)) #[oa a] (fun _ => rfl) fun p e s m below meth c s₁ G B hown hnm hret hZ X0 e0 N0 hR => ?_
  refine qgs B X0 hZ hown 19 rfl Via.refl e0 g1_S O0 d16_0 fun T1 X1 e1 => ?_
  refine q_ifNo B X1 d16_3 rfl ((if0 _ _).trans (feq g2_hcpt).1) rfl ?_
  refine q_aloadN B X1 d16_6 rfl rfl rfl ?_
  refine qgf B X1 hZ hown 31 rfl Via.refl e1 g0_F d16_7 fun T2 X2 e2 => ?_
  refine q_goto 14 B X2 d16_10 rfl rfl (by decide) ?_
  show G (T2.setTop (mkF m 14 #[oa a] [(.int 0)]))
  exact qRN B hR hret (by simp) X2 d16_14 e2 ⟨rfl, N0, rfl⟩ (by decide)
theorem own_cod1 (hw : own_W Z a0) {a : Addr} {cpt : Int32} (O0 : own_Old Z h0) (g0_F : Fld Z h0 a "java/lang/String" "coder" "B" (.int 1)) (g1_S : Sta Z Z.heap "java/lang/String" "COMPACT_STRINGS" "Z" (.int cpt)) (g2_hcpt : ¬ (cpt = (0 : Int32))) : own_Con l Z ⟨"java/lang/String", "coder", "()B"⟩ jdk_42_method_152_code 1 (some .byte) [] ⟨0, 0, 0, 0⟩ #[(.ref a)] h0 (fun rv rh rL => rv = some (.int 1) ∧ own_Fr Z rL ∧ h0 = rh) := by
  refine own_st hw (plainFor_of_name (by decide +kernel)) #[oa a] (fun _ => rfl) fun p e s m below meth c s₁ G B hown hnm hret hZ X0 e0 N0 hR => ?_
  refine qgs B X0 hZ hown 19 rfl Via.refl e0 g1_S O0 d16_0 fun T1 X1 e1 => ?_
  refine q_ifNo B X1 d16_3 rfl ((if0 _ _).trans (feq g2_hcpt).1) rfl ?_
  refine q_aloadN B X1 d16_6 rfl rfl rfl ?_
  refine qgf B X1 hZ hown 31 rfl Via.refl e1 g0_F d16_7 fun T2 X2 e2 => ?_
  refine q_goto 14 B X2 d16_10 rfl rfl (by decide) ?_
  show G (T2.setTop (mkF m 14 #[oa a] [(.int 1)]))
  exact qRN B hR hret (by simp) X2 d16_14 e2 ⟨rfl, N0, rfl⟩ (by decide)
theorem own_len (hw : own_W Z a0) {a t : Addr} {kt : ClassId} (cs : List Int32) {cd nb : Int32} {vs : List Value} {cpt : Int32} (O0 : own_Old Z h0) (g0_E : Exa Z h0 a "java/lang/String") (g1_F : Fld Z h0 a "java/lang/String" "coder" "B" (.int cd)) (g2_F : Fld Z h0 a "java/lang/String" "value" "[B" (.ref t)) (g3_V : Arv Z h0 t kt .byte nb vs (.int 0)) (g4_henc : own_enc cs cd nb vs) (g5_hcap : cs.length ≤ 9) (g6_h16 : ∀ c ∈ cs, 0 ≤ c.toInt ∧ c.toInt ≤ 65535) (g7_S : Sta Z Z.heap "java/lang/String" "COMPACT_STRINGS" "Z" (.int cpt)) (g8_hcpt : ¬ (cpt = (0 : Int32))) : own_Con l Z ⟨"java/lang/String", "length", "()I"⟩ jdk_42_method_54_code 1 (some .int) [] ⟨1, 0, 0, 13⟩ #[(.ref a)] h0 (fun rv rh rL => rv = some (.int (Int32.ofNat cs.length)) ∧ own_Fr Z rL ∧ h0 = rh) := by
  refine own_st hw (plainFor_of_name (by decide +kernel)) #[oa a] (fun _ => rfl) fun p e s m below meth c s₁ G B hown hnm hret hZ X0 e0 N0 hR => ?_
  rcases id g4_henc with ⟨hall, rfl, rfl, rfl⟩ | ⟨hbig, rfl, rfl, h16⟩
  · skip
    show G (s₁.setTop (mkF m 0 #[oa a] []))
    refine q_aloadN B X0 d15_0 rfl rfl rfl ?_
    refine qgf B X0 hZ hown 33 rfl Via.refl e0 g2_F d15_1 fun T1 X1 e1 => ?_
    refine qal B X1 hZ e1 g3_V d15_4 ?_
    refine q_aloadN B X1 d15_5 rfl rfl rfl ?_
    show G (T1.setTop (mkF m 6 #[oa a] [(.ref a), (.int (Int32.ofNat cs.length))]))
    refine qV B X1 hZ hown 92 93 95 94 8 96 rfl rfl rfl rfl rfl rfl (own_cod0 hw O0 g1_F g7_S g8_hcpt) e1 g0_E own_pd11 rfl rfl d15_6 1 rfl rfl rfl (by decide) ?_
    rintro T3 h3 _ L3 X3 e3 ⟨rfl, M3, rfl⟩
    have N3 := Fr.app N0 M3
    refine q_ishr B X3 d15_9 rfl rfl ?_
    show G (T3.setTop (mkF m 10 #[oa a] [(.int ((Int32.ofNat cs.length) >>> ((0 : Int32) &&& 31)))]))
    exact qRI B hR hret X3 d15_10 e3 ⟨(by rw [own_shr0]), N3, rfl⟩ (by decide)
  · skip
    show G (s₁.setTop (mkF m 0 #[oa a] []))
    refine q_aloadN B X0 d15_0 rfl rfl rfl ?_
    refine qgf B X0 hZ hown 33 rfl Via.refl e0 g2_F d15_1 fun T4 X4 e4 => ?_
    refine qal B X4 hZ e4 g3_V d15_4 ?_
    refine q_aloadN B X4 d15_5 rfl rfl rfl ?_
    show G (T4.setTop (mkF m 6 #[oa a] [(.ref a), (.int (Int32.ofNat (2 * cs.length)))]))
    refine qV B X4 hZ hown 92 93 95 94 8 96 rfl rfl rfl rfl rfl rfl (own_cod1 hw O0 g1_F g7_S g8_hcpt) e4 g0_E own_pd11 rfl rfl d15_6 1 rfl rfl rfl (by decide) ?_
    rintro T6 h6 _ L6 X6 e6 ⟨rfl, M6, rfl⟩
    have N6 := Fr.app N0 M6
    refine q_ishr B X6 d15_9 rfl rfl ?_
    show G (T6.setTop (mkF m 10 #[oa a] [(.int ((Int32.ofNat (2 * cs.length)) >>> ((1 : Int32) &&& 31)))]))
    exact qRI B hR hret X6 d15_10 e6 ⟨(by rw [own_shr1 (by omega)]), N6, rfl⟩ (by decide)
theorem own_pci (hw : own_W Z a0) (x y : Int32) (fm : Value) (O0 : own_Old Z h0) (g0_hfm : fm.isRef = true) (g1_h1 : ¬ (x < (0 : Int32))) (g2_h2 : x < y) : own_Con l Z ⟨"jdk/internal/util/Preconditions", "checkIndex", "(IILjava/util/function/BiFunction;)I"⟩ jdk_41_method_11_code 3 (some .int) [] ⟨0, 0, 0, 0⟩ #[(.int x), (.int y), fm] h0 (fun rv rh rL => rv = some (.int x) ∧ own_Fr Z rL ∧ h0 = rh) := by
  refine own_st hw (plainFor_of_name (by decide +kernel)) #[oi x, oi y, .val fm] (fun m => by rcases ref_cases g0_hfm with rfl | ⟨_, rfl⟩ <;> first | (simp [entryFrame, mkF, argsToLocals, Value.category]; done) | rfl) fun p e s m below meth c s₁ G B hown hnm hret hZ X0 e0 N0 hR => ?_
  refine q_iloadN B X0 d36_0 rfl rfl ?_
  refine q_ifNo B X0 d36_1 rfl ((if0 _ _).trans (flt g1_h1).1) rfl ?_
  refine q_iloadN B X0 d36_4 rfl rfl ?_
  refine q_iloadN B X0 d36_5 rfl rfl ?_
  refine q_icmpYes 16 B X0 d36_6 rfl (tlt g2_h2).1 rfl rfl (by decide) ?_
  refine q_iloadN B X0 d36_16 rfl rfl ?_
  show G (s₁.setTop (mkF m 17 #[oi x, oi y, .val fm] [(.int x)]))
  exact qRI B hR hret X0 d36_17 e0 ⟨rfl, N0, rfl⟩ (by decide)
theorem own_sci (hw : own_W Z a0) (x y : Int32) {fmt : Value} (O0 : own_Old Z h0) (g0_h1 : ¬ (x < (0 : Int32))) (g1_h2 : x < y) (g2_hfmt : fmt.isRef = true) (g3_S : Sta Z Z.heap "jdk/internal/util/Preconditions" "SIOOBE_FORMATTER" "Ljava/util/function/BiFunction;" fmt) : own_Con l Z ⟨"java/lang/String", "checkIndex", "(II)V"⟩ jdk_42_method_155_code 2 none [] ⟨1, 0, 0, 14⟩ #[(.int x), (.int y)] h0 (fun rv rh rL => rv = none ∧ own_Fr Z rL ∧ h0 = rh) := by
  refine own_st hw (plainFor_of_name (by decide +kernel)) #[oi x, oi y] (fun _ => rfl) fun p e s m below meth c s₁ G B hown hnm hret hZ X0 e0 N0 hR => ?_
  refine q_iloadN B X0 d35_0 rfl rfl ?_
  refine q_iloadN B X0 d35_1 rfl rfl ?_
  refine qgs B X0 hZ hown 187 rfl Via.refl e0 g3_S O0 d35_2 fun T1 X1 e1 => ?_
  show G (T1.setTop (mkF m 5 #[oi x, oi y] [fmt, (.int y), (.int x)]))
  refine qS B X1 hZ hown 189 190 188 191 rfl rfl rfl rfl (own_pci hw x y fmt O0 g2_hfmt g0_h1 g1_h2) e1 own_pd13 rfl rfl d35_5 0 rfl rfl rfl (by decide) ?_
  rintro T2 h2 _ L2 X2 e2 ⟨rfl, M2, rfl⟩
  have N2 := Fr.app N0 M2
  refine q_pop B X2 d35_8 rfl rfl rfl ?_
  show G (T2.setTop (mkF m 9 #[oi x, oi y] []))
  exact qRV B hR hret X2 d35_9 e2 ⟨rfl, N2, rfl⟩ (by decide)
theorem own_lca (hw : own_W Z a0) {t : Addr} {kt : ClassId} (cs : List Int32) (i : Nat) {fmt : Value} (O0 : own_Old Z h0) (g0_V : Arv Z h0 t kt .byte (Int32.ofNat cs.length) (cs.map fun c => Value.int c.toInt8.toInt32) (.int 0)) (g1_hcap : cs.length ≤ 9) (g2_h8 : ∀ c ∈ cs, 0 ≤ c.toInt ∧ c.toInt ≤ 255) (g3_hi : i < cs.length) (g4_hfmt : fmt.isRef = true) (g5_S : Sta Z Z.heap "jdk/internal/util/Preconditions" "SIOOBE_FORMATTER" "Ljava/util/function/BiFunction;" fmt) : own_Con l Z ⟨"java/lang/StringLatin1", "charAt", "([BI)C"⟩ jdk_43_method_2_code 2 (some .char) [] ⟨2, 0, 0, 27⟩ #[(.ref t), (.int (Int32.ofNat i))] h0 (fun rv rh rL => rv = some (.int (cs.getD i 0)) ∧ own_Fr Z rL ∧ h0 = rh) := by
  refine own_st hw (plainFor_of_name (by decide +kernel)) #[oa t, oi (Int32.ofNat i)] (fun _ => rfl) fun p e s m below meth c s₁ G B hown hnm hret hZ X0 e0 N0 hR => ?_
  refine q_iloadN B X0 d34_0 rfl rfl ?_
  refine q_aloadN B X0 d34_1 rfl rfl rfl ?_
  refine qal B X0 hZ e0 g0_V d34_2 ?_
  show G (s₁.setTop (mkF m 3 #[oa t, oi (Int32.ofNat i)] [(.int (Int32.ofNat cs.length)), (.int (Int32.ofNat i))]))
  refine qS B X0 hZ hown 184 185 8 186 rfl rfl rfl rfl (own_sci hw (Int32.ofNat i) (Int32.ofNat cs.length) O0 (own_nn (by omega)) (own_lt g3_hi (by omega)) g4_hfmt g5_S) e0 own_pd14 rfl rfl d34_3 0 rfl rfl rfl (by decide) ?_
  rintro T2 h2 _ L2 X2 e2 ⟨rfl, M2, rfl⟩
  have N2 := Fr.app N0 M2
  refine q_aloadN B X2 d34_6 rfl rfl rfl ?_
  refine q_iloadN B X2 d34_7 rfl rfl ?_
  refine qlb (v := (.int ((cs.getD i 0).toInt8.toInt32))) B X2 hZ e2 g0_V d34_8 ⟨own_nn (by omega), own_lt g3_hi (by omega)⟩ (by rw [own_clamp (by omega)]; exact own_getD_map (fun c : Int32 => Value.int c.toInt8.toInt32) cs i _ 0 g3_hi) ?_
  refine q_sipush B X2 d34_9 rfl ?_
  refine q_iand B X2 d34_12 rfl rfl ?_
  refine q_i2c B X2 d34_13 rfl rfl ?_
  show G (T2.setTop (mkF m 14 #[oa t, oi (Int32.ofNat i)] [(.int ((((cs.getD i 0).toInt8.toInt32) &&& (255 : Int32)).toUInt32.toUInt16.toUInt32.toInt32))]))
  exact qRN B hR hret (by simp) X2 d34_14 e2 ⟨(by rw [own_byteBack (g2_h8 _ (own_getD_mem cs i 0 g3_hi))]), N2, rfl⟩ (by decide)
theorem own_l16 (hw : own_W Z a0) {t : Addr} {kt : ClassId} (n : Nat) {vs : List Value} (O0 : own_Old Z h0) (g0_V : Arv Z h0 t kt .byte (Int32.ofNat (2 * n)) vs (.int 0)) (g1_hn : n < 1073741824) : own_Con l Z ⟨"java/lang/StringUTF16", "length", "([B)I"⟩ jdk_52_method_6_code 1 (some .int) [] ⟨0, 0, 0, 0⟩ #[(.ref t)] h0 (fun rv rh rL => rv = some (.int (Int32.ofNat n)) ∧ own_Fr Z rL ∧ h0 = rh) := by
  refine own_st hw (plainFor_of_name (by decide +kernel)) #[oa t] (fun _ => rfl) fun p e s m below meth c s₁ G B hown hnm hret hZ X0 e0 N0 hR => ?_
  refine q_aloadN B X0 d46_0 rfl rfl rfl ?_
  refine qal B X0 hZ e0 g0_V d46_1 ?_
  refine q_iconst B X0 d46_2 rfl ?_
  refine q_ishr B X0 d46_3 rfl rfl ?_
  show G (s₁.setTop (mkF m 4 #[oa t] [(.int ((Int32.ofNat (2 * n)) >>> ((1 : Int32) &&& 31)))]))
  exact qRI B hR hret X0 d46_4 e0 ⟨(by rw [own_shr1 g1_hn]), N0, rfl⟩ (by decide)
theorem own_uci (hw : own_W Z a0) {t : Addr} {kt : ClassId} {vs : List Value} (cs : List Int32) (i : Nat) {fmt : Value} (O0 : own_Old Z h0) (g0_V : Arv Z h0 t kt .byte (Int32.ofNat (2 * cs.length)) vs (.int 0)) (g1_hcap : cs.length ≤ 9) (g2_h16 : ∀ c ∈ cs, 0 ≤ c.toInt ∧ c.toInt ≤ 65535) (g3_hi16 : own_is16 cs vs) (g4_hi : i < cs.length) (g5_S : Sta Z Z.heap "java/lang/StringUTF16" "$assertionsDisabled" "Z" (.int 1)) (g6_S : Sta Z Z.heap "java/lang/StringUTF16" "HI_BYTE_SHIFT" "I" (.int 0)) (g7_S : Sta Z Z.heap "java/lang/StringUTF16" "LO_BYTE_SHIFT" "I" (.int 8)) (g8_hfmt : fmt.isRef = true) (g9_S : Sta Z Z.heap "jdk/internal/util/Preconditions" "SIOOBE_FORMATTER" "Ljava/util/function/BiFunction;" fmt) : own_Con l Z ⟨"java/lang/StringUTF16", "checkIndex", "(I[B)V"⟩ jdk_52_method_91_code 2 none [] ⟨2, 0, 0, 27⟩ #[(.int (Int32.ofNat i)), (.ref t)] h0 (fun rv rh rL => rv = none ∧ own_Fr Z rL ∧ h0 = rh) := by
  refine own_st hw (plainFor_of_name (by decide +kernel)) #[oi (Int32.ofNat i), oa t] (fun _ => rfl) fun p e s m below meth c s₁ G B hown hnm hret hZ X0 e0 N0 hR => ?_
  refine q_iloadN B X0 d50_0 rfl rfl ?_
  refine q_aloadN B X0 d50_1 rfl rfl rfl ?_
  show G (s₁.setTop (mkF m 2 #[oi (Int32.ofNat i), oa t] [(.ref t), (.int (Int32.ofNat i))]))
  refine qS B X0 hZ hown 229 230 22 231 rfl rfl rfl rfl (own_l16 hw cs.length O0 g0_V (by omega)) e0 own_pd15 rfl rfl d50_2 1 rfl rfl rfl (by decide) ?_
  rintro T1 h1 _ L1 X1 e1 ⟨rfl, M1, rfl⟩
  have N1 := Fr.app N0 M1
  show G (T1.setTop (mkF m 5 #[oi (Int32.ofNat i), oa t] [(.int (Int32.ofNat cs.length)), (.int (Int32.ofNat i))]))
  refine qS B X1 hZ hown 246 185 8 186 rfl rfl rfl rfl (own_sci hw (Int32.ofNat i) (Int32.ofNat cs.length) O0 (own_nn (by omega)) (own_lt g4_hi (by omega)) g8_hfmt g9_S) e1 own_pd14 rfl rfl d50_5 0 rfl rfl rfl (by decide) ?_
  rintro T2 h2 _ L2 X2 e2 ⟨rfl, M2, rfl⟩
  have N2 := Fr.app N1 M2
  show G (T2.setTop (mkF m 8 #[oi (Int32.ofNat i), oa t] []))
  exact qRV B hR hret X2 d50_8 e2 ⟨rfl, N2, rfl⟩ (by decide)
theorem own_uca (hw : own_W Z a0) {t : Addr} {kt : ClassId} {vs : List Value} (cs : List Int32) (i : Nat) {fmt : Value} (O0 : own_Old Z h0) (g0_V : Arv Z h0 t kt .byte (Int32.ofNat (2 * cs.length)) vs (.int 0)) (g1_hcap : cs.length ≤ 9) (g2_h16 : ∀ c ∈ cs, 0 ≤ c.toInt ∧ c.toInt ≤ 65535) (g3_hi16 : own_is16 cs vs) (g4_hi : i < cs.length) (g5_S : Sta Z Z.heap "java/lang/StringUTF16" "$assertionsDisabled" "Z" (.int 1)) (g6_S : Sta Z Z.heap "java/lang/StringUTF16" "HI_BYTE_SHIFT" "I" (.int 0)) (g7_S : Sta Z Z.heap "java/lang/StringUTF16" "LO_BYTE_SHIFT" "I" (.int 8)) (g8_hfmt : fmt.isRef = true) (g9_S : Sta Z Z.heap "jdk/internal/util/Preconditions" "SIOOBE_FORMATTER" "Ljava/util/function/BiFunction;" fmt) : own_Con l Z ⟨"java/lang/StringUTF16", "charAt", "([BI)C"⟩ jdk_52_method_83_code 2 (some .char) [] ⟨3, 0, 0, 40⟩ #[(.ref t), (.int (Int32.ofNat i))] h0 (fun rv rh rL => rv = some (.int (cs.getD i 0)) ∧ own_Fr Z rL ∧ h0 = rh) := by
  refine own_st hw (plainFor_of_name (by decide +kernel)) #[oa t, oi (Int32.ofNat i)] (fun _ => rfl) fun p e s m below meth c s₁ G B hown hnm hret hZ X0 e0 N0 hR => ?_
  refine q_iloadN B X0 d49_0 rfl rfl ?_
  refine q_aloadN B X0 d49_1 rfl rfl rfl ?_
  show G (s₁.setTop (mkF m 2 #[oa t, oi (Int32.ofNat i)] [(.ref t), (.int (Int32.ofNat i))]))
  refine qS B X0 hZ hown 243 244 22 245 rfl rfl rfl rfl (own_uci hw cs i O0 g0_V g1_hcap g2_h16 g3_hi16 g4_hi g5_S g6_S g7_S g8_hfmt g9_S) e0 own_pd16 rfl rfl d49_2 0 rfl rfl rfl (by decide) ?_
  rintro T1 h1 _ L1 X1 e1 ⟨rfl, M1, rfl⟩
  have N1 := Fr.app N0 M1
  refine q_aloadN B X1 d49_5 rfl rfl rfl ?_
  refine q_iloadN B X1 d49_6 rfl rfl ?_
  show G (T1.setTop (mkF m 7 #[oa t, oi (Int32.ofNat i)] [(.int (Int32.ofNat i)), (.ref t)]))
  refine qS B X1 hZ hown 210 211 22 212 rfl rfl rfl rfl (own_gch hw (2 * cs.length) i (own_lo (cs.getD i 0)) (own_hi (cs.getD i 0)) O0 g0_V (by omega) (by omega) (g3_hi16.2 i g4_hi).1 (g3_hi16.2 i g4_hi).2 g5_S g6_S g7_S) e1 own_pd2 rfl rfl d49_7 0 rfl rfl rfl (by decide) ?_
  rintro T2 h2 _ L2 X2 e2 ⟨rfl, M2, rfl⟩
  have N2 := Fr.app N1 M2
  show G (T2.setTop (mkF m 10 #[oa t, oi (Int32.ofNat i)] [(.int (own_join (own_lo (cs.getD i 0)) (own_hi (cs.getD i 0))))]))
  exact qRN B hR hret (by simp) X2 d49_10 e2 ⟨(by rw [own_join_eq (g2_h16 _ (own_getD_mem cs i 0 g4_hi)), own_narC (g2_h16 _ (own_getD_mem cs i 0 g4_hi))]), N2, rfl⟩ (by decide)
theorem own_ca (hw : own_W Z a0) {a t : Addr} {kt : ClassId} (cs : List Int32) {cd nb : Int32} {vs : List Value} {cpt : Int32} (i : Nat) {fmt : Value} (O0 : own_Old Z h0) (g0_E : Exa Z h0 a "java/lang/String") (g1_F : Fld Z h0 a "java/lang/String" "coder" "B" (.int cd)) (g2_F : Fld Z h0 a "java/lang/String" "value" "[B" (.ref t)) (g3_V : Arv Z h0 t kt .byte nb vs (.int 0)) (g4_henc : own_enc cs cd nb vs) (g5_hcap : cs.length ≤ 9) (g6_h16 : ∀ c ∈ cs, 0 ≤ c.toInt ∧ c.toInt ≤ 65535) (g7_S : Sta Z Z.heap "java/lang/String" "COMPACT_STRINGS" "Z" (.int cpt)) (g8_hcpt : ¬ (cpt = (0 : Int32))) (g9_S : Sta Z Z.heap "java/lang/StringUTF16" "$assertionsDisabled" "Z" (.int 1)) (g10_S : Sta Z Z.heap "java/lang/StringUTF16" "HI_BYTE_SHIFT" "I" (.int 0)) (g11_S : Sta Z Z.heap "java/lang/StringUTF16" "LO_BYTE_SHIFT" "I" (.int 8)) (g12_hi : i < cs.length) (g13_hfmt : fmt.isRef = true) (g14_S : Sta Z Z.heap "jdk/internal/util/Preconditions" "SIOOBE_FORMATTER" "Ljava/util/function/BiFunction;" fmt) : own_Con l Z ⟨"java/lang/String", "charAt", "(I)C"⟩ jdk_42_method_56_code 2 (some .char) [] ⟨4, 0, 0, 53⟩ #[(.ref a), (.int (Int32.ofNat i))] h0 (fun rv rh rL => rv = some (.int (cs.getD i 0)) ∧ own_Fr Z rL ∧ h0 = rh) := by
  refine own_st hw (plainFor_of_name (by decide +kernel)) #[oa a, oi (Int32.ofNat i)] (fun _ => rfl) fun p e s m below meth c s₁ G B hown hnm hret hZ X0 e0 N0 hR => ?_
  rcases id g4_henc with ⟨hall, rfl, rfl, rfl⟩ | ⟨hbig, rfl, rfl, h16⟩
  · skip
    show G (s₁.setTop (mkF m 0 #[oa a, oi (Int32.ofNat i)] []))
    refine q_aloadN B X0 d32_0 rfl rfl rfl ?_
    show G (s₁.setTop (mkF m 1 #[oa a, oi (Int32.ofNat i)] [(.ref a)]))
    refine qV B X0 hZ hown 175 176 178 177 8 179 rfl rfl rfl rfl rfl rfl (own_isl0 hw O0 g1_F g7_S g8_hcpt) e0 g0_E own_pd10 rfl rfl d32_1 0 rfl rfl rfl (by decide) ?_
    rintro T1 h1 _ L1 X1 e1 ⟨rfl, M1, rfl⟩
    have N1 := Fr.app N0 M1
    refine q_ifNo B X1 d32_4 rfl ((if0 _ _).trans (feq (by decide)).1) rfl ?_
    refine q_aloadN B X1 d32_7 rfl rfl rfl ?_
    refine qgf B X1 hZ hown 33 rfl Via.refl e1 g2_F d32_8 fun T2 X2 e2 => ?_
    refine q_iloadN B X2 d32_11 rfl rfl ?_
    show G (T2.setTop (mkF m 12 #[oa a, oi (Int32.ofNat i)] [(.int (Int32.ofNat i)), (.ref t)]))
    refine qS B X2 hZ hown 180 181 182 183 rfl rfl rfl rfl (own_lca hw cs i O0 g3_V g5_hcap (own_lat_rng hall g6_h16) g12_hi g13_hfmt g14_S) e2 own_pd2 rfl rfl d32_12 0 rfl rfl rfl (by decide) ?_
    rintro T3 h3 _ L3 X3 e3 ⟨rfl, M3, rfl⟩
    have N3 := Fr.app N1 M3
    show G (T3.setTop (mkF m 15 #[oa a, oi (Int32.ofNat i)] [(.int (cs.getD i 0))]))
    exact qRN B hR hret (by simp) X3 d32_15 e3 ⟨(by rw [own_narC (g6_h16 _ (own_getD_mem cs i 0 g12_hi))]), N3, rfl⟩ (by decide)
  · skip
    show G (s₁.setTop (mkF m 0 #[oa a, oi (Int32.ofNat i)] []))
    refine q_aloadN B X0 d32_0 rfl rfl rfl ?_
    show G (s₁.setTop (mkF m 1 #[oa a, oi (Int32.ofNat i)] [(.ref a)]))
    refine qV B X0 hZ hown 175 176 178 177 8 179 rfl rfl rfl rfl rfl rfl (own_isl1 hw O0 g1_F g7_S g8_hcpt) e0 g0_E own_pd10 rfl rfl d32_1 0 rfl rfl rfl (by decide) ?_
    rintro T4 h4 _ L4 X4 e4 ⟨rfl, M4, rfl⟩
    have N4 := Fr.app N0 M4
    refine q_ifYes 16 B X4 d32_4 rfl ((if0 _ _).trans (teq (by decide)).1) rfl rfl (by decide) ?_
    refine q_aloadN B X4 d32_16 rfl rfl rfl ?_
    refine qgf B X4 hZ hown 33 rfl Via.refl e4 g2_F d32_17 fun T5 X5 e5 => ?_
    refine q_iloadN B X5 d32_20 rfl rfl ?_
    show G (T5.setTop (mkF m 21 #[oa a, oi (Int32.ofNat i)] [(.int (Int32.ofNat i)), (.ref t)]))
    refine qS B X5 hZ hown 240 241 22 242 rfl rfl rfl rfl (own_uca hw cs i O0 g3_V g5_hcap g6_h16 h16 g12_hi g9_S g10_S g11_S g13_hfmt g14_S) e5 own_pd2 rfl rfl d32_21 0 rfl rfl rfl (by decide) ?_
    rintro T6 h6 _ L6 X6 e6 ⟨rfl, M6, rfl⟩
    have N6 := Fr.app N4 M6
    show G (T6.setTop (mkF m 24 #[oa a, oi (Int32.ofNat i)] [(.int (cs.getD i 0))]))
    exact qRN B hR hret (by simp) X6 d32_24 e6 ⟨(by rw [own_narC (g6_h16 _ (own_getD_mem cs i 0 g12_hi))]), N6, rfl⟩ (by decide)
theorem own_asbi (hw : own_W Z a0) {a : Addr} {cpt : Int32} {u0 u1 u2 : Value} (O0 : own_Old Z h0) (g0_E : Exa Z h0 a "java/lang/StringBuilder") (g1_G : Z.heap.size ≤ a) (g2_F : Fld Z h0 a "java/lang/AbstractStringBuilder" "value" "[B" u0) (g3_F : Fld Z h0 a "java/lang/AbstractStringBuilder" "coder" "B" u1) (g4_F : Fld Z h0 a "java/lang/AbstractStringBuilder" "count" "I" u2) (g5_F : Fld Z h0 a "java/lang/AbstractStringBuilder" "maybeLatin1" "Z" (.int 0)) (g6_S : Sta Z Z.heap "java/lang/String" "COMPACT_STRINGS" "Z" (.int cpt)) (g7_hcpt : ¬ (cpt = (0 : Int32))) : own_Con l Z ⟨"java/lang/AbstractStringBuilder", "<init>", "(I)V"⟩ jdk_68_method_2_code 2 none [] ⟨1, 1, 16, 12⟩ #[(.ref a), (.int 16)] h0 (fun rv rh rL => ∃ (d : Addr) (kd : ClassId), rv = none ∧ own_Fr Z rL ∧ Keep h0 rh [a] ∧ h0.size ≤ d ∧ (Exa Z rh a "java/lang/StringBuilder") ∧ (Fld Z rh a "java/lang/AbstractStringBuilder" "value" "[B" (.ref d)) ∧ (Fld Z rh a "java/lang/AbstractStringBuilder" "coder" "B" (.int 0)) ∧ (Fld Z rh a "java/lang/AbstractStringBuilder" "count" "I" u2) ∧ (Fld Z rh a "java/lang/AbstractStringBuilder" "maybeLatin1" "Z" (.int 0)) ∧ (Exa Z rh d "[B") ∧ (Arv Z rh d kd .byte (16 : Int32) [(.int 0), (.int 0), (.int 0), (.int 0), (.int 0), (.int 0), (.int 0), (.int 0), (.int 0), (.int 0), (.int 0), (.int 0), (.int 0), (.int 0), (.int 0), (.int 0)] (.int 0))) := by
  refine own_st hw (plainFor_of_name (by decide +kernel)) #[oa a, oi 16] (fun _ => rfl) fun p e s m below meth c s₁ G B hown hnm hret hZ X0 e0 N0 hR => ?_
  obtain ⟨hG, hx, hby, hml, -⟩ := id B
  refine q_aloadN B X0 d12_0 rfl rfl rfl ?_
  show G (s₁.setTop (mkF m 1 #[oa a, oi 16] [(.ref a)]))
  obtain ⟨T1, X1, e1, st1⟩ := initO X0 hx hZ hown (ow hw 68 rfl) (ow hw 17 rfl) (ow hw 18 rfl) e0 (g := (mkF m 1 #[oa a, oi 16] [(.ref a)])) rfl (by rw [hml]; rfl) rfl (hb hby d12_1) (by decide) (W := 0) (by show 2 * 0 + _ ≤ _; exact Nat.le_of_eq rfl) (by decide)
  refine hG _ _ st1 ?_
  show G (T1.setTop (mkF m 4 #[oa a, oi 16] []))
  refine qgs B X1 hZ hown 69 rfl Via.refl e1 g6_S O0 d12_4 fun T2 X2 e2 => ?_
  refine q_ifNo B X2 d12_7 rfl ((if0 _ _).trans (feq g7_hcpt).1) rfl ?_
  refine q_aloadN B X2 d12_10 rfl rfl rfl ?_
  refine q_iloadN B X2 d12_11 rfl rfl ?_
  obtain ⟨T3, h3, k3, X3, e3, E3, A3, Ex3, st3⟩ := newPE X2 hx hZ (ow hw 24 rfl) e2 (g := (mkF m 12 #[oa a, oi 16] [(.int 16), (.ref a)])) rfl (hb hby d12_12) rfl (by decide) (cap := 16) (by decide) (by decide) (by decide) (by decide) (ad := "[B") (by decide)
  obtain ⟨b3, z3⟩ : ∃ z, z = h0.size := ⟨_, rfl⟩
  rw [← z3] at A3 Ex3 st3
  refine hG _ _ st3 ?_
  have K3 := (Keep.refl h0 [a]).ext E3
  have O3 := O0.ext E3
  have V3 : Arv Z h3 b3 k3 .byte (16 : Int32) [(.int 0), (.int 0), (.int 0), (.int 0), (.int 0), (.int 0), (.int 0), (.int 0), (.int 0), (.int 0), (.int 0), (.int 0), (.int 0), (.int 0), (.int 0), (.int 0)] (.int 0) := (Arv.new A3 (by decide)).pad (pad_rep [] (.int 0) 16)
  have f5 := (g2_F.ext E3)
  have f6 := (g0_E.ext E3)
  refine qpf B X3 hZ hown 70 57 rfl rfl Via.refl e3 f5 f6 (Or.inl (ow hw 71 rfl)) (ty := (.array .byte)) (by decide) rfl rfl d12_14 fun T4 h4 X4 e4 W4 => ?_
  have K4 := K3.wr W4 (own_mi 0 rfl)
  have O4 := O3.wr W4 g1_G
  have N4 := Fr.snoc X4 N0 g1_G
  refine q_aloadN B X4 d12_17 rfl rfl rfl ?_
  refine q_iconst B X4 d12_18 rfl ?_
  have f8 := ((g3_F.ext E3).other W4 (Or.inr (slot_ne (Or.inl (ow hw 73 rfl)) (Or.inl (ow hw 71 rfl)) (by decide) (t := .byte) (t' := (.array .byte)) (by decide) (by decide))))
  have f9 := (f6.wr W4)
  refine qpn (.int 0) B X4 hZ hown 72 57 rfl rfl Via.refl e4 f8 f9 (Or.inl (ow hw 73 rfl)) (ty := .byte) (by decide) rfl rfl d12_19 fun T7 h7 X7 e7 W7 => ?_
  have K7 := K4.wr W7 (own_mi 0 rfl)
  have O7 := O4.wr W7 g1_G
  have N7 := Fr.snoc X7 N4 g1_G
  refine q_goto 38 B X7 d12_22 rfl rfl (by decide) ?_
  show G (T7.setTop (mkF m 38 #[oa a, oi 16] []))
  have f10 := (f9.wr W7)
  have f11 := ((f5.same W4).other W7 (Or.inr (slot_ne (Or.inl (ow hw 71 rfl)) (Or.inl (ow hw 73 rfl)) (by decide) (t := (.array .byte)) (t' := .byte) (by decide) (by decide))))
  have f12 := (((g4_F.ext E3).other W4 (Or.inr (slot_ne (Or.inl (ow hw 98 rfl)) (Or.inl (ow hw 71 rfl)) (by decide) (t := .int) (t' := (.array .byte)) (by decide) (by decide)))).other W7 (Or.inr (slot_ne (Or.inl (ow hw 98 rfl)) (Or.inl (ow hw 73 rfl)) (by decide) (t := .int) (t' := .byte) (by decide) (by decide))))
  have f13 := (((g5_F.ext E3).other W4 (Or.inr (slot_ne (Or.inl (ow hw 239 rfl)) (Or.inl (ow hw 71 rfl)) (by decide) (t := .boolean) (t' := (.array .byte)) (by decide) (by decide)))).other W7 (Or.inr (slot_ne (Or.inl (ow hw 239 rfl)) (Or.inl (ow hw 73 rfl)) (by decide) (t := .boolean) (t' := .byte) (by decide) (by decide))))
  have f14 := ((Ex3.wr W4).wr W7)
  have f15 := ((V3.other W4 (Ne.symm (own_ne g0_E.lt (Nat.le_of_eq z3.symm)))).other W7 (Ne.symm (own_ne g0_E.lt (Nat.le_of_eq z3.symm))))
  exact qRV B hR hret X7 d12_38 e7 ⟨b3, k3, rfl, N7, K7, (Nat.le_trans (Keep.refl h0 [a]).1 (Nat.le_of_eq z3.symm)), f10, f11, (f8.same W7), f12, f13, f14, f15⟩ (by decide)
theorem own_sbi (hw : own_W Z a0) {a : Addr} {cpt : Int32} {u0 u1 u2 : Value} (O0 : own_Old Z h0) (g0_E : Exa Z h0 a "java/lang/StringBuilder") (g1_G : Z.heap.size ≤ a) (g2_F : Fld Z h0 a "java/lang/AbstractStringBuilder" "value" "[B" u0) (g3_F : Fld Z h0 a "java/lang/AbstractStringBuilder" "coder" "B" u1) (g4_F : Fld Z h0 a "java/lang/AbstractStringBuilder" "count" "I" u2) (g5_F : Fld Z h0 a "java/lang/AbstractStringBuilder" "maybeLatin1" "Z" (.int 0)) (g6_S : Sta Z Z.heap "java/lang/String" "COMPACT_STRINGS" "Z" (.int cpt)) (g7_hcpt : ¬ (cpt = (0 : Int32))) : own_Con l Z ⟨"java/lang/StringBuilder", "<init>", "()V"⟩ jdk_67_method_1_code 1 none [] ⟨2, 1, 16, 25⟩ #[(.ref a)] h0 (fun rv rh rL => ∃ (d : Addr) (kd : ClassId), rv = none ∧ own_Fr Z rL ∧ Keep h0 rh [a] ∧ h0.size ≤ d ∧ (Exa Z rh a "java/lang/StringBuilder") ∧ (Fld Z rh a "java/lang/AbstractStringBuilder" "value" "[B" (.ref d)) ∧ (Fld Z rh a "java/lang/AbstractStringBuilder" "coder" "B" (.int 0)) ∧ (Fld Z rh a "java/lang/AbstractStringBuilder" "count" "I" u2) ∧ (Fld Z rh a "java/lang/AbstractStringBuilder" "maybeLatin1" "Z" (.int 0)) ∧ (Exa Z rh d "[B") ∧ (Arv Z rh d kd .byte (16 : Int32) [(.int 0), (.int 0), (.int 0), (.int 0), (.int 0), (.int 0), (.int 0), (.int 0), (.int 0), (.int 0), (.int 0), (.int 0), (.int 0), (.int 0), (.int 0), (.int 0)] (.int 0))) := by
  refine own_st hw (plainFor_of_name (by decide +kernel)) #[oa a] (fun _ => rfl) fun p e s m below meth c s₁ G B hown hnm hret hZ X0 e0 N0 hR => ?_
  refine q_aloadN B X0 d11_0 rfl rfl rfl ?_
  refine q_bipush B X0 d11_1 rfl ?_
  show G (s₁.setTop (mkF m 3 #[oa a] [(.int 16), (.ref a)]))
  refine qI B X0 hZ hown 62 63 66 67 rfl rfl rfl rfl rfl (own_asbi hw O0 g0_E g1_G g2_F g3_F g4_F g5_F g6_S g7_hcpt) e0 own_pd18 rfl rfl d11_3 0 rfl rfl rfl (by decide) ?_
  rintro T1 h1 _ L1 X1 e1 ⟨d_1, kd_1, rfl, M1, J1, y1_0, r1_0, r1_1, r1_2, r1_3, r1_4, r1_5, r1_6⟩
  have N1 := Fr.app N0 M1
  have K1 := (Keep.refl h0 [a]).trans J1 (allS (own_mi 0 rfl) all0)
  have O1 := O0.keep J1 (allS g1_G all0)
  show G (T1.setTop (mkF m 6 #[oa a] []))
  exact qRV B hR hret X1 d11_6 e1 ⟨d_1, kd_1, rfl, N1, K1, (Nat.le_trans (Keep.refl h0 [a]).1 y1_0), r1_0, r1_1, r1_2, r1_3, r1_4, r1_5, r1_6⟩ (by decide)
theorem own_lenL (hw : own_W Z a0) {a t : Addr} {kt : ClassId} {n : Int32} {vs : List Value} {cpt : Int32} (O0 : own_Old Z h0) (g0_E : Exa Z h0 a "java/lang/String") (g1_F : Fld Z h0 a "java/lang/String" "coder" "B" (.int 0)) (g2_F : Fld Z h0 a "java/lang/String" "value" "[B" (.ref t)) (g3_V : Arv Z h0 t kt .byte n vs (.int 0)) (g4_S : Sta Z Z.heap "java/lang/String" "COMPACT_STRINGS" "Z" (.int cpt)) (g5_hcpt : ¬ (cpt = (0 : Int32))) : own_Con l Z ⟨"java/lang/String", "length", "()I"⟩ jdk_42_method_54_code 1 (some .int) [] ⟨1, 0, 0, 13⟩ #[(.ref a)] h0 (fun rv rh rL => rv = some (.int n) ∧ own_Fr Z rL ∧ h0 = rh) := by
  refine own_st hw (plainFor_of_name (by decide +kernel)) #[oa a] (fun _ => rfl) fun p e s m below meth c s₁ G B hown hnm hret hZ X0 e0 N0 hR => ?_
  refine q_aloadN B X0 d15_0 rfl rfl rfl ?_
  refine qgf B X0 hZ hown 33 rfl Via.refl e0 g2_F d15_1 fun T1 X1 e1 => ?_
  refine qal B X1 hZ e1 g3_V d15_4 ?_
  refine q_aloadN B X1 d15_5 rfl rfl rfl ?_
  show G (T1.setTop (mkF m 6 #[oa a] [(.ref a), (.int n)]))
  refine qV B X1 hZ hown 92 93 95 94 8 96 rfl rfl rfl rfl rfl rfl (own_cod0 hw O0 g1_F g4_S g5_hcpt) e1 g0_E own_pd11 rfl rfl d15_6 1 rfl rfl rfl (by decide) ?_
  rintro T3 h3 _ L3 X3 e3 ⟨rfl, M3, rfl⟩
  have N3 := Fr.app N0 M3
  refine q_ishr B X3 d15_9 rfl rfl ?_
  show G (T3.setTop (mkF m 10 #[oa a] [(.int (n >>> ((0 : Int32) &&& 31)))]))
  exact qRI B hR hret X3 d15_10 e3 ⟨(by rw [own_shr0]), N3, rfl⟩ (by decide)
theorem own_infl (hw : own_W Z a0) {q a : Addr} {cpt : Int32} (O0 : own_Old Z h0) (g0_F : Fld Z h0 q "java/lang/AbstractStringBuilder" "coder" "B" (.int 0)) (g1_E : Exa Z h0 a "java/lang/String") (g2_F : Fld Z h0 a "java/lang/String" "coder" "B" (.int 0)) (g3_S : Sta Z Z.heap "java/lang/String" "COMPACT_STRINGS" "Z" (.int cpt)) (g4_hcpt : ¬ (cpt = (0 : Int32))) : own_Con l Z ⟨"java/lang/AbstractStringBuilder", "inflateIfNeededFor", "(Ljava/lang/String;)V"⟩ jdk_68_method_71_code 2 none [] ⟨1, 0, 0, 13⟩ #[(.ref q), (.ref a)] h0 (fun rv rh rL => rv = none ∧ own_Fr Z rL ∧ h0 = rh) := by
  refine own_st hw (plainFor_of_name (by decide +kernel)) #[oa q, oa a] (fun _ => rfl) fun p e s m below meth c s₁ G B hown hnm hret hZ X0 e0 N0 hR => ?_
  refine qgs B X0 hZ hown 69 rfl Via.refl e0 g3_S O0 d19_0 fun T1 X1 e1 => ?_
  refine q_ifNo B X1 d19_3 rfl ((if0 _ _).trans (feq g4_hcpt).1) rfl ?_
  refine q_aloadN B X1 d19_6 rfl rfl rfl ?_
  refine qgf B X1 hZ hown 72 rfl Via.refl e1 g0_F d19_7 fun T2 X2 e2 => ?_
  refine q_aloadN B X2 d19_10 rfl rfl rfl ?_
  show G (T2.setTop (mkF m 11 #[oa q, oa a] [(.ref a), (.int 0)]))
  refine qV B X2 hZ hown 114 93 95 94 8 96 rfl rfl rfl rfl rfl rfl (own_cod0 hw O0 g2_F g3_S g4_hcpt) e2 g1_E own_pd11 rfl rfl d19_11 1 rfl rfl rfl (by decide) ?_
  rintro T3 h3 _ L3 X3 e3 ⟨rfl, M3, rfl⟩
  have N3 := Fr.app N0 M3
  refine q_icmpYes 21 B X3 d19_14 rfl (teq (by decide)).1 rfl rfl (by decide) ?_
  show G (T3.setTop (mkF m 21 #[oa q, oa a] []))
  exact qRV B hR hret X3 d19_21 e3 ⟨rfl, N3, rfl⟩ (by decide)
theorem own_getv (hw : own_W Z a0) {q d : Addr} (O0 : own_Old Z h0) (g0_F : Fld Z h0 q "java/lang/AbstractStringBuilder" "value" "[B" (.ref d)) : own_Con l Z ⟨"java/lang/AbstractStringBuilder", "getValue", "()[B"⟩ jdk_68_method_64_code 1 (some (.array .byte)) [] ⟨0, 0, 0, 0⟩ #[(.ref q)] h0 (fun rv rh rL => rv = some (.ref d) ∧ own_Fr Z rL ∧ h0 = rh) := by
  refine own_st hw (plainFor_of_name (by decide +kernel)) #[oa q] (fun _ => rfl) fun p e s m below meth c s₁ G B hown hnm hret hZ X0 e0 N0 hR => ?_
  refine q_aloadN B X0 d24_0 rfl rfl rfl ?_
  refine qgf B X0 hZ hown 70 rfl Via.refl e0 g0_F d24_1 fun T1 X1 e1 => ?_
  show G (T1.setTop (mkF m 4 #[oa q] [(.ref d)]))
  exact qRA B hR hret rfl rfl X1 d24_4 e1 ⟨rfl, N0, rfl⟩ (by decide)
theorem own_asbl (hw : own_W Z a0) {q : Addr} {n : Int32} (O0 : own_Old Z h0) (g0_F : Fld Z h0 q "java/lang/AbstractStringBuilder" "count" "I" (.int n)) : own_Con l Z ⟨"java/lang/AbstractStringBuilder", "length", "()I"⟩ jdk_68_method_6_code 1 (some .int) [] ⟨0, 0, 0, 0⟩ #[(.ref q)] h0 (fun rv rh rL => rv = some (.int n) ∧ own_Fr Z rL ∧ h0 = rh) := by
  refine own_st hw (plainFor_of_name (by decide +kernel)) #[oa q] (fun _ => rfl) fun p e s m below meth c s₁ G B hown hnm hret hZ X0 e0 N0 hR => ?_
  refine q_aloadN B X0 d26_0 rfl rfl rfl ?_
  refine qgf B X0 hZ hown 97 rfl Via.refl e0 g0_F d26_1 fun T1 X1 e1 => ?_
  show G (T1.setTop (mkF m 4 #[oa q] [(.int n)]))
  exact qRI B hR hret X1 d26_4 e1 ⟨rfl, N0, rfl⟩ (by decide)
theorem own_sbl (hw : own_W Z a0) {q : Addr} {n : Int32} (O0 : own_Old Z h0) (g0_E : Exa Z h0 q "java/lang/StringBuilder") (g1_F : Fld Z h0 q "java/lang/AbstractStringBuilder" "count" "I" (.int n)) : own_Con l Z ⟨"java/lang/StringBuilder", "length", "()I"⟩ jdk_67_method_93_code 1 (some .int) [] ⟨1, 0, 0, 12⟩ #[(.ref q)] h0 (fun rv rh rL => rv = some (.int n) ∧ own_Fr Z rL ∧ h0 = rh) := by
  refine own_st hw (plainFor_of_name (by decide +kernel)) #[oa q] (fun _ => rfl) fun p e s m below meth c s₁ G B hown hnm hret hZ X0 e0 N0 hR => ?_
  refine q_aloadN B X0 d25_0 rfl rfl rfl ?_
  show G (s₁.setTop (mkF m 1 #[oa q] [(.ref q)]))
  refine qU B X0 hZ hown 147 143 84 102 66 148 rfl rfl rfl rfl rfl rfl rfl (own_asbl hw O0 g1_F) e0 g0_E own_pd12 rfl rfl d25_1 0 rfl rfl rfl (by decide) ?_
  rintro T1 h1 _ L1 X1 e1 ⟨rfl, M1, rfl⟩
  have N1 := Fr.app N0 M1
  show G (T1.setTop (mkF m 4 #[oa q] [(.int n)]))
  exact qRI B hR hret X1 d25_4 e1 ⟨rfl, N1, rfl⟩ (by decide)
theorem own_asbL (hw : own_W Z a0) {q : Addr} {cpt : Int32} (O0 : own_Old Z h0) (g0_F : Fld Z h0 q "java/lang/AbstractStringBuilder" "coder" "B" (.int 0)) (g1_S : Sta Z Z.heap "java/lang/String" "COMPACT_STRINGS" "Z" (.int cpt)) (g2_hcpt : ¬ (cpt = (0 : Int32))) : own_Con l Z ⟨"java/lang/AbstractStringBuilder", "isLatin1", "()Z"⟩ jdk_68_method_68_code 1 (some .boolean) [] ⟨0, 0, 0, 0⟩ #[(.ref q)] h0 (fun rv rh rL => rv = some (.int 1) ∧ own_Fr Z rL ∧ h0 = rh) := by
  refine own_st hw (plainFor_of_name (by decide +kernel)) #[oa q] (fun _ => rfl) fun p e s m below meth c s₁ G B hown hnm hret hZ X0 e0 N0 hR => ?_
  refine qgs B X0 hZ hown 69 rfl Via.refl e0 g1_S O0 d27_0 fun T1 X1 e1 => ?_
  refine q_ifNo B X1 d27_3 rfl ((if0 _ _).trans (feq g2_hcpt).1) rfl ?_
  refine q_aloadN B X1 d27_6 rfl rfl rfl ?_
  refine qgf B X1 hZ hown 72 rfl Via.refl e1 g0_F d27_7 fun T2 X2 e2 => ?_
  refine q_ifNo B X2 d27_10 rfl ((if0 _ _).trans (teq (by decide)).2) rfl ?_
  refine q_iconst B X2 d27_13 rfl ?_
  refine q_goto 18 B X2 d27_14 rfl rfl (by decide) ?_
  show G (T2.setTop (mkF m 18 #[oa q] [(.int 1)]))
  exact qRN B hR hret (by simp) X2 d27_18 e2 ⟨rfl, N0, rfl⟩ (by decide)
theorem own_asbU (hw : own_W Z a0) {q : Addr} {cpt : Int32} (O0 : own_Old Z h0) (g0_F : Fld Z h0 q "java/lang/AbstractStringBuilder" "coder" "B" (.int 1)) (g1_S : Sta Z Z.heap "java/lang/String" "COMPACT_STRINGS" "Z" (.int cpt)) (g2_hcpt : ¬ (cpt = (0 : Int32))) : own_Con l Z ⟨"java/lang/AbstractStringBuilder", "isLatin1", "()Z"⟩ jdk_68_method_68_code 1 (some .boolean) [] ⟨0, 0, 0, 0⟩ #[(.ref q)] h0 (fun rv rh rL => rv = some (.int 0) ∧ own_Fr Z rL ∧ h0 = rh) := by
  refine own_st hw (plainFor_of_name (by decide +kernel)) #[oa q] (fun _ => rfl) fun p e s m below meth c s₁ G B hown hnm hret hZ X0 e0 N0 hR => ?_
  refine qgs B X0 hZ hown 69 rfl Via.refl e0 g1_S O0 d27_0 fun T1 X1 e1 => ?_
  refine q_ifNo B X1 d27_3 rfl ((if0 _ _).trans (feq g2_hcpt).1) rfl ?_
  refine q_aloadN B X1 d27_6 rfl rfl rfl ?_
  refine qgf B X1 hZ hown 72 rfl Via.refl e1 g0_F d27_7 fun T2 X2 e2 => ?_
  refine q_ifYes 17 B X2 d27_10 rfl ((if0 _ _).trans (feq (by decide)).2) rfl rfl (by decide) ?_
  refine q_iconst B X2 d27_17 rfl ?_
  show G (T2.setTop (mkF m 18 #[oa q] [(.int 0)]))
  exact qRN B hR hret (by simp) X2 d27_18 e2 ⟨rfl, N0, rfl⟩ (by decide)
theorem own_nbf16 (hw : own_W Z a0) (O0 : own_Old Z h0) : own_Con l Z ⟨"java/lang/StringUTF16", "newBytesFor", "(I)[B"⟩ jdk_52_method_2_code 1 (some (.array .byte)) [] ⟨1, 1, 32, 12⟩ #[(.int 16)] h0 (fun rv rh rL => ∃ (u : Addr) (ku : ClassId), rv = some (.ref u) ∧ own_Fr Z rL ∧ Keep h0 rh [] ∧ h0.size ≤ u ∧ (Arv Z rh u ku .byte (32 : Int32) [(.int 0), (.int 0), (.int 0), (.int 0), (.int 0), (.int 0), (.int 0), (.int 0), (.int 0), (.int 0), (.int 0), (.int 0), (.int 0), (.int 0), (.int 0), (.int 0), (.int 0), (.int 0), (.int 0), (.int 0), (.int 0), (.int 0), (.int 0), (.int 0), (.int 0), (.int 0), (.int 0), (.int 0), (.int 0), (.int 0), (.int 0), (.int 0)] (.int 0))) := by
  refine own_st hw (plainFor_of_name (by decide +kernel)) #[oi 16] (fun _ => rfl) fun p e s m below meth c s₁ G B hown hnm hret hZ X0 e0 N0 hR => ?_
  refine q_iloadN B X0 d38_0 rfl rfl ?_
  show G (s₁.setTop (mkF m 1 #[oi 16] [(.int 16)]))
  refine qS B X0 hZ hown 200 201 22 202 rfl rfl rfl rfl (own_nbl hw 16 O0 (by decide)) e0 own_pd4 rfl rfl d38_1 0 rfl rfl rfl (by decide) ?_
  rintro T1 h1 _ L1 X1 e1 ⟨rfl, M1, rfl⟩
  have N1 := Fr.app N0 M1
  show G (T1.setTop (mkF m 4 #[oi 16] [(.int (Int32.ofNat (2 * 16)))]))
  show G (T1.setTop (mkF m 4 #[oi 16] [(.int 32)]))
  refine qna 32 B X1 hZ 24 rfl e1 d38_4 (by decide) (by decide) (by decide) fun T2 h2 k2 b2 z2 X2 e2 E2 A2 => ?_
  have K2 := (Keep.refl h0 []).ext E2
  have O2 := O0.ext E2
  have V2 : Arv Z h2 b2 k2 .byte (32 : Int32) [(.int 0), (.int 0), (.int 0), (.int 0), (.int 0), (.int 0), (.int 0), (.int 0), (.int 0), (.int 0), (.int 0), (.int 0), (.int 0), (.int 0), (.int 0), (.int 0), (.int 0), (.int 0), (.int 0), (.int 0), (.int 0), (.int 0), (.int 0), (.int 0), (.int 0), (.int 0), (.int 0), (.int 0), (.int 0), (.int 0), (.int 0), (.int 0)] (.int 0) := (Arv.new A2 (by decide)).pad (pad_rep [] (.int 0) 32)
  show G (T2.setTop (mkF m 6 #[oi 16] [(.ref b2)]))
  exact qRA B hR hret rfl rfl X2 d38_6 e2 ⟨b2, k2, rfl, N1, K2, (Nat.le_trans (Keep.refl h0 []).1 (Nat.le_of_eq z2.symm)), V2⟩ (by decide)
theorem own_cfs (hw : own_W Z a0) (x y z : Int32) (fm : Value) (O0 : own_Old Z h0) (g0_hfm : fm.isRef = true) (g1_h1 : ¬ (((z ||| x) ||| y) < (0 : Int32))) (g2_h2 : ¬ ((z - x) < y)) : own_Con l Z ⟨"jdk/internal/util/Preconditions", "checkFromIndexSize", "(IIILjava/util/function/BiFunction;)I"⟩ jdk_41_method_13_code 4 (some .int) [] ⟨0, 0, 0, 0⟩ #[(.int x), (.int y), (.int z), fm] h0 (fun rv rh rL => rv = some (.int x) ∧ own_Fr Z rL ∧ h0 = rh) := by
  refine own_st hw (plainFor_of_name (by decide +kernel)) #[oi x, oi y, oi z, .val fm] (fun m => by rcases ref_cases g0_hfm with rfl | ⟨_, rfl⟩ <;> first | (simp [entryFrame, mkF, argsToLocals, Value.category]; done) | rfl) fun p e s m below meth c s₁ G B hown hnm hret hZ X0 e0 N0 hR => ?_
  refine q_iloadN B X0 d48_0 rfl rfl ?_
  refine q_iloadN B X0 d48_1 rfl rfl ?_
  refine q_ior B X0 d48_2 rfl rfl ?_
  refine q_iloadN B X0 d48_3 rfl rfl ?_
  refine q_ior B X0 d48_4 rfl rfl ?_
  refine q_ifNo B X0 d48_5 rfl ((if0 _ _).trans (flt g1_h1).1) rfl ?_
  refine q_iloadN B X0 d48_8 rfl rfl ?_
  refine q_iloadN B X0 d48_9 rfl rfl ?_
  refine q_iloadN B X0 d48_10 rfl rfl ?_
  refine q_isub B X0 d48_11 rfl rfl ?_
  refine q_icmpYes 23 B X0 d48_12 rfl (flt g2_h2).2.2.2 rfl rfl (by decide) ?_
  refine q_iloadN B X0 d48_23 rfl rfl ?_
  show G (s₁.setTop (mkF m 24 #[oi x, oi y, oi z, .val fm] [(.int x)]))
  exact qRI B hR hret X0 d48_24 e0 ⟨rfl, N0, rfl⟩ (by decide)
theorem own_cboc (hw : own_W Z a0) (x y z : Int32) {fmt : Value} (O0 : own_Old Z h0) (g0_h1 : ¬ (((z ||| x) ||| y) < (0 : Int32))) (g1_h2 : ¬ ((z - x) < y)) (g2_hfmt : fmt.isRef = true) (g3_S : Sta Z Z.heap "jdk/internal/util/Preconditions" "SIOOBE_FORMATTER" "Ljava/util/function/BiFunction;" fmt) : own_Con l Z ⟨"java/lang/String", "checkBoundsOffCount", "(III)I"⟩ jdk_42_method_157_code 3 (some .int) [] ⟨1, 0, 0, 15⟩ #[(.int x), (.int y), (.int z)] h0 (fun rv rh rL => rv = some (.int x) ∧ own_Fr Z rL ∧ h0 = rh) := by
  refine own_st hw (plainFor_of_name (by decide +kernel)) #[oi x, oi y, oi z] (fun m => by first | (simp [entryFrame, mkF, argsToLocals, Value.category]; done) | rfl) fun p e s m below meth c s₁ G B hown hnm hret hZ X0 e0 N0 hR => ?_
  refine q_iloadN B X0 d47_0 rfl rfl ?_
  refine q_iloadN B X0 d47_1 rfl rfl ?_
  refine q_iloadN B X0 d47_2 rfl rfl ?_
  refine qgs B X0 hZ hown 187 rfl Via.refl e0 g3_S O0 d47_3 fun T1 X1 e1 => ?_
  show G (T1.setTop (mkF m 6 #[oi x, oi y, oi z] [fmt, (.int z), (.int y), (.int x)]))
  refine qS B X1 hZ hown 235 236 188 237 rfl rfl rfl rfl (own_cfs hw x y z fmt O0 g2_hfmt g0_h1 g1_h2) e1 own_pd21 rfl rfl d47_6 0 rfl rfl rfl (by decide) ?_
  rintro T2 h2 _ L2 X2 e2 ⟨rfl, M2, rfl⟩
  have N2 := Fr.app N0 M2
  show G (T2.setTop (mkF m 9 #[oi x, oi y, oi z] [(.int x)]))
  exact qRI B hR hret X2 d47_9 e2 ⟨rfl, N2, rfl⟩ (by decide)
theorem own_lnS0 (hw : own_W Z a0) {a t : Addr} {kt : ClassId} {nt : Int32} {ss : List Value} (len : Int32) {cpt : Int32} (O0 : own_Old Z h0) (g0_E : Exa Z h0 a "java/lang/String") (g1_F : Fld Z h0 a "java/lang/String" "coder" "B" (.int 0)) (g2_F : Fld Z h0 a "java/lang/String" "value" "[B" (.ref t)) (g3_V : Arv Z h0 t kt .byte nt ss (.int 0)) (g4_S : Sta Z Z.heap "java/lang/String" "COMPACT_STRINGS" "Z" (.int cpt)) (g5_hcpt : ¬ (cpt = (0 : Int32))) (g6_hlen : (nt >>> ((0 : Int32) &&& 31)) = len) : own_Con l Z ⟨"java/lang/String", "length", "()I"⟩ jdk_42_method_54_code 1 (some .int) [] ⟨1, 0, 0, 13⟩ #[(.ref a)] h0 (fun rv rh rL => rv = some (.int len) ∧ own_Fr Z rL ∧ h0 = rh) := by
  refine own_st hw (plainFor_of_name (by decide +kernel)) #[oa a] (fun _ => rfl) fun p e s m below meth c s₁ G B hown hnm hret hZ X0 e0 N0 hR => ?_
  refine q_aloadN B X0 d15_0 rfl rfl rfl ?_
  refine qgf B X0 hZ hown 33 rfl Via.refl e0 g2_F d15_1 fun T1 X1 e1 => ?_
  refine qal B X1 hZ e1 g3_V d15_4 ?_
  refine q_aloadN B X1 d15_5 rfl rfl rfl ?_
  show G (T1.setTop (mkF m 6 #[oa a] [(.ref a), (.int nt)]))
  refine qV B X1 hZ hown 92 93 95 94 8 96 rfl rfl rfl rfl rfl rfl (own_cod0 hw O0 g1_F g4_S g5_hcpt) e1 g0_E own_pd11 rfl rfl d15_6 1 rfl rfl rfl (by decide) ?_
  rintro T3 h3 _ L3 X3 e3 ⟨rfl, M3, rfl⟩
  have N3 := Fr.app N0 M3
  refine q_ishr B X3 d15_9 rfl rfl ?_
  show G (T3.setTop (mkF m 10 #[oa a] [(.int (nt >>> ((0 : Int32) &&& 31)))]))
  exact qRI B hR hret X3 d15_10 e3 ⟨(by rw [g6_hlen]), N3, rfl⟩ (by decide)
theorem own_gbS0 (hw : own_W Z a0) {a t : Addr} {kt : ClassId} {nt : Int32} {ss : List Value} {d : Addr} {kd : ClassId} {nd : Int32} {ws : List Value} (x : Int32) (k : Nat) {cpt : Int32} (O0 : own_Old Z h0) (g0_E : Exa Z h0 a "java/lang/String") (g1_F : Fld Z h0 a "java/lang/String" "coder" "B" (.int 0)) (g2_F : Fld Z h0 a "java/lang/String" "value" "[B" (.ref t)) (g3_V : Arv Z h0 t kt .byte nt ss (.int 0)) (g4_S : Sta Z Z.heap "java/lang/String" "COMPACT_STRINGS" "Z" (.int cpt)) (g5_hcpt : ¬ (cpt = (0 : Int32))) (g6_V : Arv Z h0 d kd .byte nd ws (.int 0)) (g7_G : Z.heap.size ≤ d) (g8_ne_a_d : a ≠ d) (g9_ne_t_d : t ≠ d) (g10_hfit : own_fit x (0 : Int32) nt nd k ws ss) : own_Con l Z ⟨"java/lang/String", "getBytes", "([BIB)V"⟩ jdk_42_method_147_code 4 none [] ⟨1, 0, 0, 40⟩ #[(.ref a), (.ref d), (.int x), (.int 0)] h0 (fun rv rh rL => rv = none ∧ own_Fr Z rL ∧ Keep h0 rh [d] ∧ (Arv Z rh d kd .byte nd (own_ins k ws ss) (.int 0))) := by
  refine own_st hw (plainFor_of_name (by decide +kernel)) #[oa a, oa d, oi x, oi 0] (fun m => by first | (simp [entryFrame, mkF, argsToLocals, Value.category]; done) | rfl) fun p e s m below meth c s₁ G B hown hnm hret hZ X0 e0 N0 hR => ?_
  obtain ⟨hG, hx, hby, hml, -⟩ := id B
  refine q_aloadN B X0 d20_0 rfl rfl rfl ?_
  show G (s₁.setTop (mkF m 1 #[oa a, oa d, oi x, oi 0] [(.ref a)]))
  refine qV B X0 hZ hown 92 93 95 94 8 96 rfl rfl rfl rfl rfl rfl (own_cod0 hw O0 g1_F g4_S g5_hcpt) e0 g0_E own_pd11 rfl rfl d20_1 0 rfl rfl rfl (by decide) ?_
  rintro T1 h1 _ L1 X1 e1 ⟨rfl, M1, rfl⟩
  have N1 := Fr.app N0 M1
  refine q_iloadN B X1 d20_4 rfl rfl ?_
  refine q_icmpNo B X1 d20_5 rfl (teq (by decide)).2 rfl ?_
  refine q_aloadN B X1 d20_8 rfl rfl rfl ?_
  refine qgf B X1 hZ hown 33 rfl Via.refl e1 g2_F d20_9 fun T2 X2 e2 => ?_
  refine q_iconst B X2 d20_12 rfl ?_
  refine q_aloadN B X2 d20_13 rfl rfl rfl ?_
  refine q_iloadN B X2 d20_14 rfl rfl ?_
  refine q_iloadN B X2 d20_15 rfl rfl ?_
  refine q_ishl B X2 d20_16 rfl rfl ?_
  refine q_aloadN B X2 d20_17 rfl rfl rfl ?_
  refine qgf B X2 hZ hown 33 rfl Via.refl e2 g2_F d20_18 fun T3 X3 e3 => ?_
  refine qal B X3 hZ e3 g3_V d20_21 ?_
  show G (T3.setTop (mkF m 22 #[oa a, oa d, oi x, oi 0] [(.int nt), (.int (x <<< ((0 : Int32) &&& 31))), (.ref d), (.int 0), (.ref t)]))
  obtain ⟨T5, h5, L5, X5, e5, N5, J5, V5, st5⟩ := cpA X3 hx hZ hown (ow hw 120 rfl) (ow hw 123 rfl) (ow hw 121 rfl) (ow hw 122 rfl) e3 g3_V g6_V (Or.inl ⟨rfl, rfl⟩) (by decide) g10_hfit.1 g10_hfit.2.2.2.1 own_fit4 (own_fit5 g10_hfit) rfl (own_fitl g10_hfit) N1 g7_G (g := (mkF m 22 #[oa a, oa d, oi x, oi 0] [(.int nt), (.int (x <<< ((0 : Int32) &&& 31))), (.ref d), (.int 0), (.ref t)])) rfl (by rw [hml]; rfl) rfl (hb hby d20_22) (by decide) (W := 0) (by show 2 * 0 + _ ≤ _; exact Nat.le_of_eq rfl) (by decide)
  refine hG _ _ st5 ?_
  have K5 := (Keep.refl h0 [d]).trans J5 (allS (own_mi 0 rfl) all0)
  have O5 := O0.keep J5 (allS g7_G all0)
  have U5 : Arv Z h5 d kd .byte nd (own_ins k ws ss) (.int 0) := own_insA g10_hfit V5
  show G (T5.setTop (mkF m 25 #[oa a, oa d, oi x, oi 0] []))
  refine q_goto 43 B X5 d20_25 rfl rfl (by decide) ?_
  show G (T5.setTop (mkF m 43 #[oa a, oa d, oi x, oi 0] []))
  exact qRV B hR hret X5 d20_43 e5 ⟨rfl, N5, K5, U5⟩ (by decide)
theorem own_lnS1 (hw : own_W Z a0) {a t : Addr} {kt : ClassId} {nt : Int32} {ss : List Value} (len : Int32) {cpt : Int32} (O0 : own_Old Z h0) (g0_E : Exa Z h0 a "java/lang/String") (g1_F : Fld Z h0 a "java/lang/String" "coder" "B" (.int 1)) (g2_F : Fld Z h0 a "java/lang/String" "value" "[B" (.ref t)) (g3_V : Arv Z h0 t kt .byte nt ss (.int 0)) (g4_S : Sta Z Z.heap "java/lang/String" "COMPACT_STRINGS" "Z" (.int cpt)) (g5_hcpt : ¬ (cpt = (0 : Int32))) (g6_hlen : (nt >>> ((1 : Int32) &&& 31)) = len) : own_Con l Z ⟨"java/lang/String", "length", "()I"⟩ jdk_42_method_54_code 1 (some .int) [] ⟨1, 0, 0, 13⟩ #[(.ref a)] h0 (fun rv rh rL => rv = some (.int len) ∧ own_Fr Z rL ∧ h0 = rh) := by
  refine own_st hw (plainFor_of_name (by decide +kernel)) #[oa a] (fun _ => rfl) fun p e s m below meth c s₁ G B hown hnm hret hZ X0 e0 N0 hR => ?_
  refine q_aloadN B X0 d15_0 rfl rfl rfl ?_
  refine qgf B X0 hZ hown 33 rfl Via.refl e0 g2_F d15_1 fun T1 X1 e1 => ?_
  refine qal B X1 hZ e1 g3_V d15_4 ?_
  refine q_aloadN B X1 d15_5 rfl rfl rfl ?_
  show G (T1.setTop (mkF m 6 #[oa a] [(.ref a), (.int nt)]))
  refine qV B X1 hZ hown 92 93 95 94 8 96 rfl rfl rfl rfl rfl rfl (own_cod1 hw O0 g1_F g4_S g5_hcpt) e1 g0_E own_pd11 rfl rfl d15_6 1 rfl rfl rfl (by decide) ?_
  rintro T3 h3 _ L3 X3 e3 ⟨rfl, M3, rfl⟩
  have N3 := Fr.app N0 M3
  refine q_ishr B X3 d15_9 rfl rfl ?_
  show G (T3.setTop (mkF m 10 #[oa a] [(.int (nt >>> ((1 : Int32) &&& 31)))]))
  exact qRI B hR hret X3 d15_10 e3 ⟨(by rw [g6_hlen]), N3, rfl⟩ (by decide)
theorem own_gbS1 (hw : own_W Z a0) {a t : Addr} {kt : ClassId} {nt : Int32} {ss : List Value} {d : Addr} {kd : ClassId} {nd : Int32} {ws : List Value} (x : Int32) (k : Nat) {cpt : Int32} (O0 : own_Old Z h0) (g0_E : Exa Z h0 a "java/lang/String") (g1_F : Fld Z h0 a "java/lang/String" "coder" "B" (.int 1)) (g2_F : Fld Z h0 a "java/lang/String" "value" "[B" (.ref t)) (g3_V : Arv Z h0 t kt .byte nt ss (.int 0)) (g4_S : Sta Z Z.heap "java/lang/String" "COMPACT_STRINGS" "Z" (.int cpt)) (g5_hcpt : ¬ (cpt = (0 : Int32))) (g6_V : Arv Z h0 d kd .byte nd ws (.int 0)) (g7_G : Z.heap.size ≤ d) (g8_ne_a_d : a ≠ d) (g9_ne_t_d : t ≠ d) (g10_hfit : own_fit x (1 : Int32) nt nd k ws ss) : own_Con l Z ⟨"java/lang/String", "getBytes", "([BIB)V"⟩ jdk_42_method_147_code 4 none [] ⟨1, 0, 0, 40⟩ #[(.ref a), (.ref d), (.int x), (.int 1)] h0 (fun rv rh rL => rv = none ∧ own_Fr Z rL ∧ Keep h0 rh [d] ∧ (Arv Z rh d kd .byte nd (own_ins k ws ss) (.int 0))) := by
  refine own_st hw (plainFor_of_name (by decide +kernel)) #[oa a, oa d, oi x, oi 1] (fun m => by first | (simp [entryFrame, mkF, argsToLocals, Value.category]; done) | rfl) fun p e s m below meth c s₁ G B hown hnm hret hZ X0 e0 N0 hR => ?_
  obtain ⟨hG, hx, hby, hml, -⟩ := id B
  refine q_aloadN B X0 d20_0 rfl rfl rfl ?_
  show G (s₁.setTop (mkF m 1 #[oa a, oa d, oi x, oi 1] [(.ref a)]))
  refine qV B X0 hZ hown 92 93 95 94 8 96 rfl rfl rfl rfl rfl rfl (own_cod1 hw O0 g1_F g4_S g5_hcpt) e0 g0_E own_pd11 rfl rfl d20_1 0 rfl rfl rfl (by decide) ?_
  rintro T1 h1 _ L1 X1 e1 ⟨rfl, M1, rfl⟩
  have N1 := Fr.app N0 M1
  refine q_iloadN B X1 d20_4 rfl rfl ?_
  refine q_icmpNo B X1 d20_5 rfl (teq (by decide)).2 rfl ?_
  refine q_aloadN B X1 d20_8 rfl rfl rfl ?_
  refine qgf B X1 hZ hown 33 rfl Via.refl e1 g2_F d20_9 fun T2 X2 e2 => ?_
  refine q_iconst B X2 d20_12 rfl ?_
  refine q_aloadN B X2 d20_13 rfl rfl rfl ?_
  refine q_iloadN B X2 d20_14 rfl rfl ?_
  refine q_iloadN B X2 d20_15 rfl rfl ?_
  refine q_ishl B X2 d20_16 rfl rfl ?_
  refine q_aloadN B X2 d20_17 rfl rfl rfl ?_
  refine qgf B X2 hZ hown 33 rfl Via.refl e2 g2_F d20_18 fun T3 X3 e3 => ?_
  refine qal B X3 hZ e3 g3_V d20_21 ?_
  show G (T3.setTop (mkF m 22 #[oa a, oa d, oi x, oi 1] [(.int nt), (.int (x <<< ((1 : Int32) &&& 31))), (.ref d), (.int 0), (.ref t)]))
  obtain ⟨T5, h5, L5, X5, e5, N5, J5, V5, st5⟩ := cpA X3 hx hZ hown (ow hw 120 rfl) (ow hw 123 rfl) (ow hw 121 rfl) (ow hw 122 rfl) e3 g3_V g6_V (Or.inl ⟨rfl, rfl⟩) (by decide) g10_hfit.1 g10_hfit.2.2.2.1 own_fit4 (own_fit5 g10_hfit) rfl (own_fitl g10_hfit) N1 g7_G (g := (mkF m 22 #[oa a, oa d, oi x, oi 1] [(.int nt), (.int (x <<< ((1 : Int32) &&& 31))), (.ref d), (.int 0), (.ref t)])) rfl (by rw [hml]; rfl) rfl (hb hby d20_22) (by decide) (W := 0) (by show 2 * 0 + _ ≤ _; exact Nat.le_of_eq rfl) (by decide)
  refine hG _ _ st5 ?_
  have K5 := (Keep.refl h0 [d]).trans J5 (allS (own_mi 0 rfl) all0)
  have O5 := O0.keep J5 (allS g7_G all0)
  have U5 : Arv Z h5 d kd .byte nd (own_ins k ws ss) (.int 0) := own_insA g10_hfit V5
  show G (T5.setTop (mkF m 25 #[oa a, oa d, oi x, oi 1] []))
  refine q_goto 43 B X5 d20_25 rfl rfl (by decide) ?_
  show G (T5.setTop (mkF m 43 #[oa a, oa d, oi x, oi 1] []))
  exact qRV B hR hret X5 d20_43 e5 ⟨rfl, N5, K5, U5⟩ (by decide)
theorem own_ensS (hw : own_W Z a0) {q : Addr} (x : Int32) {d : Addr} {kd : ClassId} {nd : Int32} {ws : List Value} (O0 : own_Old Z h0) (g0_F : Fld Z h0 q "java/lang/AbstractStringBuilder" "value" "[B" (.ref d)) (g1_F : Fld Z h0 q "java/lang/AbstractStringBuilder" "coder" "B" (.int 0)) (g2_V : Arv Z h0 d kd .byte nd ws (.int 0)) (g3_hle : ¬ ((0 : Int32) < (x - (nd >>> ((0 : Int32) &&& 31))))) : own_Con l Z ⟨"java/lang/AbstractStringBuilder", "ensureCapacityInternal", "(I)V"⟩ jdk_68_method_9_code 3 none [] ⟨0, 0, 0, 0⟩ #[(.ref q), (.int x)] h0 (fun rv rh rL => rv = none ∧ own_Fr Z rL ∧ h0 = rh) := by
  refine own_st hw (plainFor_of_name (by decide +kernel)) #[oa q, oi x, .unset] (fun _ => rfl) fun p e s m below meth c s₁ G B hown hnm hret hZ X0 e0 N0 hR => ?_
  refine q_aloadN B X0 d17_0 rfl rfl rfl ?_
  refine qgf B X0 hZ hown 70 rfl Via.refl e0 g0_F d17_1 fun T1 X1 e1 => ?_
  refine qal B X1 hZ e1 g2_V d17_4 ?_
  refine q_aloadN B X1 d17_5 rfl rfl rfl ?_
  refine qgf B X1 hZ hown 72 rfl Via.refl e1 g1_F d17_6 fun T3 X3 e3 => ?_
  refine q_ishr B X3 d17_9 rfl rfl ?_
  refine q_istoreN B X3 d17_10 rfl rfl rfl ?_
  refine q_iloadN B X3 d17_11 rfl rfl ?_
  refine q_iloadN B X3 d17_12 rfl rfl ?_
  refine q_isub B X3 d17_13 rfl rfl ?_
  refine q_ifYes 38 B X3 d17_14 rfl ((if0 _ _).trans (flt g3_hle).2.2.2) rfl rfl (by decide) ?_
  show G (T3.setTop (mkF m 38 #[oa q, oi x, oi (nd >>> ((0 : Int32) &&& 31))] []))
  exact qRV B hR hret X3 d17_38 e3 ⟨rfl, N0, rfl⟩ (by decide)
theorem own_psS (hw : own_W Z a0) {a t : Addr} {kt : ClassId} {nt : Int32} {ss : List Value} {d : Addr} {kd : ClassId} {nd : Int32} {ws : List Value} {q : Addr} {c0 : Int32} (k : Nat) {cpt : Int32} (O0 : own_Old Z h0) (g0_E : Exa Z h0 a "java/lang/String") (g1_F : Fld Z h0 a "java/lang/String" "coder" "B" (.int 0)) (g2_F : Fld Z h0 a "java/lang/String" "value" "[B" (.ref t)) (g3_V : Arv Z h0 t kt .byte nt ss (.int 0)) (g4_S : Sta Z Z.heap "java/lang/String" "COMPACT_STRINGS" "Z" (.int cpt)) (g5_hcpt : ¬ (cpt = (0 : Int32))) (g6_E : Exa Z h0 q "java/lang/StringBuilder") (g7_F : Fld Z h0 q "java/lang/AbstractStringBuilder" "value" "[B" (.ref d)) (g8_F : Fld Z h0 q "java/lang/AbstractStringBuilder" "coder" "B" (.int 0)) (g9_F : Fld Z h0 q "java/lang/AbstractStringBuilder" "count" "I" (.int c0)) (g10_F : Fld Z h0 q "java/lang/AbstractStringBuilder" "maybeLatin1" "Z" (.int 0)) (g11_V : Arv Z h0 d kd .byte nd ws (.int 0)) (g12_G : Z.heap.size ≤ d) (g13_ne_a_d : a ≠ d) (g14_ne_t_d : t ≠ d) (g15_hfit : own_fit c0 (0 : Int32) nt nd k ws ss) : own_Con l Z ⟨"java/lang/AbstractStringBuilder", "putStringAt", "(ILjava/lang/String;)V"⟩ jdk_68_method_73_code 3 none [] ⟨2, 0, 0, 55⟩ #[(.ref q), (.int c0), (.ref a)] h0 (fun rv rh rL => rv = none ∧ own_Fr Z rL ∧ Keep h0 rh [d] ∧ (Arv Z rh d kd .byte nd (own_ins k ws ss) (.int 0))) := by
  refine own_st hw (plainFor_of_name (by decide +kernel)) #[oa q, oi c0, oa a] (fun m => by first | (simp [entryFrame, mkF, argsToLocals, Value.category]; done) | rfl) fun p e s m below meth c s₁ G B hown hnm hret hZ X0 e0 N0 hR => ?_
  refine q_aloadN B X0 d18_0 rfl rfl rfl ?_
  refine q_aloadN B X0 d18_1 rfl rfl rfl ?_
  show G (s₁.setTop (mkF m 2 #[oa q, oi c0, oa a] [(.ref a), (.ref q)]))
  refine qP2 B X0 hZ hown 109 110 112 111 66 113 rfl rfl rfl rfl rfl rfl (own_infl hw O0 g8_F g0_E g1_F g4_S g5_hcpt) e0 g6_E own_pd19 rfl rfl d18_2 0 rfl rfl rfl (by decide) ?_
  rintro T1 h1 _ L1 X1 e1 ⟨rfl, M1, rfl⟩
  have N1 := Fr.app N0 M1
  refine q_aloadN B X1 d18_5 rfl rfl rfl ?_
  refine q_aloadN B X1 d18_6 rfl rfl rfl ?_
  refine qgf B X1 hZ hown 70 rfl Via.refl e1 g7_F d18_7 fun T2 X2 e2 => ?_
  refine q_iloadN B X2 d18_10 rfl rfl ?_
  refine q_aloadN B X2 d18_11 rfl rfl rfl ?_
  refine qgf B X2 hZ hown 72 rfl Via.refl e2 g8_F d18_12 fun T3 X3 e3 => ?_
  show G (T3.setTop (mkF m 15 #[oa q, oi c0, oa a] [(.int 0), (.int c0), (.ref d), (.ref a)]))
  refine qV B X3 hZ hown 115 116 118 117 8 119 rfl rfl rfl rfl rfl rfl (own_gbS0 hw c0 k O0 g0_E g1_F g2_F g3_V g4_S g5_hcpt g11_V g12_G g13_ne_a_d g14_ne_t_d g15_hfit) e3 g0_E own_pd23 rfl rfl d18_15 0 rfl rfl rfl (by decide) ?_
  rintro T4 h4 _ L4 X4 e4 ⟨rfl, M4, J4, r4_0⟩
  have N4 := Fr.app N1 M4
  have K4 := (Keep.refl h0 [d]).trans J4 (allS (own_mi 0 rfl) all0)
  have O4 := O0.keep J4 (allS g12_G all0)
  show G (T4.setTop (mkF m 18 #[oa q, oi c0, oa a] []))
  exact qRV B hR hret X4 d18_18 e4 ⟨rfl, N4, K4, r4_0⟩ (by decide)
theorem own_aaS (hw : own_W Z a0) {a t : Addr} {kt : ClassId} {nt : Int32} {ss : List Value} {d : Addr} {kd : ClassId} {nd : Int32} {ws : List Value} {q : Addr} {c0 : Int32} (len n1 : Int32) (k : Nat) {cpt : Int32} (O0 : own_Old Z h0) (g0_E : Exa Z h0 a "java/lang/String") (g1_F : Fld Z h0 a "java/lang/String" "coder" "B" (.int 0)) (g2_F : Fld Z h0 a "java/lang/String" "value" "[B" (.ref t)) (g3_V : Arv Z h0 t kt .byte nt ss (.int 0)) (g4_S : Sta Z Z.heap "java/lang/String" "COMPACT_STRINGS" "Z" (.int cpt)) (g5_hcpt : ¬ (cpt = (0 : Int32))) (g6_E : Exa Z h0 q "java/lang/StringBuilder") (g7_G : Z.heap.size ≤ q) (g8_F : Fld Z h0 q "java/lang/AbstractStringBuilder" "value" "[B" (.ref d)) (g9_F : Fld Z h0 q "java/lang/AbstractStringBuilder" "coder" "B" (.int 0)) (g10_F : Fld Z h0 q "java/lang/AbstractStringBuilder" "count" "I" (.int c0)) (g11_F : Fld Z h0 q "java/lang/AbstractStringBuilder" "maybeLatin1" "Z" (.int 0)) (g12_V : Arv Z h0 d kd .byte nd ws (.int 0)) (g13_G : Z.heap.size ≤ d) (g14_ne_a_d : a ≠ d) (g15_ne_t_d : t ≠ d) (g16_ne_a_q : a ≠ q) (g17_ne_t_q : t ≠ q) (g18_ne_q_d : q ≠ d) (g19_hlen : (nt >>> ((0 : Int32) &&& 31)) = len) (g20_hn1 : (c0 + len) = n1) (g21_hle : ¬ ((0 : Int32) < (n1 - (nd >>> ((0 : Int32) &&& 31))))) (g22_hfit : own_fit c0 (0 : Int32) nt nd k ws ss) : own_Con l Z ⟨"java/lang/AbstractStringBuilder", "append", "(Ljava/lang/String;)Ljava/lang/AbstractStringBuilder;"⟩ jdk_68_method_22_code 3 (some (.object "java/lang/AbstractStringBuilder")) [] ⟨3, 0, 0, 69⟩ #[(.ref q), (.ref a)] h0 (fun rv rh rL => rv = some (.ref q) ∧ own_Fr Z rL ∧ Keep h0 rh [q, d] ∧ (Exa Z rh q "java/lang/StringBuilder") ∧ (Fld Z rh q "java/lang/AbstractStringBuilder" "value" "[B" (.ref d)) ∧ (Fld Z rh q "java/lang/AbstractStringBuilder" "coder" "B" (.int 0)) ∧ (Fld Z rh q "java/lang/AbstractStringBuilder" "count" "I" (.int n1)) ∧ (Fld Z rh q "java/lang/AbstractStringBuilder" "maybeLatin1" "Z" (.int 0)) ∧ (Arv Z rh d kd .byte nd (own_ins k ws ss) (.int 0))) := by
  refine own_st hw (plainFor_of_name (by decide +kernel)) #[oa q, oa a, .unset] (fun _ => rfl) fun p e s m below meth c s₁ G B hown hnm hret hZ X0 e0 N0 hR => ?_
  refine q_aloadN B X0 d14_0 rfl rfl rfl ?_
  refine q_ifnonnullYes 9 B X0 d14_1 rfl rfl rfl (by decide) ?_
  refine q_aloadN B X0 d14_9 rfl rfl rfl ?_
  show G (s₁.setTop (mkF m 10 #[oa q, oa a, .unset] [(.ref a)]))
  refine qV B X0 hZ hown 87 88 90 89 8 91 rfl rfl rfl rfl rfl rfl (own_lnS0 hw len O0 g0_E g1_F g2_F g3_V g4_S g5_hcpt g19_hlen) e0 g0_E own_pd12 rfl rfl d14_10 0 rfl rfl rfl (by decide) ?_
  rintro T1 h1 _ L1 X1 e1 ⟨rfl, M1, rfl⟩
  have N1 := Fr.app N0 M1
  refine q_istoreN B X1 d14_13 rfl rfl rfl ?_
  refine q_aloadN B X1 d14_14 rfl rfl rfl ?_
  refine q_aloadN B X1 d14_15 rfl rfl rfl ?_
  refine qgf B X1 hZ hown 97 rfl Via.refl e1 g10_F d14_16 fun T2 X2 e2 => ?_
  refine q_iloadN B X2 d14_19 rfl rfl ?_
  refine q_iadd B X2 d14_20 rfl rfl ?_
  show G (T2.setTop (mkF m 21 #[oa q, oa a, oi len] [(.int (c0 + len)), (.ref q)]))
  rw [g20_hn1]
  show G (T2.setTop (mkF m 21 #[oa q, oa a, oi len] [(.int n1), (.ref q)]))
  refine qP2 B X2 hZ hown 99 100 102 101 66 103 rfl rfl rfl rfl rfl rfl (own_ensS hw n1 O0 g8_F g9_F g12_V g21_hle) e2 g6_E own_pd18 rfl rfl d14_21 0 rfl rfl rfl (by decide) ?_
  rintro T3 h3 _ L3 X3 e3 ⟨rfl, M3, rfl⟩
  have N3 := Fr.app N1 M3
  refine q_aloadN B X3 d14_24 rfl rfl rfl ?_
  refine q_aloadN B X3 d14_25 rfl rfl rfl ?_
  refine qgf B X3 hZ hown 97 rfl Via.refl e3 g10_F d14_26 fun T4 X4 e4 => ?_
  refine q_aloadN B X4 d14_29 rfl rfl rfl ?_
  show G (T4.setTop (mkF m 30 #[oa q, oa a, oi len] [(.ref a), (.int c0), (.ref q)]))
  refine qP2 B X4 hZ hown 104 105 107 106 66 108 rfl rfl rfl rfl rfl rfl (own_psS hw k O0 g0_E g1_F g2_F g3_V g4_S g5_hcpt g6_E g8_F g9_F g10_F g11_F g12_V g13_G g14_ne_a_d g15_ne_t_d g22_hfit) e4 g6_E own_pd24 rfl rfl d14_30 0 rfl rfl rfl (by decide) ?_
  rintro T5 h5 _ L5 X5 e5 ⟨rfl, M5, J5, r5_0⟩
  have N5 := Fr.app N3 M5
  have K5 := (Keep.refl h0 [q, d]).trans J5 (allS (own_mi 1 rfl) all0)
  have O5 := O0.keep J5 (allS g13_G all0)
  refine q_aloadN B X5 d14_33 rfl rfl rfl ?_
  refine q_dup B X5 d14_34 rfl rfl rfl ?_
  have f7 := (g10_F.keep J5 (ninS g18_ne_q_d nin0))
  refine qgf B X5 hZ hown 97 rfl Via.refl e5 f7 d14_35 fun T6 X6 e6 => ?_
  refine q_iloadN B X6 d14_38 rfl rfl ?_
  refine q_iadd B X6 d14_39 rfl rfl ?_
  show G (T6.setTop (mkF m 40 #[oa q, oa a, oi len] [(.int (c0 + len)), (.ref q)]))
  rw [g20_hn1]
  show G (T6.setTop (mkF m 40 #[oa q, oa a, oi len] [(.int n1), (.ref q)]))
  have f9 := (g6_E.keep J5)
  refine qpf B X6 hZ hown 97 57 rfl rfl Via.refl e6 f7 f9 (Or.inl (ow hw 98 rfl)) (ty := .int) (by decide) rfl rfl d14_40 fun T8 h8 X8 e8 W8 => ?_
  have K8 := K5.wr W8 (own_mi 0 rfl)
  have O8 := O5.wr W8 g7_G
  have N8 := Fr.snoc X8 N5 g7_G
  refine q_aloadN B X8 d14_43 rfl rfl rfl ?_
  show G (T8.setTop (mkF m 44 #[oa q, oa a, oi len] [(.ref q)]))
  have f10 := (f9.wr W8)
  have f11 := ((g8_F.keep J5 (ninS g18_ne_q_d nin0)).other W8 (Or.inr (slot_ne (Or.inl (ow hw 71 rfl)) (Or.inl (ow hw 98 rfl)) (by decide) (t := (.array .byte)) (t' := .int) (by decide) (by decide))))
  have f12 := ((g9_F.keep J5 (ninS g18_ne_q_d nin0)).other W8 (Or.inr (slot_ne (Or.inl (ow hw 73 rfl)) (Or.inl (ow hw 98 rfl)) (by decide) (t := .byte) (t' := .int) (by decide) (by decide))))
  have f13 := ((g11_F.keep J5 (ninS g18_ne_q_d nin0)).other W8 (Or.inr (slot_ne (Or.inl (ow hw 239 rfl)) (Or.inl (ow hw 98 rfl)) (by decide) (t := .boolean) (t' := .int) (by decide) (by decide))))
  have f14 := (r5_0.other W8 (Ne.symm g18_ne_q_d))
  exact qRA B hR hret rfl rfl X8 d14_44 e8 ⟨rfl, N8, K8, f10, f11, f12, (f7.same W8), f13, f14⟩ (by decide)
theorem own_saS (hw : own_W Z a0) {a t : Addr} {kt : ClassId} {nt : Int32} {ss : List Value} {d : Addr} {kd : ClassId} {nd : Int32} {ws : List Value} {q : Addr} {c0 : Int32} (len n1 : Int32) (k : Nat) {cpt : Int32} (O0 : own_Old Z h0) (g0_E : Exa Z h0 a "java/lang/String") (g1_F : Fld Z h0 a "java/lang/String" "coder" "B" (.int 0)) (g2_F : Fld Z h0 a "java/lang/String" "value" "[B" (.ref t)) (g3_V : Arv Z h0 t kt .byte nt ss (.int 0)) (g4_S : Sta Z Z.heap "java/lang/String" "COMPACT_STRINGS" "Z" (.int cpt)) (g5_hcpt : ¬ (cpt = (0 : Int32))) (g6_E : Exa Z h0 q "java/lang/StringBuilder") (g7_G : Z.heap.size ≤ q) (g8_F : Fld Z h0 q "java/lang/AbstractStringBuilder" "value" "[B" (.ref d)) (g9_F : Fld Z h0 q "java/lang/AbstractStringBuilder" "coder" "B" (.int 0)) (g10_F : Fld Z h0 q "java/lang/AbstractStringBuilder" "count" "I" (.int c0)) (g11_F : Fld Z h0 q "java/lang/AbstractStringBuilder" "maybeLatin1" "Z" (.int 0)) (g12_V : Arv Z h0 d kd .byte nd ws (.int 0)) (g13_G : Z.heap.size ≤ d) (g14_ne_a_d : a ≠ d) (g15_ne_t_d : t ≠ d) (g16_ne_a_q : a ≠ q) (g17_ne_t_q : t ≠ q) (g18_ne_q_d : q ≠ d) (g19_hlen : (nt >>> ((0 : Int32) &&& 31)) = len) (g20_hn1 : (c0 + len) = n1) (g21_hle : ¬ ((0 : Int32) < (n1 - (nd >>> ((0 : Int32) &&& 31))))) (g22_hfit : own_fit c0 (0 : Int32) nt nd k ws ss) : own_Con l Z ⟨"java/lang/StringBuilder", "append", "(Ljava/lang/String;)Ljava/lang/StringBuilder;"⟩ jdk_67_method_7_code 2 (some (.object "java/lang/StringBuilder")) [] ⟨4, 0, 0, 83⟩ #[(.ref q), (.ref a)] h0 (fun rv rh rL => rv = some (.ref q) ∧ own_Fr Z rL ∧ Keep h0 rh [q, d] ∧ (Exa Z rh q "java/lang/StringBuilder") ∧ (Fld Z rh q "java/lang/AbstractStringBuilder" "value" "[B" (.ref d)) ∧ (Fld Z rh q "java/lang/AbstractStringBuilder" "coder" "B" (.int 0)) ∧ (Fld Z rh q "java/lang/AbstractStringBuilder" "count" "I" (.int n1)) ∧ (Fld Z rh q "java/lang/AbstractStringBuilder" "maybeLatin1" "Z" (.int 0)) ∧ (Arv Z rh d kd .byte nd (own_ins k ws ss) (.int 0))) := by
  refine own_st hw (plainFor_of_name (by decide +kernel)) #[oa q, oa a] (fun _ => rfl) fun p e s m below meth c s₁ G B hown hnm hret hZ X0 e0 N0 hR => ?_
  refine q_aloadN B X0 d13_0 rfl rfl rfl ?_
  refine q_aloadN B X0 d13_1 rfl rfl rfl ?_
  show G (s₁.setTop (mkF m 2 #[oa q, oa a] [(.ref a), (.ref q)]))
  refine qU B X0 hZ hown 82 83 84 102 66 86 rfl rfl rfl rfl rfl rfl rfl (own_aaS hw len n1 k O0 g0_E g1_F g2_F g3_V g4_S g5_hcpt g6_E g7_G g8_F g9_F g10_F g11_F g12_V g13_G g14_ne_a_d g15_ne_t_d g16_ne_a_q g17_ne_t_q g18_ne_q_d g19_hlen g20_hn1 g21_hle g22_hfit) e0 g6_E own_pd25 rfl rfl d13_2 0 rfl rfl rfl (by decide) ?_
  rintro T1 h1 _ L1 X1 e1 ⟨rfl, M1, J1, r1_0, r1_1, r1_2, r1_3, r1_4, r1_5⟩
  have N1 := Fr.app N0 M1
  have K1 := (Keep.refl h0 [q, d]).trans J1 (allS (own_mi 0 rfl) (allS (own_mi 1 rfl) all0))
  have O1 := O0.keep J1 (allS g7_G (allS g13_G all0))
  refine q_pop B X1 d13_5 rfl rfl rfl ?_
  refine q_aloadN B X1 d13_6 rfl rfl rfl ?_
  show G (T1.setTop (mkF m 7 #[oa q, oa a] [(.ref q)]))
  exact qRA B hR hret rfl rfl X1 d13_7 e1 ⟨rfl, N1, K1, r1_0, r1_1, r1_2, r1_3, r1_4, r1_5⟩ (by decide)
theorem own_chl (hw : own_W Z a0) (x y : Int32) (O0 : own_Old Z h0) (g0_hxy : ¬ (y < x)) : own_Con l Z ⟨"java/util/Arrays", "checkLength", "(II)V"⟩ jdk_65_method_131_code 2 none [] ⟨0, 0, 0, 0⟩ #[(.int x), (.int y)] h0 (fun rv rh rL => rv = none ∧ own_Fr Z rL ∧ h0 = rh) := by
  refine own_st hw (plainFor_of_name (by decide +kernel)) #[oi x, oi y] (fun _ => rfl) fun p e s m below meth c s₁ G B hown hnm hret hZ X0 e0 N0 hR => ?_
  refine q_iloadN B X0 d30_0 rfl rfl ?_
  refine q_iloadN B X0 d30_1 rfl rfl ?_
  refine q_icmpYes 37 B X0 d30_2 rfl (flt g0_hxy).2.1 rfl rfl (by decide) ?_
  show G (s₁.setTop (mkF m 37 #[oi x, oi y] []))
  exact qRV B hR hret X0 d30_37 e0 ⟨rfl, N0, rfl⟩ (by decide)
theorem own_minL (hw : own_W Z a0) (x y : Int32) (O0 : own_Old Z h0) (g0_hyx : y < x) : own_Con l Z ⟨"java/lang/Math", "min", "(II)I"⟩ jdk_29_method_69_code 2 (some .int) [] ⟨0, 0, 0, 0⟩ #[(.int x), (.int y)] h0 (fun rv rh rL => rv = some (.int y) ∧ own_Fr Z rL ∧ h0 = rh) := by
  refine own_st hw (Jvm.Free.JP.mathPlain rfl (by decide +kernel)) #[oi x, oi y] (fun _ => rfl) fun p e s m below meth c s₁ G B hown hnm hret hZ X0 e0 N0 hR => ?_
  refine q_iloadN B X0 d31_0 rfl rfl ?_
  refine q_iloadN B X0 d31_1 rfl rfl ?_
  refine q_icmpYes 9 B X0 d31_2 rfl (tlt g0_hyx).2.2.1 rfl rfl (by decide) ?_
  refine q_iloadN B X0 d31_9 rfl rfl ?_
  show G (s₁.setTop (mkF m 10 #[oi x, oi y] [(.int y)]))
  exact qRI B hR hret X0 d31_10 e0 ⟨rfl, N0, rfl⟩ (by decide)
theorem own_crbS (hw : own_W Z a0) {d : Addr} {kd : ClassId} {nd : Int32} {ws : List Value} (n : Int32) (k : Nat) (O0 : own_Old Z h0) (g0_V : Arv Z h0 d kd .byte nd ws (.int 0)) (g1_hcut : own_cut nd n k ws) : own_Con l Z ⟨"java/util/Arrays", "copyOfRangeByte", "([BII)[B"⟩ jdk_65_method_133_code 5 (some (.array .byte)) [] ⟨1, 1, 32, 40⟩ #[(.ref d), (.int 0), (.int n)] h0 (fun rv rh rL => ∃ (u : Addr) (ku : ClassId), rv = some (.ref u) ∧ own_Fr Z rL ∧ Keep h0 rh [] ∧ h0.size ≤ u ∧ (Arv Z rh u ku .byte n (ws.take k) (.int 0))) := by
  refine own_st hw (plainFor_of_name (by decide +kernel)) #[oa d, oi 0, oi n, .unset, .unset] (fun m => by first | (simp [entryFrame, mkF, argsToLocals, Value.category]; done) | rfl) fun p e s m below meth c s₁ G B hown hnm hret hZ X0 e0 N0 hR => ?_
  obtain ⟨hG, hx, hby, hml, -⟩ := id B
  refine q_iloadN B X0 d29_0 rfl rfl ?_
  refine q_iloadN B X0 d29_1 rfl rfl ?_
  show G (s₁.setTop (mkF m 2 #[oa d, oi 0, oi n, .unset, .unset] [(.int n), (.int 0)]))
  refine qS B X0 hZ hown 161 162 156 163 rfl rfl rfl rfl (own_chl hw (0 : Int32) n O0 g1_hcut.1) e0 own_pd14 rfl rfl d29_2 0 rfl rfl rfl (by decide) ?_
  rintro T1 h1 _ L1 X1 e1 ⟨rfl, M1, rfl⟩
  have N1 := Fr.app N0 M1
  refine q_iloadN B X1 d29_5 rfl rfl ?_
  refine q_iloadN B X1 d29_6 rfl rfl ?_
  refine q_isub B X1 d29_7 rfl rfl ?_
  show G (T1.setTop (mkF m 8 #[oa d, oi 0, oi n, .unset, .unset] [(.int (n - (0 : Int32)))]))
  rw [own_sub0 n]
  show G (T1.setTop (mkF m 8 #[oa d, oi 0, oi n, .unset, .unset] [(.int n)]))
  refine q_istoreN B X1 d29_8 rfl rfl rfl ?_
  refine q_iloadN B X1 d29_9 rfl rfl ?_
  refine qna 32 B X1 hZ 24 rfl e1 d29_10 g1_hcut.1 (own_cutc g1_hcut) (by decide) fun T2 h2 k2 b2 z2 X2 e2 E2 A2 => ?_
  have K2 := (Keep.refl h0 []).ext E2
  have O2 := O0.ext E2
  have V2 : Arv Z h2 b2 k2 .byte n [] (.int 0) := Arv.new A2 g1_hcut.1
  refine q_astore B X2 d29_12 rfl rfl rfl rfl ?_
  refine q_aloadN B X2 d29_14 rfl rfl rfl ?_
  refine q_iloadN B X2 d29_15 rfl rfl ?_
  refine q_aload B X2 d29_16 rfl rfl rfl ?_
  refine q_iconst B X2 d29_18 rfl ?_
  refine q_aloadN B X2 d29_19 rfl rfl rfl ?_
  have f4 := (g0_V.ext E2)
  refine qal B X2 hZ e2 f4 d29_20 ?_
  refine q_iloadN B X2 d29_21 rfl rfl ?_
  refine q_isub B X2 d29_22 rfl rfl ?_
  show G (T2.setTop (mkF m 23 #[oa d, oi 0, oi n, oi n, oa b2] [(.int (nd - (0 : Int32))), (.int 0), (.ref b2), (.int 0), (.ref d)]))
  rw [own_sub0 nd]
  show G (T2.setTop (mkF m 23 #[oa d, oi 0, oi n, oi n, oa b2] [(.int nd), (.int 0), (.ref b2), (.int 0), (.ref d)]))
  refine q_iloadN B X2 d29_23 rfl rfl ?_
  show G (T2.setTop (mkF m 24 #[oa d, oi 0, oi n, oi n, oa b2] [(.int n), (.int nd), (.int 0), (.ref b2), (.int 0), (.ref d)]))
  refine qS B X2 hZ hown 164 165 166 167 rfl rfl rfl rfl (own_minL hw nd n O2 g1_hcut.2.2.1) e2 own_pd27 rfl rfl d29_24 4 rfl rfl rfl (by decide) ?_
  rintro T5 h5 _ L5 X5 e5 ⟨rfl, M5, rfl⟩
  have N5 := Fr.app N1 M5
  show G (T5.setTop (mkF m 27 #[oa d, oi 0, oi n, oi n, oa b2] [(.int n), (.int 0), (.ref b2), (.int 0), (.ref d)]))
  obtain ⟨T6, h6, L6, X6, e6, N6, J6, V6, st6⟩ := cpA X5 hx hZ hown (ow hw 168 rfl) (ow hw 123 rfl) (ow hw 121 rfl) (ow hw 122 rfl) e5 f4 (V2.pad (pad_rep [] (.int 0) n.toNatClampNeg)) (Or.inl ⟨rfl, rfl⟩) (by decide) (by decide) g1_hcut.1 (own_cut4 g1_hcut) own_fit4 rfl (by rw [own_z0]; simp) N5 (own_ge O0 (Nat.le_of_eq z2.symm)) (g := (mkF m 27 #[oa d, oi 0, oi n, oi n, oa b2] [(.int n), (.int 0), (.ref b2), (.int 0), (.ref d)])) rfl (by rw [hml]; rfl) rfl (hb hby d29_27) (by decide) (W := 0) (by show 2 * 0 + _ ≤ _; exact Nat.le_of_eq rfl) (by decide)
  refine hG _ _ st6 ?_
  have K6 := K2.trans J6 (allS (Or.inr (Nat.le_trans (Keep.refl h0 []).1 (Nat.le_of_eq z2.symm))) all0)
  have O6 := O2.keep J6 (allS (own_ge O0 (Nat.le_of_eq z2.symm)) all0)
  have U6 : Arv Z h6 b2 k2 .byte n (ws.take k) (.int 0) := own_cutA g1_hcut (by simp) V6
  show G (T6.setTop (mkF m 30 #[oa d, oi 0, oi n, oi n, oa b2] []))
  refine q_aload B X6 d29_30 rfl rfl rfl ?_
  show G (T6.setTop (mkF m 32 #[oa d, oi 0, oi n, oi n, oa b2] [(.ref b2)]))
  exact qRA B hR hret rfl rfl X6 d29_32 e6 ⟨b2, k2, rfl, N6, K6, (Nat.le_trans (Keep.refl h0 []).1 (Nat.le_of_eq z2.symm)), U6⟩ (by decide)
theorem own_crS (hw : own_W Z a0) {d : Addr} {kd : ClassId} {nd : Int32} {ws : List Value} (n : Int32) (k : Nat) (O0 : own_Old Z h0) (g0_V : Arv Z h0 d kd .byte nd ws (.int 0)) (g1_hcut : own_cut nd n k ws) : own_Con l Z ⟨"java/util/Arrays", "copyOfRange", "([BII)[B"⟩ jdk_65_method_132_code 3 (some (.array .byte)) [] ⟨2, 1, 32, 56⟩ #[(.ref d), (.int 0), (.int n)] h0 (fun rv rh rL => ∃ (u : Addr) (ku : ClassId), rv = some (.ref u) ∧ own_Fr Z rL ∧ Keep h0 rh [] ∧ h0.size ≤ u ∧ (Arv Z rh u ku .byte n (ws.take k) (.int 0))) := by
  refine own_st hw (plainFor_of_name (by decide +kernel)) #[oa d, oi 0, oi n] (fun m => by first | (simp [entryFrame, mkF, argsToLocals, Value.category]; done) | rfl) fun p e s m below meth c s₁ G B hown hnm hret hZ X0 e0 N0 hR => ?_
  refine q_iloadN B X0 d28_0 rfl rfl ?_
  refine q_ifNo B X0 d28_1 rfl ((if0 _ _).trans (teq (by decide)).2) rfl ?_
  refine q_iloadN B X0 d28_4 rfl rfl ?_
  refine q_aloadN B X0 d28_5 rfl rfl rfl ?_
  refine qal B X0 hZ e0 g0_V d28_6 ?_
  refine q_icmpNo B X0 d28_7 rfl (feq (own_cut_ne g1_hcut)).1 rfl ?_
  refine q_aloadN B X0 d28_10 rfl rfl rfl ?_
  refine q_iloadN B X0 d28_11 rfl rfl ?_
  refine q_iloadN B X0 d28_12 rfl rfl ?_
  show G (s₁.setTop (mkF m 13 #[oa d, oi 0, oi n] [(.int n), (.int 0), (.ref d)]))
  refine qS B X0 hZ hown 158 159 156 160 rfl rfl rfl rfl (own_crbS hw n k O0 g0_V g1_hcut) e0 own_pd28 rfl rfl d28_13 0 rfl rfl rfl (by decide) ?_
  rintro T2 h2 _ L2 X2 e2 ⟨u_2, ku_2, rfl, M2, J2, y2_0, r2_0⟩
  have N2 := Fr.app N0 M2
  have K2 := (Keep.refl h0 []).trans J2 all0
  have O2 := O0.keep J2 all0
  show G (T2.setTop (mkF m 16 #[oa d, oi 0, oi n] [(.ref u_2)]))
  exact qRA B hR hret rfl rfl X2 d28_16 e2 ⟨u_2, ku_2, rfl, N2, K2, (Nat.le_trans (Keep.refl h0 []).1 y2_0), r2_0⟩ (by decide)
theorem own_siS0 (hw : own_W Z a0) {a q d : Addr} {kd : ClassId} {nd : Int32} {ws : List Value} {n : Int32} (k : Nat) {cpt : Int32} {v0 v1 : Value} (O0 : own_Old Z h0) (g0_E : Exa Z h0 a "java/lang/String") (g1_F : Fld Z h0 a "java/lang/String" "coder" "B" v0) (g2_F : Fld Z h0 a "java/lang/String" "value" "[B" v1) (g3_G : Z.heap.size ≤ a) (g4_ne_a_q : a ≠ q) (g5_ne_a_d : a ≠ d) (g6_E : Exa Z h0 q "java/lang/StringBuilder") (g7_F : Fld Z h0 q "java/lang/AbstractStringBuilder" "value" "[B" (.ref d)) (g8_F : Fld Z h0 q "java/lang/AbstractStringBuilder" "coder" "B" (.int 0)) (g9_F : Fld Z h0 q "java/lang/AbstractStringBuilder" "count" "I" (.int n)) (g10_F : Fld Z h0 q "java/lang/AbstractStringBuilder" "maybeLatin1" "Z" (.int 0)) (g11_V : Arv Z h0 d kd .byte nd ws (.int 0)) (g12_S : Sta Z Z.heap "java/lang/String" "COMPACT_STRINGS" "Z" (.int cpt)) (g13_hcpt : ¬ (cpt = (0 : Int32))) (g14_hcut : own_cut nd n k ws) : own_Con l Z ⟨"java/lang/String", "<init>", "(Ljava/lang/AbstractStringBuilder;Ljava/lang/Void;)V"⟩ jdk_42_method_150_code 5 none [] ⟨3, 1, 32, 71⟩ #[(.ref a), (.ref q), .null] h0 (fun rv rh rL => ∃ (u : Addr) (ku : ClassId), rv = none ∧ own_Fr Z rL ∧ Keep h0 rh [a] ∧ h0.size ≤ u ∧ (Exa Z rh a "java/lang/String") ∧ (Fld Z rh a "java/lang/String" "coder" "B" (.int 0)) ∧ (Fld Z rh a "java/lang/String" "value" "[B" (.ref u)) ∧ (Arv Z rh u ku .byte n (ws.take k) (.int 0))) := by
  refine own_st hw (plainFor_of_name (by decide +kernel)) #[oa a, oa q, .val .null, .unset, .unset] (fun m => by first | (simp [entryFrame, mkF, argsToLocals, Value.category]; done) | rfl) fun p e s m below meth c s₁ G B hown hnm hret hZ X0 e0 N0 hR => ?_
  obtain ⟨hG, hx, hby, hml, -⟩ := id B
  refine q_aloadN B X0 d23_0 rfl rfl rfl ?_
  show G (s₁.setTop (mkF m 1 #[oa a, oa q, .val .null, .unset, .unset] [(.ref a)]))
  obtain ⟨T1, X1, e1, st1⟩ := initO X0 hx hZ hown (ow hw 16 rfl) (ow hw 17 rfl) (ow hw 18 rfl) e0 (g := (mkF m 1 #[oa a, oa q, .val .null, .unset, .unset] [(.ref a)])) rfl (by rw [hml]; rfl) rfl (hb hby d23_1) (by decide) (W := 0) (by show 2 * 0 + _ ≤ _; exact Nat.le_of_eq rfl) (by decide)
  refine hG _ _ st1 ?_
  show G (T1.setTop (mkF m 4 #[oa a, oa q, .val .null, .unset, .unset] []))
  refine q_aloadN B X1 d23_4 rfl rfl rfl ?_
  show G (T1.setTop (mkF m 5 #[oa a, oa q, .val .null, .unset, .unset] [(.ref q)]))
  refine qV B X1 hZ hown 136 137 139 138 66 140 rfl rfl rfl rfl rfl rfl (own_getv hw O0 g7_F) e1 g6_E own_pd20 rfl rfl d23_5 0 rfl rfl rfl (by decide) ?_
  rintro T2 h2 _ L2 X2 e2 ⟨rfl, M2, rfl⟩
  have N2 := Fr.app N0 M2
  refine q_astoreN B X2 d23_8 rfl rfl rfl rfl ?_
  refine q_aloadN B X2 d23_9 rfl rfl rfl ?_
  show G (T2.setTop (mkF m 10 #[oa a, oa q, .val .null, oa d, .unset] [(.ref q)]))
  refine qVZ B X2 hZ hown 141 142 144 102 145 58 146 rfl rfl rfl rfl rfl rfl rfl rfl (own_sbl hw O0 g6_E g9_F) e2 g6_E own_pd12 rfl rfl d23_10 0 rfl rfl rfl (by decide) ?_
  rintro T3 h3 _ L3 X3 e3 ⟨rfl, M3, rfl⟩
  have N3 := Fr.app N2 M3
  refine q_istore B X3 d23_13 rfl rfl rfl ?_
  refine q_aloadN B X3 d23_15 rfl rfl rfl ?_
  show G (T3.setTop (mkF m 16 #[oa a, oa q, .val .null, oa d, oi n] [(.ref q)]))
  refine qV B X3 hZ hown 149 150 152 151 66 153 rfl rfl rfl rfl rfl rfl (own_asbL hw O0 g8_F g12_S g13_hcpt) e3 g6_E own_pd10 rfl rfl d23_16 0 rfl rfl rfl (by decide) ?_
  rintro T4 h4 _ L4 X4 e4 ⟨rfl, M4, rfl⟩
  have N4 := Fr.app N3 M4
  refine q_ifNo B X4 d23_19 rfl ((if0 _ _).trans (feq (by decide)).1) rfl ?_
  refine q_aloadN B X4 d23_22 rfl rfl rfl ?_
  refine q_iconst B X4 d23_23 rfl ?_
  refine qpn (.int 0) B X4 hZ hown 31 7 rfl rfl Via.refl e4 g1_F g0_E (Or.inr ⟨(ow hw 32 rfl), rfl, hnm⟩) (ty := .byte) (by decide) rfl rfl d23_24 fun T5 h5 X5 e5 W5 => ?_
  have K5 := (Keep.refl h0 [a]).wr W5 (own_mi 0 rfl)
  have O5 := O0.wr W5 g3_G
  have N5 := Fr.snoc X5 N4 g3_G
  refine q_aloadN B X5 d23_27 rfl rfl rfl ?_
  refine q_aloadN B X5 d23_28 rfl rfl rfl ?_
  refine q_iconst B X5 d23_29 rfl ?_
  refine q_iload B X5 d23_30 rfl rfl ?_
  show G (T5.setTop (mkF m 32 #[oa a, oa q, .val .null, oa d, oi n] [(.int n), (.int 0), (.ref d), (.ref a)]))
  have f7 := (g11_V.other W5 (Ne.symm g5_ne_a_d))
  refine qS B X5 hZ hown 154 155 156 157 rfl rfl rfl rfl (own_crS hw n k O5 f7 g14_hcut) e5 own_pd28 rfl rfl d23_32 1 rfl rfl rfl (by decide) ?_
  rintro T6 h6 _ L6 X6 e6 ⟨u_6, ku_6, rfl, M6, J6, y6_0, r6_0⟩
  have N6 := Fr.app N5 M6
  have K6 := K5.trans J6 all0
  have O6 := O5.keep J6 all0
  have f9 := ((g2_F.other W5 (Or.inr (slot_ne (Or.inr (ow hw 34 rfl)) (Or.inr (ow hw 32 rfl)) (by decide) (t := (.array .byte)) (t' := .byte) (by decide) (by decide)))).keep J6 nin0)
  have f10 := ((g0_E.wr W5).keep J6)
  refine qpf B X6 hZ hown 33 7 rfl rfl Via.refl e6 f9 f10 (Or.inr ⟨(ow hw 34 rfl), rfl, hnm⟩) (ty := (.array .byte)) (by decide) rfl rfl d23_35 fun T8 h8 X8 e8 W8 => ?_
  have K8 := K6.wr W8 (own_mi 0 rfl)
  have O8 := O6.wr W8 g3_G
  have N8 := Fr.snoc X8 N6 g3_G
  refine q_goto 97 B X8 d23_38 rfl rfl (by decide) ?_
  show G (T8.setTop (mkF m 97 #[oa a, oa q, .val .null, oa d, oi n] []))
  have f11 := (f10.wr W8)
  have f12 := (((g1_F.same W5).keep J6 nin0).other W8 (Or.inr (slot_ne (Or.inr (ow hw 32 rfl)) (Or.inr (ow hw 34 rfl)) (by decide) (t := .byte) (t' := (.array .byte)) (by decide) (by decide))))
  have f13 := (r6_0.other W8 (Ne.symm (own_ne (g1_F.same W5).lt y6_0)))
  exact qRV B hR hret X8 d23_97 e8 ⟨u_6, ku_6, rfl, N8, K8, (Nat.le_trans K5.1 y6_0), f11, f12, (f9.same W8), f13⟩ (by decide)
theorem own_ssS0 (hw : own_W Z a0) {a q d : Addr} {kd : ClassId} {nd : Int32} {ws : List Value} {n : Int32} (k : Nat) {cpt : Int32} {v0 v1 : Value} (O0 : own_Old Z h0) (g0_E : Exa Z h0 a "java/lang/String") (g1_F : Fld Z h0 a "java/lang/String" "coder" "B" v0) (g2_F : Fld Z h0 a "java/lang/String" "value" "[B" v1) (g3_G : Z.heap.size ≤ a) (g4_ne_a_q : a ≠ q) (g5_ne_a_d : a ≠ d) (g6_E : Exa Z h0 q "java/lang/StringBuilder") (g7_F : Fld Z h0 q "java/lang/AbstractStringBuilder" "value" "[B" (.ref d)) (g8_F : Fld Z h0 q "java/lang/AbstractStringBuilder" "coder" "B" (.int 0)) (g9_F : Fld Z h0 q "java/lang/AbstractStringBuilder" "count" "I" (.int n)) (g10_F : Fld Z h0 q "java/lang/AbstractStringBuilder" "maybeLatin1" "Z" (.int 0)) (g11_V : Arv Z h0 d kd .byte nd ws (.int 0)) (g12_S : Sta Z Z.heap "java/lang/String" "COMPACT_STRINGS" "Z" (.int cpt)) (g13_hcpt : ¬ (cpt = (0 : Int32))) (g14_hcut : own_cut nd n k ws) : own_Con l Z ⟨"java/lang/String", "<init>", "(Ljava/lang/StringBuilder;)V"⟩ jdk_42_method_53_code 2 none [] ⟨4, 1, 32, 87⟩ #[(.ref a), (.ref q)] h0 (fun rv rh rL => ∃ (u : Addr) (ku : ClassId), rv = none ∧ own_Fr Z rL ∧ Keep h0 rh [a] ∧ h0.size ≤ u ∧ (Exa Z rh a "java/lang/String") ∧ (Fld Z rh a "java/lang/String" "coder" "B" (.int 0)) ∧ (Fld Z rh a "java/lang/String" "value" "[B" (.ref u)) ∧ (Arv Z rh u ku .byte n (ws.take k) (.int 0))) := by
  refine own_st hw (plainFor_of_name (by decide +kernel)) #[oa a, oa q] (fun _ => rfl) fun p e s m below meth c s₁ G B hown hnm hret hZ X0 e0 N0 hR => ?_
  refine q_aloadN B X0 d22_0 rfl rfl rfl ?_
  refine q_aloadN B X0 d22_1 rfl rfl rfl ?_
  refine q_aconstNull B X0 d22_2 rfl ?_
  show G (s₁.setTop (mkF m 3 #[oa a, oa q] [.null, (.ref q), (.ref a)]))
  refine qI B X0 hZ hown 133 134 8 135 rfl rfl rfl rfl rfl (own_siS0 hw (n := n) k O0 g0_E g1_F g2_F g3_G g4_ne_a_q g5_ne_a_d g6_E g7_F g8_F g9_F g10_F g11_V g12_S g13_hcpt g14_hcut) e0 own_pd29 rfl rfl d22_3 0 rfl rfl rfl (by decide) ?_
  rintro T1 h1 _ L1 X1 e1 ⟨u_1, ku_1, rfl, M1, J1, y1_0, r1_0, r1_1, r1_2, r1_3⟩
  have N1 := Fr.app N0 M1
  have K1 := (Keep.refl h0 [a]).trans J1 (allS (own_mi 0 rfl) all0)
  have O1 := O0.keep J1 (allS g3_G all0)
  show G (T1.setTop (mkF m 6 #[oa a, oa q] []))
  exact qRV B hR hret X1 d22_6 e1 ⟨u_1, ku_1, rfl, N1, K1, (Nat.le_trans (Keep.refl h0 [a]).1 y1_0), r1_0, r1_1, r1_2, r1_3⟩ (by decide)
theorem own_tsS0 (hw : own_W Z a0) {q d : Addr} {kd : ClassId} {nd : Int32} {ws : List Value} {n : Int32} (k : Nat) {cpt : Int32} (O0 : own_Old Z h0) (g0_E : Exa Z h0 q "java/lang/StringBuilder") (g1_F : Fld Z h0 q "java/lang/AbstractStringBuilder" "value" "[B" (.ref d)) (g2_F : Fld Z h0 q "java/lang/AbstractStringBuilder" "coder" "B" (.int 0)) (g3_F : Fld Z h0 q "java/lang/AbstractStringBuilder" "count" "I" (.int n)) (g4_F : Fld Z h0 q "java/lang/AbstractStringBuilder" "maybeLatin1" "Z" (.int 0)) (g5_V : Arv Z h0 d kd .byte nd ws (.int 0)) (g6_S : Sta Z Z.heap "java/lang/String" "COMPACT_STRINGS" "Z" (.int cpt)) (g7_hcpt : ¬ (cpt = (0 : Int32))) (g8_hcut : own_cut nd n k ws) : own_Con l Z ⟨"java/lang/StringBuilder", "toString", "()Ljava/lang/String;"⟩ jdk_67_method_42_code 1 (some (.object "java/lang/String")) [] ⟨5, 2, 36, 101⟩ #[(.ref q)] h0 (fun rv rh rL => ∃ (a : Addr) (u : Addr) (ku : ClassId), rv = some (.ref a) ∧ own_Fr Z rL ∧ Keep h0 rh [] ∧ h0.size ≤ a ∧ h0.size ≤ u ∧ (Exa Z rh a "java/lang/String") ∧ (Fld Z rh a "java/lang/String" "coder" "B" (.int 0)) ∧ (Fld Z rh a "java/lang/String" "value" "[B" (.ref u)) ∧ (Arv Z rh u ku .byte n (ws.take k) (.int 0))) := by
  refine own_st hw (plainFor_of_name (by decide +kernel)) #[oa q] (fun _ => rfl) fun p e s m below meth c s₁ G B hown hnm hret hZ X0 e0 N0 hR => ?_
  refine qnw B X0 hZ hown 129 7 8 rfl rfl rfl e0 d21_0 (by decide) fun T1 h1 b1 z1 X1 e1 E1 A1 D1 => ?_
  have K1 := (Keep.refl h0 []).ext E1
  have O1 := O0.ext E1
  refine q_dup B X1 d21_3 rfl rfl rfl ?_
  refine q_aloadN B X1 d21_4 rfl rfl rfl ?_
  show G (T1.setTop (mkF m 5 #[oa q] [(.ref q), (.ref b1), (.ref b1)]))
  have f3 := (g0_E.ext E1)
  have f4 := (g1_F.ext E1)
  have f5 := (g2_F.ext E1)
  have f6 := (g3_F.ext E1)
  have f7 := (g4_F.ext E1)
  have f8 := (g5_V.ext E1)
  refine qI B X1 hZ hown 130 131 8 132 rfl rfl rfl rfl rfl (own_ssS0 hw (n := n) k O1 A1 (D1 (Or.inr (ow hw 32 rfl)) (ty := .byte) (by decide)) (D1 (Or.inr (ow hw 34 rfl)) (ty := (.array .byte)) (by decide)) (own_ge O0 (Nat.le_of_eq z1.symm)) (Ne.symm (own_ne g0_E.lt (Nat.le_of_eq z1.symm))) (Ne.symm (own_ne g5_V.lt (Nat.le_of_eq z1.symm))) f3 f4 f5 f6 f7 f8 g6_S g7_hcpt g8_hcut) e1 own_pd30 rfl rfl d21_5 1 rfl rfl rfl (by decide) ?_
  rintro T2 h2 _ L2 X2 e2 ⟨u_2, ku_2, rfl, M2, J2, y2_0, r2_0, r2_1, r2_2, r2_3⟩
  have N2 := Fr.app N0 M2
  have K2 := K1.trans J2 (allS (Or.inr (Nat.le_trans (Keep.refl h0 []).1 (Nat.le_of_eq z1.symm))) all0)
  have O2 := O1.keep J2 (allS (own_ge O0 (Nat.le_of_eq z1.symm)) all0)
  show G (T2.setTop (mkF m 8 #[oa q] [(.ref b1)]))
  exact qRA B hR hret rfl rfl X2 d21_8 e2 ⟨b1, u_2, ku_2, rfl, N2, K2, (Nat.le_trans (Keep.refl h0 []).1 (Nat.le_of_eq z1.symm)), (Nat.le_trans K1.1 y2_0), r2_0, r2_1, r2_2, r2_3⟩ (by decide)
theorem own_siS1 (hw : own_W Z a0) {a q d : Addr} {kd : ClassId} {nd : Int32} {ws : List Value} (n : Int32) {cnt : Int32} (k : Nat) {cpt : Int32} {v0 v1 : Value} (O0 : own_Old Z h0) (g0_E : Exa Z h0 a "java/lang/String") (g1_F : Fld Z h0 a "java/lang/String" "coder" "B" v0) (g2_F : Fld Z h0 a "java/lang/String" "value" "[B" v1) (g3_G : Z.heap.size ≤ a) (g4_ne_a_q : a ≠ q) (g5_ne_a_d : a ≠ d) (g6_E : Exa Z h0 q "java/lang/StringBuilder") (g7_F : Fld Z h0 q "java/lang/AbstractStringBuilder" "value" "[B" (.ref d)) (g8_F : Fld Z h0 q "java/lang/AbstractStringBuilder" "coder" "B" (.int 1)) (g9_F : Fld Z h0 q "java/lang/AbstractStringBuilder" "count" "I" (.int cnt)) (g10_F : Fld Z h0 q "java/lang/AbstractStringBuilder" "maybeLatin1" "Z" (.int 0)) (g11_V : Arv Z h0 d kd .byte nd ws (.int 0)) (g12_S : Sta Z Z.heap "java/lang/String" "COMPACT_STRINGS" "Z" (.int cpt)) (g13_hcpt : ¬ (cpt = (0 : Int32))) (g14_hcut : own_cut nd n k ws) (g15_hsh : (cnt <<< ((1 : Int32) &&& 31)) = n) : own_Con l Z ⟨"java/lang/String", "<init>", "(Ljava/lang/AbstractStringBuilder;Ljava/lang/Void;)V"⟩ jdk_42_method_150_code 5 none [] ⟨3, 1, 32, 71⟩ #[(.ref a), (.ref q), .null] h0 (fun rv rh rL => ∃ (u : Addr) (ku : ClassId), rv = none ∧ own_Fr Z rL ∧ Keep h0 rh [a] ∧ h0.size ≤ u ∧ (Exa Z rh a "java/lang/String") ∧ (Fld Z rh a "java/lang/String" "coder" "B" (.int 1)) ∧ (Fld Z rh a "java/lang/String" "value" "[B" (.ref u)) ∧ (Arv Z rh u ku .byte n (ws.take k) (.int 0))) := by
  refine own_st hw (plainFor_of_name (by decide +kernel)) #[oa a, oa q, .val .null, .unset, .unset] (fun m => by first | (simp [entryFrame, mkF, argsToLocals, Value.category]; done) | rfl) fun p e s m below meth c s₁ G B hown hnm hret hZ X0 e0 N0 hR => ?_
  obtain ⟨hG, hx, hby, hml, -⟩ := id B
  refine q_aloadN B X0 d23_0 rfl rfl rfl ?_
  show G (s₁.setTop (mkF m 1 #[oa a, oa q, .val .null, .unset, .unset] [(.ref a)]))
  obtain ⟨T1, X1, e1, st1⟩ := initO X0 hx hZ hown (ow hw 16 rfl) (ow hw 17 rfl) (ow hw 18 rfl) e0 (g := (mkF m 1 #[oa a, oa q, .val .null, .unset, .unset] [(.ref a)])) rfl (by rw [hml]; rfl) rfl (hb hby d23_1) (by decide) (W := 0) (by show 2 * 0 + _ ≤ _; exact Nat.le_of_eq rfl) (by decide)
  refine hG _ _ st1 ?_
  show G (T1.setTop (mkF m 4 #[oa a, oa q, .val .null, .unset, .unset] []))
  refine q_aloadN B X1 d23_4 rfl rfl rfl ?_
  show G (T1.setTop (mkF m 5 #[oa a, oa q, .val .null, .unset, .unset] [(.ref q)]))
  refine qV B X1 hZ hown 136 137 139 138 66 140 rfl rfl rfl rfl rfl rfl (own_getv hw O0 g7_F) e1 g6_E own_pd20 rfl rfl d23_5 0 rfl rfl rfl (by decide) ?_
  rintro T2 h2 _ L2 X2 e2 ⟨rfl, M2, rfl⟩
  have N2 := Fr.app N0 M2
  refine q_astoreN B X2 d23_8 rfl rfl rfl rfl ?_
  refine q_aloadN B X2 d23_9 rfl rfl rfl ?_
  show G (T2.setTop (mkF m 10 #[oa a, oa q, .val .null, oa d, .unset] [(.ref q)]))
  refine qVZ B X2 hZ hown 141 142 144 102 145 58 146 rfl rfl rfl rfl rfl rfl rfl rfl (own_sbl hw O0 g6_E g9_F) e2 g6_E own_pd12 rfl rfl d23_10 0 rfl rfl rfl (by decide) ?_
  rintro T3 h3 _ L3 X3 e3 ⟨rfl, M3, rfl⟩
  have N3 := Fr.app N2 M3
  refine q_istore B X3 d23_13 rfl rfl rfl ?_
  refine q_aloadN B X3 d23_15 rfl rfl rfl ?_
  show G (T3.setTop (mkF m 16 #[oa a, oa q, .val .null, oa d, oi cnt] [(.ref q)]))
  refine qV B X3 hZ hown 149 150 152 151 66 153 rfl rfl rfl rfl rfl rfl (own_asbU hw O0 g8_F g12_S g13_hcpt) e3 g6_E own_pd10 rfl rfl d23_16 0 rfl rfl rfl (by decide) ?_
  rintro T4 h4 _ L4 X4 e4 ⟨rfl, M4, rfl⟩
  have N4 := Fr.app N3 M4
  refine q_ifYes 41 B X4 d23_19 rfl ((if0 _ _).trans (teq (by decide)).1) rfl rfl (by decide) ?_
  refine qgs B X4 hZ hown 19 rfl Via.refl e4 g12_S O0 d23_41 fun T5 X5 e5 => ?_
  refine q_ifNo B X5 d23_44 rfl ((if0 _ _).trans (feq g13_hcpt).1) rfl ?_
  refine q_aloadN B X5 d23_47 rfl rfl rfl ?_
  refine qgf B X5 hZ hown 238 rfl Via.refl e5 g10_F d23_48 fun T6 X6 e6 => ?_
  refine q_ifYes 79 B X6 d23_51 rfl ((if0 _ _).trans (teq (by decide)).1) rfl rfl (by decide) ?_
  refine q_aloadN B X6 d23_79 rfl rfl rfl ?_
  refine q_iconst B X6 d23_80 rfl ?_
  refine qpn (.int 1) B X6 hZ hown 31 7 rfl rfl Via.refl e6 g1_F g0_E (Or.inr ⟨(ow hw 32 rfl), rfl, hnm⟩) (ty := .byte) (by decide) rfl rfl d23_81 fun T7 h7 X7 e7 W7 => ?_
  have K7 := (Keep.refl h0 [a]).wr W7 (own_mi 0 rfl)
  have O7 := O0.wr W7 g3_G
  have N7 := Fr.snoc X7 N4 g3_G
  refine q_aloadN B X7 d23_84 rfl rfl rfl ?_
  refine q_aloadN B X7 d23_85 rfl rfl rfl ?_
  refine q_iconst B X7 d23_86 rfl ?_
  refine q_iload B X7 d23_87 rfl rfl ?_
  refine q_iconst B X7 d23_89 rfl ?_
  refine q_ishl B X7 d23_90 rfl rfl ?_
  show G (T7.setTop (mkF m 91 #[oa a, oa q, .val .null, oa d, oi cnt] [(.int (cnt <<< ((1 : Int32) &&& 31))), (.int 0), (.ref d), (.ref a)]))
  rw [g15_hsh]
  show G (T7.setTop (mkF m 91 #[oa a, oa q, .val .null, oa d, oi cnt] [(.int n), (.int 0), (.ref d), (.ref a)]))
  have f9 := (g11_V.other W7 (Ne.symm g5_ne_a_d))
  refine qS B X7 hZ hown 154 155 156 157 rfl rfl rfl rfl (own_crS hw n k O7 f9 g14_hcut) e7 own_pd28 rfl rfl d23_91 1 rfl rfl rfl (by decide) ?_
  rintro T8 h8 _ L8 X8 e8 ⟨u_8, ku_8, rfl, M8, J8, y8_0, r8_0⟩
  have N8 := Fr.app N7 M8
  have K8 := K7.trans J8 all0
  have O8 := O7.keep J8 all0
  have f11 := ((g2_F.other W7 (Or.inr (slot_ne (Or.inr (ow hw 34 rfl)) (Or.inr (ow hw 32 rfl)) (by decide) (t := (.array .byte)) (t' := .byte) (by decide) (by decide)))).keep J8 nin0)
  have f12 := ((g0_E.wr W7).keep J8)
  refine qpf B X8 hZ hown 33 7 rfl rfl Via.refl e8 f11 f12 (Or.inr ⟨(ow hw 34 rfl), rfl, hnm⟩) (ty := (.array .byte)) (by decide) rfl rfl d23_94 fun T10 h10 X10 e10 W10 => ?_
  have K10 := K8.wr W10 (own_mi 0 rfl)
  have O10 := O8.wr W10 g3_G
  have N10 := Fr.snoc X10 N8 g3_G
  show G (T10.setTop (mkF m 97 #[oa a, oa q, .val .null, oa d, oi cnt] []))
  have f13 := (f12.wr W10)
  have f14 := (((g1_F.same W7).keep J8 nin0).other W10 (Or.inr (slot_ne (Or.inr (ow hw 32 rfl)) (Or.inr (ow hw 34 rfl)) (by decide) (t := .byte) (t' := (.array .byte)) (by decide) (by decide))))
  have f15 := (r8_0.other W10 (Ne.symm (own_ne (g1_F.same W7).lt y8_0)))
  exact qRV B hR hret X10 d23_97 e10 ⟨u_8, ku_8, rfl, N10, K10, (Nat.le_trans K7.1 y8_0), f13, f14, (f11.same W10), f15⟩ (by decide)
theorem own_ssS1 (hw : own_W Z a0) {a q d : Addr} {kd : ClassId} {nd : Int32} {ws : List Value} (n : Int32) {cnt : Int32} (k : Nat) {cpt : Int32} {v0 v1 : Value} (O0 : own_Old Z h0) (g0_E : Exa Z h0 a "java/lang/String") (g1_F : Fld Z h0 a "java/lang/String" "coder" "B" v0) (g2_F : Fld Z h0 a "java/lang/String" "value" "[B" v1) (g3_G : Z.heap.size ≤ a) (g4_ne_a_q : a ≠ q) (g5_ne_a_d : a ≠ d) (g6_E : Exa Z h0 q "java/lang/StringBuilder") (g7_F : Fld Z h0 q "java/lang/AbstractStringBuilder" "value" "[B" (.ref d)) (g8_F : Fld Z h0 q "java/lang/AbstractStringBuilder" "coder" "B" (.int 1)) (g9_F : Fld Z h0 q "java/lang/AbstractStringBuilder" "count" "I" (.int cnt)) (g10_F : Fld Z h0 q "java/lang/AbstractStringBuilder" "maybeLatin1" "Z" (.int 0)) (g11_V : Arv Z h0 d kd .byte nd ws (.int 0)) (g12_S : Sta Z Z.heap "java/lang/String" "COMPACT_STRINGS" "Z" (.int cpt)) (g13_hcpt : ¬ (cpt = (0 : Int32))) (g14_hcut : own_cut nd n k ws) (g15_hsh : (cnt <<< ((1 : Int32) &&& 31)) = n) : own_Con l Z ⟨"java/lang/String", "<init>", "(Ljava/lang/StringBuilder;)V"⟩ jdk_42_method_53_code 2 none [] ⟨4, 1, 32, 87⟩ #[(.ref a), (.ref q)] h0 (fun rv rh rL => ∃ (u : Addr) (ku : ClassId), rv = none ∧ own_Fr Z rL ∧ Keep h0 rh [a] ∧ h0.size ≤ u ∧ (Exa Z rh a "java/lang/String") ∧ (Fld Z rh a "java/lang/String" "coder" "B" (.int 1)) ∧ (Fld Z rh a "java/lang/String" "value" "[B" (.ref u)) ∧ (Arv Z rh u ku .byte n (ws.take k) (.int 0))) := by
  refine own_st hw (plainFor_of_name (by decide +kernel)) #[oa a, oa q] (fun _ => rfl) fun p e s m below meth c s₁ G B hown hnm hret hZ X0 e0 N0 hR => ?_
  refine q_aloadN B X0 d22_0 rfl rfl rfl ?_
  refine q_aloadN B X0 d22_1 rfl rfl rfl ?_
  refine q_aconstNull B X0 d22_2 rfl ?_
  show G (s₁.setTop (mkF m 3 #[oa a, oa q] [.null, (.ref q), (.ref a)]))
  refine qI B X0 hZ hown 133 134 8 135 rfl rfl rfl rfl rfl (own_siS1 hw n k O0 g0_E g1_F g2_F g3_G g4_ne_a_q g5_ne_a_d g6_E g7_F g8_F g9_F g10_F g11_V g12_S g13_hcpt g14_hcut g15_hsh) e0 own_pd29 rfl rfl d22_3 0 rfl rfl rfl (by decide) ?_
  rintro T1 h1 _ L1 X1 e1 ⟨u_1, ku_1, rfl, M1, J1, y1_0, r1_0, r1_1, r1_2, r1_3⟩
  have N1 := Fr.app N0 M1
  have K1 := (Keep.refl h0 [a]).trans J1 (allS (own_mi 0 rfl) all0)
  have O1 := O0.keep J1 (allS g3_G all0)
  show G (T1.setTop (mkF m 6 #[oa a, oa q] []))
  exact qRV B hR hret X1 d22_6 e1 ⟨u_1, ku_1, rfl, N1, K1, (Nat.le_trans (Keep.refl h0 [a]).1 y1_0), r1_0, r1_1, r1_2, r1_3⟩ (by decide)
theorem own_tsS1 (hw : own_W Z a0) {q d : Addr} {kd : ClassId} {nd : Int32} {ws : List Value} (n : Int32) {cnt : Int32} (k : Nat) {cpt : Int32} (O0 : own_Old Z h0) (g0_E : Exa Z h0 q "java/lang/StringBuilder") (g1_F : Fld Z h0 q "java/lang/AbstractStringBuilder" "value" "[B" (.ref d)) (g2_F : Fld Z h0 q "java/lang/AbstractStringBuilder" "coder" "B" (.int 1)) (g3_F : Fld Z h0 q "java/lang/AbstractStringBuilder" "count" "I" (.int cnt)) (g4_F : Fld Z h0 q "java/lang/AbstractStringBuilder" "maybeLatin1" "Z" (.int 0)) (g5_V : Arv Z h0 d kd .byte nd ws (.int 0)) (g6_S : Sta Z Z.heap "java/lang/String" "COMPACT_STRINGS" "Z" (.int cpt)) (g7_hcpt : ¬ (cpt = (0 : Int32))) (g8_hcut : own_cut nd n k ws) (g9_hsh : (cnt <<< ((1 : Int32) &&& 31)) = n) : own_Con l Z ⟨"java/lang/StringBuilder", "toString", "()Ljava/lang/String;"⟩ jdk_67_method_42_code 1 (some (.object "java/lang/String")) [] ⟨5, 2, 36, 101⟩ #[(.ref q)] h0 (fun rv rh rL => ∃ (a : Addr) (u : Addr) (ku : ClassId), rv = some (.ref a) ∧ own_Fr Z rL ∧ Keep h0 rh [] ∧ h0.size ≤ a ∧ h0.size ≤ u ∧ (Exa Z rh a "java/lang/String") ∧ (Fld Z rh a "java/lang/String" "coder" "B" (.int 1)) ∧ (Fld Z rh a "java/lang/String" "value" "[B" (.ref u)) ∧ (Arv Z rh u ku .byte n (ws.take k) (.int 0))) := by
  refine own_st hw (plainFor_of_name (by decide +kernel)) #[oa q] (fun _ => rfl) fun p e s m below meth c s₁ G B hown hnm hret hZ X0 e0 N0 hR => ?_
  refine qnw B X0 hZ hown 129 7 8 rfl rfl rfl e0 d21_0 (by decide) fun T1 h1 b1 z1 X1 e1 E1 A1 D1 => ?_
  have K1 := (Keep.refl h0 []).ext E1
  have O1 := O0.ext E1
  refine q_dup B X1 d21_3 rfl rfl rfl ?_
  refine q_aloadN B X1 d21_4 rfl rfl rfl ?_
  show G (T1.setTop (mkF m 5 #[oa q] [(.ref q), (.ref b1), (.ref b1)]))
  have f3 := (g0_E.ext E1)
  have f4 := (g1_F.ext E1)
  have f5 := (g2_F.ext E1)
  have f6 := (g3_F.ext E1)
  have f7 := (g4_F.ext E1)
  have f8 := (g5_V.ext E1)
  refine qI B X1 hZ hown 130 131 8 132 rfl rfl rfl rfl rfl (own_ssS1 hw n k O1 A1 (D1 (Or.inr (ow hw 32 rfl)) (ty := .byte) (by decide)) (D1 (Or.inr (ow hw 34 rfl)) (ty := (.array .byte)) (by decide)) (own_ge O0 (Nat.le_of_eq z1.symm)) (Ne.symm (own_ne g0_E.lt (Nat.le_of_eq z1.symm))) (Ne.symm (own_ne g5_V.lt (Nat.le_of_eq z1.symm))) f3 f4 f5 f6 f7 f8 g6_S g7_hcpt g8_hcut g9_hsh) e1 own_pd30 rfl rfl d21_5 1 rfl rfl rfl (by decide) ?_
  rintro T2 h2 _ L2 X2 e2 ⟨u_2, ku_2, rfl, M2, J2, y2_0, r2_0, r2_1, r2_2, r2_3⟩
  have N2 := Fr.app N0 M2
  have K2 := K1.trans J2 (allS (Or.inr (Nat.le_trans (Keep.refl h0 []).1 (Nat.le_of_eq z1.symm))) all0)
  have O2 := O1.keep J2 (allS (own_ge O0 (Nat.le_of_eq z1.symm)) all0)
  show G (T2.setTop (mkF m 8 #[oa q] [(.ref b1)]))
  exact qRA B hR hret rfl rfl X2 d21_8 e2 ⟨b1, u_2, ku_2, rfl, N2, K2, (Nat.le_trans (Keep.refl h0 []).1 (Nat.le_of_eq z1.symm)), (Nat.le_trans K1.1 y2_0), r2_0, r2_1, r2_2, r2_3⟩ (by decide)
theorem own_ucS5 (hw : own_W Z a0) {u : Addr} {ku : ClassId} {ws : List Value} {fmt : Value} (O0 : own_Old Z h0) (g0_V : Arv Z h0 u ku .byte (32 : Int32) ws (.int 0)) (g1_hfmt : fmt.isRef = true) (g2_S : Sta Z Z.heap "jdk/internal/util/Preconditions" "SIOOBE_FORMATTER" "Ljava/util/function/BiFunction;" fmt) : own_Con l Z ⟨"java/lang/StringUTF16", "checkBoundsOffCount", "(II[B)V"⟩ jdk_52_method_94_code 3 none [] ⟨2, 0, 0, 29⟩ #[(.int 0), (.int 5), (.ref u)] h0 (fun rv rh rL => rv = none ∧ own_Fr Z rL ∧ h0 = rh) := by
  refine own_st hw (plainFor_of_name (by decide +kernel)) #[oi 0, oi 5, oa u] (fun m => by first | (simp [entryFrame, mkF, argsToLocals, Value.category]; done) | rfl) fun p e s m below meth c s₁ G B hown hnm hret hZ X0 e0 N0 hR => ?_
  refine q_iloadN B X0 d45_0 rfl rfl ?_
  refine q_iloadN B X0 d45_1 rfl rfl ?_
  refine q_aloadN B X0 d45_2 rfl rfl rfl ?_
  show G (s₁.setTop (mkF m 3 #[oi 0, oi 5, oa u] [(.ref u), (.int 5), (.int 0)]))
  refine qS B X0 hZ hown 229 230 22 231 rfl rfl rfl rfl (own_l16 hw 16 O0 g0_V (by decide)) e0 own_pd15 rfl rfl d45_3 2 rfl rfl rfl (by decide) ?_
  rintro T1 h1 _ L1 X1 e1 ⟨rfl, M1, rfl⟩
  have N1 := Fr.app N0 M1
  show G (T1.setTop (mkF m 6 #[oi 0, oi 5, oa u] [(.int (Int32.ofNat 16)), (.int 5), (.int 0)]))
  show G (T1.setTop (mkF m 6 #[oi 0, oi 5, oa u] [(.int 16), (.int 5), (.int 0)]))
  refine qS B X1 hZ hown 232 233 8 234 rfl rfl rfl rfl (own_cboc hw (0 : Int32) (5 : Int32) (16 : Int32) O0 (by decide) (by decide) g1_hfmt g2_S) e1 own_pd22 rfl rfl d45_6 0 rfl rfl rfl (by decide) ?_
  rintro T2 h2 _ L2 X2 e2 ⟨rfl, M2, rfl⟩
  have N2 := Fr.app N1 M2
  refine q_pop B X2 d45_9 rfl rfl rfl ?_
  show G (T2.setTop (mkF m 10 #[oi 0, oi 5, oa u] []))
  exact qRV B hR hret X2 d45_10 e2 ⟨rfl, N2, rfl⟩ (by decide)
theorem own_ucS6 (hw : own_W Z a0) {u : Addr} {ku : ClassId} {ws : List Value} {fmt : Value} (O0 : own_Old Z h0) (g0_V : Arv Z h0 u ku .byte (32 : Int32) ws (.int 0)) (g1_hfmt : fmt.isRef = true) (g2_S : Sta Z Z.heap "jdk/internal/util/Preconditions" "SIOOBE_FORMATTER" "Ljava/util/function/BiFunction;" fmt) : own_Con l Z ⟨"java/lang/StringUTF16", "checkBoundsOffCount", "(II[B)V"⟩ jdk_52_method_94_code 3 none [] ⟨2, 0, 0, 29⟩ #[(.int 0), (.int 6), (.ref u)] h0 (fun rv rh rL => rv = none ∧ own_Fr Z rL ∧ h0 = rh) := by
  refine own_st hw (plainFor_of_name (by decide +kernel)) #[oi 0, oi 6, oa u] (fun m => by first | (simp [entryFrame, mkF, argsToLocals, Value.category]; done) | rfl) fun p e s m below meth c s₁ G B hown hnm hret hZ X0 e0 N0 hR => ?_
  refine q_iloadN B X0 d45_0 rfl rfl ?_
  refine q_iloadN B X0 d45_1 rfl rfl ?_
  refine q_aloadN B X0 d45_2 rfl rfl rfl ?_
  show G (s₁.setTop (mkF m 3 #[oi 0, oi 6, oa u] [(.ref u), (.int 6), (.int 0)]))
  refine qS B X0 hZ hown 229 230 22 231 rfl rfl rfl rfl (own_l16 hw 16 O0 g0_V (by decide)) e0 own_pd15 rfl rfl d45_3 2 rfl rfl rfl (by decide) ?_
  rintro T1 h1 _ L1 X1 e1 ⟨rfl, M1, rfl⟩
  have N1 := Fr.app N0 M1
  show G (T1.setTop (mkF m 6 #[oi 0, oi 6, oa u] [(.int (Int32.ofNat 16)), (.int 6), (.int 0)]))
  show G (T1.setTop (mkF m 6 #[oi 0, oi 6, oa u] [(.int 16), (.int 6), (.int 0)]))
  refine qS B X1 hZ hown 232 233 8 234 rfl rfl rfl rfl (own_cboc hw (0 : Int32) (6 : Int32) (16 : Int32) O0 (by decide) (by decide) g1_hfmt g2_S) e1 own_pd22 rfl rfl d45_6 0 rfl rfl rfl (by decide) ?_
  rintro T2 h2 _ L2 X2 e2 ⟨rfl, M2, rfl⟩
  have N2 := Fr.app N1 M2
  refine q_pop B X2 d45_9 rfl rfl rfl ?_
  show G (T2.setTop (mkF m 10 #[oi 0, oi 6, oa u] []))
  exact qRV B hR hret X2 d45_10 e2 ⟨rfl, N2, rfl⟩ (by decide)
theorem own_uinf6 (hw : own_W Z a0) {d : Addr} {kd : ClassId} {u : Addr} {ku : ClassId} {fmt : Value} (O0 : own_Old Z h0) (g0_V : Arv Z h0 d kd .byte (16 : Int32) own_e6 (.int 0)) (g1_V : Arv Z h0 u ku .byte (32 : Int32) own_z32 (.int 0)) (g2_G : Z.heap.size ≤ u) (g3_ne_d_u : d ≠ u) (g4_S : Sta Z Z.heap "java/lang/StringUTF16" "$assertionsDisabled" "Z" (.int 1)) (g5_S : Sta Z Z.heap "java/lang/StringUTF16" "HI_BYTE_SHIFT" "I" (.int 0)) (g6_S : Sta Z Z.heap "java/lang/StringUTF16" "LO_BYTE_SHIFT" "I" (.int 8)) (g7_hfmt : fmt.isRef = true) (g8_S : Sta Z Z.heap "jdk/internal/util/Preconditions" "SIOOBE_FORMATTER" "Ljava/util/function/BiFunction;" fmt) : own_Con l Z ⟨"java/lang/StringUTF16", "inflate", "([BI[BII)V"⟩ jdk_52_method_86_code 6 none [] ⟨3, 0, 0, 43⟩ #[(.ref d), (.int 0), (.ref u), (.int 0), (.int 6)] h0 (fun rv rh rL => rv = none ∧ own_Fr Z rL ∧ Keep h0 rh [u] ∧ (Arv Z rh u ku .byte (32 : Int32) own_r6 (.int 0))) := by
  refine own_st hw (plainFor_of_name (by decide +kernel)) #[oa d, oi 0, oa u, oi 0, oi 6, .unset] (fun m => by first | (simp [entryFrame, mkF, argsToLocals, Value.category]; done) | rfl) fun p e s m below meth c s₁ G B hown hnm hret hZ X0 e0 N0 hR => ?_
  refine q_iloadN B X0 d44_0 rfl rfl ?_
  refine q_iload B X0 d44_1 rfl rfl ?_
  refine q_aloadN B X0 d44_3 rfl rfl rfl ?_
  show G (s₁.setTop (mkF m 4 #[oa d, oi 0, oa u, oi 0, oi 6, .unset] [(.ref u), (.int 6), (.int 0)]))
  refine qS B X0 hZ hown 226 227 22 228 rfl rfl rfl rfl (own_ucS6 hw O0 g1_V g7_hfmt g8_S) e0 own_pd32 rfl rfl d44_4 0 rfl rfl rfl (by decide) ?_
  rintro T1 h1 _ L1 X1 e1 ⟨rfl, M1, rfl⟩
  have N1 := Fr.app N0 M1
  refine q_iconst B X1 d44_7 rfl ?_
  refine q_istore B X1 d44_8 rfl rfl rfl ?_
  show G (T1.setTop (mkF m 10 #[oa d, oi 0, oa u, oi 0, oi 6, oi 0] []))
  refine q_iload B X1 d44_10 rfl rfl ?_
  refine q_iload B X1 d44_12 rfl rfl ?_
  refine q_icmpNo B X1 d44_14 rfl (tlt (by decide)).2.1 rfl ?_
  refine q_aloadN B X1 d44_17 rfl rfl rfl ?_
  refine q_iloadN B X1 d44_18 rfl rfl ?_
  refine q_iinc B X1 d44_19 rfl rfl rfl ?_
  show G (T1.setTop (mkF m 22 #[oa d, oi 0, oa u, oi ((0 : Int32) + (1 : Int32)), oi 6, oi 0] [(.int 0), (.ref u)]))
  rw [show ((0 : Int32) + (1 : Int32)) = (1 : Int32) from by decide]
  show G (T1.setTop (mkF m 22 #[oa d, oi 0, oa u, oi 1, oi 6, oi 0] [(.int 0), (.ref u)]))
  refine q_aloadN B X1 d44_22 rfl rfl rfl ?_
  refine q_iloadN B X1 d44_23 rfl rfl ?_
  refine q_iinc B X1 d44_24 rfl rfl rfl ?_
  show G (T1.setTop (mkF m 27 #[oa d, oi ((0 : Int32) + (1 : Int32)), oa u, oi 1, oi 6, oi 0] [(.int 0), (.ref d), (.int 0), (.ref u)]))
  rw [show ((0 : Int32) + (1 : Int32)) = (1 : Int32) from by decide]
  show G (T1.setTop (mkF m 27 #[oa d, oi 1, oa u, oi 1, oi 6, oi 0] [(.int 0), (.ref d), (.int 0), (.ref u)]))
  refine qlb (v := (.int 97)) B X1 hZ e1 g0_V d44_27 (by decide) rfl ?_
  refine q_sipush B X1 d44_28 rfl ?_
  refine q_iand B X1 d44_31 rfl rfl ?_
  show G (T1.setTop (mkF m 32 #[oa d, oi 1, oa u, oi 1, oi 6, oi 0] [(.int ((97 : Int32) &&& (255 : Int32))), (.int 0), (.ref u)]))
  rw [show ((97 : Int32) &&& (255 : Int32)) = (97 : Int32) from by decide]
  show G (T1.setTop (mkF m 32 #[oa d, oi 1, oa u, oi 1, oi 6, oi 0] [(.int 97), (.int 0), (.ref u)]))
  refine qS B X1 hZ hown 204 205 22 206 rfl rfl rfl rfl (own_put hw 32 0 (97 : Int32) O0 g1_V g2_G (by decide) (by decide) rfl g4_S g5_S g6_S) e1 own_pd1 rfl rfl d44_32 0 rfl rfl rfl (by decide) ?_
  rintro T3 h3 _ L3 X3 e3 ⟨rfl, M3, J3, r3_0⟩
  have N3 := Fr.app N1 M3
  have K3 := (Keep.refl h0 [u]).trans J3 (allS (own_mi 0 rfl) all0)
  have O3 := O0.keep J3 (allS g2_G all0)
  show G (T3.setTop (mkF m 35 #[oa d, oi 1, oa u, oi 1, oi 6, oi 0] []))
  refine q_iinc B X3 d44_35 rfl rfl rfl ?_
  show G (T3.setTop (mkF m 38 #[oa d, oi 1, oa u, oi 1, oi 6, oi ((0 : Int32) + (1 : Int32))] []))
  rw [show ((0 : Int32) + (1 : Int32)) = (1 : Int32) from by decide]
  show G (T3.setTop (mkF m 38 #[oa d, oi 1, oa u, oi 1, oi 6, oi 1] []))
  refine q_goto 10 B X3 d44_38 rfl rfl (by decide) ?_
  show G (T3.setTop (mkF m 10 #[oa d, oi 1, oa u, oi 1, oi 6, oi 1] []))
  refine q_iload B X3 d44_10 rfl rfl ?_
  refine q_iload B X3 d44_12 rfl rfl ?_
  refine q_icmpNo B X3 d44_14 rfl (tlt (by decide)).2.1 rfl ?_
  refine q_aloadN B X3 d44_17 rfl rfl rfl ?_
  refine q_iloadN B X3 d44_18 rfl rfl ?_
  refine q_iinc B X3 d44_19 rfl rfl rfl ?_
  show G (T3.setTop (mkF m 22 #[oa d, oi 1, oa u, oi ((1 : Int32) + (1 : Int32)), oi 6, oi 1] [(.int 1), (.ref u)]))
  rw [show ((1 : Int32) + (1 : Int32)) = (2 : Int32) from by decide]
  show G (T3.setTop (mkF m 22 #[oa d, oi 1, oa u, oi 2, oi 6, oi 1] [(.int 1), (.ref u)]))
  refine q_aloadN B X3 d44_22 rfl rfl rfl ?_
  refine q_iloadN B X3 d44_23 rfl rfl ?_
  refine q_iinc B X3 d44_24 rfl rfl rfl ?_
  show G (T3.setTop (mkF m 27 #[oa d, oi ((1 : Int32) + (1 : Int32)), oa u, oi 2, oi 6, oi 1] [(.int 1), (.ref d), (.int 1), (.ref u)]))
  rw [show ((1 : Int32) + (1 : Int32)) = (2 : Int32) from by decide]
  show G (T3.setTop (mkF m 27 #[oa d, oi 2, oa u, oi 2, oi 6, oi 1] [(.int 1), (.ref d), (.int 1), (.ref u)]))
  have f5 := (g0_V.keep J3 (ninS g3_ne_d_u nin0))
  refine qlb (v := (.int 108)) B X3 hZ e3 f5 d44_27 (by decide) rfl ?_
  refine q_sipush B X3 d44_28 rfl ?_
  refine q_iand B X3 d44_31 rfl rfl ?_
  show G (T3.setTop (mkF m 32 #[oa d, oi 2, oa u, oi 2, oi 6, oi 1] [(.int ((108 : Int32) &&& (255 : Int32))), (.int 1), (.ref u)]))
  rw [show ((108 : Int32) &&& (255 : Int32)) = (108 : Int32) from by decide]
  show G (T3.setTop (mkF m 32 #[oa d, oi 2, oa u, oi 2, oi 6, oi 1] [(.int 108), (.int 1), (.ref u)]))
  refine qS B X3 hZ hown 204 205 22 206 rfl rfl rfl rfl (own_put hw 32 1 (108 : Int32) O3 r3_0 g2_G (by decide) (by decide) rfl g4_S g5_S g6_S) e3 own_pd1 rfl rfl d44_32 0 rfl rfl rfl (by decide) ?_
  rintro T6 h6 _ L6 X6 e6 ⟨rfl, M6, J6, r6_0⟩
  have N6 := Fr.app N3 M6
  have K6 := K3.trans J6 (allS (own_mi 0 rfl) all0)
  have O6 := O3.keep J6 (allS g2_G all0)
  show G (T6.setTop (mkF m 35 #[oa d, oi 2, oa u, oi 2, oi 6, oi 1] []))
  refine q_iinc B X6 d44_35 rfl rfl rfl ?_
  show G (T6.setTop (mkF m 38 #[oa d, oi 2, oa u, oi 2, oi 6, oi ((1 : Int32) + (1 : Int32))] []))
  rw [show ((1 : Int32) + (1 : Int32)) = (2 : Int32) from by decide]
  show G (T6.setTop (mkF m 38 #[oa d, oi 2, oa u, oi 2, oi 6, oi 2] []))
  refine q_goto 10 B X6 d44_38 rfl rfl (by decide) ?_
  show G (T6.setTop (mkF m 10 #[oa d, oi 2, oa u, oi 2, oi 6, oi 2] []))
  refine q_iload B X6 d44_10 rfl rfl ?_
  refine q_iload B X6 d44_12 rfl rfl ?_
  refine q_icmpNo B X6 d44_14 rfl (tlt (by decide)).2.1 rfl ?_
  refine q_aloadN B X6 d44_17 rfl rfl rfl ?_
  refine q_iloadN B X6 d44_18 rfl rfl ?_
  refine q_iinc B X6 d44_19 rfl rfl rfl ?_
  show G (T6.setTop (mkF m 22 #[oa d, oi 2, oa u, oi ((2 : Int32) + (1 : Int32)), oi 6, oi 2] [(.int 2), (.ref u)]))
  rw [show ((2 : Int32) + (1 : Int32)) = (3 : Int32) from by decide]
  show G (T6.setTop (mkF m 22 #[oa d, oi 2, oa u, oi 3, oi 6, oi 2] [(.int 2), (.ref u)]))
  refine q_aloadN B X6 d44_22 rfl rfl rfl ?_
  refine q_iloadN B X6 d44_23 rfl rfl ?_
  refine q_iinc B X6 d44_24 rfl rfl rfl ?_
  show G (T6.setTop (mkF m 27 #[oa d, oi ((2 : Int32) + (1 : Int32)), oa u, oi 3, oi 6, oi 2] [(.int 2), (.ref d), (.int 2), (.ref u)]))
  rw [show ((2 : Int32) + (1 : Int32)) = (3 : Int32) from by decide]
  show G (T6.setTop (mkF m 27 #[oa d, oi 3, oa u, oi 3, oi 6, oi 2] [(.int 2), (.ref d), (.int 2), (.ref u)]))
  have f8 := (f5.keep J6 (ninS g3_ne_d_u nin0))
  refine qlb (v := (.int 108)) B X6 hZ e6 f8 d44_27 (by decide) rfl ?_
  refine q_sipush B X6 d44_28 rfl ?_
  refine q_iand B X6 d44_31 rfl rfl ?_
  show G (T6.setTop (mkF m 32 #[oa d, oi 3, oa u, oi 3, oi 6, oi 2] [(.int ((108 : Int32) &&& (255 : Int32))), (.int 2), (.ref u)]))
  rw [show ((108 : Int32) &&& (255 : Int32)) = (108 : Int32) from by decide]
  show G (T6.setTop (mkF m 32 #[oa d, oi 3, oa u, oi 3, oi 6, oi 2] [(.int 108), (.int 2), (.ref u)]))
  refine qS B X6 hZ hown 204 205 22 206 rfl rfl rfl rfl (own_put hw 32 2 (108 : Int32) O6 r6_0 g2_G (by decide) (by decide) rfl g4_S g5_S g6_S) e6 own_pd1 rfl rfl d44_32 0 rfl rfl rfl (by decide) ?_
  rintro T9 h9 _ L9 X9 e9 ⟨rfl, M9, J9, r9_0⟩
  have N9 := Fr.app N6 M9
  have K9 := K6.trans J9 (allS (own_mi 0 rfl) all0)
  have O9 := O6.keep J9 (allS g2_G all0)
  show G (T9.setTop (mkF m 35 #[oa d, oi 3, oa u, oi 3, oi 6, oi 2] []))
  refine q_iinc B X9 d44_35 rfl rfl rfl ?_
  show G (T9.setTop (mkF m 38 #[oa d, oi 3, oa u, oi 3, oi 6, oi ((2 : Int32) + (1 : Int32))] []))
  rw [show ((2 : Int32) + (1 : Int32)) = (3 : Int32) from by decide]
  show G (T9.setTop (mkF m 38 #[oa d, oi 3, oa u, oi 3, oi 6, oi 3] []))
  refine q_goto 10 B X9 d44_38 rfl rfl (by decide) ?_
  show G (T9.setTop (mkF m 10 #[oa d, oi 3, oa u, oi 3, oi 6, oi 3] []))
  refine q_iload B X9 d44_10 rfl rfl ?_
  refine q_iload B X9 d44_12 rfl rfl ?_
  refine q_icmpNo B X9 d44_14 rfl (tlt (by decide)).2.1 rfl ?_
  refine q_aloadN B X9 d44_17 rfl rfl rfl ?_
  refine q_iloadN B X9 d44_18 rfl rfl ?_
  refine q_iinc B X9 d44_19 rfl rfl rfl ?_
  show G (T9.setTop (mkF m 22 #[oa d, oi 3, oa u, oi ((3 : Int32) + (1 : Int32)), oi 6, oi 3] [(.int 3), (.ref u)]))
  rw [show ((3 : Int32) + (1 : Int32)) = (4 : Int32) from by decide]
  show G (T9.setTop (mkF m 22 #[oa d, oi 3, oa u, oi 4, oi 6, oi 3] [(.int 3), (.ref u)]))
  refine q_aloadN B X9 d44_22 rfl rfl rfl ?_
  refine q_iloadN B X9 d44_23 rfl rfl ?_
  refine q_iinc B X9 d44_24 rfl rfl rfl ?_
  show G (T9.setTop (mkF m 27 #[oa d, oi ((3 : Int32) + (1 : Int32)), oa u, oi 4, oi 6, oi 3] [(.int 3), (.ref d), (.int 3), (.ref u)]))
  rw [show ((3 : Int32) + (1 : Int32)) = (4 : Int32) from by decide]
  show G (T9.setTop (mkF m 27 #[oa d, oi 4, oa u, oi 4, oi 6, oi 3] [(.int 3), (.ref d), (.int 3), (.ref u)]))
  have f11 := (f8.keep J9 (ninS g3_ne_d_u nin0))
  refine qlb (v := (.int 111)) B X9 hZ e9 f11 d44_27 (by decide) rfl ?_
  refine q_sipush B X9 d44_28 rfl ?_
  refine q_iand B X9 d44_31 rfl rfl ?_
  show G (T9.setTop (mkF m 32 #[oa d, oi 4, oa u, oi 4, oi 6, oi 3] [(.int ((111 : Int32) &&& (255 : Int32))), (.int 3), (.ref u)]))
  rw [show ((111 : Int32) &&& (255 : Int32)) = (111 : Int32) from by decide]
  show G (T9.setTop (mkF m 32 #[oa d, oi 4, oa u, oi 4, oi 6, oi 3] [(.int 111), (.int 3), (.ref u)]))
  refine qS B X9 hZ hown 204 205 22 206 rfl rfl rfl rfl (own_put hw 32 3 (111 : Int32) O9 r9_0 g2_G (by decide) (by decide) rfl g4_S g5_S g6_S) e9 own_pd1 rfl rfl d44_32 0 rfl rfl rfl (by decide) ?_
  rintro T12 h12 _ L12 X12 e12 ⟨rfl, M12, J12, r12_0⟩
  have N12 := Fr.app N9 M12
  have K12 := K9.trans J12 (allS (own_mi 0 rfl) all0)
  have O12 := O9.keep J12 (allS g2_G all0)
  show G (T12.setTop (mkF m 35 #[oa d, oi 4, oa u, oi 4, oi 6, oi 3] []))
  refine q_iinc B X12 d44_35 rfl rfl rfl ?_
  show G (T12.setTop (mkF m 38 #[oa d, oi 4, oa u, oi 4, oi 6, oi ((3 : Int32) + (1 : Int32))] []))
  rw [show ((3 : Int32) + (1 : Int32)) = (4 : Int32) from by decide]
  show G (T12.setTop (mkF m 38 #[oa d, oi 4, oa u, oi 4, oi 6, oi 4] []))
  refine q_goto 10 B X12 d44_38 rfl rfl (by decide) ?_
  show G (T12.setTop (mkF m 10 #[oa d, oi 4, oa u, oi 4, oi 6, oi 4] []))
  refine q_iload B X12 d44_10 rfl rfl ?_
  refine q_iload B X12 d44_12 rfl rfl ?_
  refine q_icmpNo B X12 d44_14 rfl (tlt (by decide)).2.1 rfl ?_
  refine q_aloadN B X12 d44_17 rfl rfl rfl ?_
  refine q_iloadN B X12 d44_18 rfl rfl ?_
  refine q_iinc B X12 d44_19 rfl rfl rfl ?_
  show G (T12.setTop (mkF m 22 #[oa d, oi 4, oa u, oi ((4 : Int32) + (1 : Int32)), oi 6, oi 4] [(.int 4), (.ref u)]))
  rw [show ((4 : Int32) + (1 : Int32)) = (5 : Int32) from by decide]
  show G (T12.setTop (mkF m 22 #[oa d, oi 4, oa u, oi 5, oi 6, oi 4] [(.int 4), (.ref u)]))
  refine q_aloadN B X12 d44_22 rfl rfl rfl ?_
  refine q_iloadN B X12 d44_23 rfl rfl ?_
  refine q_iinc B X12 d44_24 rfl rfl rfl ?_
  show G (T12.setTop (mkF m 27 #[oa d, oi ((4 : Int32) + (1 : Int32)), oa u, oi 5, oi 6, oi 4] [(.int 4), (.ref d), (.int 4), (.ref u)]))
  rw [show ((4 : Int32) + (1 : Int32)) = (5 : Int32) from by decide]
  show G (T12.setTop (mkF m 27 #[oa d, oi 5, oa u, oi 5, oi 6, oi 4] [(.int 4), (.ref d), (.int 4), (.ref u)]))
  have f14 := (f11.keep J12 (ninS g3_ne_d_u nin0))
  refine qlb (v := (.int 119)) B X12 hZ e12 f14 d44_27 (by decide) rfl ?_
  refine q_sipush B X12 d44_28 rfl ?_
  refine q_iand B X12 d44_31 rfl rfl ?_
  show G (T12.setTop (mkF m 32 #[oa d, oi 5, oa u, oi 5, oi 6, oi 4] [(.int ((119 : Int32) &&& (255 : Int32))), (.int 4), (.ref u)]))
  rw [show ((119 : Int32) &&& (255 : Int32)) = (119 : Int32) from by decide]
  show G (T12.setTop (mkF m 32 #[oa d, oi 5, oa u, oi 5, oi 6, oi 4] [(.int 119), (.int 4), (.ref u)]))
  refine qS B X12 hZ hown 204 205 22 206 rfl rfl rfl rfl (own_put hw 32 4 (119 : Int32) O12 r12_0 g2_G (by decide) (by decide) rfl g4_S g5_S g6_S) e12 own_pd1 rfl rfl d44_32 0 rfl rfl rfl (by decide) ?_
  rintro T15 h15 _ L15 X15 e15 ⟨rfl, M15, J15, r15_0⟩
  have N15 := Fr.app N12 M15
  have K15 := K12.trans J15 (allS (own_mi 0 rfl) all0)
  have O15 := O12.keep J15 (allS g2_G all0)
  show G (T15.setTop (mkF m 35 #[oa d, oi 5, oa u, oi 5, oi 6, oi 4] []))
  refine q_iinc B X15 d44_35 rfl rfl rfl ?_
  show G (T15.setTop (mkF m 38 #[oa d, oi 5, oa u, oi 5, oi 6, oi ((4 : Int32) + (1 : Int32))] []))
  rw [show ((4 : Int32) + (1 : Int32)) = (5 : Int32) from by decide]
  show G (T15.setTop (mkF m 38 #[oa d, oi 5, oa u, oi 5, oi 6, oi 5] []))
  refine q_goto 10 B X15 d44_38 rfl rfl (by decide) ?_
  show G (T15.setTop (mkF m 10 #[oa d, oi 5, oa u, oi 5, oi 6, oi 5] []))
  refine q_iload B X15 d44_10 rfl rfl ?_
  refine q_iload B X15 d44_12 rfl rfl ?_
  refine q_icmpNo B X15 d44_14 rfl (tlt (by decide)).2.1 rfl ?_
  refine q_aloadN B X15 d44_17 rfl rfl rfl ?_
  refine q_iloadN B X15 d44_18 rfl rfl ?_
  refine q_iinc B X15 d44_19 rfl rfl rfl ?_
  show G (T15.setTop (mkF m 22 #[oa d, oi 5, oa u, oi ((5 : Int32) + (1 : Int32)), oi 6, oi 5] [(.int 5), (.ref u)]))
  rw [show ((5 : Int32) + (1 : Int32)) = (6 : Int32) from by decide]
  show G (T15.setTop (mkF m 22 #[oa d, oi 5, oa u, oi 6, oi 6, oi 5] [(.int 5), (.ref u)]))
  refine q_aloadN B X15 d44_22 rfl rfl rfl ?_
  refine q_iloadN B X15 d44_23 rfl rfl ?_
  refine q_iinc B X15 d44_24 rfl rfl rfl ?_
  show G (T15.setTop (mkF m 27 #[oa d, oi ((5 : Int32) + (1 : Int32)), oa u, oi 6, oi 6, oi 5] [(.int 5), (.ref d), (.int 5), (.ref u)]))
  rw [show ((5 : Int32) + (1 : Int32)) = (6 : Int32) from by decide]
  show G (T15.setTop (mkF m 27 #[oa d, oi 6, oa u, oi 6, oi 6, oi 5] [(.int 5), (.ref d), (.int 5), (.ref u)]))
  have f17 := (f14.keep J15 (ninS g3_ne_d_u nin0))
  refine qlb (v := (.int 32)) B X15 hZ e15 f17 d44_27 (by decide) rfl ?_
  refine q_sipush B X15 d44_28 rfl ?_
  refine q_iand B X15 d44_31 rfl rfl ?_
  show G (T15.setTop (mkF m 32 #[oa d, oi 6, oa u, oi 6, oi 6, oi 5] [(.int ((32 : Int32) &&& (255 : Int32))), (.int 5), (.ref u)]))
  rw [show ((32 : Int32) &&& (255 : Int32)) = (32 : Int32) from by decide]
  show G (T15.setTop (mkF m 32 #[oa d, oi 6, oa u, oi 6, oi 6, oi 5] [(.int 32), (.int 5), (.ref u)]))
  refine qS B X15 hZ hown 204 205 22 206 rfl rfl rfl rfl (own_put hw 32 5 (32 : Int32) O15 r15_0 g2_G (by decide) (by decide) rfl g4_S g5_S g6_S) e15 own_pd1 rfl rfl d44_32 0 rfl rfl rfl (by decide) ?_
  rintro T18 h18 _ L18 X18 e18 ⟨rfl, M18, J18, r18_0⟩
  have N18 := Fr.app N15 M18
  have K18 := K15.trans J18 (allS (own_mi 0 rfl) all0)
  have O18 := O15.keep J18 (allS g2_G all0)
  show G (T18.setTop (mkF m 35 #[oa d, oi 6, oa u, oi 6, oi 6, oi 5] []))
  have W19 : Arv Z h18 u ku .byte (32 : Int32) own_r6 (.int 0) := r18_0
  show G (T18.setTop (mkF m 35 #[oa d, oi 6, oa u, oi 6, oi 6, oi 5] []))
  refine q_iinc B X18 d44_35 rfl rfl rfl ?_
  show G (T18.setTop (mkF m 38 #[oa d, oi 6, oa u, oi 6, oi 6, oi ((5 : Int32) + (1 : Int32))] []))
  rw [show ((5 : Int32) + (1 : Int32)) = (6 : Int32) from by decide]
  show G (T18.setTop (mkF m 38 #[oa d, oi 6, oa u, oi 6, oi 6, oi 6] []))
  refine q_goto 10 B X18 d44_38 rfl rfl (by decide) ?_
  show G (T18.setTop (mkF m 10 #[oa d, oi 6, oa u, oi 6, oi 6, oi 6] []))
  refine q_iload B X18 d44_10 rfl rfl ?_
  refine q_iload B X18 d44_12 rfl rfl ?_
  refine q_icmpYes 41 B X18 d44_14 rfl (flt (by decide)).2.1 rfl rfl (by decide) ?_
  show G (T18.setTop (mkF m 41 #[oa d, oi 6, oa u, oi 6, oi 6, oi 6] []))
  exact qRV B hR hret X18 d44_41 e18 ⟨rfl, N18, K18, W19⟩ (by decide)
theorem own_linf6 (hw : own_W Z a0) {d : Addr} {kd : ClassId} {u : Addr} {ku : ClassId} {fmt : Value} (O0 : own_Old Z h0) (g0_V : Arv Z h0 d kd .byte (16 : Int32) own_e6 (.int 0)) (g1_V : Arv Z h0 u ku .byte (32 : Int32) own_z32 (.int 0)) (g2_G : Z.heap.size ≤ u) (g3_ne_d_u : d ≠ u) (g4_S : Sta Z Z.heap "java/lang/StringUTF16" "$assertionsDisabled" "Z" (.int 1)) (g5_S : Sta Z Z.heap "java/lang/StringUTF16" "HI_BYTE_SHIFT" "I" (.int 0)) (g6_S : Sta Z Z.heap "java/lang/StringUTF16" "LO_BYTE_SHIFT" "I" (.int 8)) (g7_hfmt : fmt.isRef = true) (g8_S : Sta Z Z.heap "jdk/internal/util/Preconditions" "SIOOBE_FORMATTER" "Ljava/util/function/BiFunction;" fmt) : own_Con l Z ⟨"java/lang/StringLatin1", "inflate", "([BI[BII)V"⟩ jdk_43_method_50_code 5 none [] ⟨4, 0, 0, 60⟩ #[(.ref d), (.int 0), (.ref u), (.int 0), (.int 6)] h0 (fun rv rh rL => rv = none ∧ own_Fr Z rL ∧ Keep h0 rh [u] ∧ (Arv Z rh u ku .byte (32 : Int32) own_r6 (.int 0))) := by
  refine own_st hw (plainFor_of_name (by decide +kernel)) #[oa d, oi 0, oa u, oi 0, oi 6] (fun m => by first | (simp [entryFrame, mkF, argsToLocals, Value.category]; done) | rfl) fun p e s m below meth c s₁ G B hown hnm hret hZ X0 e0 N0 hR => ?_
  refine q_aloadN B X0 d43_0 rfl rfl rfl ?_
  refine q_iloadN B X0 d43_1 rfl rfl ?_
  refine q_aloadN B X0 d43_2 rfl rfl rfl ?_
  refine q_iloadN B X0 d43_3 rfl rfl ?_
  refine q_iload B X0 d43_4 rfl rfl ?_
  show G (s₁.setTop (mkF m 6 #[oa d, oi 0, oa u, oi 0, oi 6] [(.int 6), (.int 0), (.ref u), (.int 0), (.ref d)]))
  refine qS B X0 hZ hown 223 224 22 225 rfl rfl rfl rfl (own_uinf6 hw O0 g0_V g1_V g2_G g3_ne_d_u g4_S g5_S g6_S g7_hfmt g8_S) e0 own_pd33 rfl rfl d43_6 0 rfl rfl rfl (by decide) ?_
  rintro T1 h1 _ L1 X1 e1 ⟨rfl, M1, J1, r1_0⟩
  have N1 := Fr.app N0 M1
  have K1 := (Keep.refl h0 [u]).trans J1 (allS (own_mi 0 rfl) all0)
  have O1 := O0.keep J1 (allS g2_G all0)
  show G (T1.setTop (mkF m 9 #[oa d, oi 0, oa u, oi 0, oi 6] []))
  exact qRV B hR hret X1 d43_9 e1 ⟨rfl, N1, K1, r1_0⟩ (by decide)
theorem own_ainf6 (hw : own_W Z a0) {q d : Addr} {kd : ClassId} {fmt : Value} {cpt : Int32} (O0 : own_Old Z h0) (g0_E : Exa Z h0 q "java/lang/StringBuilder") (g1_G : Z.heap.size ≤ q) (g2_F : Fld Z h0 q "java/lang/AbstractStringBuilder" "value" "[B" (.ref d)) (g3_F : Fld Z h0 q "java/lang/AbstractStringBuilder" "coder" "B" (.int 0)) (g4_F : Fld Z h0 q "java/lang/AbstractStringBuilder" "count" "I" (.int 6)) (g5_F : Fld Z h0 q "java/lang/AbstractStringBuilder" "maybeLatin1" "Z" (.int 0)) (g6_V : Arv Z h0 d kd .byte (16 : Int32) own_e6 (.int 0)) (g7_ne_q_d : q ≠ d) (g8_S : Sta Z Z.heap "java/lang/StringUTF16" "$assertionsDisabled" "Z" (.int 1)) (g9_S : Sta Z Z.heap "java/lang/StringUTF16" "HI_BYTE_SHIFT" "I" (.int 0)) (g10_S : Sta Z Z.heap "java/lang/StringUTF16" "LO_BYTE_SHIFT" "I" (.int 8)) (g11_S : Sta Z Z.heap "java/lang/String" "COMPACT_STRINGS" "Z" (.int cpt)) (g12_hcpt : ¬ (cpt = (0 : Int32))) (g13_hfmt : fmt.isRef = true) (g14_S : Sta Z Z.heap "jdk/internal/util/Preconditions" "SIOOBE_FORMATTER" "Ljava/util/function/BiFunction;" fmt) : own_Con l Z ⟨"java/lang/AbstractStringBuilder", "inflate", "()V"⟩ jdk_68_method_11_code 2 none [] ⟨5, 1, 32, 76⟩ #[(.ref q)] h0 (fun rv rh rL => ∃ (u : Addr) (ku : ClassId), rv = none ∧ own_Fr Z rL ∧ Keep h0 rh [q] ∧ h0.size ≤ u ∧ (Exa Z rh q "java/lang/StringBuilder") ∧ (Fld Z rh q "java/lang/AbstractStringBuilder" "value" "[B" (.ref u)) ∧ (Fld Z rh q "java/lang/AbstractStringBuilder" "coder" "B" (.int 1)) ∧ (Fld Z rh q "java/lang/AbstractStringBuilder" "count" "I" (.int 6)) ∧ (Fld Z rh q "java/lang/AbstractStringBuilder" "maybeLatin1" "Z" (.int 0)) ∧ (Arv Z rh u ku .byte (32 : Int32) own_r6 (.int 0))) := by
  refine own_st hw (plainFor_of_name (by decide +kernel)) #[oa q, .unset] (fun _ => rfl) fun p e s m below meth c s₁ G B hown hnm hret hZ X0 e0 N0 hR => ?_
  refine q_aloadN B X0 d42_0 rfl rfl rfl ?_
  show G (s₁.setTop (mkF m 1 #[oa q, .unset] [(.ref q)]))
  refine qV B X0 hZ hown 218 150 152 151 66 153 rfl rfl rfl rfl rfl rfl (own_asbL hw O0 g3_F g11_S g12_hcpt) e0 g0_E own_pd10 rfl rfl d42_1 0 rfl rfl rfl (by decide) ?_
  rintro T1 h1 _ L1 X1 e1 ⟨rfl, M1, rfl⟩
  have N1 := Fr.app N0 M1
  refine q_ifYes 8 B X1 d42_4 rfl ((if0 _ _).trans (feq (by decide)).2) rfl rfl (by decide) ?_
  refine q_aloadN B X1 d42_8 rfl rfl rfl ?_
  refine qgf B X1 hZ hown 70 rfl Via.refl e1 g2_F d42_9 fun T2 X2 e2 => ?_
  refine qal B X2 hZ e2 g6_V d42_12 ?_
  show G (T2.setTop (mkF m 13 #[oa q, .unset] [(.int 16)]))
  refine qS B X2 hZ hown 219 198 22 199 rfl rfl rfl rfl (own_nbf16 hw O0) e2 own_pd5 rfl rfl d42_13 0 rfl rfl rfl (by decide) ?_
  rintro T4 h4 _ L4 X4 e4 ⟨u_4, ku_4, rfl, M4, J4, y4_0, r4_0⟩
  have N4 := Fr.app N1 M4
  have K4 := (Keep.refl h0 [q]).trans J4 all0
  have O4 := O0.keep J4 all0
  show G (T4.setTop (mkF m 16 #[oa q, .unset] [(.ref u_4)]))
  refine q_astoreN B X4 d42_16 rfl rfl rfl rfl ?_
  refine q_aloadN B X4 d42_17 rfl rfl rfl ?_
  have f6 := (g2_F.keep J4 nin0)
  refine qgf B X4 hZ hown 70 rfl Via.refl e4 f6 d42_18 fun T5 X5 e5 => ?_
  refine q_iconst B X5 d42_21 rfl ?_
  refine q_aloadN B X5 d42_22 rfl rfl rfl ?_
  refine q_iconst B X5 d42_23 rfl ?_
  refine q_aloadN B X5 d42_24 rfl rfl rfl ?_
  have f8 := (g4_F.keep J4 nin0)
  refine qgf B X5 hZ hown 97 rfl Via.refl e5 f8 d42_25 fun T7 X7 e7 => ?_
  show G (T7.setTop (mkF m 28 #[oa q, oa u_4] [(.int 6), (.int 0), (.ref u_4), (.int 0), (.ref d)]))
  have f10 := (g6_V.keep J4 nin0)
  refine qS B X7 hZ hown 220 221 182 222 rfl rfl rfl rfl (own_linf6 hw O4 f10 r4_0 (own_ge O0 y4_0) (own_ne g6_V.lt y4_0) g8_S g9_S g10_S g13_hfmt g14_S) e7 own_pd33 rfl rfl d42_28 0 rfl rfl rfl (by decide) ?_
  rintro T9 h9 _ L9 X9 e9 ⟨rfl, M9, J9, r9_0⟩
  have N9 := Fr.app N4 M9
  have K9 := K4.trans J9 (allS (Or.inr (Nat.le_trans (Keep.refl h0 [q]).1 y4_0)) all0)
  have O9 := O4.keep J9 (allS (own_ge O0 y4_0) all0)
  refine q_aloadN B X9 d42_31 rfl rfl rfl ?_
  refine q_aloadN B X9 d42_32 rfl rfl rfl ?_
  have f12 := (f6.keep J9 (ninS (own_ne g0_E.lt y4_0) nin0))
  have f13 := ((g0_E.keep J4).keep J9)
  refine qpf B X9 hZ hown 70 57 rfl rfl Via.refl e9 f12 f13 (Or.inl (ow hw 71 rfl)) (ty := (.array .byte)) (by decide) rfl rfl d42_33 fun T11 h11 X11 e11 W11 => ?_
  have K11 := K9.wr W11 (own_mi 0 rfl)
  have O11 := O9.wr W11 g1_G
  have N11 := Fr.snoc X11 N9 g1_G
  refine q_aloadN B X11 d42_36 rfl rfl rfl ?_
  refine q_iconst B X11 d42_37 rfl ?_
  have f15 := (((g3_F.keep J4 nin0).keep J9 (ninS (own_ne g0_E.lt y4_0) nin0)).other W11 (Or.inr (slot_ne (Or.inl (ow hw 73 rfl)) (Or.inl (ow hw 71 rfl)) (by decide) (t := .byte) (t' := (.array .byte)) (by decide) (by decide))))
  have f16 := (f13.wr W11)
  refine qpn (.int 1) B X11 hZ hown 72 57 rfl rfl Via.refl e11 f15 f16 (Or.inl (ow hw 73 rfl)) (ty := .byte) (by decide) rfl rfl d42_38 fun T14 h14 X14 e14 W14 => ?_
  have K14 := K11.wr W14 (own_mi 0 rfl)
  have O14 := O11.wr W14 g1_G
  have N14 := Fr.snoc X14 N11 g1_G
  show G (T14.setTop (mkF m 41 #[oa q, oa u_4] []))
  have f17 := (f16.wr W14)
  have f18 := ((f12.same W11).other W14 (Or.inr (slot_ne (Or.inl (ow hw 71 rfl)) (Or.inl (ow hw 73 rfl)) (by decide) (t := (.array .byte)) (t' := .byte) (by decide) (by decide))))
  have f19 := (((f8.keep J9 (ninS (own_ne g0_E.lt y4_0) nin0)).other W11 (Or.inr (slot_ne (Or.inl (ow hw 98 rfl)) (Or.inl (ow hw 71 rfl)) (by decide) (t := .int) (t' := (.array .byte)) (by decide) (by decide)))).other W14 (Or.inr (slot_ne (Or.inl (ow hw 98 rfl)) (Or.inl (ow hw 73 rfl)) (by decide) (t := .int) (t' := .byte) (by decide) (by decide))))
  have f20 := ((((g5_F.keep J4 nin0).keep J9 (ninS (own_ne g0_E.lt y4_0) nin0)).other W11 (Or.inr (slot_ne (Or.inl (ow hw 239 rfl)) (Or.inl (ow hw 71 rfl)) (by decide) (t := .boolean) (t' := (.array .byte)) (by decide) (by decide)))).other W14 (Or.inr (slot_ne (Or.inl (ow hw 239 rfl)) (Or.inl (ow hw 73 rfl)) (by decide) (t := .boolean) (t' := .byte) (by decide) (by decide))))
  have f21 := ((r9_0.other W11 (Ne.symm (own_ne g0_E.lt y4_0))).other W14 (Ne.symm (own_ne g0_E.lt y4_0)))
  exact qRV B hR hret X14 d42_41 e14 ⟨u_4, ku_4, rfl, N14, K14, (Nat.le_trans (Keep.refl h0 [q]).1 y4_0), f17, f18, (f15.same W14), f19, f20, f21⟩ (by decide)
theorem own_ifnS6 (hw : own_W Z a0) {q d : Addr} {kd : ClassId} {fmt : Value} {cpt : Int32} {a : Addr} (O0 : own_Old Z h0) (g0_E : Exa Z h0 q "java/lang/StringBuilder") (g1_G : Z.heap.size ≤ q) (g2_F : Fld Z h0 q "java/lang/AbstractStringBuilder" "value" "[B" (.ref d)) (g3_F : Fld Z h0 q "java/lang/AbstractStringBuilder" "coder" "B" (.int 0)) (g4_F : Fld Z h0 q "java/lang/AbstractStringBuilder" "count" "I" (.int 6)) (g5_F : Fld Z h0 q "java/lang/AbstractStringBuilder" "maybeLatin1" "Z" (.int 0)) (g6_V : Arv Z h0 d kd .byte (16 : Int32) own_e6 (.int 0)) (g7_ne_q_d : q ≠ d) (g8_S : Sta Z Z.heap "java/lang/StringUTF16" "$assertionsDisabled" "Z" (.int 1)) (g9_S : Sta Z Z.heap "java/lang/StringUTF16" "HI_BYTE_SHIFT" "I" (.int 0)) (g10_S : Sta Z Z.heap "java/lang/StringUTF16" "LO_BYTE_SHIFT" "I" (.int 8)) (g11_S : Sta Z Z.heap "java/lang/String" "COMPACT_STRINGS" "Z" (.int cpt)) (g12_hcpt : ¬ (cpt = (0 : Int32))) (g13_E : Exa Z h0 a "java/lang/String") (g14_F : Fld Z h0 a "java/lang/String" "coder" "B" (.int 1)) (g15_ne_a_q : a ≠ q) (g16_hfmt : fmt.isRef = true) (g17_S : Sta Z Z.heap "jdk/internal/util/Preconditions" "SIOOBE_FORMATTER" "Ljava/util/function/BiFunction;" fmt) : own_Con l Z ⟨"java/lang/AbstractStringBuilder", "inflateIfNeededFor", "(Ljava/lang/String;)V"⟩ jdk_68_method_71_code 2 none [] ⟨6, 1, 32, 89⟩ #[(.ref q), (.ref a)] h0 (fun rv rh rL => ∃ (u : Addr) (ku : ClassId), rv = none ∧ own_Fr Z rL ∧ Keep h0 rh [q] ∧ h0.size ≤ u ∧ (Exa Z rh q "java/lang/StringBuilder") ∧ (Fld Z rh q "java/lang/AbstractStringBuilder" "value" "[B" (.ref u)) ∧ (Fld Z rh q "java/lang/AbstractStringBuilder" "coder" "B" (.int 1)) ∧ (Fld Z rh q "java/lang/AbstractStringBuilder" "count" "I" (.int 6)) ∧ (Fld Z rh q "java/lang/AbstractStringBuilder" "maybeLatin1" "Z" (.int 0)) ∧ (Arv Z rh u ku .byte (32 : Int32) own_r6 (.int 0))) := by
  refine own_st hw (plainFor_of_name (by decide +kernel)) #[oa q, oa a] (fun _ => rfl) fun p e s m below meth c s₁ G B hown hnm hret hZ X0 e0 N0 hR => ?_
  refine qgs B X0 hZ hown 69 rfl Via.refl e0 g11_S O0 d19_0 fun T1 X1 e1 => ?_
  refine q_ifNo B X1 d19_3 rfl ((if0 _ _).trans (feq g12_hcpt).1) rfl ?_
  refine q_aloadN B X1 d19_6 rfl rfl rfl ?_
  refine qgf B X1 hZ hown 72 rfl Via.refl e1 g3_F d19_7 fun T2 X2 e2 => ?_
  refine q_aloadN B X2 d19_10 rfl rfl rfl ?_
  show G (T2.setTop (mkF m 11 #[oa q, oa a] [(.ref a), (.int 0)]))
  refine qV B X2 hZ hown 114 93 95 94 8 96 rfl rfl rfl rfl rfl rfl (own_cod1 hw O0 g14_F g11_S g12_hcpt) e2 g13_E own_pd11 rfl rfl d19_11 1 rfl rfl rfl (by decide) ?_
  rintro T3 h3 _ L3 X3 e3 ⟨rfl, M3, rfl⟩
  have N3 := Fr.app N0 M3
  refine q_icmpNo B X3 d19_14 rfl (feq (by decide)).1 rfl ?_
  refine q_aloadN B X3 d19_17 rfl rfl rfl ?_
  show G (T3.setTop (mkF m 18 #[oa q, oa a] [(.ref q)]))
  refine qP2 B X3 hZ hown 213 214 216 215 66 217 rfl rfl rfl rfl rfl rfl (own_ainf6 hw O0 g0_E g1_G g2_F g3_F g4_F g5_F g6_V g7_ne_q_d g8_S g9_S g10_S g11_S g12_hcpt g16_hfmt g17_S) e3 g0_E own_pd0 rfl rfl d19_18 0 rfl rfl rfl (by decide) ?_
  rintro T4 h4 _ L4 X4 e4 ⟨u_4, ku_4, rfl, M4, J4, y4_0, r4_0, r4_1, r4_2, r4_3, r4_4, r4_5⟩
  have N4 := Fr.app N3 M4
  have K4 := (Keep.refl h0 [q]).trans J4 (allS (own_mi 0 rfl) all0)
  have O4 := O0.keep J4 (allS g1_G all0)
  show G (T4.setTop (mkF m 21 #[oa q, oa a] []))
  exact qRV B hR hret X4 d19_21 e4 ⟨u_4, ku_4, rfl, N4, K4, (Nat.le_trans (Keep.refl h0 [q]).1 y4_0), r4_0, r4_1, r4_2, r4_3, r4_4, r4_5⟩ (by decide)
theorem own_psU6 (hw : own_W Z a0) {q d : Addr} {kd : ClassId} {fmt : Value} {cpt : Int32} {a t : Addr} {kt : ClassId} {nt : Int32} {ss : List Value} (k : Nat) (O0 : own_Old Z h0) (g0_E : Exa Z h0 q "java/lang/StringBuilder") (g1_G : Z.heap.size ≤ q) (g2_F : Fld Z h0 q "java/lang/AbstractStringBuilder" "value" "[B" (.ref d)) (g3_F : Fld Z h0 q "java/lang/AbstractStringBuilder" "coder" "B" (.int 0)) (g4_F : Fld Z h0 q "java/lang/AbstractStringBuilder" "count" "I" (.int 6)) (g5_F : Fld Z h0 q "java/lang/AbstractStringBuilder" "maybeLatin1" "Z" (.int 0)) (g6_V : Arv Z h0 d kd .byte (16 : Int32) own_e6 (.int 0)) (g7_ne_q_d : q ≠ d) (g8_S : Sta Z Z.heap "java/lang/StringUTF16" "$assertionsDisabled" "Z" (.int 1)) (g9_S : Sta Z Z.heap "java/lang/StringUTF16" "HI_BYTE_SHIFT" "I" (.int 0)) (g10_S : Sta Z Z.heap "java/lang/StringUTF16" "LO_BYTE_SHIFT" "I" (.int 8)) (g11_S : Sta Z Z.heap "java/lang/String" "COMPACT_STRINGS" "Z" (.int cpt)) (g12_hcpt : ¬ (cpt = (0 : Int32))) (g13_E : Exa Z h0 a "java/lang/String") (g14_F : Fld Z h0 a "java/lang/String" "coder" "B" (.int 1)) (g15_F : Fld Z h0 a "java/lang/String" "value" "[B" (.ref t)) (g16_V : Arv Z h0 t kt .byte nt ss (.int 0)) (g17_ne_a_q : a ≠ q) (g18_ne_t_q : t ≠ q) (g19_hfit : own_fit (6 : Int32) (1 : Int32) nt (32 : Int32) k own_r6 ss) (g20_hfmt : fmt.isRef = true) (g21_S : Sta Z Z.heap "jdk/internal/util/Preconditions" "SIOOBE_FORMATTER" "Ljava/util/function/BiFunction;" fmt) : own_Con l Z ⟨"java/lang/AbstractStringBuilder", "putStringAt", "(ILjava/lang/String;)V"⟩ jdk_68_method_73_code 3 none [] ⟨7, 1, 32, 102⟩ #[(.ref q), (.int 6), (.ref a)] h0 (fun rv rh rL => ∃ (u : Addr) (ku : ClassId), rv = none ∧ own_Fr Z rL ∧ Keep h0 rh [q] ∧ h0.size ≤ u ∧ (Exa Z rh q "java/lang/StringBuilder") ∧ (Fld Z rh q "java/lang/AbstractStringBuilder" "value" "[B" (.ref u)) ∧ (Fld Z rh q "java/lang/AbstractStringBuilder" "coder" "B" (.int 1)) ∧ (Fld Z rh q "java/lang/AbstractStringBuilder" "count" "I" (.int 6)) ∧ (Fld Z rh q "java/lang/AbstractStringBuilder" "maybeLatin1" "Z" (.int 0)) ∧ (Arv Z rh u ku .byte (32 : Int32) (own_ins k own_r6 ss) (.int 0))) := by
  refine own_st hw (plainFor_of_name (by decide +kernel)) #[oa q, oi 6, oa a] (fun m => by first | (simp [entryFrame, mkF, argsToLocals, Value.category]; done) | rfl) fun p e s m below meth c s₁ G B hown hnm hret hZ X0 e0 N0 hR => ?_
  refine q_aloadN B X0 d18_0 rfl rfl rfl ?_
  refine q_aloadN B X0 d18_1 rfl rfl rfl ?_
  show G (s₁.setTop (mkF m 2 #[oa q, oi 6, oa a] [(.ref a), (.ref q)]))
  refine qP2 B X0 hZ hown 109 110 112 111 66 113 rfl rfl rfl rfl rfl rfl (own_ifnS6 hw O0 g0_E g1_G g2_F g3_F g4_F g5_F g6_V g7_ne_q_d g8_S g9_S g10_S g11_S g12_hcpt g13_E g14_F g17_ne_a_q g20_hfmt g21_S) e0 g0_E own_pd19 rfl rfl d18_2 0 rfl rfl rfl (by decide) ?_
  rintro T1 h1 _ L1 X1 e1 ⟨u_1, ku_1, rfl, M1, J1, y1_0, r1_0, r1_1, r1_2, r1_3, r1_4, r1_5⟩
  have N1 := Fr.app N0 M1
  have K1 := (Keep.refl h0 [q]).trans J1 (allS (own_mi 0 rfl) all0)
  have O1 := O0.keep J1 (allS g1_G all0)
  refine q_aloadN B X1 d18_5 rfl rfl rfl ?_
  refine q_aloadN B X1 d18_6 rfl rfl rfl ?_
  refine qgf B X1 hZ hown 70 rfl Via.refl e1 r1_1 d18_7 fun T2 X2 e2 => ?_
  refine q_iloadN B X2 d18_10 rfl rfl ?_
  refine q_aloadN B X2 d18_11 rfl rfl rfl ?_
  refine qgf B X2 hZ hown 72 rfl Via.refl e2 r1_2 d18_12 fun T3 X3 e3 => ?_
  show G (T3.setTop (mkF m 15 #[oa q, oi 6, oa a] [(.int 1), (.int 6), (.ref u_1), (.ref a)]))
  have f5 := (g13_E.keep J1)
  have f6 := (g14_F.keep J1 (ninS g17_ne_a_q nin0))
  have f7 := (g15_F.keep J1 (ninS g17_ne_a_q nin0))
  have f8 := (g16_V.keep J1 (ninS g18_ne_t_q nin0))
  refine qV B X3 hZ hown 115 116 118 117 8 119 rfl rfl rfl rfl rfl rfl (own_gbS1 hw (6 : Int32) k O1 f5 f6 f7 f8 g11_S g12_hcpt r1_5 (own_ge O0 y1_0) (own_ne g13_E.lt y1_0) (own_ne g16_V.lt y1_0) g19_hfit) e3 f5 own_pd23 rfl rfl d18_15 0 rfl rfl rfl (by decide) ?_
  rintro T4 h4 _ L4 X4 e4 ⟨rfl, M4, J4, r4_0⟩
  have N4 := Fr.app N1 M4
  have K4 := K1.trans J4 (allS (Or.inr (Nat.le_trans (Keep.refl h0 [q]).1 y1_0)) all0)
  have O4 := O1.keep J4 (allS (own_ge O0 y1_0) all0)
  show G (T4.setTop (mkF m 18 #[oa q, oi 6, oa a] []))
  have f9 := (r1_0.keep J4)
  have f10 := (r1_1.keep J4 (ninS (own_ne g0_E.lt y1_0) nin0))
  have f11 := (r1_2.keep J4 (ninS (own_ne g0_E.lt y1_0) nin0))
  have f12 := (r1_3.keep J4 (ninS (own_ne g0_E.lt y1_0) nin0))
  have f13 := (r1_4.keep J4 (ninS (own_ne g0_E.lt y1_0) nin0))
  exact qRV B hR hret X4 d18_18 e4 ⟨u_1, ku_1, rfl, N4, K4, (Nat.le_trans (Keep.refl h0 [q]).1 y1_0), f9, f10, f11, f12, f13, r4_0⟩ (by decide)
theorem own_aaU6 (hw : own_W Z a0) {q d : Addr} {kd : ClassId} {fmt : Value} {cpt : Int32} {a t : Addr} {kt : ClassId} {nt : Int32} {ss : List Value} (k : Nat) (len n1 : Int32) (O0 : own_Old Z h0) (g0_E : Exa Z h0 q "java/lang/StringBuilder") (g1_G : Z.heap.size ≤ q) (g2_F : Fld Z h0 q "java/lang/AbstractStringBuilder" "value" "[B" (.ref d)) (g3_F : Fld Z h0 q "java/lang/AbstractStringBuilder" "coder" "B" (.int 0)) (g4_F : Fld Z h0 q "java/lang/AbstractStringBuilder" "count" "I" (.int 6)) (g5_F : Fld Z h0 q "java/lang/AbstractStringBuilder" "maybeLatin1" "Z" (.int 0)) (g6_V : Arv Z h0 d kd .byte (16 : Int32) own_e6 (.int 0)) (g7_ne_q_d : q ≠ d) (g8_S : Sta Z Z.heap "java/lang/StringUTF16" "$assertionsDisabled" "Z" (.int 1)) (g9_S : Sta Z Z.heap "java/lang/StringUTF16" "HI_BYTE_SHIFT" "I" (.int 0)) (g10_S : Sta Z Z.heap "java/lang/StringUTF16" "LO_BYTE_SHIFT" "I" (.int 8)) (g11_S : Sta Z Z.heap "java/lang/String" "COMPACT_STRINGS" "Z" (.int cpt)) (g12_hcpt : ¬ (cpt = (0 : Int32))) (g13_E : Exa Z h0 a "java/lang/String") (g14_F : Fld Z h0 a "java/lang/String" "coder" "B" (.int 1)) (g15_F : Fld Z h0 a "java/lang/String" "value" "[B" (.ref t)) (g16_V : Arv Z h0 t kt .byte nt ss (.int 0)) (g17_ne_a_q : a ≠ q) (g18_ne_t_q : t ≠ q) (g19_hlen : (nt >>> ((1 : Int32) &&& 31)) = len) (g20_hn1 : ((6 : Int32) + len) = n1) (g21_hle : ¬ ((0 : Int32) < (n1 - ((16 : Int32) >>> ((0 : Int32) &&& 31))))) (g22_hfit : own_fit (6 : Int32) (1 : Int32) nt (32 : Int32) k own_r6 ss) (g23_hfmt : fmt.isRef = true) (g24_S : Sta Z Z.heap "jdk/internal/util/Preconditions" "SIOOBE_FORMATTER" "Ljava/util/function/BiFunction;" fmt) : own_Con l Z ⟨"java/lang/AbstractStringBuilder", "append", "(Ljava/lang/String;)Ljava/lang/AbstractStringBuilder;"⟩ jdk_68_method_22_code 3 (some (.object "java/lang/AbstractStringBuilder")) [] ⟨8, 1, 32, 116⟩ #[(.ref q), (.ref a)] h0 (fun rv rh rL => ∃ (u : Addr) (ku : ClassId), rv = some (.ref q) ∧ own_Fr Z rL ∧ Keep h0 rh [q] ∧ h0.size ≤ u ∧ (Exa Z rh q "java/lang/StringBuilder") ∧ (Fld Z rh q "java/lang/AbstractStringBuilder" "value" "[B" (.ref u)) ∧ (Fld Z rh q "java/lang/AbstractStringBuilder" "coder" "B" (.int 1)) ∧ (Fld Z rh q "java/lang/AbstractStringBuilder" "count" "I" (.int n1)) ∧ (Fld Z rh q "java/lang/AbstractStringBuilder" "maybeLatin1" "Z" (.int 0)) ∧ (Arv Z rh u ku .byte (32 : Int32) (own_ins k own_r6 ss) (.int 0))) := by
  refine own_st hw (plainFor_of_name (by decide +kernel)) #[oa q, oa a, .unset] (fun _ => rfl) fun p e s m below meth c s₁ G B hown hnm hret hZ X0 e0 N0 hR => ?_
  refine q_aloadN B X0 d14_0 rfl rfl rfl ?_
  refine q_ifnonnullYes 9 B X0 d14_1 rfl rfl rfl (by decide) ?_
  refine q_aloadN B X0 d14_9 rfl rfl rfl ?_
  show G (s₁.setTop (mkF m 10 #[oa q, oa a, .unset] [(.ref a)]))
  refine qV B X0 hZ hown 87 88 90 89 8 91 rfl rfl rfl rfl rfl rfl (own_lnS1 hw len O0 g13_E g14_F g15_F g16_V g11_S g12_hcpt g19_hlen) e0 g13_E own_pd12 rfl rfl d14_10 0 rfl rfl rfl (by decide) ?_
  rintro T1 h1 _ L1 X1 e1 ⟨rfl, M1, rfl⟩
  have N1 := Fr.app N0 M1
  refine q_istoreN B X1 d14_13 rfl rfl rfl ?_
  refine q_aloadN B X1 d14_14 rfl rfl rfl ?_
  refine q_aloadN B X1 d14_15 rfl rfl rfl ?_
  refine qgf B X1 hZ hown 97 rfl Via.refl e1 g4_F d14_16 fun T2 X2 e2 => ?_
  refine q_iloadN B X2 d14_19 rfl rfl ?_
  refine q_iadd B X2 d14_20 rfl rfl ?_
  show G (T2.setTop (mkF m 21 #[oa q, oa a, oi len] [(.int ((6 : Int32) + len)), (.ref q)]))
  rw [g20_hn1]
  show G (T2.setTop (mkF m 21 #[oa q, oa a, oi len] [(.int n1), (.ref q)]))
  refine qP2 B X2 hZ hown 99 100 102 101 66 103 rfl rfl rfl rfl rfl rfl (own_ensS hw n1 O0 g2_F g3_F g6_V g21_hle) e2 g0_E own_pd18 rfl rfl d14_21 0 rfl rfl rfl (by decide) ?_
  rintro T3 h3 _ L3 X3 e3 ⟨rfl, M3, rfl⟩
  have N3 := Fr.app N1 M3
  refine q_aloadN B X3 d14_24 rfl rfl rfl ?_
  refine q_aloadN B X3 d14_25 rfl rfl rfl ?_
  refine qgf B X3 hZ hown 97 rfl Via.refl e3 g4_F d14_26 fun T4 X4 e4 => ?_
  refine q_aloadN B X4 d14_29 rfl rfl rfl ?_
  show G (T4.setTop (mkF m 30 #[oa q, oa a, oi len] [(.ref a), (.int 6), (.ref q)]))
  refine qP2 B X4 hZ hown 104 105 107 106 66 108 rfl rfl rfl rfl rfl rfl (own_psU6 hw k O0 g0_E g1_G g2_F g3_F g4_F g5_F g6_V g7_ne_q_d g8_S g9_S g10_S g11_S g12_hcpt g13_E g14_F g15_F g16_V g17_ne_a_q g18_ne_t_q g22_hfit g23_hfmt g24_S) e4 g0_E own_pd24 rfl rfl d14_30 0 rfl rfl rfl (by decide) ?_
  rintro T5 h5 _ L5 X5 e5 ⟨u_5, ku_5, rfl, M5, J5, y5_0, r5_0, r5_1, r5_2, r5_3, r5_4, r5_5⟩
  have N5 := Fr.app N3 M5
  have K5 := (Keep.refl h0 [q]).trans J5 (allS (own_mi 0 rfl) all0)
  have O5 := O0.keep J5 (allS g1_G all0)
  refine q_aloadN B X5 d14_33 rfl rfl rfl ?_
  refine q_dup B X5 d14_34 rfl rfl rfl ?_
  refine qgf B X5 hZ hown 97 rfl Via.refl e5 r5_3 d14_35 fun T6 X6 e6 => ?_
  refine q_iloadN B X6 d14_38 rfl rfl ?_
  refine q_iadd B X6 d14_39 rfl rfl ?_
  show G (T6.setTop (mkF m 40 #[oa q, oa a, oi len] [(.int ((6 : Int32) + len)), (.ref q)]))
  rw [g20_hn1]
  show G (T6.setTop (mkF m 40 #[oa q, oa a, oi len] [(.int n1), (.ref q)]))
  refine qpf B X6 hZ hown 97 57 rfl rfl Via.refl e6 r5_3 r5_0 (Or.inl (ow hw 98 rfl)) (ty := .int) (by decide) rfl rfl d14_40 fun T7 h7 X7 e7 W7 => ?_
  have K7 := K5.wr W7 (own_mi 0 rfl)
  have O7 := O5.wr W7 g1_G
  have N7 := Fr.snoc X7 N5 g1_G
  refine q_aloadN B X7 d14_43 rfl rfl rfl ?_
  show G (T7.setTop (mkF m 44 #[oa q, oa a, oi len] [(.ref q)]))
  have f8 := (r5_0.wr W7)
  have f9 := (r5_1.other W7 (Or.inr (slot_ne (Or.inl (ow hw 71 rfl)) (Or.inl (ow hw 98 rfl)) (by decide) (t := (.array .byte)) (t' := .int) (by decide) (by decide))))
  have f10 := (r5_2.other W7 (Or.inr (slot_ne (Or.inl (ow hw 73 rfl)) (Or.inl (ow hw 98 rfl)) (by decide) (t := .byte) (t' := .int) (by decide) (by decide))))
  have f11 := (r5_4.other W7 (Or.inr (slot_ne (Or.inl (ow hw 239 rfl)) (Or.inl (ow hw 98 rfl)) (by decide) (t := .boolean) (t' := .int) (by decide) (by decide))))
  have f12 := (r5_5.other W7 (Ne.symm (own_ne g0_E.lt y5_0)))
  exact qRA B hR hret rfl rfl X7 d14_44 e7 ⟨u_5, ku_5, rfl, N7, K7, (Nat.le_trans (Keep.refl h0 [q]).1 y5_0), f8, f9, f10, (r5_3.same W7), f11, f12⟩ (by decide)
theorem own_saU6 (hw : own_W Z a0) {q d : Addr} {kd : ClassId} {fmt : Value} {cpt : Int32} {a t : Addr} {kt : ClassId} {nt : Int32} {ss : List Value} (k : Nat) (len n1 : Int32) (O0 : own_Old Z h0) (g0_E : Exa Z h0 q "java/lang/StringBuilder") (g1_G : Z.heap.size ≤ q) (g2_F : Fld Z h0 q "java/lang/AbstractStringBuilder" "value" "[B" (.ref d)) (g3_F : Fld Z h0 q "java/lang/AbstractStringBuilder" "coder" "B" (.int 0)) (g4_F : Fld Z h0 q "java/lang/AbstractStringBuilder" "count" "I" (.int 6)) (g5_F : Fld Z h0 q "java/lang/AbstractStringBuilder" "maybeLatin1" "Z" (.int 0)) (g6_V : Arv Z h0 d kd .byte (16 : Int32) own_e6 (.int 0)) (g7_ne_q_d : q ≠ d) (g8_S : Sta Z Z.heap "java/lang/StringUTF16" "$assertionsDisabled" "Z" (.int 1)) (g9_S : Sta Z Z.heap "java/lang/StringUTF16" "HI_BYTE_SHIFT" "I" (.int 0)) (g10_S : Sta Z Z.heap "java/lang/StringUTF16" "LO_BYTE_SHIFT" "I" (.int 8)) (g11_S : Sta Z Z.heap "java/lang/String" "COMPACT_STRINGS" "Z" (.int cpt)) (g12_hcpt : ¬ (cpt = (0 : Int32))) (g13_E : Exa Z h0 a "java/lang/String") (g14_F : Fld Z h0 a "java/lang/String" "coder" "B" (.int 1)) (g15_F : Fld Z h0 a "java/lang/String" "value" "[B" (.ref t)) (g16_V : Arv Z h0 t kt .byte nt ss (.int 0)) (g17_ne_a_q : a ≠ q) (g18_ne_t_q : t ≠ q) (g19_hlen : (nt >>> ((1 : Int32) &&& 31)) = len) (g20_hn1 : ((6 : Int32) + len) = n1) (g21_hle : ¬ ((0 : Int32) < (n1 - ((16 : Int32) >>> ((0 : Int32) &&& 31))))) (g22_hfit : own_fit (6 : Int32) (1 : Int32) nt (32 : Int32) k own_r6 ss) (g23_hfmt : fmt.isRef = true) (g24_S : Sta Z Z.heap "jdk/internal/util/Preconditions" "SIOOBE_FORMATTER" "Ljava/util/function/BiFunction;" fmt) : own_Con l Z ⟨"java/lang/StringBuilder", "append", "(Ljava/lang/String;)Ljava/lang/StringBuilder;"⟩ jdk_67_method_7_code 2 (some (.object "java/lang/StringBuilder")) [] ⟨9, 1, 32, 130⟩ #[(.ref q), (.ref a)] h0 (fun rv rh rL => ∃ (u : Addr) (ku : ClassId), rv = some (.ref q) ∧ own_Fr Z rL ∧ Keep h0 rh [q] ∧ h0.size ≤ u ∧ (Exa Z rh q "java/lang/StringBuilder") ∧ (Fld Z rh q "java/lang/AbstractStringBuilder" "value" "[B" (.ref u)) ∧ (Fld Z rh q "java/lang/AbstractStringBuilder" "coder" "B" (.int 1)) ∧ (Fld Z rh q "java/lang/AbstractStringBuilder" "count" "I" (.int n1)) ∧ (Fld Z rh q "java/lang/AbstractStringBuilder" "maybeLatin1" "Z" (.int 0)) ∧ (Arv Z rh u ku .byte (32 : Int32) (own_ins k own_r6 ss) (.int 0))) := by
  refine own_st hw (plainFor_of_name (by decide +kernel)) #[oa q, oa a] (fun _ => rfl) fun p e s m below meth c s₁ G B hown hnm hret hZ X0 e0 N0 hR => ?_
  refine q_aloadN B X0 d13_0 rfl rfl rfl ?_
  refine q_aloadN B X0 d13_1 rfl rfl rfl ?_
  show G (s₁.setTop (mkF m 2 #[oa q, oa a] [(.ref a), (.ref q)]))
  refine qU B X0 hZ hown 82 83 84 102 66 86 rfl rfl rfl rfl rfl rfl rfl (own_aaU6 hw k len n1 O0 g0_E g1_G g2_F g3_F g4_F g5_F g6_V g7_ne_q_d g8_S g9_S g10_S g11_S g12_hcpt g13_E g14_F g15_F g16_V g17_ne_a_q g18_ne_t_q g19_hlen g20_hn1 g21_hle g22_hfit g23_hfmt g24_S) e0 g0_E own_pd25 rfl rfl d13_2 0 rfl rfl rfl (by decide) ?_
  rintro T1 h1 _ L1 X1 e1 ⟨u_1, ku_1, rfl, M1, J1, y1_0, r1_0, r1_1, r1_2, r1_3, r1_4, r1_5⟩
  have N1 := Fr.app N0 M1
  have K1 := (Keep.refl h0 [q]).trans J1 (allS (own_mi 0 rfl) all0)
  have O1 := O0.keep J1 (allS g1_G all0)
  refine q_pop B X1 d13_5 rfl rfl rfl ?_
  refine q_aloadN B X1 d13_6 rfl rfl rfl ?_
  show G (T1.setTop (mkF m 7 #[oa q, oa a] [(.ref q)]))
  exact qRA B hR hret rfl rfl X1 d13_7 e1 ⟨u_1, ku_1, rfl, N1, K1, (Nat.le_trans (Keep.refl h0 [q]).1 y1_0), r1_0, r1_1, r1_2, r1_3, r1_4, r1_5⟩ (by decide)
theorem own_uinf5 (hw : own_W Z a0) {d : Addr} {kd : ClassId} {u : Addr} {ku : ClassId} {fmt : Value} (O0 : own_Old Z h0) (g0_V : Arv Z h0 d kd .byte (16 : Int32) own_e5 (.int 0)) (g1_V : Arv Z h0 u ku .byte (32 : Int32) own_z32 (.int 0)) (g2_G : Z.heap.size ≤ u) (g3_ne_d_u : d ≠ u) (g4_S : Sta Z Z.heap "java/lang/StringUTF16" "$assertionsDisabled" "Z" (.int 1)) (g5_S : Sta Z Z.heap "java/lang/StringUTF16" "HI_BYTE_SHIFT" "I" (.int 0)) (g6_S : Sta Z Z.heap "java/lang/StringUTF16" "LO_BYTE_SHIFT" "I" (.int 8)) (g7_hfmt : fmt.isRef = true) (g8_S : Sta Z Z.heap "jdk/internal/util/Preconditions" "SIOOBE_FORMATTER" "Ljava/util/function/BiFunction;" fmt) : own_Con l Z ⟨"java/lang/StringUTF16", "inflate", "([BI[BII)V"⟩ jdk_52_method_86_code 6 none [] ⟨3, 0, 0, 43⟩ #[(.ref d), (.int 0), (.ref u), (.int 0), (.int 5)] h0 (fun rv rh rL => rv = none ∧ own_Fr Z rL ∧ Keep h0 rh [u] ∧ (Arv Z rh u ku .byte (32 : Int32) own_r5 (.int 0))) := by
  refine own_st hw (plainFor_of_name (by decide +kernel)) #[oa d, oi 0, oa u, oi 0, oi 5, .unset] (fun m => by first | (simp [entryFrame, mkF, argsToLocals, Value.category]; done) | rfl) fun p e s m below meth c s₁ G B hown hnm hret hZ X0 e0 N0 hR => ?_
  refine q_iloadN B X0 d44_0 rfl rfl ?_
  refine q_iload B X0 d44_1 rfl rfl ?_
  refine q_aloadN B X0 d44_3 rfl rfl rfl ?_
  show G (s₁.setTop (mkF m 4 #[oa d, oi 0, oa u, oi 0, oi 5, .unset] [(.ref u), (.int 5), (.int 0)]))
  refine qS B X0 hZ hown 226 227 22 228 rfl rfl rfl rfl (own_ucS5 hw O0 g1_V g7_hfmt g8_S) e0 own_pd32 rfl rfl d44_4 0 rfl rfl rfl (by decide) ?_
  rintro T1 h1 _ L1 X1 e1 ⟨rfl, M1, rfl⟩
  have N1 := Fr.app N0 M1
  refine q_iconst B X1 d44_7 rfl ?_
  refine q_istore B X1 d44_8 rfl rfl rfl ?_
  show G (T1.setTop (mkF m 10 #[oa d, oi 0, oa u, oi 0, oi 5, oi 0] []))
  refine q_iload B X1 d44_10 rfl rfl ?_
  refine q_iload B X1 d44_12 rfl rfl ?_
  refine q_icmpNo B X1 d44_14 rfl (tlt (by decide)).2.1 rfl ?_
  refine q_aloadN B X1 d44_17 rfl rfl rfl ?_
  refine q_iloadN B X1 d44_18 rfl rfl ?_
  refine q_iinc B X1 d44_19 rfl rfl rfl ?_
  show G (T1.setTop (mkF m 22 #[oa d, oi 0, oa u, oi ((0 : Int32) + (1 : Int32)), oi 5, oi 0] [(.int 0), (.ref u)]))
  rw [show ((0 : Int32) + (1 : Int32)) = (1 : Int32) from by decide]
  show G (T1.setTop (mkF m 22 #[oa d, oi 0, oa u, oi 1, oi 5, oi 0] [(.int 0), (.ref u)]))
  refine q_aloadN B X1 d44_22 rfl rfl rfl ?_
  refine q_iloadN B X1 d44_23 rfl rfl ?_
  refine q_iinc B X1 d44_24 rfl rfl rfl ?_
  show G (T1.setTop (mkF m 27 #[oa d, oi ((0 : Int32) + (1 : Int32)), oa u, oi 1, oi 5, oi 0] [(.int 0), (.ref d), (.int 0), (.ref u)]))
  rw [show ((0 : Int32) + (1 : Int32)) = (1 : Int32) from by decide]
  show G (T1.setTop (mkF m 27 #[oa d, oi 1, oa u, oi 1, oi 5, oi 0] [(.int 0), (.ref d), (.int 0), (.ref u)]))
  refine qlb (v := (.int 100)) B X1 hZ e1 g0_V d44_27 (by decide) rfl ?_
  refine q_sipush B X1 d44_28 rfl ?_
  refine q_iand B X1 d44_31 rfl rfl ?_
  show G (T1.setTop (mkF m 32 #[oa d, oi 1, oa u, oi 1, oi 5, oi 0] [(.int ((100 : Int32) &&& (255 : Int32))), (.int 0), (.ref u)]))
  rw [show ((100 : Int32) &&& (255 : Int32)) = (100 : Int32) from by decide]
  show G (T1.setTop (mkF m 32 #[oa d, oi 1, oa u, oi 1, oi 5, oi 0] [(.int 100), (.int 0), (.ref u)]))
  refine qS B X1 hZ hown 204 205 22 206 rfl rfl rfl rfl (own_put hw 32 0 (100 : Int32) O0 g1_V g2_G (by decide) (by decide) rfl g4_S g5_S g6_S) e1 own_pd1 rfl rfl d44_32 0 rfl rfl rfl (by decide) ?_
  rintro T3 h3 _ L3 X3 e3 ⟨rfl, M3, J3, r3_0⟩
  have N3 := Fr.app N1 M3
  have K3 := (Keep.refl h0 [u]).trans J3 (allS (own_mi 0 rfl) all0)
  have O3 := O0.keep J3 (allS g2_G all0)
  show G (T3.setTop (mkF m 35 #[oa d, oi 1, oa u, oi 1, oi 5, oi 0] []))
  refine q_iinc B X3 d44_35 rfl rfl rfl ?_
  show G (T3.setTop (mkF m 38 #[oa d, oi 1, oa u, oi 1, oi 5, oi ((0 : Int32) + (1 : Int32))] []))
  rw [show ((0 : Int32) + (1 : Int32)) = (1 : Int32) from by decide]
  show G (T3.setTop (mkF m 38 #[oa d, oi 1, oa u, oi 1, oi 5, oi 1] []))
  refine q_goto 10 B X3 d44_38 rfl rfl (by decide) ?_
  show G (T3.setTop (mkF m 10 #[oa d, oi 1, oa u, oi 1, oi 5, oi 1] []))
  refine q_iload B X3 d44_10 rfl rfl ?_
  refine q_iload B X3 d44_12 rfl rfl ?_
  refine q_icmpNo B X3 d44_14 rfl (tlt (by decide)).2.1 rfl ?_
  refine q_aloadN B X3 d44_17 rfl rfl rfl ?_
  refine q_iloadN B X3 d44_18 rfl rfl ?_
  refine q_iinc B X3 d44_19 rfl rfl rfl ?_
  show G (T3.setTop (mkF m 22 #[oa d, oi 1, oa u, oi ((1 : Int32) + (1 : Int32)), oi 5, oi 1] [(.int 1), (.ref u)]))
  rw [show ((1 : Int32) + (1 : Int32)) = (2 : Int32) from by decide]
  show G (T3.setTop (mkF m 22 #[oa d, oi 1, oa u, oi 2, oi 5, oi 1] [(.int 1), (.ref u)]))
  refine q_aloadN B X3 d44_22 rfl rfl rfl ?_
  refine q_iloadN B X3 d44_23 rfl rfl ?_
  refine q_iinc B X3 d44_24 rfl rfl rfl ?_
  show G (T3.setTop (mkF m 27 #[oa d, oi ((1 : Int32) + (1 : Int32)), oa u, oi 2, oi 5, oi 1] [(.int 1), (.ref d), (.int 1), (.ref u)]))
  rw [show ((1 : Int32) + (1 : Int32)) = (2 : Int32) from by decide]
  show G (T3.setTop (mkF m 27 #[oa d, oi 2, oa u, oi 2, oi 5, oi 1] [(.int 1), (.ref d), (.int 1), (.ref u)]))
  have f5 := (g0_V.keep J3 (ninS g3_ne_d_u nin0))
  refine qlb (v := (.int 101)) B X3 hZ e3 f5 d44_27 (by decide) rfl ?_
  refine q_sipush B X3 d44_28 rfl ?_
  refine q_iand B X3 d44_31 rfl rfl ?_
  show G (T3.setTop (mkF m 32 #[oa d, oi 2, oa u, oi 2, oi 5, oi 1] [(.int ((101 : Int32) &&& (255 : Int32))), (.int 1), (.ref u)]))
  rw [show ((101 : Int32) &&& (255 : Int32)) = (101 : Int32) from by decide]
  show G (T3.setTop (mkF m 32 #[oa d, oi 2, oa u, oi 2, oi 5, oi 1] [(.int 101), (.int 1), (.ref u)]))
  refine qS B X3 hZ hown 204 205 22 206 rfl rfl rfl rfl (own_put hw 32 1 (101 : Int32) O3 r3_0 g2_G (by decide) (by decide) rfl g4_S g5_S g6_S) e3 own_pd1 rfl rfl d44_32 0 rfl rfl rfl (by decide) ?_
  rintro T6 h6 _ L6 X6 e6 ⟨rfl, M6, J6, r6_0⟩
  have N6 := Fr.app N3 M6
  have K6 := K3.trans J6 (allS (own_mi 0 rfl) all0)
  have O6 := O3.keep J6 (allS g2_G all0)
  show G (T6.setTop (mkF m 35 #[oa d, oi 2, oa u, oi 2, oi 5, oi 1] []))
  refine q_iinc B X6 d44_35 rfl rfl rfl ?_
  show G (T6.setTop (mkF m 38 #[oa d, oi 2, oa u, oi 2, oi 5, oi ((1 : Int32) + (1 : Int32))] []))
  rw [show ((1 : Int32) + (1 : Int32)) = (2 : Int32) from by decide]
  show G (T6.setTop (mkF m 38 #[oa d, oi 2, oa u, oi 2, oi 5, oi 2] []))
  refine q_goto 10 B X6 d44_38 rfl rfl (by decide) ?_
  show G (T6.setTop (mkF m 10 #[oa d, oi 2, oa u, oi 2, oi 5, oi 2] []))
  refine q_iload B X6 d44_10 rfl rfl ?_
  refine q_iload B X6 d44_12 rfl rfl ?_
  refine q_icmpNo B X6 d44_14 rfl (tlt (by decide)).2.1 rfl ?_
  refine q_aloadN B X6 d44_17 rfl rfl rfl ?_
  refine q_iloadN B X6 d44_18 rfl rfl ?_
  refine q_iinc B X6 d44_19 rfl rfl rfl ?_
  show G (T6.setTop (mkF m 22 #[oa d, oi 2, oa u, oi ((2 : Int32) + (1 : Int32)), oi 5, oi 2] [(.int 2), (.ref u)]))
  rw [show ((2 : Int32) + (1 : Int32)) = (3 : Int32) from by decide]
  show G (T6.setTop (mkF m 22 #[oa d, oi 2, oa u, oi 3, oi 5, oi 2] [(.int 2), (.ref u)]))
  refine q_aloadN B X6 d44_22 rfl rfl rfl ?_
  refine q_iloadN B X6 d44_23 rfl rfl ?_
  refine q_iinc B X6 d44_24 rfl rfl rfl ?_
  show G (T6.setTop (mkF m 27 #[oa d, oi ((2 : Int32) + (1 : Int32)), oa u, oi 3, oi 5, oi 2] [(.int 2), (.ref d), (.int 2), (.ref u)]))
  rw [show ((2 : Int32) + (1 : Int32)) = (3 : Int32) from by decide]
  show G (T6.setTop (mkF m 27 #[oa d, oi 3, oa u, oi 3, oi 5, oi 2] [(.int 2), (.ref d), (.int 2), (.ref u)]))
  have f8 := (f5.keep J6 (ninS g3_ne_d_u nin0))
  refine qlb (v := (.int 110)) B X6 hZ e6 f8 d44_27 (by decide) rfl ?_
  refine q_sipush B X6 d44_28 rfl ?_
  refine q_iand B X6 d44_31 rfl rfl ?_
  show G (T6.setTop (mkF m 32 #[oa d, oi 3, oa u, oi 3, oi 5, oi 2] [(.int ((110 : Int32) &&& (255 : Int32))), (.int 2), (.ref u)]))
  rw [show ((110 : Int32) &&& (255 : Int32)) = (110 : Int32) from by decide]
  show G (T6.setTop (mkF m 32 #[oa d, oi 3, oa u, oi 3, oi 5, oi 2] [(.int 110), (.int 2), (.ref u)]))
  refine qS B X6 hZ hown 204 205 22 206 rfl rfl rfl rfl (own_put hw 32 2 (110 : Int32) O6 r6_0 g2_G (by decide) (by decide) rfl g4_S g5_S g6_S) e6 own_pd1 rfl rfl d44_32 0 rfl rfl rfl (by decide) ?_
  rintro T9 h9 _ L9 X9 e9 ⟨rfl, M9, J9, r9_0⟩
  have N9 := Fr.app N6 M9
  have K9 := K6.trans J9 (allS (own_mi 0 rfl) all0)
  have O9 := O6.keep J9 (allS g2_G all0)
  show G (T9.setTop (mkF m 35 #[oa d, oi 3, oa u, oi 3, oi 5, oi 2] []))
  refine q_iinc B X9 d44_35 rfl rfl rfl ?_
  show G (T9.setTop (mkF m 38 #[oa d, oi 3, oa u, oi 3, oi 5, oi ((2 : Int32) + (1 : Int32))] []))
  rw [show ((2 : Int32) + (1 : Int32)) = (3 : Int32) from by decide]
  show G (T9.setTop (mkF m 38 #[oa d, oi 3, oa u, oi 3, oi 5, oi 3] []))
  refine q_goto 10 B X9 d44_38 rfl rfl (by decide) ?_
  show G (T9.setTop (mkF m 10 #[oa d, oi 3, oa u, oi 3, oi 5, oi 3] []))
  refine q_iload B X9 d44_10 rfl rfl ?_
  refine q_iload B X9 d44_12 rfl rfl ?_
  refine q_icmpNo B X9 d44_14 rfl (tlt (by decide)).2.1 rfl ?_
  refine q_aloadN B X9 d44_17 rfl rfl rfl ?_
  refine q_iloadN B X9 d44_18 rfl rfl ?_
  refine q_iinc B X9 d44_19 rfl rfl rfl ?_
  show G (T9.setTop (mkF m 22 #[oa d, oi 3, oa u, oi ((3 : Int32) + (1 : Int32)), oi 5, oi 3] [(.int 3), (.ref u)]))
  rw [show ((3 : Int32) + (1 : Int32)) = (4 : Int32) from by decide]
  show G (T9.setTop (mkF m 22 #[oa d, oi 3, oa u, oi 4, oi 5, oi 3] [(.int 3), (.ref u)]))
  refine q_aloadN B X9 d44_22 rfl rfl rfl ?_
  refine q_iloadN B X9 d44_23 rfl rfl ?_
  refine q_iinc B X9 d44_24 rfl rfl rfl ?_
  show G (T9.setTop (mkF m 27 #[oa d, oi ((3 : Int32) + (1 : Int32)), oa u, oi 4, oi 5, oi 3] [(.int 3), (.ref d), (.int 3), (.ref u)]))
  rw [show ((3 : Int32) + (1 : Int32)) = (4 : Int32) from by decide]
  show G (T9.setTop (mkF m 27 #[oa d, oi 4, oa u, oi 4, oi 5, oi 3] [(.int 3), (.ref d), (.int 3), (.ref u)]))
  have f11 := (f8.keep J9 (ninS g3_ne_d_u nin0))
  refine qlb (v := (.int 121)) B X9 hZ e9 f11 d44_27 (by decide) rfl ?_
  refine q_sipush B X9 d44_28 rfl ?_
  refine q_iand B X9 d44_31 rfl rfl ?_
  show G (T9.setTop (mkF m 32 #[oa d, oi 4, oa u, oi 4, oi 5, oi 3] [(.int ((121 : Int32) &&& (255 : Int32))), (.int 3), (.ref u)]))
  rw [show ((121 : Int32) &&& (255 : Int32)) = (121 : Int32) from by decide]
  show G (T9.setTop (mkF m 32 #[oa d, oi 4, oa u, oi 4, oi 5, oi 3] [(.int 121), (.int 3), (.ref u)]))
  refine qS B X9 hZ hown 204 205 22 206 rfl rfl rfl rfl (own_put hw 32 3 (121 : Int32) O9 r9_0 g2_G (by decide) (by decide) rfl g4_S g5_S g6_S) e9 own_pd1 rfl rfl d44_32 0 rfl rfl rfl (by decide) ?_
  rintro T12 h12 _ L12 X12 e12 ⟨rfl, M12, J12, r12_0⟩
  have N12 := Fr.app N9 M12
  have K12 := K9.trans J12 (allS (own_mi 0 rfl) all0)
  have O12 := O9.keep J12 (allS g2_G all0)
  show G (T12.setTop (mkF m 35 #[oa d, oi 4, oa u, oi 4, oi 5, oi 3] []))
  refine q_iinc B X12 d44_35 rfl rfl rfl ?_
  show G (T12.setTop (mkF m 38 #[oa d, oi 4, oa u, oi 4, oi 5, oi ((3 : Int32) + (1 : Int32))] []))
  rw [show ((3 : Int32) + (1 : Int32)) = (4 : Int32) from by decide]
  show G (T12.setTop (mkF m 38 #[oa d, oi 4, oa u, oi 4, oi 5, oi 4] []))
  refine q_goto 10 B X12 d44_38 rfl rfl (by decide) ?_
  show G (T12.setTop (mkF m 10 #[oa d, oi 4, oa u, oi 4, oi 5, oi 4] []))
  refine q_iload B X12 d44_10 rfl rfl ?_
  refine q_iload B X12 d44_12 rfl rfl ?_
  refine q_icmpNo B X12 d44_14 rfl (tlt (by decide)).2.1 rfl ?_
  refine q_aloadN B X12 d44_17 rfl rfl rfl ?_
  refine q_iloadN B X12 d44_18 rfl rfl ?_
  refine q_iinc B X12 d44_19 rfl rfl rfl ?_
  show G (T12.setTop (mkF m 22 #[oa d, oi 4, oa u, oi ((4 : Int32) + (1 : Int32)), oi 5, oi 4] [(.int 4), (.ref u)]))
  rw [show ((4 : Int32) + (1 : Int32)) = (5 : Int32) from by decide]
  show G (T12.setTop (mkF m 22 #[oa d, oi 4, oa u, oi 5, oi 5, oi 4] [(.int 4), (.ref u)]))
  refine q_aloadN B X12 d44_22 rfl rfl rfl ?_
  refine q_iloadN B X12 d44_23 rfl rfl ?_
  refine q_iinc B X12 d44_24 rfl rfl rfl ?_
  show G (T12.setTop (mkF m 27 #[oa d, oi ((4 : Int32) + (1 : Int32)), oa u, oi 5, oi 5, oi 4] [(.int 4), (.ref d), (.int 4), (.ref u)]))
  rw [show ((4 : Int32) + (1 : Int32)) = (5 : Int32) from by decide]
  show G (T12.setTop (mkF m 27 #[oa d, oi 5, oa u, oi 5, oi 5, oi 4] [(.int 4), (.ref d), (.int 4), (.ref u)]))
  have f14 := (f11.keep J12 (ninS g3_ne_d_u nin0))
  refine qlb (v := (.int 32)) B X12 hZ e12 f14 d44_27 (by decide) rfl ?_
  refine q_sipush B X12 d44_28 rfl ?_
  refine q_iand B X12 d44_31 rfl rfl ?_
  show G (T12.setTop (mkF m 32 #[oa d, oi 5, oa u, oi 5, oi 5, oi 4] [(.int ((32 : Int32) &&& (255 : Int32))), (.int 4), (.ref u)]))
  rw [show ((32 : Int32) &&& (255 : Int32)) = (32 : Int32) from by decide]
  show G (T12.setTop (mkF m 32 #[oa d, oi 5, oa u, oi 5, oi 5, oi 4] [(.int 32), (.int 4), (.ref u)]))
  refine qS B X12 hZ hown 204 205 22 206 rfl rfl rfl rfl (own_put hw 32 4 (32 : Int32) O12 r12_0 g2_G (by decide) (by decide) rfl g4_S g5_S g6_S) e12 own_pd1 rfl rfl d44_32 0 rfl rfl rfl (by decide) ?_
  rintro T15 h15 _ L15 X15 e15 ⟨rfl, M15, J15, r15_0⟩
  have N15 := Fr.app N12 M15
  have K15 := K12.trans J15 (allS (own_mi 0 rfl) all0)
  have O15 := O12.keep J15 (allS g2_G all0)
  show G (T15.setTop (mkF m 35 #[oa d, oi 5, oa u, oi 5, oi 5, oi 4] []))
  have W16 : Arv Z h15 u ku .byte (32 : Int32) own_r5 (.int 0) := r15_0
  show G (T15.setTop (mkF m 35 #[oa d, oi 5, oa u, oi 5, oi 5, oi 4] []))
  refine q_iinc B X15 d44_35 rfl rfl rfl ?_
  show G (T15.setTop (mkF m 38 #[oa d, oi 5, oa u, oi 5, oi 5, oi ((4 : Int32) + (1 : Int32))] []))
  rw [show ((4 : Int32) + (1 : Int32)) = (5 : Int32) from by decide]
  show G (T15.setTop (mkF m 38 #[oa d, oi 5, oa u, oi 5, oi 5, oi 5] []))
  refine q_goto 10 B X15 d44_38 rfl rfl (by decide) ?_
  show G (T15.setTop (mkF m 10 #[oa d, oi 5, oa u, oi 5, oi 5, oi 5] []))
  refine q_iload B X15 d44_10 rfl rfl ?_
  refine q_iload B X15 d44_12 rfl rfl ?_
  refine q_icmpYes 41 B X15 d44_14 rfl (flt (by decide)).2.1 rfl rfl (by decide) ?_
  show G (T15.setTop (mkF m 41 #[oa d, oi 5, oa u, oi 5, oi 5, oi 5] []))
  exact qRV B hR hret X15 d44_41 e15 ⟨rfl, N15, K15, W16⟩ (by decide)
theorem own_linf5 (hw : own_W Z a0) {d : Addr} {kd : ClassId} {u : Addr} {ku : ClassId} {fmt : Value} (O0 : own_Old Z h0) (g0_V : Arv Z h0 d kd .byte (16 : Int32) own_e5 (.int 0)) (g1_V : Arv Z h0 u ku .byte (32 : Int32) own_z32 (.int 0)) (g2_G : Z.heap.size ≤ u) (g3_ne_d_u : d ≠ u) (g4_S : Sta Z Z.heap "java/lang/StringUTF16" "$assertionsDisabled" "Z" (.int 1)) (g5_S : Sta Z Z.heap "java/lang/StringUTF16" "HI_BYTE_SHIFT" "I" (.int 0)) (g6_S : Sta Z Z.heap "java/lang/StringUTF16" "LO_BYTE_SHIFT" "I" (.int 8)) (g7_hfmt : fmt.isRef = true) (g8_S : Sta Z Z.heap "jdk/internal/util/Preconditions" "SIOOBE_FORMATTER" "Ljava/util/function/BiFunction;" fmt) : own_Con l Z ⟨"java/lang/StringLatin1", "inflate", "([BI[BII)V"⟩ jdk_43_method_50_code 5 none [] ⟨4, 0, 0, 60⟩ #[(.ref d), (.int 0), (.ref u), (.int 0), (.int 5)] h0 (fun rv rh rL => rv = none ∧ own_Fr Z rL ∧ Keep h0 rh [u] ∧ (Arv Z rh u ku .byte (32 : Int32) own_r5 (.int 0))) := by
  refine own_st hw (plainFor_of_name (by decide +kernel)) #[oa d, oi 0, oa u, oi 0, oi 5] (fun m => by first | (simp [entryFrame, mkF, argsToLocals, Value.category]; done) | rfl) fun p e s m below meth c s₁ G B hown hnm hret hZ X0 e0 N0 hR => ?_
  refine q_aloadN B X0 d43_0 rfl rfl rfl ?_
  refine q_iloadN B X0 d43_1 rfl rfl ?_
  refine q_aloadN B X0 d43_2 rfl rfl rfl ?_
  refine q_iloadN B X0 d43_3 rfl rfl ?_
  refine q_iload B X0 d43_4 rfl rfl ?_
  show G (s₁.setTop (mkF m 6 #[oa d, oi 0, oa u, oi 0, oi 5] [(.int 5), (.int 0), (.ref u), (.int 0), (.ref d)]))
  refine qS B X0 hZ hown 223 224 22 225 rfl rfl rfl rfl (own_uinf5 hw O0 g0_V g1_V g2_G g3_ne_d_u g4_S g5_S g6_S g7_hfmt g8_S) e0 own_pd33 rfl rfl d43_6 0 rfl rfl rfl (by decide) ?_
  rintro T1 h1 _ L1 X1 e1 ⟨rfl, M1, J1, r1_0⟩
  have N1 := Fr.app N0 M1
  have K1 := (Keep.refl h0 [u]).trans J1 (allS (own_mi 0 rfl) all0)
  have O1 := O0.keep J1 (allS g2_G all0)
  show G (T1.setTop (mkF m 9 #[oa d, oi 0, oa u, oi 0, oi 5] []))
  exact qRV B hR hret X1 d43_9 e1 ⟨rfl, N1, K1, r1_0⟩ (by decide)
theorem own_ainf5 (hw : own_W Z a0) {q d : Addr} {kd : ClassId} {fmt : Value} {cpt : Int32} (O0 : own_Old Z h0) (g0_E : Exa Z h0 q "java/lang/StringBuilder") (g1_G : Z.heap.size ≤ q) (g2_F : Fld Z h0 q "java/lang/AbstractStringBuilder" "value" "[B" (.ref d)) (g3_F : Fld Z h0 q "java/lang/AbstractStringBuilder" "coder" "B" (.int 0)) (g4_F : Fld Z h0 q "java/lang/AbstractStringBuilder" "count" "I" (.int 5)) (g5_F : Fld Z h0 q "java/lang/AbstractStringBuilder" "maybeLatin1" "Z" (.int 0)) (g6_V : Arv Z h0 d kd .byte (16 : Int32) own_e5 (.int 0)) (g7_ne_q_d : q ≠ d) (g8_S : Sta Z Z.heap "java/lang/StringUTF16" "$assertionsDisabled" "Z" (.int 1)) (g9_S : Sta Z Z.heap "java/lang/StringUTF16" "HI_BYTE_SHIFT" "I" (.int 0)) (g10_S : Sta Z Z.heap "java/lang/StringUTF16" "LO_BYTE_SHIFT" "I" (.int 8)) (g11_S : Sta Z Z.heap "java/lang/String" "COMPACT_STRINGS" "Z" (.int cpt)) (g12_hcpt : ¬ (cpt = (0 : Int32))) (g13_hfmt : fmt.isRef = true) (g14_S : Sta Z Z.heap "jdk/internal/util/Preconditions" "SIOOBE_FORMATTER" "Ljava/util/function/BiFunction;" fmt) : own_Con l Z ⟨"java/lang/AbstractStringBuilder", "inflate", "()V"⟩ jdk_68_method_11_code 2 none [] ⟨5, 1, 32, 76⟩ #[(.ref q)] h0 (fun rv rh rL => ∃ (u : Addr) (ku : ClassId), rv = none ∧ own_Fr Z rL ∧ Keep h0 rh [q] ∧ h0.size ≤ u ∧ (Exa Z rh q "java/lang/StringBuilder") ∧ (Fld Z rh q "java/lang/AbstractStringBuilder" "value" "[B" (.ref u)) ∧ (Fld Z rh q "java/lang/AbstractStringBuilder" "coder" "B" (.int 1)) ∧ (Fld Z rh q "java/lang/AbstractStringBuilder" "count" "I" (.int 5)) ∧ (Fld Z rh q "java/lang/AbstractStringBuilder" "maybeLatin1" "Z" (.int 0)) ∧ (Arv Z rh u ku .byte (32 : Int32) own_r5 (.int 0))) := by
  refine own_st hw (plainFor_of_name (by decide +kernel)) #[oa q, .unset] (fun _ => rfl) fun p e s m below meth c s₁ G B hown hnm hret hZ X0 e0 N0 hR => ?_
  refine q_aloadN B X0 d42_0 rfl rfl rfl ?_
  show G (s₁.setTop (mkF m 1 #[oa q, .unset] [(.ref q)]))
  refine qV B X0 hZ hown 218 150 152 151 66 153 rfl rfl rfl rfl rfl rfl (own_asbL hw O0 g3_F g11_S g12_hcpt) e0 g0_E own_pd10 rfl rfl d42_1 0 rfl rfl rfl (by decide) ?_
  rintro T1 h1 _ L1 X1 e1 ⟨rfl, M1, rfl⟩
  have N1 := Fr.app N0 M1
  refine q_ifYes 8 B X1 d42_4 rfl ((if0 _ _).trans (feq (by decide)).2) rfl rfl (by decide) ?_
  refine q_aloadN B X1 d42_8 rfl rfl rfl ?_
  refine qgf B X1 hZ hown 70 rfl Via.refl e1 g2_F d42_9 fun T2 X2 e2 => ?_
  refine qal B X2 hZ e2 g6_V d42_12 ?_
  show G (T2.setTop (mkF m 13 #[oa q, .unset] [(.int 16)]))
  refine qS B X2 hZ hown 219 198 22 199 rfl rfl rfl rfl (own_nbf16 hw O0) e2 own_pd5 rfl rfl d42_13 0 rfl rfl rfl (by decide) ?_
  rintro T4 h4 _ L4 X4 e4 ⟨u_4, ku_4, rfl, M4, J4, y4_0, r4_0⟩
  have N4 := Fr.app N1 M4
  have K4 := (Keep.refl h0 [q]).trans J4 all0
  have O4 := O0.keep J4 all0
  show G (T4.setTop (mkF m 16 #[oa q, .unset] [(.ref u_4)]))
  refine q_astoreN B X4 d42_16 rfl rfl rfl rfl ?_
  refine q_aloadN B X4 d42_17 rfl rfl rfl ?_
  have f6 := (g2_F.keep J4 nin0)
  refine qgf B X4 hZ hown 70 rfl Via.refl e4 f6 d42_18 fun T5 X5 e5 => ?_
  refine q_iconst B X5 d42_21 rfl ?_
  refine q_aloadN B X5 d42_22 rfl rfl rfl ?_
  refine q_iconst B X5 d42_23 rfl ?_
  refine q_aloadN B X5 d42_24 rfl rfl rfl ?_
  have f8 := (g4_F.keep J4 nin0)
  refine qgf B X5 hZ hown 97 rfl Via.refl e5 f8 d42_25 fun T7 X7 e7 => ?_
  show G (T7.setTop (mkF m 28 #[oa q, oa u_4] [(.int 5), (.int 0), (.ref u_4), (.int 0), (.ref d)]))
  have f10 := (g6_V.keep J4 nin0)
  refine qS B X7 hZ hown 220 221 182 222 rfl rfl rfl rfl (own_linf5 hw O4 f10 r4_0 (own_ge O0 y4_0) (own_ne g6_V.lt y4_0) g8_S g9_S g10_S g13_hfmt g14_S) e7 own_pd33 rfl rfl d42_28 0 rfl rfl rfl (by decide) ?_
  rintro T9 h9 _ L9 X9 e9 ⟨rfl, M9, J9, r9_0⟩
  have N9 := Fr.app N4 M9
  have K9 := K4.trans J9 (allS (Or.inr (Nat.le_trans (Keep.refl h0 [q]).1 y4_0)) all0)
  have O9 := O4.keep J9 (allS (own_ge O0 y4_0) all0)
  refine q_aloadN B X9 d42_31 rfl rfl rfl ?_
  refine q_aloadN B X9 d42_32 rfl rfl rfl ?_
  have f12 := (f6.keep J9 (ninS (own_ne g0_E.lt y4_0) nin0))
  have f13 := ((g0_E.keep J4).keep J9)
  refine qpf B X9 hZ hown 70 57 rfl rfl Via.refl e9 f12 f13 (Or.inl (ow hw 71 rfl)) (ty := (.array .byte)) (by decide) rfl rfl d42_33 fun T11 h11 X11 e11 W11 => ?_
  have K11 := K9.wr W11 (own_mi 0 rfl)
  have O11 := O9.wr W11 g1_G
  have N11 := Fr.snoc X11 N9 g1_G
  refine q_aloadN B X11 d42_36 rfl rfl rfl ?_
  refine q_iconst B X11 d42_37 rfl ?_
  have f15 := (((g3_F.keep J4 nin0).keep J9 (ninS (own_ne g0_E.lt y4_0) nin0)).other W11 (Or.inr (slot_ne (Or.inl (ow hw 73 rfl)) (Or.inl (ow hw 71 rfl)) (by decide) (t := .byte) (t' := (.array .byte)) (by decide) (by decide))))
  have f16 := (f13.wr W11)
  refine qpn (.int 1) B X11 hZ hown 72 57 rfl rfl Via.refl e11 f15 f16 (Or.inl (ow hw 73 rfl)) (ty := .byte) (by decide) rfl rfl d42_38 fun T14 h14 X14 e14 W14 => ?_
  have K14 := K11.wr W14 (own_mi 0 rfl)
  have O14 := O11.wr W14 g1_G
  have N14 := Fr.snoc X14 N11 g1_G
  show G (T14.setTop (mkF m 41 #[oa q, oa u_4] []))
  have f17 := (f16.wr W14)
  have f18 := ((f12.same W11).other W14 (Or.inr (slot_ne (Or.inl (ow hw 71 rfl)) (Or.inl (ow hw 73 rfl)) (by decide) (t := (.array .byte)) (t' := .byte) (by decide) (by decide))))
  have f19 := (((f8.keep J9 (ninS (own_ne g0_E.lt y4_0) nin0)).other W11 (Or.inr (slot_ne (Or.inl (ow hw 98 rfl)) (Or.inl (ow hw 71 rfl)) (by decide) (t := .int) (t' := (.array .byte)) (by decide) (by decide)))).other W14 (Or.inr (slot_ne (Or.inl (ow hw 98 rfl)) (Or.inl (ow hw 73 rfl)) (by decide) (t := .int) (t' := .byte) (by decide) (by decide))))
  have f20 := ((((g5_F.keep J4 nin0).keep J9 (ninS (own_ne g0_E.lt y4_0) nin0)).other W11 (Or.inr (slot_ne (Or.inl (ow hw 239 rfl)) (Or.inl (ow hw 71 rfl)) (by decide) (t := .boolean) (t' := (.array .byte)) (by decide) (by decide)))).other W14 (Or.inr (slot_ne (Or.inl (ow hw 239 rfl)) (Or.inl (ow hw 73 rfl)) (by decide) (t := .boolean) (t' := .byte) (by decide) (by decide))))
  have f21 := ((r9_0.other W11 (Ne.symm (own_ne g0_E.lt y4_0))).other W14 (Ne.symm (own_ne g0_E.lt y4_0)))
  exact qRV B hR hret X14 d42_41 e14 ⟨u_4, ku_4, rfl, N14, K14, (Nat.le_trans (Keep.refl h0 [q]).1 y4_0), f17, f18, (f15.same W14), f19, f20, f21⟩ (by decide)
theorem own_ifnS5 (hw : own_W Z a0) {q d : Addr} {kd : ClassId} {fmt : Value} {cpt : Int32} {a : Addr} (O0 : own_Old Z h0) (g0_E : Exa Z h0 q "java/lang/StringBuilder") (g1_G : Z.heap.size ≤ q) (g2_F : Fld Z h0 q "java/lang/AbstractStringBuilder" "value" "[B" (.ref d)) (g3_F : Fld Z h0 q "java/lang/AbstractStringBuilder" "coder" "B" (.int 0)) (g4_F : Fld Z h0 q "java/lang/AbstractStringBuilder" "count" "I" (.int 5)) (g5_F : Fld Z h0 q "java/lang/AbstractStringBuilder" "maybeLatin1" "Z" (.int 0)) (g6_V : Arv Z h0 d kd .byte (16 : Int32) own_e5 (.int 0)) (g7_ne_q_d : q ≠ d) (g8_S : Sta Z Z.heap "java/lang/StringUTF16" "$assertionsDisabled" "Z" (.int 1)) (g9_S : Sta Z Z.heap "java/lang/StringUTF16" "HI_BYTE_SHIFT" "I" (.int 0)) (g10_S : Sta Z Z.heap "java/lang/StringUTF16" "LO_BYTE_SHIFT" "I" (.int 8)) (g11_S : Sta Z Z.heap "java/lang/String" "COMPACT_STRINGS" "Z" (.int cpt)) (g12_hcpt : ¬ (cpt = (0 : Int32))) (g13_E : Exa Z h0 a "java/lang/String") (g14_F : Fld Z h0 a "java/lang/String" "coder" "B" (.int 1)) (g15_ne_a_q : a ≠ q) (g16_hfmt : fmt.isRef = true) (g17_S : Sta Z Z.heap "jdk/internal/util/Preconditions" "SIOOBE_FORMATTER" "Ljava/util/function/BiFunction;" fmt) : own_Con l Z ⟨"java/lang/AbstractStringBuilder", "inflateIfNeededFor", "(Ljava/lang/String;)V"⟩ jdk_68_method_71_code 2 none [] ⟨6, 1, 32, 89⟩ #[(.ref q), (.ref a)] h0 (fun rv rh rL => ∃ (u : Addr) (ku : ClassId), rv = none ∧ own_Fr Z rL ∧ Keep h0 rh [q] ∧ h0.size ≤ u ∧ (Exa Z rh q "java/lang/StringBuilder") ∧ (Fld Z rh q "java/lang/AbstractStringBuilder" "value" "[B" (.ref u)) ∧ (Fld Z rh q "java/lang/AbstractStringBuilder" "coder" "B" (.int 1)) ∧ (Fld Z rh q "java/lang/AbstractStringBuilder" "count" "I" (.int 5)) ∧ (Fld Z rh q "java/lang/AbstractStringBuilder" "maybeLatin1" "Z" (.int 0)) ∧ (Arv Z rh u ku .byte (32 : Int32) own_r5 (.int 0))) := by
  refine own_st hw (plainFor_of_name (by decide +kernel)) #[oa q, oa a] (fun _ => rfl) fun p e s m below meth c s₁ G B hown hnm hret hZ X0 e0 N0 hR => ?_
  refine qgs B X0 hZ hown 69 rfl Via.refl e0 g11_S O0 d19_0 fun T1 X1 e1 => ?_
  refine q_ifNo B X1 d19_3 rfl ((if0 _ _).trans (feq g12_hcpt).1) rfl ?_
  refine q_aloadN B X1 d19_6 rfl rfl rfl ?_
  refine qgf B X1 hZ hown 72 rfl Via.refl e1 g3_F d19_7 fun T2 X2 e2 => ?_
  refine q_aloadN B X2 d19_10 rfl rfl rfl ?_
  show G (T2.setTop (mkF m 11 #[oa q, oa a] [(.ref a), (.int 0)]))
  refine qV B X2 hZ hown 114 93 95 94 8 96 rfl rfl rfl rfl rfl rfl (own_cod1 hw O0 g14_F g11_S g12_hcpt) e2 g13_E own_pd11 rfl rfl d19_11 1 rfl rfl rfl (by decide) ?_
  rintro T3 h3 _ L3 X3 e3 ⟨rfl, M3, rfl⟩
  have N3 := Fr.app N0 M3
  refine q_icmpNo B X3 d19_14 rfl (feq (by decide)).1 rfl ?_
  refine q_aloadN B X3 d19_17 rfl rfl rfl ?_
  show G (T3.setTop (mkF m 18 #[oa q, oa a] [(.ref q)]))
  refine qP2 B X3 hZ hown 213 214 216 215 66 217 rfl rfl rfl rfl rfl rfl (own_ainf5 hw O0 g0_E g1_G g2_F g3_F g4_F g5_F g6_V g7_ne_q_d g8_S g9_S g10_S g11_S g12_hcpt g16_hfmt g17_S) e3 g0_E own_pd0 rfl rfl d19_18 0 rfl rfl rfl (by decide) ?_
  rintro T4 h4 _ L4 X4 e4 ⟨u_4, ku_4, rfl, M4, J4, y4_0, r4_0, r4_1, r4_2, r4_3, r4_4, r4_5⟩
  have N4 := Fr.app N3 M4
  have K4 := (Keep.refl h0 [q]).trans J4 (allS (own_mi 0 rfl) all0)
  have O4 := O0.keep J4 (allS g1_G all0)
  show G (T4.setTop (mkF m 21 #[oa q, oa a] []))
  exact qRV B hR hret X4 d19_21 e4 ⟨u_4, ku_4, rfl, N4, K4, (Nat.le_trans (Keep.refl h0 [q]).1 y4_0), r4_0, r4_1, r4_2, r4_3, r4_4, r4_5⟩ (by decide)
theorem own_psU5 (hw : own_W Z a0) {q d : Addr} {kd : ClassId} {fmt : Value} {cpt : Int32} {a t : Addr} {kt : ClassId} {nt : Int32} {ss : List Value} (k : Nat) (O0 : own_Old Z h0) (g0_E : Exa Z h0 q "java/lang/StringBuilder") (g1_G : Z.heap.size ≤ q) (g2_F : Fld Z h0 q "java/lang/AbstractStringBuilder" "value" "[B" (.ref d)) (g3_F : Fld Z h0 q "java/lang/AbstractStringBuilder" "coder" "B" (.int 0)) (g4_F : Fld Z h0 q "java/lang/AbstractStringBuilder" "count" "I" (.int 5)) (g5_F : Fld Z h0 q "java/lang/AbstractStringBuilder" "maybeLatin1" "Z" (.int 0)) (g6_V : Arv Z h0 d kd .byte (16 : Int32) own_e5 (.int 0)) (g7_ne_q_d : q ≠ d) (g8_S : Sta Z Z.heap "java/lang/StringUTF16" "$assertionsDisabled" "Z" (.int 1)) (g9_S : Sta Z Z.heap "java/lang/StringUTF16" "HI_BYTE_SHIFT" "I" (.int 0)) (g10_S : Sta Z Z.heap "java/lang/StringUTF16" "LO_BYTE_SHIFT" "I" (.int 8)) (g11_S : Sta Z Z.heap "java/lang/String" "COMPACT_STRINGS" "Z" (.int cpt)) (g12_hcpt : ¬ (cpt = (0 : Int32))) (g13_E : Exa Z h0 a "java/lang/String") (g14_F : Fld Z h0 a "java/lang/String" "coder" "B" (.int 1)) (g15_F : Fld Z h0 a "java/lang/String" "value" "[B" (.ref t)) (g16_V : Arv Z h0 t kt .byte nt ss (.int 0)) (g17_ne_a_q : a ≠ q) (g18_ne_t_q : t ≠ q) (g19_hfit : own_fit (5 : Int32) (1 : Int32) nt (32 : Int32) k own_r5 ss) (g20_hfmt : fmt.isRef = true) (g21_S : Sta Z Z.heap "jdk/internal/util/Preconditions" "SIOOBE_FORMATTER" "Ljava/util/function/BiFunction;" fmt) : own_Con l Z ⟨"java/lang/AbstractStringBuilder", "putStringAt", "(ILjava/lang/String;)V"⟩ jdk_68_method_73_code 3 none [] ⟨7, 1, 32, 102⟩ #[(.ref q), (.int 5), (.ref a)] h0 (fun rv rh rL => ∃ (u : Addr) (ku : ClassId), rv = none ∧ own_Fr Z rL ∧ Keep h0 rh [q] ∧ h0.size ≤ u ∧ (Exa Z rh q "java/lang/StringBuilder") ∧ (Fld Z rh q "java/lang/AbstractStringBuilder" "value" "[B" (.ref u)) ∧ (Fld Z rh q "java/lang/AbstractStringBuilder" "coder" "B" (.int 1)) ∧ (Fld Z rh q "java/lang/AbstractStringBuilder" "count" "I" (.int 5)) ∧ (Fld Z rh q "java/lang/AbstractStringBuilder" "maybeLatin1" "Z" (.int 0)) ∧ (Arv Z rh u ku .byte (32 : Int32) (own_ins k own_r5 ss) (.int 0))) := by
  refine own_st hw (plainFor_of_name (by decide +kernel)) #[oa q, oi 5, oa a] (fun m => by first | (simp [entryFrame, mkF, argsToLocals, Value.category]; done) | rfl) fun p e s m below meth c s₁ G B hown hnm hret hZ X0 e0 N0 hR => ?_
  refine q_aloadN B X0 d18_0 rfl rfl rfl ?_
  refine q_aloadN B X0 d18_1 rfl rfl rfl ?_
  show G (s₁.setTop (mkF m 2 #[oa q, oi 5, oa a] [(.ref a), (.ref q)]))
  refine qP2 B X0 hZ hown 109 110 112 111 66 113 rfl rfl rfl rfl rfl rfl (own_ifnS5 hw O0 g0_E g1_G g2_F g3_F g4_F g5_F g6_V g7_ne_q_d g8_S g9_S g10_S g11_S g12_hcpt g13_E g14_F g17_ne_a_q g20_hfmt g21_S) e0 g0_E own_pd19 rfl rfl d18_2 0 rfl rfl rfl (by decide) ?_
  rintro T1 h1 _ L1 X1 e1 ⟨u_1, ku_1, rfl, M1, J1, y1_0, r1_0, r1_1, r1_2, r1_3, r1_4, r1_5⟩
  have N1 := Fr.app N0 M1
  have K1 := (Keep.refl h0 [q]).trans J1 (allS (own_mi 0 rfl) all0)
  have O1 := O0.keep J1 (allS g1_G all0)
  refine q_aloadN B X1 d18_5 rfl rfl rfl ?_
  refine q_aloadN B X1 d18_6 rfl rfl rfl ?_
  refine qgf B X1 hZ hown 70 rfl Via.refl e1 r1_1 d18_7 fun T2 X2 e2 => ?_
  refine q_iloadN B X2 d18_10 rfl rfl ?_
  refine q_aloadN B X2 d18_11 rfl rfl rfl ?_
  refine qgf B X2 hZ hown 72 rfl Via.refl e2 r1_2 d18_12 fun T3 X3 e3 => ?_
  show G (T3.setTop (mkF m 15 #[oa q, oi 5, oa a] [(.int 1), (.int 5), (.ref u_1), (.ref a)]))
  have f5 := (g13_E.keep J1)
  have f6 := (g14_F.keep J1 (ninS g17_ne_a_q nin0))
  have f7 := (g15_F.keep J1 (ninS g17_ne_a_q nin0))
  have f8 := (g16_V.keep J1 (ninS g18_ne_t_q nin0))
  refine qV B X3 hZ hown 115 116 118 117 8 119 rfl rfl rfl rfl rfl rfl (own_gbS1 hw (5 : Int32) k O1 f5 f6 f7 f8 g11_S g12_hcpt r1_5 (own_ge O0 y1_0) (own_ne g13_E.lt y1_0) (own_ne g16_V.lt y1_0) g19_hfit) e3 f5 own_pd23 rfl rfl d18_15 0 rfl rfl rfl (by decide) ?_
  rintro T4 h4 _ L4 X4 e4 ⟨rfl, M4, J4, r4_0⟩
  have N4 := Fr.app N1 M4
  have K4 := K1.trans J4 (allS (Or.inr (Nat.le_trans (Keep.refl h0 [q]).1 y1_0)) all0)
  have O4 := O1.keep J4 (allS (own_ge O0 y1_0) all0)
  show G (T4.setTop (mkF m 18 #[oa q, oi 5, oa a] []))
  have f9 := (r1_0.keep J4)
  have f10 := (r1_1.keep J4 (ninS (own_ne g0_E.lt y1_0) nin0))
  have f11 := (r1_2.keep J4 (ninS (own_ne g0_E.lt y1_0) nin0))
  have f12 := (r1_3.keep J4 (ninS (own_ne g0_E.lt y1_0) nin0))
  have f13 := (r1_4.keep J4 (ninS (own_ne g0_E.lt y1_0) nin0))
  exact qRV B hR hret X4 d18_18 e4 ⟨u_1, ku_1, rfl, N4, K4, (Nat.le_trans (Keep.refl h0 [q]).1 y1_0), f9, f10, f11, f12, f13, r4_0⟩ (by decide)
theorem own_aaU5 (hw : own_W Z a0) {q d : Addr} {kd : ClassId} {fmt : Value} {cpt : Int32} {a t : Addr} {kt : ClassId} {nt : Int32} {ss : List Value} (k : Nat) (len n1 : Int32) (O0 : own_Old Z h0) (g0_E : Exa Z h0 q "java/lang/StringBuilder") (g1_G : Z.heap.size ≤ q) (g2_F : Fld Z h0 q "java/lang/AbstractStringBuilder" "value" "[B" (.ref d)) (g3_F : Fld Z h0 q "java/lang/AbstractStringBuilder" "coder" "B" (.int 0)) (g4_F : Fld Z h0 q "java/lang/AbstractStringBuilder" "count" "I" (.int 5)) (g5_F : Fld Z h0 q "java/lang/AbstractStringBuilder" "maybeLatin1" "Z" (.int 0)) (g6_V : Arv Z h0 d kd .byte (16 : Int32) own_e5 (.int 0)) (g7_ne_q_d : q ≠ d) (g8_S : Sta Z Z.heap "java/lang/StringUTF16" "$assertionsDisabled" "Z" (.int 1)) (g9_S : Sta Z Z.heap "java/lang/StringUTF16" "HI_BYTE_SHIFT" "I" (.int 0)) (g10_S : Sta Z Z.heap "java/lang/StringUTF16" "LO_BYTE_SHIFT" "I" (.int 8)) (g11_S : Sta Z Z.heap "java/lang/String" "COMPACT_STRINGS" "Z" (.int cpt)) (g12_hcpt : ¬ (cpt = (0 : Int32))) (g13_E : Exa Z h0 a "java/lang/String") (g14_F : Fld Z h0 a "java/lang/String" "coder" "B" (.int 1)) (g15_F : Fld Z h0 a "java/lang/String" "value" "[B" (.ref t)) (g16_V : Arv Z h0 t kt .byte nt ss (.int 0)) (g17_ne_a_q : a ≠ q) (g18_ne_t_q : t ≠ q) (g19_hlen : (nt >>> ((1 : Int32) &&& 31)) = len) (g20_hn1 : ((5 : Int32) + len) = n1) (g21_hle : ¬ ((0 : Int32) < (n1 - ((16 : Int32) >>> ((0 : Int32) &&& 31))))) (g22_hfit : own_fit (5 : Int32) (1 : Int32) nt (32 : Int32) k own_r5 ss) (g23_hfmt : fmt.isRef = true) (g24_S : Sta Z Z.heap "jdk/internal/util/Preconditions" "SIOOBE_FORMATTER" "Ljava/util/function/BiFunction;" fmt) : own_Con l Z ⟨"java/lang/AbstractStringBuilder", "append", "(Ljava/lang/String;)Ljava/lang/AbstractStringBuilder;"⟩ jdk_68_method_22_code 3 (some (.object "java/lang/AbstractStringBuilder")) [] ⟨8, 1, 32, 116⟩ #[(.ref q), (.ref a)] h0 (fun rv rh rL => ∃ (u : Addr) (ku : ClassId), rv = some (.ref q) ∧ own_Fr Z rL ∧ Keep h0 rh [q] ∧ h0.size ≤ u ∧ (Exa Z rh q "java/lang/StringBuilder") ∧ (Fld Z rh q "java/lang/AbstractStringBuilder" "value" "[B" (.ref u)) ∧ (Fld Z rh q "java/lang/AbstractStringBuilder" "coder" "B" (.int 1)) ∧ (Fld Z rh q "java/lang/AbstractStringBuilder" "count" "I" (.int n1)) ∧ (Fld Z rh q "java/lang/AbstractStringBuilder" "maybeLatin1" "Z" (.int 0)) ∧ (Arv Z rh u ku .byte (32 : Int32) (own_ins k own_r5 ss) (.int 0))) := by
  refine own_st hw (plainFor_of_name (by decide +kernel)) #[oa q, oa a, .unset] (fun _ => rfl) fun p e s m below meth c s₁ G B hown hnm hret hZ X0 e0 N0 hR => ?_
  refine q_aloadN B X0 d14_0 rfl rfl rfl ?_
  refine q_ifnonnullYes 9 B X0 d14_1 rfl rfl rfl (by decide) ?_
  refine q_aloadN B X0 d14_9 rfl rfl rfl ?_
  show G (s₁.setTop (mkF m 10 #[oa q, oa a, .unset] [(.ref a)]))
  refine qV B X0 hZ hown 87 88 90 89 8 91 rfl rfl rfl rfl rfl rfl (own_lnS1 hw len O0 g13_E g14_F g15_F g16_V g11_S g12_hcpt g19_hlen) e0 g13_E own_pd12 rfl rfl d14_10 0 rfl rfl rfl (by decide) ?_
  rintro T1 h1 _ L1 X1 e1 ⟨rfl, M1, rfl⟩
  have N1 := Fr.app N0 M1
  refine q_istoreN B X1 d14_13 rfl rfl rfl ?_
  refine q_aloadN B X1 d14_14 rfl rfl rfl ?_
  refine q_aloadN B X1 d14_15 rfl rfl rfl ?_
  refine qgf B X1 hZ hown 97 rfl Via.refl e1 g4_F d14_16 fun T2 X2 e2 => ?_
  refine q_iloadN B X2 d14_19 rfl rfl ?_
  refine q_iadd B X2 d14_20 rfl rfl ?_
  show G (T2.setTop (mkF m 21 #[oa q, oa a, oi len] [(.int ((5 : Int32) + len)), (.ref q)]))
  rw [g20_hn1]
  show G (T2.setTop (mkF m 21 #[oa q, oa a, oi len] [(.int n1), (.ref q)]))
  refine qP2 B X2 hZ hown 99 100 102 101 66 103 rfl rfl rfl rfl rfl rfl (own_ensS hw n1 O0 g2_F g3_F g6_V g21_hle) e2 g0_E own_pd18 rfl rfl d14_21 0 rfl rfl rfl (by decide) ?_
  rintro T3 h3 _ L3 X3 e3 ⟨rfl, M3, rfl⟩
  have N3 := Fr.app N1 M3
  refine q_aloadN B X3 d14_24 rfl rfl rfl ?_
  refine q_aloadN B X3 d14_25 rfl rfl rfl ?_
  refine qgf B X3 hZ hown 97 rfl Via.refl e3 g4_F d14_26 fun T4 X4 e4 => ?_
  refine q_aloadN B X4 d14_29 rfl rfl rfl ?_
  show G (T4.setTop (mkF m 30 #[oa q, oa a, oi len] [(.ref a), (.int 5), (.ref q)]))
  refine qP2 B X4 hZ hown 104 105 107 106 66 108 rfl rfl rfl rfl rfl rfl (own_psU5 hw k O0 g0_E g1_G g2_F g3_F g4_F g5_F g6_V g7_ne_q_d g8_S g9_S g10_S g11_S g12_hcpt g13_E g14_F g15_F g16_V g17_ne_a_q g18_ne_t_q g22_hfit g23_hfmt g24_S) e4 g0_E own_pd24 rfl rfl d14_30 0 rfl rfl rfl (by decide) ?_
  rintro T5 h5 _ L5 X5 e5 ⟨u_5, ku_5, rfl, M5, J5, y5_0, r5_0, r5_1, r5_2, r5_3, r5_4, r5_5⟩
  have N5 := Fr.app N3 M5
  have K5 := (Keep.refl h0 [q]).trans J5 (allS (own_mi 0 rfl) all0)
  have O5 := O0.keep J5 (allS g1_G all0)
  refine q_aloadN B X5 d14_33 rfl rfl rfl ?_
  refine q_dup B X5 d14_34 rfl rfl rfl ?_
  refine qgf B X5 hZ hown 97 rfl Via.refl e5 r5_3 d14_35 fun T6 X6 e6 => ?_
  refine q_iloadN B X6 d14_38 rfl rfl ?_
  refine q_iadd B X6 d14_39 rfl rfl ?_
  show G (T6.setTop (mkF m 40 #[oa q, oa a, oi len] [(.int ((5 : Int32) + len)), (.ref q)]))
  rw [g20_hn1]
  show G (T6.setTop (mkF m 40 #[oa q, oa a, oi len] [(.int n1), (.ref q)]))
  refine qpf B X6 hZ hown 97 57 rfl rfl Via.refl e6 r5_3 r5_0 (Or.inl (ow hw 98 rfl)) (ty := .int) (by decide) rfl rfl d14_40 fun T7 h7 X7 e7 W7 => ?_
  have K7 := K5.wr W7 (own_mi 0 rfl)
  have O7 := O5.wr W7 g1_G
  have N7 := Fr.snoc X7 N5 g1_G
  refine q_aloadN B X7 d14_43 rfl rfl rfl ?_
  show G (T7.setTop (mkF m 44 #[oa q, oa a, oi len] [(.ref q)]))
  have f8 := (r5_0.wr W7)
  have f9 := (r5_1.other W7 (Or.inr (slot_ne (Or.inl (ow hw 71 rfl)) (Or.inl (ow hw 98 rfl)) (by decide) (t := (.array .byte)) (t' := .int) (by decide) (by decide))))
  have f10 := (r5_2.other W7 (Or.inr (slot_ne (Or.inl (ow hw 73 rfl)) (Or.inl (ow hw 98 rfl)) (by decide) (t := .byte) (t' := .int) (by decide) (by decide))))
  have f11 := (r5_4.other W7 (Or.inr (slot_ne (Or.inl (ow hw 239 rfl)) (Or.inl (ow hw 98 rfl)) (by decide) (t := .boolean) (t' := .int) (by decide) (by decide))))
  have f12 := (r5_5.other W7 (Ne.symm (own_ne g0_E.lt y5_0)))
  exact qRA B hR hret rfl rfl X7 d14_44 e7 ⟨u_5, ku_5, rfl, N7, K7, (Nat.le_trans (Keep.refl h0 [q]).1 y5_0), f8, f9, f10, (r5_3.same W7), f11, f12⟩ (by decide)
theorem own_saU5 (hw : own_W Z a0) {q d : Addr} {kd : ClassId} {fmt : Value} {cpt : Int32} {a t : Addr} {kt : ClassId} {nt : Int32} {ss : List Value} (k : Nat) (len n1 : Int32) (O0 : own_Old Z h0) (g0_E : Exa Z h0 q "java/lang/StringBuilder") (g1_G : Z.heap.size ≤ q) (g2_F : Fld Z h0 q "java/lang/AbstractStringBuilder" "value" "[B" (.ref d)) (g3_F : Fld Z h0 q "java/lang/AbstractStringBuilder" "coder" "B" (.int 0)) (g4_F : Fld Z h0 q "java/lang/AbstractStringBuilder" "count" "I" (.int 5)) (g5_F : Fld Z h0 q "java/lang/AbstractStringBuilder" "maybeLatin1" "Z" (.int 0)) (g6_V : Arv Z h0 d kd .byte (16 : Int32) own_e5 (.int 0)) (g7_ne_q_d : q ≠ d) (g8_S : Sta Z Z.heap "java/lang/StringUTF16" "$assertionsDisabled" "Z" (.int 1)) (g9_S : Sta Z Z.heap "java/lang/StringUTF16" "HI_BYTE_SHIFT" "I" (.int 0)) (g10_S : Sta Z Z.heap "java/lang/StringUTF16" "LO_BYTE_SHIFT" "I" (.int 8)) (g11_S : Sta Z Z.heap "java/lang/String" "COMPACT_STRINGS" "Z" (.int cpt)) (g12_hcpt : ¬ (cpt = (0 : Int32))) (g13_E : Exa Z h0 a "java/lang/String") (g14_F : Fld Z h0 a "java/lang/String" "coder" "B" (.int 1)) (g15_F : Fld Z h0 a "java/lang/String" "value" "[B" (.ref t)) (g16_V : Arv Z h0 t kt .byte nt ss (.int 0)) (g17_ne_a_q : a ≠ q) (g18_ne_t_q : t ≠ q) (g19_hlen : (nt >>> ((1 : Int32) &&& 31)) = len) (g20_hn1 : ((5 : Int32) + len) = n1) (g21_hle : ¬ ((0 : Int32) < (n1 - ((16 : Int32) >>> ((0 : Int32) &&& 31))))) (g22_hfit : own_fit (5 : Int32) (1 : Int32) nt (32 : Int32) k own_r5 ss) (g23_hfmt : fmt.isRef = true) (g24_S : Sta Z Z.heap "jdk/internal/util/Preconditions" "SIOOBE_FORMATTER" "Ljava/util/function/BiFunction;" fmt) : own_Con l Z ⟨"java/lang/StringBuilder", "append", "(Ljava/lang/String;)Ljava/lang/StringBuilder;"⟩ jdk_67_method_7_code 2 (some (.object "java/lang/StringBuilder")) [] ⟨9, 1, 32, 130⟩ #[(.ref q), (.ref a)] h0 (fun rv rh rL => ∃ (u : Addr) (ku : ClassId), rv = some (.ref q) ∧ own_Fr Z rL ∧ Keep h0 rh [q] ∧ h0.size ≤ u ∧ (Exa Z rh q "java/lang/StringBuilder") ∧ (Fld Z rh q "java/lang/AbstractStringBuilder" "value" "[B" (.ref u)) ∧ (Fld Z rh q "java/lang/AbstractStringBuilder" "coder" "B" (.int 1)) ∧ (Fld Z rh q "java/lang/AbstractStringBuilder" "count" "I" (.int n1)) ∧ (Fld Z rh q "java/lang/AbstractStringBuilder" "maybeLatin1" "Z" (.int 0)) ∧ (Arv Z rh u ku .byte (32 : Int32) (own_ins k own_r5 ss) (.int 0))) := by
  refine own_st hw (plainFor_of_name (by decide +kernel)) #[oa q, oa a] (fun _ => rfl) fun p e s m below meth c s₁ G B hown hnm hret hZ X0 e0 N0 hR => ?_
  refine q_aloadN B X0 d13_0 rfl rfl rfl ?_
  refine q_aloadN B X0 d13_1 rfl rfl rfl ?_
  show G (s₁.setTop (mkF m 2 #[oa q, oa a] [(.ref a), (.ref q)]))
  refine qU B X0 hZ hown 82 83 84 102 66 86 rfl rfl rfl rfl rfl rfl rfl (own_aaU5 hw k len n1 O0 g0_E g1_G g2_F g3_F g4_F g5_F g6_V g7_ne_q_d g8_S g9_S g10_S g11_S g12_hcpt g13_E g14_F g15_F g16_V g17_ne_a_q g18_ne_t_q g19_hlen g20_hn1 g21_hle g22_hfit g23_hfmt g24_S) e0 g0_E own_pd25 rfl rfl d13_2 0 rfl rfl rfl (by decide) ?_
  rintro T1 h1 _ L1 X1 e1 ⟨u_1, ku_1, rfl, M1, J1, y1_0, r1_0, r1_1, r1_2, r1_3, r1_4, r1_5⟩
  have N1 := Fr.app N0 M1
  have K1 := (Keep.refl h0 [q]).trans J1 (allS (own_mi 0 rfl) all0)
  have O1 := O0.keep J1 (allS g1_G all0)
  refine q_pop B X1 d13_5 rfl rfl rfl ?_
  refine q_aloadN B X1 d13_6 rfl rfl rfl ?_
  show G (T1.setTop (mkF m 7 #[oa q, oa a] [(.ref q)]))
  exact qRA B hR hret rfl rfl X1 d13_7 e1 ⟨u_1, ku_1, rfl, N1, K1, (Nat.le_trans (Keep.refl h0 [q]).1 y1_0), r1_0, r1_1, r1_2, r1_3, r1_4, r1_5⟩ (by decide)
theorem own_finit (hw : own_W Z a0) {a : Addr} (x0 : Int32) (x1 : Value) {u0 u1 : Value} (O0 : own_Old Z h0) (g0_hx1 : x1.isRef = true) (g1_E : Exa Z h0 a "com/example/research_access_policy/researchaccesspolicy/rules/Decision") (g2_G : Z.heap.size ≤ a) (g3_F : Fld Z h0 a "com/example/research_access_policy/researchaccesspolicy/rules/Decision" "allowed" "Z" u0) (g4_F : Fld Z h0 a "com/example/research_access_policy/researchaccesspolicy/rules/Decision" "reason" "Ljava/lang/String;" u1) : own_Con l Z ⟨"com/example/research_access_policy/researchaccesspolicy/rules/Decision", "<init>", "(ZLjava/lang/String;)V"⟩ prog_12_method_1_code 3 none [] ⟨2, 0, 0, 24⟩ #[(.ref a), (.int x0), x1] h0 (fun rv rh rL => rv = none ∧ own_Fr Z rL ∧ Keep h0 rh [a] ∧ (Exa Z rh a "com/example/research_access_policy/researchaccesspolicy/rules/Decision") ∧ (Fld Z rh a "com/example/research_access_policy/researchaccesspolicy/rules/Decision" "allowed" "Z" (.int (nar .boolean x0))) ∧ (Fld Z rh a "com/example/research_access_policy/researchaccesspolicy/rules/Decision" "reason" "Ljava/lang/String;" x1)) := by
  refine own_st hw (plainFor_of_name (by decide +kernel)) #[oa a, oi x0, .val x1] (fun m => by rcases ref_cases g0_hx1 with rfl | ⟨_, rfl⟩ <;> first | (simp [entryFrame, mkF, argsToLocals, Value.category]; done) | rfl) fun p e s m below meth c s₁ G B hown hnm hret hZ X0 e0 N0 hR => ?_
  refine q_aloadN B X0 d8_0 rfl rfl rfl ?_
  show G (s₁.setTop (mkF m 1 #[oa a, oi x0, .val x1] [(.ref a)]))
  refine qI B X0 hZ hown 41 42 44 45 rfl rfl rfl rfl rfl (own_rec hw a O0) e0 own_pd0 rfl rfl d8_1 0 rfl rfl rfl (by decide) ?_
  rintro T1 h1 _ L1 X1 e1 ⟨rfl, M1, rfl⟩
  have N1 := Fr.app N0 M1
  refine q_aloadN B X1 d8_4 rfl rfl rfl ?_
  refine q_iloadN B X1 d8_5 rfl rfl ?_
  refine qpn (.int (nar .boolean x0)) B X1 hZ hown 47 36 rfl rfl Via.refl e1 g3_F g1_E (Or.inr ⟨(ow hw 48 rfl), rfl, hnm⟩) (ty := .boolean) (by decide) rfl (fits_nar_bool _) d8_6 fun T2 h2 X2 e2 W2 => ?_
  have K2 := (Keep.refl h0 [a]).wr W2 (own_mi 0 rfl)
  have O2 := O0.wr W2 g2_G
  have N2 := Fr.snoc X2 N1 g2_G
  refine q_aloadN B X2 d8_9 rfl rfl rfl ?_
  refine q_aloadN B X2 d8_10 rfl g0_hx1 rfl ?_
  have f4 := (g4_F.other W2 (Or.inr (slot_ne (Or.inr (ow hw 50 rfl)) (Or.inr (ow hw 48 rfl)) (by decide) (t := (.object "java/lang/String")) (t' := .boolean) (by decide) (by decide))))
  have f5 := (g1_E.wr W2)
  refine qpf B X2 hZ hown 49 36 rfl rfl Via.refl e2 f4 f5 (Or.inr ⟨(ow hw 50 rfl), rfl, hnm⟩) (ty := (.object "java/lang/String")) (by decide) (own_narR rfl g0_hx1) (own_fitR rfl g0_hx1) d8_11 fun T3 h3 X3 e3 W3 => ?_
  have K3 := K2.wr W3 (own_mi 0 rfl)
  have O3 := O2.wr W3 g2_G
  have N3 := Fr.snoc X3 N2 g2_G
  show G (T3.setTop (mkF m 14 #[oa a, oi x0, .val x1] []))
  have f6 := (f5.wr W3)
  have f7 := ((g3_F.same W2).other W3 (Or.inr (slot_ne (Or.inr (ow hw 48 rfl)) (Or.inr (ow hw 50 rfl)) (by decide) (t := .boolean) (t' := (.object "java/lang/String")) (by decide) (by decide))))
  exact qRV B hR hret X3 d8_14 e3 ⟨rfl, N3, K3, f6, f7, (f4.same W3)⟩ (by decide)
theorem own_line1_0 (hw : own_W Z a0) (hEL : EW Z a0 consts_1) {g a t : Addr} {kt : ClassId} {nt : Int32} {ss : List Value} (len n1 n2 : Int32) (k k2 : Nat) {fmt : Value} {cpt : Int32} (O0 : own_Old Z h0) (g0_E : Exa Z h0 g "com/example/research_access_policy/researchaccesspolicy/rules/Decision") (g1_F : Fld Z h0 g "com/example/research_access_policy/researchaccesspolicy/rules/Decision" "allowed" "Z" (.int (nar .boolean (1 : Int32)))) (g2_F : Fld Z h0 g "com/example/research_access_policy/researchaccesspolicy/rules/Decision" "reason" "Ljava/lang/String;" (.ref a)) (g3_E : Exa Z h0 a "java/lang/String") (g4_F : Fld Z h0 a "java/lang/String" "coder" "B" (.int 0)) (g5_F : Fld Z h0 a "java/lang/String" "value" "[B" (.ref t)) (g6_V : Arv Z h0 t kt .byte nt ss (.int 0)) (g7_S : Sta Z Z.heap "java/lang/StringUTF16" "$assertionsDisabled" "Z" (.int 1)) (g8_S : Sta Z Z.heap "java/lang/StringUTF16" "HI_BYTE_SHIFT" "I" (.int 0)) (g9_S : Sta Z Z.heap "java/lang/StringUTF16" "LO_BYTE_SHIFT" "I" (.int 8)) (g10_S : Sta Z Z.heap "java/lang/String" "COMPACT_STRINGS" "Z" (.int cpt)) (g11_hcpt : ¬ (cpt = (0 : Int32))) (g12_hlen : (nt >>> ((0 : Int32) &&& 31)) = len) (g13_hn1 : ((6 : Int32) + len) = n1) (g14_hle : ¬ ((0 : Int32) < (n1 - ((16 : Int32) >>> ((0 : Int32) &&& 31))))) (g15_hfit : own_fit (6 : Int32) (0 : Int32) nt (16 : Int32) k own_e6 ss) (g16_hsh : n1 = n2) (g17_hcut : own_cut (16 : Int32) n2 k2 (own_ins k own_e6 ss)) (g18_hfmt : fmt.isRef = true) (g19_S : Sta Z Z.heap "jdk/internal/util/Preconditions" "SIOOBE_FORMATTER" "Ljava/util/function/BiFunction;" fmt) : own_ConW l Z consts_1 ⟨"com/example/research_access_policy/researchaccesspolicy/rules/Decision", "line", "()Ljava/lang/String;"⟩ prog_12_method_3_code 1 (some (.object "java/lang/String")) [] ⟨6, 6, 84, 113⟩ #[(.ref g)] h0 (fun rv rh rL => ∃ (r : Addr) (u : Addr) (ku : ClassId), rv = some (.ref r) ∧ own_Fr Z rL ∧ Keep h0 rh [] ∧ h0.size ≤ r ∧ h0.size ≤ u ∧ (Exa Z rh r "java/lang/String") ∧ (Fld Z rh r "java/lang/String" "coder" "B" (.int 0)) ∧ (Fld Z rh r "java/lang/String" "value" "[B" (.ref u)) ∧ (Arv Z rh u ku .byte n2 ((own_ins k own_e6 ss).take k2) (.int 0))) := by
  refine own_stW hw hEL (plainFor_of_name (by decide +kernel)) #[oa g] (fun _ => rfl) fun p e s m below meth c s₁ G B hown hnm hret hZ X0 e0 H0 SI0 N0 hR => ?_
  obtain ⟨hG, hx, hby, hml, -⟩ := id B
  subst g16_hsh
  refine qnw B X0 hZ hown 56 57 58 rfl rfl rfl e0 d10_0 (by decide) fun T1 h1 b1 z1 X1 e1 E1 A1 D1 => ?_
  have R1 := (CHr.ext E1 H0)
  have C1 := (CHr.refl H0).trans R1
  have K1 := (Keep.refl h0 []).ext E1
  have O1 := O0.ext E1
  refine q_dup B X1 d10_3 rfl rfl rfl ?_
  show G (T1.setTop (mkF m 4 #[oa g] [(.ref b1), (.ref b1)]))
  refine qI B X1 hZ hown 59 60 58 61 rfl rfl rfl rfl rfl (own_sbi hw O1 A1 (own_ge O0 (Nat.le_of_eq z1.symm)) (D1 (Or.inl (ow hw 71 rfl)) (ty := (.array .byte)) (by decide)) (D1 (Or.inl (ow hw 73 rfl)) (ty := .byte) (by decide)) (D1 (Or.inl (ow hw 98 rfl)) (ty := .int) (by decide)) (D1 (Or.inl (ow hw 239 rfl)) (ty := .boolean) (by decide)) g10_S g11_hcpt) e1 own_pd0 rfl rfl d10_4 1 rfl rfl rfl (by decide) ?_
  rintro T2 h2 _ L2 X2 e2 ⟨d_2, kd_2, rfl, M2, J2, y2_0, r2_0, r2_1, r2_2, r2_3, r2_4, r2_5, r2_6⟩
  have N2 := Fr.app N0 M2
  have sf3 : Safe Z consts_1 _ h1 b1 := (Safe.exa hZ.alike A1 (by decide) (by decide))
  have R2 := (CHr.keep J2 (allS sf3 all0) R1.1)
  have C2 := C1.trans R2
  have K2 := K1.trans J2 (allS (Or.inr (Nat.le_trans (Keep.refl h0 []).1 (Nat.le_of_eq z1.symm))) all0)
  have O2 := O1.keep J2 (allS (own_ge O0 (Nat.le_of_eq z1.symm)) all0)
  refine q_aloadN B X2 d10_7 rfl rfl rfl ?_
  have f5 := ((g1_F.ext E1).keep J2 (ninS (own_ne g0_E.lt (Nat.le_of_eq z1.symm)) nin0))
  refine qgf B X2 hZ hown 47 rfl Via.refl e2 f5 d10_8 fun T4 X4 e4 => ?_
  refine q_ifNo B X4 d10_11 rfl ((if0 _ _).trans (feq (by decide)).1) rfl ?_
  obtain ⟨a6, T6, h6, k6, b6, kc6, X6, e6, E6, SI6, hk6, hZ6, hown6, Ea6, Fc6, Fv6, V6, la6, lb6, Y6, Li6, Nq6, st6⟩ := ldcCH X4 hx hZ hown (ow hw 193 rfl) (own_wS hw) e4 SI0 (Nat.le_trans (Nat.le_trans (Nat.le_refl _) R1.2.1) R2.2.1) hEL (List.mem_of_getElem? (i := 0) rfl) R2.1 (vs := [(.int 97), (.int 108), (.int 108), (.int 111), (.int 119), (.int 32)]) (z := (6 : Int32)) ⟨by decide, by decide⟩ (by decide) rfl (g := (mkF m 14 #[oa g] [(.ref b1)])) rfl (hb hby d10_14) (n := 24) (by decide) (by decide) (by decide) (by decide)
  refine hG _ _ st6 ?_
  have R6 := Y6
  have C6 := C2.trans R6
  have K6 := K2.ext E6
  have O6 := O2.ext E6
  refine q_goto 21 B X6 d10_16 rfl rfl (by decide) ?_
  show G (T6.setTop (mkF m 21 #[oa g] [(.ref a6), (.ref b1)]))
  have sf7 := (R6.safe r2_0.lt (R2.safe A1.lt sf3))
  have sf8 : Safe Z consts_1 _ h6 d_2 := (R6.safe r2_5.lt (Safe.keep J2 (allS sf3 all0) R1.1 (Safe.new y2_0)))
  have f10 := (r2_0.ext E6)
  have f11 := (r2_1.ext E6)
  have f12 := (r2_2.ext E6)
  have f13 := (r2_3.ext E6)
  have f14 := (r2_4.ext E6)
  have f15 := (r2_6.ext E6)
  refine qV B X6 hZ6 hown6 77 78 80 79 58 81 rfl rfl rfl rfl rfl rfl (own_saS hw (6 : Int32) (6 : Int32) 0 O6 Ea6 Fc6 Fv6 V6 g10_S g11_hcpt f10 (own_ge O0 (Nat.le_of_eq z1.symm)) f11 f12 f13 f14 f15 (own_ge O1 y2_0) (Ne.symm (Nq6 d_2 sf8).1) (Ne.symm (Nq6 d_2 sf8).2) (Ne.symm (Nq6 b1 sf7).1) (Ne.symm (Nq6 b1 sf7).2) (own_ne A1.lt y2_0) (by decide) (by decide) (by decide) ⟨by decide, by decide, rfl, by decide, by decide, Nat.le_of_ble_eq_true rfl⟩) e6 f10 own_pd26 rfl rfl d10_21 0 rfl rfl rfl (by decide) ?_
  rintro T9 h9 _ L9 X9 e9 ⟨rfl, M9, J9, r9_0, r9_1, r9_2, r9_3, r9_4, r9_5⟩
  have N9 := Fr.app N2 M9
  have R9 := (CHr.keep J9 (allS sf7 (allS sf8 all0)) R6.1)
  have C9 := C6.trans R9
  have K9 := K6.trans J9 (allS (Or.inr (Nat.le_trans (Keep.refl h0 []).1 (Nat.le_of_eq z1.symm))) (allS (Or.inr (Nat.le_trans K1.1 y2_0)) all0))
  have O9 := O6.keep J9 (allS (own_ge O0 (Nat.le_of_eq z1.symm)) (allS (own_ge O1 y2_0) all0))
  show G (T9.setTop (mkF m 24 #[oa g] [(.ref b1)]))
  have W16 : Arv Z h9 d_2 kd_2 .byte (16 : Int32) own_e6 (.int 0) := r9_5
  show G (T9.setTop (mkF m 24 #[oa g] [(.ref b1)]))
  refine q_aloadN B X9 d10_24 rfl rfl rfl ?_
  have f18 := ((((g2_F.ext E1).keep J2 (ninS (own_ne g0_E.lt (Nat.le_of_eq z1.symm)) nin0)).ext E6).keep J9 (ninS (own_ne g0_E.lt (Nat.le_of_eq z1.symm)) (ninS (own_ne (Nat.lt_of_lt_of_le g0_E.lt E1.1) y2_0) nin0)))
  refine qgf B X9 hZ6 hown6 49 rfl Via.refl e9 f18 d10_25 fun T17 X17 e17 => ?_
  show G (T17.setTop (mkF m 28 #[oa g] [(.ref a), (.ref b1)]))
  have f20 := ((((g3_E.ext E1).keep J2).ext E6).keep J9)
  have f21 := ((((g4_F.ext E1).keep J2 (ninS (own_ne g3_E.lt (Nat.le_of_eq z1.symm)) nin0)).ext E6).keep J9 (ninS (own_ne g3_E.lt (Nat.le_of_eq z1.symm)) (ninS (own_ne (Nat.lt_of_lt_of_le g3_E.lt E1.1) y2_0) nin0)))
  have f22 := ((((g5_F.ext E1).keep J2 (ninS (own_ne g3_E.lt (Nat.le_of_eq z1.symm)) nin0)).ext E6).keep J9 (ninS (own_ne g3_E.lt (Nat.le_of_eq z1.symm)) (ninS (own_ne (Nat.lt_of_lt_of_le g3_E.lt E1.1) y2_0) nin0)))
  have f23 := ((((g6_V.ext E1).keep J2 (ninS (own_ne g6_V.lt (Nat.le_of_eq z1.symm)) nin0)).ext E6).keep J9 (ninS (own_ne g6_V.lt (Nat.le_of_eq z1.symm)) (ninS (own_ne (Nat.lt_of_lt_of_le g6_V.lt E1.1) y2_0) nin0)))
  refine qV B X17 hZ6 hown6 77 78 80 79 58 81 rfl rfl rfl rfl rfl rfl (own_saS hw len n1 k O9 f20 f21 f22 f23 g10_S g11_hcpt r9_0 (own_ge O0 (Nat.le_of_eq z1.symm)) r9_1 r9_2 r9_3 r9_4 W16 (own_ge O1 y2_0) (own_ne (Nat.lt_of_lt_of_le g3_E.lt E1.1) y2_0) (own_ne (Nat.lt_of_lt_of_le g6_V.lt E1.1) y2_0) (own_ne g3_E.lt (Nat.le_of_eq z1.symm)) (own_ne g6_V.lt (Nat.le_of_eq z1.symm)) (own_ne A1.lt y2_0) g12_hlen g13_hn1 g14_hle g15_hfit) e17 r9_0 own_pd26 rfl rfl d10_28 0 rfl rfl rfl (by decide) ?_
  rintro T19 h19 _ L19 X19 e19 ⟨rfl, M19, J19, r19_0, r19_1, r19_2, r19_3, r19_4, r19_5⟩
  have N19 := Fr.app N9 M19
  have sf24 := (R9.safe f15.lt sf8)
  have sf25 := (R9.safe f10.lt sf7)
  have R19 := (CHr.keep J19 (allS sf25 (allS sf24 all0)) R9.1)
  have C19 := C9.trans R19
  have K19 := K9.trans J19 (allS (Or.inr (Nat.le_trans (Keep.refl h0 []).1 (Nat.le_of_eq z1.symm))) (allS (Or.inr (Nat.le_trans K1.1 y2_0)) all0))
  have O19 := O9.keep J19 (allS (own_ge O0 (Nat.le_of_eq z1.symm)) (allS (own_ge O1 y2_0) all0))
  show G (T19.setTop (mkF m 31 #[oa g] [(.ref b1)]))
  refine qV B X19 hZ6 hown6 124 125 127 126 58 128 rfl rfl rfl rfl rfl rfl (own_tsS0 hw (n := n1) k2 O19 r19_0 r19_1 r19_2 r19_3 r19_4 r19_5 g10_S g11_hcpt g17_hcut) e19 r19_0 own_pd31 rfl rfl d10_31 0 rfl rfl rfl (by decide) ?_
  rintro T26 h26 _ L26 X26 e26 ⟨a_26, u_26, ku_26, rfl, M26, J26, y26_0, y26_1, r26_0, r26_1, r26_2, r26_3⟩
  have N26 := Fr.app N19 M26
  have R26 := (CHr.keep J26 all0 R19.1)
  have C26 := C19.trans R26
  have K26 := K19.trans J26 all0
  have O26 := O19.keep J26 all0
  show G (T26.setTop (mkF m 34 #[oa g] [(.ref a_26)]))
  exact qRAW B hR hret rfl rfl X26 d10_34 e26 SI6 (Nat.le_trans (Nat.le_trans (Nat.le_trans hk6 R9.2.1) R19.2.1) R26.2.1) hZ6 C26 ⟨a_26, u_26, ku_26, rfl, N26, K26, (Nat.le_trans K19.1 y26_0), (Nat.le_trans K19.1 y26_1), r26_0, r26_1, r26_2, r26_3⟩ (by decide)
theorem own_line1_1 (hw : own_W Z a0) (hEL : EW Z a0 consts_1) {g a t : Addr} {kt : ClassId} {nt : Int32} {ss : List Value} (len n1 n2 : Int32) (k k2 : Nat) {fmt : Value} {cpt : Int32} (O0 : own_Old Z h0) (g0_E : Exa Z h0 g "com/example/research_access_policy/researchaccesspolicy/rules/Decision") (g1_F : Fld Z h0 g "com/example/research_access_policy/researchaccesspolicy/rules/Decision" "allowed" "Z" (.int (nar .boolean (1 : Int32)))) (g2_F : Fld Z h0 g "com/example/research_access_policy/researchaccesspolicy/rules/Decision" "reason" "Ljava/lang/String;" (.ref a)) (g3_E : Exa Z h0 a "java/lang/String") (g4_F : Fld Z h0 a "java/lang/String" "coder" "B" (.int 1)) (g5_F : Fld Z h0 a "java/lang/String" "value" "[B" (.ref t)) (g6_V : Arv Z h0 t kt .byte nt ss (.int 0)) (g7_S : Sta Z Z.heap "java/lang/StringUTF16" "$assertionsDisabled" "Z" (.int 1)) (g8_S : Sta Z Z.heap "java/lang/StringUTF16" "HI_BYTE_SHIFT" "I" (.int 0)) (g9_S : Sta Z Z.heap "java/lang/StringUTF16" "LO_BYTE_SHIFT" "I" (.int 8)) (g10_S : Sta Z Z.heap "java/lang/String" "COMPACT_STRINGS" "Z" (.int cpt)) (g11_hcpt : ¬ (cpt = (0 : Int32))) (g12_hlen : (nt >>> ((1 : Int32) &&& 31)) = len) (g13_hn1 : ((6 : Int32) + len) = n1) (g14_hle : ¬ ((0 : Int32) < (n1 - ((16 : Int32) >>> ((0 : Int32) &&& 31))))) (g15_hfit : own_fit (6 : Int32) (1 : Int32) nt (32 : Int32) k own_r6 ss) (g16_hsh : (n1 <<< ((1 : Int32) &&& 31)) = n2) (g17_hcut : own_cut (32 : Int32) n2 k2 (own_ins k own_r6 ss)) (g18_hfmt : fmt.isRef = true) (g19_S : Sta Z Z.heap "jdk/internal/util/Preconditions" "SIOOBE_FORMATTER" "Ljava/util/function/BiFunction;" fmt) : own_ConW l Z consts_1 ⟨"com/example/research_access_policy/researchaccesspolicy/rules/Decision", "line", "()Ljava/lang/String;"⟩ prog_12_method_3_code 1 (some (.object "java/lang/String")) [] ⟨10, 7, 116, 143⟩ #[(.ref g)] h0 (fun rv rh rL => ∃ (r : Addr) (u : Addr) (ku : ClassId), rv = some (.ref r) ∧ own_Fr Z rL ∧ Keep h0 rh [] ∧ h0.size ≤ r ∧ h0.size ≤ u ∧ (Exa Z rh r "java/lang/String") ∧ (Fld Z rh r "java/lang/String" "coder" "B" (.int 1)) ∧ (Fld Z rh r "java/lang/String" "value" "[B" (.ref u)) ∧ (Arv Z rh u ku .byte n2 ((own_ins k own_r6 ss).take k2) (.int 0))) := by
  refine own_stW hw hEL (plainFor_of_name (by decide +kernel)) #[oa g] (fun _ => rfl) fun p e s m below meth c s₁ G B hown hnm hret hZ X0 e0 H0 SI0 N0 hR => ?_
  obtain ⟨hG, hx, hby, hml, -⟩ := id B
  refine qnw B X0 hZ hown 56 57 58 rfl rfl rfl e0 d10_0 (by decide) fun T1 h1 b1 z1 X1 e1 E1 A1 D1 => ?_
  have R1 := (CHr.ext E1 H0)
  have C1 := (CHr.refl H0).trans R1
  have K1 := (Keep.refl h0 []).ext E1
  have O1 := O0.ext E1
  refine q_dup B X1 d10_3 rfl rfl rfl ?_
  show G (T1.setTop (mkF m 4 #[oa g] [(.ref b1), (.ref b1)]))
  refine qI B X1 hZ hown 59 60 58 61 rfl rfl rfl rfl rfl (own_sbi hw O1 A1 (own_ge O0 (Nat.le_of_eq z1.symm)) (D1 (Or.inl (ow hw 71 rfl)) (ty := (.array .byte)) (by decide)) (D1 (Or.inl (ow hw 73 rfl)) (ty := .byte) (by decide)) (D1 (Or.inl (ow hw 98 rfl)) (ty := .int) (by decide)) (D1 (Or.inl (ow hw 239 rfl)) (ty := .boolean) (by decide)) g10_S g11_hcpt) e1 own_pd0 rfl rfl d10_4 1 rfl rfl rfl (by decide) ?_
  rintro T2 h2 _ L2 X2 e2 ⟨d_2, kd_2, rfl, M2, J2, y2_0, r2_0, r2_1, r2_2, r2_3, r2_4, r2_5, r2_6⟩
  have N2 := Fr.app N0 M2
  have sf3 : Safe Z consts_1 _ h1 b1 := (Safe.exa hZ.alike A1 (by decide) (by decide))
  have R2 := (CHr.keep J2 (allS sf3 all0) R1.1)
  have C2 := C1.trans R2
  have K2 := K1.trans J2 (allS (Or.inr (Nat.le_trans (Keep.refl h0 []).1 (Nat.le_of_eq z1.symm))) all0)
  have O2 := O1.keep J2 (allS (own_ge O0 (Nat.le_of_eq z1.symm)) all0)
  refine q_aloadN B X2 d10_7 rfl rfl rfl ?_
  have f5 := ((g1_F.ext E1).keep J2 (ninS (own_ne g0_E.lt (Nat.le_of_eq z1.symm)) nin0))
  refine qgf B X2 hZ hown 47 rfl Via.refl e2 f5 d10_8 fun T4 X4 e4 => ?_
  refine q_ifNo B X4 d10_11 rfl ((if0 _ _).trans (feq (by decide)).1) rfl ?_
  obtain ⟨a6, T6, h6, k6, b6, kc6, X6, e6, E6, SI6, hk6, hZ6, hown6, Ea6, Fc6, Fv6, V6, la6, lb6, Y6, Li6, Nq6, st6⟩ := ldcCH X4 hx hZ hown (ow hw 193 rfl) (own_wS hw) e4 SI0 (Nat.le_trans (Nat.le_trans (Nat.le_refl _) R1.2.1) R2.2.1) hEL (List.mem_of_getElem? (i := 0) rfl) R2.1 (vs := [(.int 97), (.int 108), (.int 108), (.int 111), (.int 119), (.int 32)]) (z := (6 : Int32)) ⟨by decide, by decide⟩ (by decide) rfl (g := (mkF m 14 #[oa g] [(.ref b1)])) rfl (hb hby d10_14) (n := 24) (by decide) (by decide) (by decide) (by decide)
  refine hG _ _ st6 ?_
  have R6 := Y6
  have C6 := C2.trans R6
  have K6 := K2.ext E6
  have O6 := O2.ext E6
  refine q_goto 21 B X6 d10_16 rfl rfl (by decide) ?_
  show G (T6.setTop (mkF m 21 #[oa g] [(.ref a6), (.ref b1)]))
  have sf7 := (R6.safe r2_0.lt (R2.safe A1.lt sf3))
  have sf8 : Safe Z consts_1 _ h6 d_2 := (R6.safe r2_5.lt (Safe.keep J2 (allS sf3 all0) R1.1 (Safe.new y2_0)))
  have f10 := (r2_0.ext E6)
  have f11 := (r2_1.ext E6)
  have f12 := (r2_2.ext E6)
  have f13 := (r2_3.ext E6)
  have f14 := (r2_4.ext E6)
  have f15 := (r2_6.ext E6)
  refine qV B X6 hZ6 hown6 77 78 80 79 58 81 rfl rfl rfl rfl rfl rfl (own_saS hw (6 : Int32) (6 : Int32) 0 O6 Ea6 Fc6 Fv6 V6 g10_S g11_hcpt f10 (own_ge O0 (Nat.le_of_eq z1.symm)) f11 f12 f13 f14 f15 (own_ge O1 y2_0) (Ne.symm (Nq6 d_2 sf8).1) (Ne.symm (Nq6 d_2 sf8).2) (Ne.symm (Nq6 b1 sf7).1) (Ne.symm (Nq6 b1 sf7).2) (own_ne A1.lt y2_0) (by decide) (by decide) (by decide) ⟨by decide, by decide, rfl, by decide, by decide, Nat.le_of_ble_eq_true rfl⟩) e6 f10 own_pd26 rfl rfl d10_21 0 rfl rfl rfl (by decide) ?_
  rintro T9 h9 _ L9 X9 e9 ⟨rfl, M9, J9, r9_0, r9_1, r9_2, r9_3, r9_4, r9_5⟩
  have N9 := Fr.app N2 M9
  have R9 := (CHr.keep J9 (allS sf7 (allS sf8 all0)) R6.1)
  have C9 := C6.trans R9
  have K9 := K6.trans J9 (allS (Or.inr (Nat.le_trans (Keep.refl h0 []).1 (Nat.le_of_eq z1.symm))) (allS (Or.inr (Nat.le_trans K1.1 y2_0)) all0))
  have O9 := O6.keep J9 (allS (own_ge O0 (Nat.le_of_eq z1.symm)) (allS (own_ge O1 y2_0) all0))
  show G (T9.setTop (mkF m 24 #[oa g] [(.ref b1)]))
  have W16 : Arv Z h9 d_2 kd_2 .byte (16 : Int32) own_e6 (.int 0) := r9_5
  show G (T9.setTop (mkF m 24 #[oa g] [(.ref b1)]))
  refine q_aloadN B X9 d10_24 rfl rfl rfl ?_
  have f18 := ((((g2_F.ext E1).keep J2 (ninS (own_ne g0_E.lt (Nat.le_of_eq z1.symm)) nin0)).ext E6).keep J9 (ninS (own_ne g0_E.lt (Nat.le_of_eq z1.symm)) (ninS (own_ne (Nat.lt_of_lt_of_le g0_E.lt E1.1) y2_0) nin0)))
  refine qgf B X9 hZ6 hown6 49 rfl Via.refl e9 f18 d10_25 fun T17 X17 e17 => ?_
  show G (T17.setTop (mkF m 28 #[oa g] [(.ref a), (.ref b1)]))
  have f20 := ((((g3_E.ext E1).keep J2).ext E6).keep J9)
  have f21 := ((((g4_F.ext E1).keep J2 (ninS (own_ne g3_E.lt (Nat.le_of_eq z1.symm)) nin0)).ext E6).keep J9 (ninS (own_ne g3_E.lt (Nat.le_of_eq z1.symm)) (ninS (own_ne (Nat.lt_of_lt_of_le g3_E.lt E1.1) y2_0) nin0)))
  have f22 := ((((g5_F.ext E1).keep J2 (ninS (own_ne g3_E.lt (Nat.le_of_eq z1.symm)) nin0)).ext E6).keep J9 (ninS (own_ne g3_E.lt (Nat.le_of_eq z1.symm)) (ninS (own_ne (Nat.lt_of_lt_of_le g3_E.lt E1.1) y2_0) nin0)))
  have f23 := ((((g6_V.ext E1).keep J2 (ninS (own_ne g6_V.lt (Nat.le_of_eq z1.symm)) nin0)).ext E6).keep J9 (ninS (own_ne g6_V.lt (Nat.le_of_eq z1.symm)) (ninS (own_ne (Nat.lt_of_lt_of_le g6_V.lt E1.1) y2_0) nin0)))
  refine qV B X17 hZ6 hown6 77 78 80 79 58 81 rfl rfl rfl rfl rfl rfl (own_saU6 hw k len n1 O9 r9_0 (own_ge O0 (Nat.le_of_eq z1.symm)) r9_1 r9_2 r9_3 r9_4 W16 (own_ne A1.lt y2_0) g7_S g8_S g9_S g10_S g11_hcpt f20 f21 f22 f23 (own_ne g3_E.lt (Nat.le_of_eq z1.symm)) (own_ne g6_V.lt (Nat.le_of_eq z1.symm)) g12_hlen g13_hn1 g14_hle g15_hfit g18_hfmt g19_S) e17 r9_0 own_pd26 rfl rfl d10_28 0 rfl rfl rfl (by decide) ?_
  rintro T19 h19 _ L19 X19 e19 ⟨u_19, ku_19, rfl, M19, J19, y19_0, r19_0, r19_1, r19_2, r19_3, r19_4, r19_5⟩
  have N19 := Fr.app N9 M19
  have sf24 := (R9.safe f10.lt sf7)
  have R19 := (CHr.keep J19 (allS sf24 all0) R9.1)
  have C19 := C9.trans R19
  have K19 := K9.trans J19 (allS (Or.inr (Nat.le_trans (Keep.refl h0 []).1 (Nat.le_of_eq z1.symm))) all0)
  have O19 := O9.keep J19 (allS (own_ge O0 (Nat.le_of_eq z1.symm)) all0)
  show G (T19.setTop (mkF m 31 #[oa g] [(.ref b1)]))
  refine qV B X19 hZ6 hown6 124 125 127 126 58 128 rfl rfl rfl rfl rfl rfl (own_tsS1 hw n2 k2 O19 r19_0 r19_1 r19_2 r19_3 r19_4 r19_5 g10_S g11_hcpt g17_hcut g16_hsh) e19 r19_0 own_pd31 rfl rfl d10_31 0 rfl rfl rfl (by decide) ?_
  rintro T25 h25 _ L25 X25 e25 ⟨a_25, u_25, ku_25, rfl, M25, J25, y25_0, y25_1, r25_0, r25_1, r25_2, r25_3⟩
  have N25 := Fr.app N19 M25
  have R25 := (CHr.keep J25 all0 R19.1)
  have C25 := C19.trans R25
  have K25 := K19.trans J25 all0
  have O25 := O19.keep J25 all0
  show G (T25.setTop (mkF m 34 #[oa g] [(.ref a_25)]))
  exact qRAW B hR hret rfl rfl X25 d10_34 e25 SI6 (Nat.le_trans (Nat.le_trans (Nat.le_trans hk6 R9.2.1) R19.2.1) R25.2.1) hZ6 C25 ⟨a_25, u_25, ku_25, rfl, N25, K25, (Nat.le_trans K19.1 y25_0), (Nat.le_trans K19.1 y25_1), r25_0, r25_1, r25_2, r25_3⟩ (by decide)
theorem own_line0_0 (hw : own_W Z a0) (hEL : EW Z a0 consts_1) {g a t : Addr} {kt : ClassId} {nt : Int32} {ss : List Value} (len n1 n2 : Int32) (k k2 : Nat) {fmt : Value} {cpt : Int32} (O0 : own_Old Z h0) (g0_E : Exa Z h0 g "com/example/research_access_policy/researchaccesspolicy/rules/Decision") (g1_F : Fld Z h0 g "com/example/research_access_policy/researchaccesspolicy/rules/Decision" "allowed" "Z" (.int (nar .boolean (0 : Int32)))) (g2_F : Fld Z h0 g "com/example/research_access_policy/researchaccesspolicy/rules/Decision" "reason" "Ljava/lang/String;" (.ref a)) (g3_E : Exa Z h0 a "java/lang/String") (g4_F : Fld Z h0 a "java/lang/String" "coder" "B" (.int 0)) (g5_F : Fld Z h0 a "java/lang/String" "value" "[B" (.ref t)) (g6_V : Arv Z h0 t kt .byte nt ss (.int 0)) (g7_S : Sta Z Z.heap "java/lang/StringUTF16" "$assertionsDisabled" "Z" (.int 1)) (g8_S : Sta Z Z.heap "java/lang/StringUTF16" "HI_BYTE_SHIFT" "I" (.int 0)) (g9_S : Sta Z Z.heap "java/lang/StringUTF16" "LO_BYTE_SHIFT" "I" (.int 8)) (g10_S : Sta Z Z.heap "java/lang/String" "COMPACT_STRINGS" "Z" (.int cpt)) (g11_hcpt : ¬ (cpt = (0 : Int32))) (g12_hlen : (nt >>> ((0 : Int32) &&& 31)) = len) (g13_hn1 : ((5 : Int32) + len) = n1) (g14_hle : ¬ ((0 : Int32) < (n1 - ((16 : Int32) >>> ((0 : Int32) &&& 31))))) (g15_hfit : own_fit (5 : Int32) (0 : Int32) nt (16 : Int32) k own_e5 ss) (g16_hsh : n1 = n2) (g17_hcut : own_cut (16 : Int32) n2 k2 (own_ins k own_e5 ss)) (g18_hfmt : fmt.isRef = true) (g19_S : Sta Z Z.heap "jdk/internal/util/Preconditions" "SIOOBE_FORMATTER" "Ljava/util/function/BiFunction;" fmt) : own_ConW l Z consts_1 ⟨"com/example/research_access_policy/researchaccesspolicy/rules/Decision", "line", "()Ljava/lang/String;"⟩ prog_12_method_3_code 1 (some (.object "java/lang/String")) [] ⟨6, 6, 80, 113⟩ #[(.ref g)] h0 (fun rv rh rL => ∃ (r : Addr) (u : Addr) (ku : ClassId), rv = some (.ref r) ∧ own_Fr Z rL ∧ Keep h0 rh [] ∧ h0.size ≤ r ∧ h0.size ≤ u ∧ (Exa Z rh r "java/lang/String") ∧ (Fld Z rh r "java/lang/String" "coder" "B" (.int 0)) ∧ (Fld Z rh r "java/lang/String" "value" "[B" (.ref u)) ∧ (Arv Z rh u ku .byte n2 ((own_ins k own_e5 ss).take k2) (.int 0))) := by
  refine own_stW hw hEL (plainFor_of_name (by decide +kernel)) #[oa g] (fun _ => rfl) fun p e s m below meth c s₁ G B hown hnm hret hZ X0 e0 H0 SI0 N0 hR => ?_
  obtain ⟨hG, hx, hby, hml, -⟩ := id B
  subst g16_hsh
  refine qnw B X0 hZ hown 56 57 58 rfl rfl rfl e0 d10_0 (by decide) fun T1 h1 b1 z1 X1 e1 E1 A1 D1 => ?_
  have R1 := (CHr.ext E1 H0)
  have C1 := (CHr.refl H0).trans R1
  have K1 := (Keep.refl h0 []).ext E1
  have O1 := O0.ext E1
  refine q_dup B X1 d10_3 rfl rfl rfl ?_
  show G (T1.setTop (mkF m 4 #[oa g] [(.ref b1), (.ref b1)]))
  refine qI B X1 hZ hown 59 60 58 61 rfl rfl rfl rfl rfl (own_sbi hw O1 A1 (own_ge O0 (Nat.le_of_eq z1.symm)) (D1 (Or.inl (ow hw 71 rfl)) (ty := (.array .byte)) (by decide)) (D1 (Or.inl (ow hw 73 rfl)) (ty := .byte) (by decide)) (D1 (Or.inl (ow hw 98 rfl)) (ty := .int) (by decide)) (D1 (Or.inl (ow hw 239 rfl)) (ty := .boolean) (by decide)) g10_S g11_hcpt) e1 own_pd0 rfl rfl d10_4 1 rfl rfl rfl (by decide) ?_
  rintro T2 h2 _ L2 X2 e2 ⟨d_2, kd_2, rfl, M2, J2, y2_0, r2_0, r2_1, r2_2, r2_3, r2_4, r2_5, r2_6⟩
  have N2 := Fr.app N0 M2
  have sf3 : Safe Z consts_1 _ h1 b1 := (Safe.exa hZ.alike A1 (by decide) (by decide))
  have R2 := (CHr.keep J2 (allS sf3 all0) R1.1)
  have C2 := C1.trans R2
  have K2 := K1.trans J2 (allS (Or.inr (Nat.le_trans (Keep.refl h0 []).1 (Nat.le_of_eq z1.symm))) all0)
  have O2 := O1.keep J2 (allS (own_ge O0 (Nat.le_of_eq z1.symm)) all0)
  refine q_aloadN B X2 d10_7 rfl rfl rfl ?_
  have f5 := ((g1_F.ext E1).keep J2 (ninS (own_ne g0_E.lt (Nat.le_of_eq z1.symm)) nin0))
  refine qgf B X2 hZ hown 47 rfl Via.refl e2 f5 d10_8 fun T4 X4 e4 => ?_
  refine q_ifYes 19 B X4 d10_11 rfl ((if0 _ _).trans (teq (by decide)).1) rfl rfl (by decide) ?_
  obtain ⟨a6, T6, h6, k6, b6, kc6, X6, e6, E6, SI6, hk6, hZ6, hown6, Ea6, Fc6, Fv6, V6, la6, lb6, Y6, Li6, Nq6, st6⟩ := ldcCH X4 hx hZ hown (ow hw 74 rfl) (own_wS hw) e4 SI0 (Nat.le_trans (Nat.le_trans (Nat.le_refl _) R1.2.1) R2.2.1) hEL (List.mem_of_getElem? (i := 1) rfl) R2.1 (vs := [(.int 100), (.int 101), (.int 110), (.int 121), (.int 32)]) (z := (5 : Int32)) ⟨by decide, by decide⟩ (by decide) rfl (g := (mkF m 19 #[oa g] [(.ref b1)])) rfl (hb hby d10_19) (n := 20) (by decide) (by decide) (by decide) (by decide)
  refine hG _ _ st6 ?_
  have R6 := Y6
  have C6 := C2.trans R6
  have K6 := K2.ext E6
  have O6 := O2.ext E6
  show G (T6.setTop (mkF m 21 #[oa g] [(.ref a6), (.ref b1)]))
  have sf7 := (R6.safe r2_0.lt (R2.safe A1.lt sf3))
  have sf8 : Safe Z consts_1 _ h6 d_2 := (R6.safe r2_5.lt (Safe.keep J2 (allS sf3 all0) R1.1 (Safe.new y2_0)))
  have f10 := (r2_0.ext E6)
  have f11 := (r2_1.ext E6)
  have f12 := (r2_2.ext E6)
  have f13 := (r2_3.ext E6)
  have f14 := (r2_4.ext E6)
  have f15 := (r2_6.ext E6)
  refine qV B X6 hZ6 hown6 77 78 80 79 58 81 rfl rfl rfl rfl rfl rfl (own_saS hw (5 : Int32) (5 : Int32) 0 O6 Ea6 Fc6 Fv6 V6 g10_S g11_hcpt f10 (own_ge O0 (Nat.le_of_eq z1.symm)) f11 f12 f13 f14 f15 (own_ge O1 y2_0) (Ne.symm (Nq6 d_2 sf8).1) (Ne.symm (Nq6 d_2 sf8).2) (Ne.symm (Nq6 b1 sf7).1) (Ne.symm (Nq6 b1 sf7).2) (own_ne A1.lt y2_0) (by decide) (by decide) (by decide) ⟨by decide, by decide, rfl, by decide, by decide, Nat.le_of_ble_eq_true rfl⟩) e6 f10 own_pd26 rfl rfl d10_21 0 rfl rfl rfl (by decide) ?_
  rintro T9 h9 _ L9 X9 e9 ⟨rfl, M9, J9, r9_0, r9_1, r9_2, r9_3, r9_4, r9_5⟩
  have N9 := Fr.app N2 M9
  have R9 := (CHr.keep J9 (allS sf7 (allS sf8 all0)) R6.1)
  have C9 := C6.trans R9
  have K9 := K6.trans J9 (allS (Or.inr (Nat.le_trans (Keep.refl h0 []).1 (Nat.le_of_eq z1.symm))) (allS (Or.inr (Nat.le_trans K1.1 y2_0)) all0))
  have O9 := O6.keep J9 (allS (own_ge O0 (Nat.le_of_eq z1.symm)) (allS (own_ge O1 y2_0) all0))
  show G (T9.setTop (mkF m 24 #[oa g] [(.ref b1)]))
  have W16 : Arv Z h9 d_2 kd_2 .byte (16 : Int32) own_e5 (.int 0) := r9_5
  show G (T9.setTop (mkF m 24 #[oa g] [(.ref b1)]))
  refine q_aloadN B X9 d10_24 rfl rfl rfl ?_
  have f18 := ((((g2_F.ext E1).keep J2 (ninS (own_ne g0_E.lt (Nat.le_of_eq z1.symm)) nin0)).ext E6).keep J9 (ninS (own_ne g0_E.lt (Nat.le_of_eq z1.symm)) (ninS (own_ne (Nat.lt_of_lt_of_le g0_E.lt E1.1) y2_0) nin0)))
  refine qgf B X9 hZ6 hown6 49 rfl Via.refl e9 f18 d10_25 fun T17 X17 e17 => ?_
  show G (T17.setTop (mkF m 28 #[oa g] [(.ref a), (.ref b1)]))
  have f20 := ((((g3_E.ext E1).keep J2).ext E6).keep J9)
  have f21 := ((((g4_F.ext E1).keep J2 (ninS (own_ne g3_E.lt (Nat.le_of_eq z1.symm)) nin0)).ext E6).keep J9 (ninS (own_ne g3_E.lt (Nat.le_of_eq z1.symm)) (ninS (own_ne (Nat.lt_of_lt_of_le g3_E.lt E1.1) y2_0) nin0)))
  have f22 := ((((g5_F.ext E1).keep J2 (ninS (own_ne g3_E.lt (Nat.le_of_eq z1.symm)) nin0)).ext E6).keep J9 (ninS (own_ne g3_E.lt (Nat.le_of_eq z1.symm)) (ninS (own_ne (Nat.lt_of_lt_of_le g3_E.lt E1.1) y2_0) nin0)))
  have f23 := ((((g6_V.ext E1).keep J2 (ninS (own_ne g6_V.lt (Nat.le_of_eq z1.symm)) nin0)).ext E6).keep J9 (ninS (own_ne g6_V.lt (Nat.le_of_eq z1.symm)) (ninS (own_ne (Nat.lt_of_lt_of_le g6_V.lt E1.1) y2_0) nin0)))
  refine qV B X17 hZ6 hown6 77 78 80 79 58 81 rfl rfl rfl rfl rfl rfl (own_saS hw len n1 k O9 f20 f21 f22 f23 g10_S g11_hcpt r9_0 (own_ge O0 (Nat.le_of_eq z1.symm)) r9_1 r9_2 r9_3 r9_4 W16 (own_ge O1 y2_0) (own_ne (Nat.lt_of_lt_of_le g3_E.lt E1.1) y2_0) (own_ne (Nat.lt_of_lt_of_le g6_V.lt E1.1) y2_0) (own_ne g3_E.lt (Nat.le_of_eq z1.symm)) (own_ne g6_V.lt (Nat.le_of_eq z1.symm)) (own_ne A1.lt y2_0) g12_hlen g13_hn1 g14_hle g15_hfit) e17 r9_0 own_pd26 rfl rfl d10_28 0 rfl rfl rfl (by decide) ?_
  rintro T19 h19 _ L19 X19 e19 ⟨rfl, M19, J19, r19_0, r19_1, r19_2, r19_3, r19_4, r19_5⟩
  have N19 := Fr.app N9 M19
  have sf24 := (R9.safe f15.lt sf8)
  have sf25 := (R9.safe f10.lt sf7)
  have R19 := (CHr.keep J19 (allS sf25 (allS sf24 all0)) R9.1)
  have C19 := C9.trans R19
  have K19 := K9.trans J19 (allS (Or.inr (Nat.le_trans (Keep.refl h0 []).1 (Nat.le_of_eq z1.symm))) (allS (Or.inr (Nat.le_trans K1.1 y2_0)) all0))
  have O19 := O9.keep J19 (allS (own_ge O0 (Nat.le_of_eq z1.symm)) (allS (own_ge O1 y2_0) all0))
  show G (T19.setTop (mkF m 31 #[oa g] [(.ref b1)]))
  refine qV B X19 hZ6 hown6 124 125 127 126 58 128 rfl rfl rfl rfl rfl rfl (own_tsS0 hw (n := n1) k2 O19 r19_0 r19_1 r19_2 r19_3 r19_4 r19_5 g10_S g11_hcpt g17_hcut) e19 r19_0 own_pd31 rfl rfl d10_31 0 rfl rfl rfl (by decide) ?_
  rintro T26 h26 _ L26 X26 e26 ⟨a_26, u_26, ku_26, rfl, M26, J26, y26_0, y26_1, r26_0, r26_1, r26_2, r26_3⟩
  have N26 := Fr.app N19 M26
  have R26 := (CHr.keep J26 all0 R19.1)
  have C26 := C19.trans R26
  have K26 := K19.trans J26 all0
  have O26 := O19.keep J26 all0
  show G (T26.setTop (mkF m 34 #[oa g] [(.ref a_26)]))
  exact qRAW B hR hret rfl rfl X26 d10_34 e26 SI6 (Nat.le_trans (Nat.le_trans (Nat.le_trans hk6 R9.2.1) R19.2.1) R26.2.1) hZ6 C26 ⟨a_26, u_26, ku_26, rfl, N26, K26, (Nat.le_trans K19.1 y26_0), (Nat.le_trans K19.1 y26_1), r26_0, r26_1, r26_2, r26_3⟩ (by decide)
theorem own_line0_1 (hw : own_W Z a0) (hEL : EW Z a0 consts_1) {g a t : Addr} {kt : ClassId} {nt : Int32} {ss : List Value} (len n1 n2 : Int32) (k k2 : Nat) {fmt : Value} {cpt : Int32} (O0 : own_Old Z h0) (g0_E : Exa Z h0 g "com/example/research_access_policy/researchaccesspolicy/rules/Decision") (g1_F : Fld Z h0 g "com/example/research_access_policy/researchaccesspolicy/rules/Decision" "allowed" "Z" (.int (nar .boolean (0 : Int32)))) (g2_F : Fld Z h0 g "com/example/research_access_policy/researchaccesspolicy/rules/Decision" "reason" "Ljava/lang/String;" (.ref a)) (g3_E : Exa Z h0 a "java/lang/String") (g4_F : Fld Z h0 a "java/lang/String" "coder" "B" (.int 1)) (g5_F : Fld Z h0 a "java/lang/String" "value" "[B" (.ref t)) (g6_V : Arv Z h0 t kt .byte nt ss (.int 0)) (g7_S : Sta Z Z.heap "java/lang/StringUTF16" "$assertionsDisabled" "Z" (.int 1)) (g8_S : Sta Z Z.heap "java/lang/StringUTF16" "HI_BYTE_SHIFT" "I" (.int 0)) (g9_S : Sta Z Z.heap "java/lang/StringUTF16" "LO_BYTE_SHIFT" "I" (.int 8)) (g10_S : Sta Z Z.heap "java/lang/String" "COMPACT_STRINGS" "Z" (.int cpt)) (g11_hcpt : ¬ (cpt = (0 : Int32))) (g12_hlen : (nt >>> ((1 : Int32) &&& 31)) = len) (g13_hn1 : ((5 : Int32) + len) = n1) (g14_hle : ¬ ((0 : Int32) < (n1 - ((16 : Int32) >>> ((0 : Int32) &&& 31))))) (g15_hfit : own_fit (5 : Int32) (1 : Int32) nt (32 : Int32) k own_r5 ss) (g16_hsh : (n1 <<< ((1 : Int32) &&& 31)) = n2) (g17_hcut : own_cut (32 : Int32) n2 k2 (own_ins k own_r5 ss)) (g18_hfmt : fmt.isRef = true) (g19_S : Sta Z Z.heap "jdk/internal/util/Preconditions" "SIOOBE_FORMATTER" "Ljava/util/function/BiFunction;" fmt) : own_ConW l Z consts_1 ⟨"com/example/research_access_policy/researchaccesspolicy/rules/Decision", "line", "()Ljava/lang/String;"⟩ prog_12_method_3_code 1 (some (.object "java/lang/String")) [] ⟨10, 7, 112, 143⟩ #[(.ref g)] h0 (fun rv rh rL => ∃ (r : Addr) (u : Addr) (ku : ClassId), rv = some (.ref r) ∧ own_Fr Z rL ∧ Keep h0 rh [] ∧ h0.size ≤ r ∧ h0.size ≤ u ∧ (Exa Z rh r "java/lang/String") ∧ (Fld Z rh r "java/lang/String" "coder" "B" (.int 1)) ∧ (Fld Z rh r "java/lang/String" "value" "[B" (.ref u)) ∧ (Arv Z rh u ku .byte n2 ((own_ins k own_r5 ss).take k2) (.int 0))) := by
  refine own_stW hw hEL (plainFor_of_name (by decide +kernel)) #[oa g] (fun _ => rfl) fun p e s m below meth c s₁ G B hown hnm hret hZ X0 e0 H0 SI0 N0 hR => ?_
  obtain ⟨hG, hx, hby, hml, -⟩ := id B
  refine qnw B X0 hZ hown 56 57 58 rfl rfl rfl e0 d10_0 (by decide) fun T1 h1 b1 z1 X1 e1 E1 A1 D1 => ?_
  have R1 := (CHr.ext E1 H0)
  have C1 := (CHr.refl H0).trans R1
  have K1 := (Keep.refl h0 []).ext E1
  have O1 := O0.ext E1
  refine q_dup B X1 d10_3 rfl rfl rfl ?_
  show G (T1.setTop (mkF m 4 #[oa g] [(.ref b1), (.ref b1)]))
  refine qI B X1 hZ hown 59 60 58 61 rfl rfl rfl rfl rfl (own_sbi hw O1 A1 (own_ge O0 (Nat.le_of_eq z1.symm)) (D1 (Or.inl (ow hw 71 rfl)) (ty := (.array .byte)) (by decide)) (D1 (Or.inl (ow hw 73 rfl)) (ty := .byte) (by decide)) (D1 (Or.inl (ow hw 98 rfl)) (ty := .int) (by decide)) (D1 (Or.inl (ow hw 239 rfl)) (ty := .boolean) (by decide)) g10_S g11_hcpt) e1 own_pd0 rfl rfl d10_4 1 rfl rfl rfl (by decide) ?_
  rintro T2 h2 _ L2 X2 e2 ⟨d_2, kd_2, rfl, M2, J2, y2_0, r2_0, r2_1, r2_2, r2_3, r2_4, r2_5, r2_6⟩
  have N2 := Fr.app N0 M2
  have sf3 : Safe Z consts_1 _ h1 b1 := (Safe.exa hZ.alike A1 (by decide) (by decide))
  have R2 := (CHr.keep J2 (allS sf3 all0) R1.1)
  have C2 := C1.trans R2
  have K2 := K1.trans J2 (allS (Or.inr (Nat.le_trans (Keep.refl h0 []).1 (Nat.le_of_eq z1.symm))) all0)
  have O2 := O1.keep J2 (allS (own_ge O0 (Nat.le_of_eq z1.symm)) all0)
  refine q_aloadN B X2 d10_7 rfl rfl rfl ?_
  have f5 := ((g1_F.ext E1).keep J2 (ninS (own_ne g0_E.lt (Nat.le_of_eq z1.symm)) nin0))
  refine qgf B X2 hZ hown 47 rfl Via.refl e2 f5 d10_8 fun T4 X4 e4 => ?_
  refine q_ifYes 19 B X4 d10_11 rfl ((if0 _ _).trans (teq (by decide)).1) rfl rfl (by decide) ?_
  obtain ⟨a6, T6, h6, k6, b6, kc6, X6, e6, E6, SI6, hk6, hZ6, hown6, Ea6, Fc6, Fv6, V6, la6, lb6, Y6, Li6, Nq6, st6⟩ := ldcCH X4 hx hZ hown (ow hw 74 rfl) (own_wS hw) e4 SI0 (Nat.le_trans (Nat.le_trans (Nat.le_refl _) R1.2.1) R2.2.1) hEL (List.mem_of_getElem? (i := 1) rfl) R2.1 (vs := [(.int 100), (.int 101), (.int 110), (.int 121), (.int 32)]) (z := (5 : Int32)) ⟨by decide, by decide⟩ (by decide) rfl (g := (mkF m 19 #[oa g] [(.ref b1)])) rfl (hb hby d10_19) (n := 20) (by decide) (by decide) (by decide) (by decide)
  refine hG _ _ st6 ?_
  have R6 := Y6
  have C6 := C2.trans R6
  have K6 := K2.ext E6
  have O6 := O2.ext E6
  show G (T6.setTop (mkF m 21 #[oa g] [(.ref a6), (.ref b1)]))
  have sf7 := (R6.safe r2_0.lt (R2.safe A1.lt sf3))
  have sf8 : Safe Z consts_1 _ h6 d_2 := (R6.safe r2_5.lt (Safe.keep J2 (allS sf3 all0) R1.1 (Safe.new y2_0)))
  have f10 := (r2_0.ext E6)
  have f11 := (r2_1.ext E6)
  have f12 := (r2_2.ext E6)
  have f13 := (r2_3.ext E6)
  have f14 := (r2_4.ext E6)
  have f15 := (r2_6.ext E6)
  refine qV B X6 hZ6 hown6 77 78 80 79 58 81 rfl rfl rfl rfl rfl rfl (own_saS hw (5 : Int32) (5 : Int32) 0 O6 Ea6 Fc6 Fv6 V6 g10_S g11_hcpt f10 (own_ge O0 (Nat.le_of_eq z1.symm)) f11 f12 f13 f14 f15 (own_ge O1 y2_0) (Ne.symm (Nq6 d_2 sf8).1) (Ne.symm (Nq6 d_2 sf8).2) (Ne.symm (Nq6 b1 sf7).1) (Ne.symm (Nq6 b1 sf7).2) (own_ne A1.lt y2_0) (by decide) (by decide) (by decide) ⟨by decide, by decide, rfl, by decide, by decide, Nat.le_of_ble_eq_true rfl⟩) e6 f10 own_pd26 rfl rfl d10_21 0 rfl rfl rfl (by decide) ?_
  rintro T9 h9 _ L9 X9 e9 ⟨rfl, M9, J9, r9_0, r9_1, r9_2, r9_3, r9_4, r9_5⟩
  have N9 := Fr.app N2 M9
  have R9 := (CHr.keep J9 (allS sf7 (allS sf8 all0)) R6.1)
  have C9 := C6.trans R9
  have K9 := K6.trans J9 (allS (Or.inr (Nat.le_trans (Keep.refl h0 []).1 (Nat.le_of_eq z1.symm))) (allS (Or.inr (Nat.le_trans K1.1 y2_0)) all0))
  have O9 := O6.keep J9 (allS (own_ge O0 (Nat.le_of_eq z1.symm)) (allS (own_ge O1 y2_0) all0))
  show G (T9.setTop (mkF m 24 #[oa g] [(.ref b1)]))
  have W16 : Arv Z h9 d_2 kd_2 .byte (16 : Int32) own_e5 (.int 0) := r9_5
  show G (T9.setTop (mkF m 24 #[oa g] [(.ref b1)]))
  refine q_aloadN B X9 d10_24 rfl rfl rfl ?_
  have f18 := ((((g2_F.ext E1).keep J2 (ninS (own_ne g0_E.lt (Nat.le_of_eq z1.symm)) nin0)).ext E6).keep J9 (ninS (own_ne g0_E.lt (Nat.le_of_eq z1.symm)) (ninS (own_ne (Nat.lt_of_lt_of_le g0_E.lt E1.1) y2_0) nin0)))
  refine qgf B X9 hZ6 hown6 49 rfl Via.refl e9 f18 d10_25 fun T17 X17 e17 => ?_
  show G (T17.setTop (mkF m 28 #[oa g] [(.ref a), (.ref b1)]))
  have f20 := ((((g3_E.ext E1).keep J2).ext E6).keep J9)
  have f21 := ((((g4_F.ext E1).keep J2 (ninS (own_ne g3_E.lt (Nat.le_of_eq z1.symm)) nin0)).ext E6).keep J9 (ninS (own_ne g3_E.lt (Nat.le_of_eq z1.symm)) (ninS (own_ne (Nat.lt_of_lt_of_le g3_E.lt E1.1) y2_0) nin0)))
  have f22 := ((((g5_F.ext E1).keep J2 (ninS (own_ne g3_E.lt (Nat.le_of_eq z1.symm)) nin0)).ext E6).keep J9 (ninS (own_ne g3_E.lt (Nat.le_of_eq z1.symm)) (ninS (own_ne (Nat.lt_of_lt_of_le g3_E.lt E1.1) y2_0) nin0)))
  have f23 := ((((g6_V.ext E1).keep J2 (ninS (own_ne g6_V.lt (Nat.le_of_eq z1.symm)) nin0)).ext E6).keep J9 (ninS (own_ne g6_V.lt (Nat.le_of_eq z1.symm)) (ninS (own_ne (Nat.lt_of_lt_of_le g6_V.lt E1.1) y2_0) nin0)))
  refine qV B X17 hZ6 hown6 77 78 80 79 58 81 rfl rfl rfl rfl rfl rfl (own_saU5 hw k len n1 O9 r9_0 (own_ge O0 (Nat.le_of_eq z1.symm)) r9_1 r9_2 r9_3 r9_4 W16 (own_ne A1.lt y2_0) g7_S g8_S g9_S g10_S g11_hcpt f20 f21 f22 f23 (own_ne g3_E.lt (Nat.le_of_eq z1.symm)) (own_ne g6_V.lt (Nat.le_of_eq z1.symm)) g12_hlen g13_hn1 g14_hle g15_hfit g18_hfmt g19_S) e17 r9_0 own_pd26 rfl rfl d10_28 0 rfl rfl rfl (by decide) ?_
  rintro T19 h19 _ L19 X19 e19 ⟨u_19, ku_19, rfl, M19, J19, y19_0, r19_0, r19_1, r19_2, r19_3, r19_4, r19_5⟩
  have N19 := Fr.app N9 M19
  have sf24 := (R9.safe f10.lt sf7)
  have R19 := (CHr.keep J19 (allS sf24 all0) R9.1)
  have C19 := C9.trans R19
  have K19 := K9.trans J19 (allS (Or.inr (Nat.le_trans (Keep.refl h0 []).1 (Nat.le_of_eq z1.symm))) all0)
  have O19 := O9.keep J19 (allS (own_ge O0 (Nat.le_of_eq z1.symm)) all0)
  show G (T19.setTop (mkF m 31 #[oa g] [(.ref b1)]))
  refine qV B X19 hZ6 hown6 124 125 127 126 58 128 rfl rfl rfl rfl rfl rfl (own_tsS1 hw n2 k2 O19 r19_0 r19_1 r19_2 r19_3 r19_4 r19_5 g10_S g11_hcpt g17_hcut g16_hsh) e19 r19_0 own_pd31 rfl rfl d10_31 0 rfl rfl rfl (by decide) ?_
  rintro T25 h25 _ L25 X25 e25 ⟨a_25, u_25, ku_25, rfl, M25, J25, y25_0, y25_1, r25_0, r25_1, r25_2, r25_3⟩
  have N25 := Fr.app N19 M25
  have R25 := (CHr.keep J25 all0 R19.1)
  have C25 := C19.trans R25
  have K25 := K19.trans J25 all0
  have O25 := O19.keep J25 all0
  show G (T25.setTop (mkF m 34 #[oa g] [(.ref a_25)]))
  exact qRAW B hR hret rfl rfl X25 d10_34 e25 SI6 (Nat.le_trans (Nat.le_trans (Nat.le_trans hk6 R9.2.1) R19.2.1) R25.2.1) hZ6 C25 ⟨a_25, u_25, ku_25, rfl, N25, K25, (Nat.le_trans K19.1 y25_0), (Nat.le_trans K19.1 y25_1), r25_0, r25_1, r25_2, r25_3⟩ (by decide)
theorem own_make0 (hw : own_W Z a0) (hEL : EW Z a0 consts_1) (x0 x1 x2 : Int32) {cpt : Int32} (O0 : own_Old Z h0) (g0_S : Sta Z Z.heap "java/lang/String" "COMPACT_STRINGS" "Z" (.int cpt)) (g1_hcpt : ¬ (cpt = (0 : Int32))) (g2_S : Sta Z Z.heap "java/lang/StringUTF16" "$assertionsDisabled" "Z" (.int 1)) (g3_S : Sta Z Z.heap "java/lang/StringUTF16" "HI_BYTE_SHIFT" "I" (.int 0)) (g4_S : Sta Z Z.heap "java/lang/StringUTF16" "LO_BYTE_SHIFT" "I" (.int 8)) (g5_hr0 : 0 ≤ x0.toInt ∧ x0.toInt ≤ 65535) (g6_hr1 : 0 ≤ x1.toInt ∧ x1.toInt ≤ 65535) (g7_hr2 : 0 ≤ x2.toInt ∧ x2.toInt ≤ 65535) : own_ConW l Z consts_1 ⟨"com/example/research_access_policy/researchaccesspolicy/rules/DecisionLinePinLaw", "make", "(ICCC)Ljava/lang/String;"⟩ method_2_code 5 (some (.object "java/lang/String")) [] ⟨3, 4, 8, 43⟩ #[(.int 0), (.int x0), (.int x1), (.int x2)] h0 (fun rv rh rL => ∃ (a : Addr) (t : Addr) (kt : ClassId) (cd : Int32) (nb : Int32) (vs : List Value), rv = some (.ref a) ∧ own_Fr Z rL ∧ Keep h0 rh [] ∧ h0.size ≤ a ∧ (Exa Z rh a "java/lang/String") ∧ (Fld Z rh a "java/lang/String" "coder" "B" (.int cd)) ∧ (Fld Z rh a "java/lang/String" "value" "[B" (.ref t)) ∧ (Arv Z rh t kt .byte nb vs (.int 0)) ∧ (own_enc [] cd nb vs)) := by
  refine own_stW hw hEL (plainFor_of_name (by decide +kernel)) #[oi 0, oi x0, oi x1, oi x2, .unset] (fun m => by first | (simp [entryFrame, mkF, argsToLocals, Value.category]; done) | rfl) fun p e s m below meth c s₁ G B hown hnm hret hZ X0 e0 H0 SI0 N0 hR => ?_
  refine q_iloadN B X0 d1_0 rfl rfl ?_
  refine q_ifNo B X0 d1_1 rfl ((if0 _ _).trans (teq (by decide)).2) rfl ?_
  refine qnw B X0 hZ hown 6 7 8 rfl rfl rfl e0 d1_4 (by decide) fun T1 h1 b1 z1 X1 e1 E1 A1 D1 => ?_
  have R1 := (CHr.ext E1 H0)
  have C1 := (CHr.refl H0).trans R1
  have K1 := (Keep.refl h0 []).ext E1
  have O1 := O0.ext E1
  refine q_dup B X1 d1_7 rfl rfl rfl ?_
  refine q_iconst B X1 d1_8 rfl ?_
  refine qna 0 B X1 hZ 5 rfl e1 d1_9 (by decide) (by decide) (by decide) fun T2 h2 k2 b2 z2 X2 e2 E2 A2 => ?_
  have R2 := (CHr.ext E2 R1.1)
  have C2 := C1.trans R2
  have K2 := K1.ext E2
  have O2 := O1.ext E2
  have V2 : Arv Z h2 b2 k2 .char (0 : Int32) [] (.int 0) := (Arv.new A2 (by decide)).pad (pad_rep [] (.int 0) 0)
  show G (T2.setTop (mkF m 11 #[oi 0, oi x0, oi x1, oi x2, .unset] [(.ref b2), (.ref b1), (.ref b1)]))
  have f4 := (A1.ext E2)
  have f5 := ((D1 (Or.inr (ow hw 32 rfl)) (ty := .byte) (by decide)).ext E2)
  have f6 := ((D1 (Or.inr (ow hw 34 rfl)) (ty := (.array .byte)) (by decide)).ext E2)
  refine qIW B X2 hZ hown 9 10 8 11 rfl rfl rfl rfl rfl (own_str1E hw hEL O2 f4 f5 f6 (own_ge O0 (Nat.le_of_eq z1.symm)) V2) e2 SI0 (Nat.le_trans (Nat.le_trans (Nat.le_refl _) R1.2.1) R2.2.1) hEL R2.1 own_pd9 rfl rfl d1_11 1 rfl rfl rfl (by decide) ?_
  rintro T3 h3 v3 L3 X3 e3 SI3 hZ3 hown3 Y3 ⟨t_3, kt_3, rfl, M3, J3, r3_0, r3_1, r3_2, r3_3⟩
  have N3 := Fr.app N0 M3
  have R3 := Y3
  have C3 := C2.trans R3
  have K3 := K2.trans J3 (allS (Or.inr (Nat.le_trans (Keep.refl h0 []).1 (Nat.le_of_eq z1.symm))) all0)
  have O3 := O2.keep J3 (allS (own_ge O0 (Nat.le_of_eq z1.symm)) all0)
  show G (T3.setTop (mkF m 14 #[oi 0, oi x0, oi x1, oi x2, .unset] [(.ref b1)]))
  exact qRAW B hR hret rfl rfl X3 d1_14 e3 SI3 (Nat.le_refl _) hZ3 C3 ⟨b1, t_3, kt_3, (0 : Int32), (0 : Int32), [], rfl, N3, K3, (Nat.le_trans (Keep.refl h0 []).1 (Nat.le_of_eq z1.symm)), r3_0, r3_1, r3_2, r3_3, own_enc_nil⟩ (by decide)
theorem own_make1 (hw : own_W Z a0) (x0 x1 x2 : Int32) {cpt : Int32} (O0 : own_Old Z h0) (g0_S : Sta Z Z.heap "java/lang/String" "COMPACT_STRINGS" "Z" (.int cpt)) (g1_hcpt : ¬ (cpt = (0 : Int32))) (g2_S : Sta Z Z.heap "java/lang/StringUTF16" "$assertionsDisabled" "Z" (.int 1)) (g3_S : Sta Z Z.heap "java/lang/StringUTF16" "HI_BYTE_SHIFT" "I" (.int 0)) (g4_S : Sta Z Z.heap "java/lang/StringUTF16" "LO_BYTE_SHIFT" "I" (.int 8)) (g5_hr0 : 0 ≤ x0.toInt ∧ x0.toInt ≤ 65535) (g6_hr1 : 0 ≤ x1.toInt ∧ x1.toInt ≤ 65535) (g7_hr2 : 0 ≤ x2.toInt ∧ x2.toInt ≤ 65535) : own_Con l Z ⟨"com/example/research_access_policy/researchaccesspolicy/rules/DecisionLinePinLaw", "make", "(ICCC)Ljava/lang/String;"⟩ method_2_code 5 (some (.object "java/lang/String")) [] ⟨6, 4, 14, 88⟩ #[(.int 1), (.int x0), (.int x1), (.int x2)] h0 (fun rv rh rL => ∃ (a : Addr) (t : Addr) (kt : ClassId) (cd : Int32) (nb : Int32) (vs : List Value), rv = some (.ref a) ∧ own_Fr Z rL ∧ Keep h0 rh [] ∧ h0.size ≤ a ∧ (Exa Z rh a "java/lang/String") ∧ (Fld Z rh a "java/lang/String" "coder" "B" (.int cd)) ∧ (Fld Z rh a "java/lang/String" "value" "[B" (.ref t)) ∧ (Arv Z rh t kt .byte nb vs (.int 0)) ∧ (own_enc [x0] cd nb vs)) := by
  refine own_st hw (plainFor_of_name (by decide +kernel)) #[oi 1, oi x0, oi x1, oi x2, .unset] (fun m => by first | (simp [entryFrame, mkF, argsToLocals, Value.category]; done) | rfl) fun p e s m below meth c s₁ G B hown hnm hret hZ X0 e0 N0 hR => ?_
  refine q_iloadN B X0 d1_0 rfl rfl ?_
  refine q_ifYes 15 B X0 d1_1 rfl ((if0 _ _).trans (feq (by decide)).2) rfl rfl (by decide) ?_
  refine q_iloadN B X0 d1_15 rfl rfl ?_
  refine q_iconst B X0 d1_16 rfl ?_
  refine q_icmpNo B X0 d1_17 rfl (teq (by decide)).2 rfl ?_
  refine q_iconst B X0 d1_20 rfl ?_
  refine qna 1 B X0 hZ 5 rfl e0 d1_21 (by decide) (by decide) (by decide) fun T1 h1 k1 b1 z1 X1 e1 E1 A1 => ?_
  have K1 := (Keep.refl h0 []).ext E1
  have O1 := O0.ext E1
  have V1 : Arv Z h1 b1 k1 .char (1 : Int32) [(.int 0)] (.int 0) := (Arv.new A1 (by decide)).pad (pad_rep [] (.int 0) 1)
  refine q_astore B X1 d1_23 rfl rfl rfl rfl ?_
  refine q_aload B X1 d1_25 rfl rfl rfl ?_
  refine q_iconst B X1 d1_27 rfl ?_
  refine q_iloadN B X1 d1_28 rfl rfl ?_
  show G (T1.setTop (mkF m 29 #[oi 1, oi x0, oi x1, oi x2, oa b1] [(.int x0), (.int 0), (.ref b1)]))
  refine qsc 0 B X1 hZ e1 V1 d1_29 (by decide) rfl (Nat.le_of_ble_eq_true rfl) fun T2 h2 X2 e2 W2 V2 => ?_
  have K2 := K1.wr W2 (Or.inr (Nat.le_trans (Keep.refl h0 []).1 (Nat.le_of_eq z1.symm)))
  have O2 := O1.wr W2 (own_ge O0 (Nat.le_of_eq z1.symm))
  rw [own_narC g5_hr0] at V2
  have N2 := Fr.snoc X2 N0 (own_ge O0 (Nat.le_of_eq z1.symm))
  refine qnw B X2 hZ hown 6 7 8 rfl rfl rfl e2 d1_30 (by decide) fun T3 h3 b3 z3 X3 e3 E3 A3 D3 => ?_
  have K3 := K2.ext E3
  have O3 := O2.ext E3
  refine q_dup B X3 d1_33 rfl rfl rfl ?_
  refine q_aload B X3 d1_34 rfl rfl rfl ?_
  show G (T3.setTop (mkF m 36 #[oi 1, oi x0, oi x1, oi x2, oa b1] [(.ref b1), (.ref b3), (.ref b3)]))
  have f5 := (V2.ext E3)
  refine qI B X3 hZ hown 9 10 8 11 rfl rfl rfl rfl rfl (own_gstr1 hw [x0] O3 A3 (D3 (Or.inr (ow hw 32 rfl)) (ty := .byte) (by decide)) (D3 (Or.inr (ow hw 34 rfl)) (ty := (.array .byte)) (by decide)) (own_ge O2 (Nat.le_of_eq z3.symm)) f5 (Nat.le_of_ble_eq_true rfl) (Nat.le_of_ble_eq_true rfl) (own_allc g5_hr0 own_alln) g0_S g1_hcpt g2_S g3_S g4_S) e3 own_pd9 rfl rfl d1_36 1 rfl rfl rfl (by decide) ?_
  rintro T4 h4 _ L4 X4 e4 ⟨t_4, kt_4, cd_4, nb_4, vs_4, rfl, M4, J4, y4_0, r4_0, r4_1, r4_2, r4_3, r4_4⟩
  have N4 := Fr.app N2 M4
  have K4 := K3.trans J4 (allS (Or.inr (Nat.le_trans K2.1 (Nat.le_of_eq z3.symm))) all0)
  have O4 := O3.keep J4 (allS (own_ge O2 (Nat.le_of_eq z3.symm)) all0)
  show G (T4.setTop (mkF m 39 #[oi 1, oi x0, oi x1, oi x2, oa b1] [(.ref b3)]))
  exact qRA B hR hret rfl rfl X4 d1_39 e4 ⟨b3, t_4, kt_4, cd_4, nb_4, vs_4, rfl, N4, K4, (Nat.le_trans K2.1 (Nat.le_of_eq z3.symm)), r4_0, r4_1, r4_2, r4_3, r4_4⟩ (by decide)
theorem own_make2 (hw : own_W Z a0) (x0 x1 x2 : Int32) {cpt : Int32} (O0 : own_Old Z h0) (g0_S : Sta Z Z.heap "java/lang/String" "COMPACT_STRINGS" "Z" (.int cpt)) (g1_hcpt : ¬ (cpt = (0 : Int32))) (g2_S : Sta Z Z.heap "java/lang/StringUTF16" "$assertionsDisabled" "Z" (.int 1)) (g3_S : Sta Z Z.heap "java/lang/StringUTF16" "HI_BYTE_SHIFT" "I" (.int 0)) (g4_S : Sta Z Z.heap "java/lang/StringUTF16" "LO_BYTE_SHIFT" "I" (.int 8)) (g5_hr0 : 0 ≤ x0.toInt ∧ x0.toInt ≤ 65535) (g6_hr1 : 0 ≤ x1.toInt ∧ x1.toInt ≤ 65535) (g7_hr2 : 0 ≤ x2.toInt ∧ x2.toInt ≤ 65535) : own_Con l Z ⟨"com/example/research_access_policy/researchaccesspolicy/rules/DecisionLinePinLaw", "make", "(ICCC)Ljava/lang/String;"⟩ method_2_code 5 (some (.object "java/lang/String")) [] ⟨6, 4, 15, 88⟩ #[(.int 2), (.int x0), (.int x1), (.int x2)] h0 (fun rv rh rL => ∃ (a : Addr) (t : Addr) (kt : ClassId) (cd : Int32) (nb : Int32) (vs : List Value), rv = some (.ref a) ∧ own_Fr Z rL ∧ Keep h0 rh [] ∧ h0.size ≤ a ∧ (Exa Z rh a "java/lang/String") ∧ (Fld Z rh a "java/lang/String" "coder" "B" (.int cd)) ∧ (Fld Z rh a "java/lang/String" "value" "[B" (.ref t)) ∧ (Arv Z rh t kt .byte nb vs (.int 0)) ∧ (own_enc [x0, x1] cd nb vs)) := by
  refine own_st hw (plainFor_of_name (by decide +kernel)) #[oi 2, oi x0, oi x1, oi x2, .unset] (fun m => by first | (simp [entryFrame, mkF, argsToLocals, Value.category]; done) | rfl) fun p e s m below meth c s₁ G B hown hnm hret hZ X0 e0 N0 hR => ?_
  refine q_iloadN B X0 d1_0 rfl rfl ?_
  refine q_ifYes 15 B X0 d1_1 rfl ((if0 _ _).trans (feq (by decide)).2) rfl rfl (by decide) ?_
  refine q_iloadN B X0 d1_15 rfl rfl ?_
  refine q_iconst B X0 d1_16 rfl ?_
  refine q_icmpYes 40 B X0 d1_17 rfl (feq (by decide)).2 rfl rfl (by decide) ?_
  refine q_iloadN B X0 d1_40 rfl rfl ?_
  refine q_iconst B X0 d1_41 rfl ?_
  refine q_icmpNo B X0 d1_42 rfl (teq (by decide)).2 rfl ?_
  refine q_iconst B X0 d1_45 rfl ?_
  refine qna 2 B X0 hZ 5 rfl e0 d1_46 (by decide) (by decide) (by decide) fun T1 h1 k1 b1 z1 X1 e1 E1 A1 => ?_
  have K1 := (Keep.refl h0 []).ext E1
  have O1 := O0.ext E1
  have V1 : Arv Z h1 b1 k1 .char (2 : Int32) [(.int 0), (.int 0)] (.int 0) := (Arv.new A1 (by decide)).pad (pad_rep [] (.int 0) 2)
  refine q_astore B X1 d1_48 rfl rfl rfl rfl ?_
  refine q_aload B X1 d1_50 rfl rfl rfl ?_
  refine q_iconst B X1 d1_52 rfl ?_
  refine q_iloadN B X1 d1_53 rfl rfl ?_
  show G (T1.setTop (mkF m 54 #[oi 2, oi x0, oi x1, oi x2, oa b1] [(.int x0), (.int 0), (.ref b1)]))
  refine qsc 0 B X1 hZ e1 V1 d1_54 (by decide) rfl (Nat.le_of_ble_eq_true rfl) fun T2 h2 X2 e2 W2 V2 => ?_
  have K2 := K1.wr W2 (Or.inr (Nat.le_trans (Keep.refl h0 []).1 (Nat.le_of_eq z1.symm)))
  have O2 := O1.wr W2 (own_ge O0 (Nat.le_of_eq z1.symm))
  rw [own_narC g5_hr0] at V2
  have N2 := Fr.snoc X2 N0 (own_ge O0 (Nat.le_of_eq z1.symm))
  refine q_aload B X2 d1_55 rfl rfl rfl ?_
  refine q_iconst B X2 d1_57 rfl ?_
  refine q_iloadN B X2 d1_58 rfl rfl ?_
  show G (T2.setTop (mkF m 59 #[oi 2, oi x0, oi x1, oi x2, oa b1] [(.int x1), (.int 1), (.ref b1)]))
  refine qsc 1 B X2 hZ e2 V2 d1_59 (by decide) rfl (Nat.le_of_ble_eq_true rfl) fun T3 h3 X3 e3 W3 V3 => ?_
  have K3 := K2.wr W3 (Or.inr (Nat.le_trans (Keep.refl h0 []).1 (Nat.le_of_eq z1.symm)))
  have O3 := O2.wr W3 (own_ge O0 (Nat.le_of_eq z1.symm))
  rw [own_narC g6_hr1] at V3
  have N3 := Fr.snoc X3 N2 (own_ge O0 (Nat.le_of_eq z1.symm))
  refine qnw B X3 hZ hown 6 7 8 rfl rfl rfl e3 d1_60 (by decide) fun T4 h4 b4 z4 X4 e4 E4 A4 D4 => ?_
  have K4 := K3.ext E4
  have O4 := O3.ext E4
  refine q_dup B X4 d1_63 rfl rfl rfl ?_
  refine q_aload B X4 d1_64 rfl rfl rfl ?_
  show G (T4.setTop (mkF m 66 #[oi 2, oi x0, oi x1, oi x2, oa b1] [(.ref b1), (.ref b4), (.ref b4)]))
  have f6 := (V3.ext E4)
  refine qI B X4 hZ hown 9 10 8 11 rfl rfl rfl rfl rfl (own_gstr1 hw [x0, x1] O4 A4 (D4 (Or.inr (ow hw 32 rfl)) (ty := .byte) (by decide)) (D4 (Or.inr (ow hw 34 rfl)) (ty := (.array .byte)) (by decide)) (own_ge O3 (Nat.le_of_eq z4.symm)) f6 (Nat.le_of_ble_eq_true rfl) (Nat.le_of_ble_eq_true rfl) (own_allc g5_hr0 (own_allc g6_hr1 own_alln)) g0_S g1_hcpt g2_S g3_S g4_S) e4 own_pd9 rfl rfl d1_66 1 rfl rfl rfl (by decide) ?_
  rintro T5 h5 _ L5 X5 e5 ⟨t_5, kt_5, cd_5, nb_5, vs_5, rfl, M5, J5, y5_0, r5_0, r5_1, r5_2, r5_3, r5_4⟩
  have N5 := Fr.app N3 M5
  have K5 := K4.trans J5 (allS (Or.inr (Nat.le_trans K3.1 (Nat.le_of_eq z4.symm))) all0)
  have O5 := O4.keep J5 (allS (own_ge O3 (Nat.le_of_eq z4.symm)) all0)
  show G (T5.setTop (mkF m 69 #[oi 2, oi x0, oi x1, oi x2, oa b1] [(.ref b4)]))
  exact qRA B hR hret rfl rfl X5 d1_69 e5 ⟨b4, t_5, kt_5, cd_5, nb_5, vs_5, rfl, N5, K5, (Nat.le_trans K3.1 (Nat.le_of_eq z4.symm)), r5_0, r5_1, r5_2, r5_3, r5_4⟩ (by decide)
theorem own_make3 (hw : own_W Z a0) (x0 x1 x2 : Int32) {cpt : Int32} (O0 : own_Old Z h0) (g0_S : Sta Z Z.heap "java/lang/String" "COMPACT_STRINGS" "Z" (.int cpt)) (g1_hcpt : ¬ (cpt = (0 : Int32))) (g2_S : Sta Z Z.heap "java/lang/StringUTF16" "$assertionsDisabled" "Z" (.int 1)) (g3_S : Sta Z Z.heap "java/lang/StringUTF16" "HI_BYTE_SHIFT" "I" (.int 0)) (g4_S : Sta Z Z.heap "java/lang/StringUTF16" "LO_BYTE_SHIFT" "I" (.int 8)) (g5_hr0 : 0 ≤ x0.toInt ∧ x0.toInt ≤ 65535) (g6_hr1 : 0 ≤ x1.toInt ∧ x1.toInt ≤ 65535) (g7_hr2 : 0 ≤ x2.toInt ∧ x2.toInt ≤ 65535) : own_Con l Z ⟨"com/example/research_access_policy/researchaccesspolicy/rules/DecisionLinePinLaw", "make", "(ICCC)Ljava/lang/String;"⟩ method_2_code 5 (some (.object "java/lang/String")) [] ⟨6, 4, 16, 88⟩ #[(.int 3), (.int x0), (.int x1), (.int x2)] h0 (fun rv rh rL => ∃ (a : Addr) (t : Addr) (kt : ClassId) (cd : Int32) (nb : Int32) (vs : List Value), rv = some (.ref a) ∧ own_Fr Z rL ∧ Keep h0 rh [] ∧ h0.size ≤ a ∧ (Exa Z rh a "java/lang/String") ∧ (Fld Z rh a "java/lang/String" "coder" "B" (.int cd)) ∧ (Fld Z rh a "java/lang/String" "value" "[B" (.ref t)) ∧ (Arv Z rh t kt .byte nb vs (.int 0)) ∧ (own_enc [x0, x1, x2] cd nb vs)) := by
  refine own_st hw (plainFor_of_name (by decide +kernel)) #[oi 3, oi x0, oi x1, oi x2, .unset] (fun m => by first | (simp [entryFrame, mkF, argsToLocals, Value.category]; done) | rfl) fun p e s m below meth c s₁ G B hown hnm hret hZ X0 e0 N0 hR => ?_
  refine q_iloadN B X0 d1_0 rfl rfl ?_
  refine q_ifYes 15 B X0 d1_1 rfl ((if0 _ _).trans (feq (by decide)).2) rfl rfl (by decide) ?_
  refine q_iloadN B X0 d1_15 rfl rfl ?_
  refine q_iconst B X0 d1_16 rfl ?_
  refine q_icmpYes 40 B X0 d1_17 rfl (feq (by decide)).2 rfl rfl (by decide) ?_
  refine q_iloadN B X0 d1_40 rfl rfl ?_
  refine q_iconst B X0 d1_41 rfl ?_
  refine q_icmpYes 70 B X0 d1_42 rfl (feq (by decide)).2 rfl rfl (by decide) ?_
  refine q_iconst B X0 d1_70 rfl ?_
  refine qna 3 B X0 hZ 5 rfl e0 d1_71 (by decide) (by decide) (by decide) fun T1 h1 k1 b1 z1 X1 e1 E1 A1 => ?_
  have K1 := (Keep.refl h0 []).ext E1
  have O1 := O0.ext E1
  have V1 : Arv Z h1 b1 k1 .char (3 : Int32) [(.int 0), (.int 0), (.int 0)] (.int 0) := (Arv.new A1 (by decide)).pad (pad_rep [] (.int 0) 3)
  refine q_astore B X1 d1_73 rfl rfl rfl rfl ?_
  refine q_aload B X1 d1_75 rfl rfl rfl ?_
  refine q_iconst B X1 d1_77 rfl ?_
  refine q_iloadN B X1 d1_78 rfl rfl ?_
  show G (T1.setTop (mkF m 79 #[oi 3, oi x0, oi x1, oi x2, oa b1] [(.int x0), (.int 0), (.ref b1)]))
  refine qsc 0 B X1 hZ e1 V1 d1_79 (by decide) rfl (Nat.le_of_ble_eq_true rfl) fun T2 h2 X2 e2 W2 V2 => ?_
  have K2 := K1.wr W2 (Or.inr (Nat.le_trans (Keep.refl h0 []).1 (Nat.le_of_eq z1.symm)))
  have O2 := O1.wr W2 (own_ge O0 (Nat.le_of_eq z1.symm))
  rw [own_narC g5_hr0] at V2
  have N2 := Fr.snoc X2 N0 (own_ge O0 (Nat.le_of_eq z1.symm))
  refine q_aload B X2 d1_80 rfl rfl rfl ?_
  refine q_iconst B X2 d1_82 rfl ?_
  refine q_iloadN B X2 d1_83 rfl rfl ?_
  show G (T2.setTop (mkF m 84 #[oi 3, oi x0, oi x1, oi x2, oa b1] [(.int x1), (.int 1), (.ref b1)]))
  refine qsc 1 B X2 hZ e2 V2 d1_84 (by decide) rfl (Nat.le_of_ble_eq_true rfl) fun T3 h3 X3 e3 W3 V3 => ?_
  have K3 := K2.wr W3 (Or.inr (Nat.le_trans (Keep.refl h0 []).1 (Nat.le_of_eq z1.symm)))
  have O3 := O2.wr W3 (own_ge O0 (Nat.le_of_eq z1.symm))
  rw [own_narC g6_hr1] at V3
  have N3 := Fr.snoc X3 N2 (own_ge O0 (Nat.le_of_eq z1.symm))
  refine q_aload B X3 d1_85 rfl rfl rfl ?_
  refine q_iconst B X3 d1_87 rfl ?_
  refine q_iloadN B X3 d1_88 rfl rfl ?_
  show G (T3.setTop (mkF m 89 #[oi 3, oi x0, oi x1, oi x2, oa b1] [(.int x2), (.int 2), (.ref b1)]))
  refine qsc 2 B X3 hZ e3 V3 d1_89 (by decide) rfl (Nat.le_of_ble_eq_true rfl) fun T4 h4 X4 e4 W4 V4 => ?_
  have K4 := K3.wr W4 (Or.inr (Nat.le_trans (Keep.refl h0 []).1 (Nat.le_of_eq z1.symm)))
  have O4 := O3.wr W4 (own_ge O0 (Nat.le_of_eq z1.symm))
  rw [own_narC g7_hr2] at V4
  have N4 := Fr.snoc X4 N3 (own_ge O0 (Nat.le_of_eq z1.symm))
  refine qnw B X4 hZ hown 6 7 8 rfl rfl rfl e4 d1_90 (by decide) fun T5 h5 b5 z5 X5 e5 E5 A5 D5 => ?_
  have K5 := K4.ext E5
  have O5 := O4.ext E5
  refine q_dup B X5 d1_93 rfl rfl rfl ?_
  refine q_aload B X5 d1_94 rfl rfl rfl ?_
  show G (T5.setTop (mkF m 96 #[oi 3, oi x0, oi x1, oi x2, oa b1] [(.ref b1), (.ref b5), (.ref b5)]))
  have f7 := (V4.ext E5)
  refine qI B X5 hZ hown 9 10 8 11 rfl rfl rfl rfl rfl (own_gstr1 hw [x0, x1, x2] O5 A5 (D5 (Or.inr (ow hw 32 rfl)) (ty := .byte) (by decide)) (D5 (Or.inr (ow hw 34 rfl)) (ty := (.array .byte)) (by decide)) (own_ge O4 (Nat.le_of_eq z5.symm)) f7 (Nat.le_of_ble_eq_true rfl) (Nat.le_of_ble_eq_true rfl) (own_allc g5_hr0 (own_allc g6_hr1 (own_allc g7_hr2 own_alln))) g0_S g1_hcpt g2_S g3_S g4_S) e5 own_pd9 rfl rfl d1_96 1 rfl rfl rfl (by decide) ?_
  rintro T6 h6 _ L6 X6 e6 ⟨t_6, kt_6, cd_6, nb_6, vs_6, rfl, M6, J6, y6_0, r6_0, r6_1, r6_2, r6_3, r6_4⟩
  have N6 := Fr.app N4 M6
  have K6 := K5.trans J6 (allS (Or.inr (Nat.le_trans K4.1 (Nat.le_of_eq z5.symm))) all0)
  have O6 := O5.keep J6 (allS (own_ge O4 (Nat.le_of_eq z5.symm)) all0)
  show G (T6.setTop (mkF m 99 #[oi 3, oi x0, oi x1, oi x2, oa b1] [(.ref b5)]))
  exact qRA B hR hret rfl rfl X6 d1_99 e6 ⟨b5, t_6, kt_6, cd_6, nb_6, vs_6, rfl, N6, K6, (Nat.le_trans K4.1 (Nat.le_of_eq z5.symm)), r6_0, r6_1, r6_2, r6_3, r6_4⟩ (by decide)
end OwnC
theorem own_law (l : Launch) (Z : State) (a0 : Array Value) (hw : ∀ d ∈ tables_1, d.before a0 Z = true) (ws : List Jvm.Cond) (hEL : EW Z a0 consts_1) (i0 : Int32) (i1 : Int32) (i2 : Int32) (i3 : Int32) (i4 : Int32) (cpt : Int32) (fmt : Value) (h0 : Heap) (O0 : own_Old Z h0) (g0_S : Sta Z Z.heap "java/lang/String" "COMPACT_STRINGS" "Z" (.int cpt)) (g1_hcpt : ¬ (cpt = (0 : Int32))) (g2_S : Sta Z Z.heap "java/lang/StringUTF16" "$assertionsDisabled" "Z" (.int 1)) (g3_S : Sta Z Z.heap "java/lang/StringUTF16" "HI_BYTE_SHIFT" "I" (.int 0)) (g4_S : Sta Z Z.heap "java/lang/StringUTF16" "LO_BYTE_SHIFT" "I" (.int 8)) (g5_hfmt : fmt.isRef = true) (g6_S : Sta Z Z.heap "jdk/internal/util/Preconditions" "SIOOBE_FORMATTER" "Ljava/util/function/BiFunction;" fmt) :
    own_ConW l Z consts_1 x code maxLocals ret ws room_1 #[(.int i0), (.int i1), (.int i2), (.int i3), (.int i4)] h0 (fun rv rh rL => rv = some (.int 1) ∧ own_Fr Z rL ∧ Keep h0 rh []) := by
  refine own_stW hw hEL (plainFor_of_name (by decide +kernel)) #[oi i0, oi i1, oi i2, oi i3, oi i4, .unset, .unset, .unset, .unset, .unset, .unset, .unset, .unset, .unset, .unset] (fun m => by first | (simp [entryFrame, mkF, argsToLocals, Value.category, maxLocals]; done) | rfl) fun p e s m below meth c s₁ G B hown hnm hret hZ X0 e0 H0 SI0 N0 hR => ?_
  obtain ⟨hG, hx, hby, hml, -⟩ := id B
  refine q_iloadN B X0 at_0 rfl rfl ?_
  refine q_iconst B X0 at_1 rfl ?_
  refine q_iand B X0 at_2 rfl rfl ?_
  by_cases hc3_1 : (i0 &&& (1 : Int32)) = (0 : Int32)
  · skip
    refine q_ifYes 10 B X0 at_3 rfl ((if0 _ _).trans (teq hc3_1).1) rfl rfl (by decide) ?_
    refine q_iconst B X0 at_10 rfl ?_
    refine q_istore B X0 at_11 rfl rfl rfl ?_
    refine q_iloadN B X0 at_13 rfl rfl ?_
    refine q_iconst B X0 at_14 rfl ?_
    refine q_iand B X0 at_15 rfl rfl ?_
    refine q_istore B X0 at_16 rfl rfl rfl ?_
    show G (s₁.setTop (mkF m 18 #[oi i0, oi i1, oi i2, oi i3, oi i4, oi 0, oi (i1 &&& (3 : Int32)), .unset, .unset, .unset, .unset, .unset, .unset, .unset, .unset] []))
    generalize hn_q2 : (i1 &&& (3 : Int32)) = q2
    rcases own_m3' hn_q2 with rfl | rfl | rfl | rfl
    · skip
      show G (s₁.setTop (mkF m 18 #[oi i0, oi i1, oi i2, oi i3, oi i4, oi 0, oi 0, .unset, .unset, .unset, .unset, .unset, .unset, .unset, .unset] []))
      refine q_iloadN B X0 at_18 rfl rfl ?_
      refine hG _ _ (X0.ldcInt hx hown (mvT hZ (ow hw 0 rfl)) (g := (mkF m 19 #[oi i0, oi i1, oi i2, oi i3, oi i4, oi 0, oi 0, .unset, .unset, .unset, .unset, .unset, .unset, .unset, .unset] [(.int i2)])) rfl (hb hby at_19)) ?_
      refine q_iand B X0 at_21 rfl rfl ?_
      refine q_i2c B X0 at_22 rfl rfl ?_
      show G (s₁.setTop (mkF m 23 #[oi i0, oi i1, oi i2, oi i3, oi i4, oi 0, oi 0, .unset, .unset, .unset, .unset, .unset, .unset, .unset, .unset] [(.int ((i2 &&& (65535 : Int32)).toUInt32.toUInt16.toUInt32.toInt32))]))
      generalize hn_c3 : ((i2 &&& (65535 : Int32)).toUInt32.toUInt16.toUInt32.toInt32) = c3
      have hr_c3 := own_i2c16 hn_c3
      show G (s₁.setTop (mkF m 23 #[oi i0, oi i1, oi i2, oi i3, oi i4, oi 0, oi 0, .unset, .unset, .unset, .unset, .unset, .unset, .unset, .unset] [(.int c3)]))
      refine q_istore B X0 at_23 rfl rfl rfl ?_
      refine q_iloadN B X0 at_25 rfl rfl ?_
      refine hG _ _ (X0.ldcInt hx hown (mvT hZ (ow hw 0 rfl)) (g := (mkF m 26 #[oi i0, oi i1, oi i2, oi i3, oi i4, oi 0, oi 0, oi c3, .unset, .unset, .unset, .unset, .unset, .unset, .unset] [(.int i3)])) rfl (hb hby at_26)) ?_
      refine q_iand B X0 at_28 rfl rfl ?_
      refine q_i2c B X0 at_29 rfl rfl ?_
      show G (s₁.setTop (mkF m 30 #[oi i0, oi i1, oi i2, oi i3, oi i4, oi 0, oi 0, oi c3, .unset, .unset, .unset, .unset, .unset, .unset, .unset] [(.int ((i3 &&& (65535 : Int32)).toUInt32.toUInt16.toUInt32.toInt32))]))
      generalize hn_c4 : ((i3 &&& (65535 : Int32)).toUInt32.toUInt16.toUInt32.toInt32) = c4
      have hr_c4 := own_i2c16 hn_c4
      show G (s₁.setTop (mkF m 30 #[oi i0, oi i1, oi i2, oi i3, oi i4, oi 0, oi 0, oi c3, .unset, .unset, .unset, .unset, .unset, .unset, .unset] [(.int c4)]))
      refine q_istore B X0 at_30 rfl rfl rfl ?_
      refine q_iload B X0 at_32 rfl rfl ?_
      refine hG _ _ (X0.ldcInt hx hown (mvT hZ (ow hw 0 rfl)) (g := (mkF m 34 #[oi i0, oi i1, oi i2, oi i3, oi i4, oi 0, oi 0, oi c3, oi c4, .unset, .unset, .unset, .unset, .unset, .unset] [(.int i4)])) rfl (hb hby at_34)) ?_
      refine q_iand B X0 at_36 rfl rfl ?_
      refine q_i2c B X0 at_37 rfl rfl ?_
      show G (s₁.setTop (mkF m 38 #[oi i0, oi i1, oi i2, oi i3, oi i4, oi 0, oi 0, oi c3, oi c4, .unset, .unset, .unset, .unset, .unset, .unset] [(.int ((i4 &&& (65535 : Int32)).toUInt32.toUInt16.toUInt32.toInt32))]))
      generalize hn_c5 : ((i4 &&& (65535 : Int32)).toUInt32.toUInt16.toUInt32.toInt32) = c5
      have hr_c5 := own_i2c16 hn_c5
      show G (s₁.setTop (mkF m 38 #[oi i0, oi i1, oi i2, oi i3, oi i4, oi 0, oi 0, oi c3, oi c4, .unset, .unset, .unset, .unset, .unset, .unset] [(.int c5)]))
      refine q_istore B X0 at_38 rfl rfl rfl ?_
      refine q_iload B X0 at_40 rfl rfl ?_
      refine q_iload B X0 at_42 rfl rfl ?_
      refine q_iload B X0 at_44 rfl rfl ?_
      refine q_iload B X0 at_46 rfl rfl ?_
      show G (s₁.setTop (mkF m 48 #[oi i0, oi i1, oi i2, oi i3, oi i4, oi 0, oi 0, oi c3, oi c4, oi c5, .unset, .unset, .unset, .unset, .unset] [(.int c5), (.int c4), (.int c3), (.int 0)]))
      refine qSW B X0 hZ hown 1 2 3 4 rfl rfl rfl rfl (own_make0 hw hEL c3 c4 c5 O0 g0_S g1_hcpt g2_S g3_S g4_S hr_c3 hr_c4 hr_c5) e0 SI0 (Nat.le_refl _) hEL H0 own_pd35 rfl rfl at_48 0 rfl rfl rfl (by decide) ?_
      rintro T6 h6 v6 L6 X6 e6 SI6 hZ6 hown6 Y6 ⟨a_6, t_6, kt_6, cd_6, nb_6, vs_6, rfl, M6, J6, y6_0, r6_0, r6_1, r6_2, r6_3, r6_4⟩
      have N6 := Fr.app N0 M6
      have R6 := Y6
      have C6 := (CHr.refl H0).trans R6
      have K6 := (Keep.refl h0 []).trans J6 all0
      have O6 := O0.keep J6 all0
      show G (T6.setTop (mkF m 51 #[oi i0, oi i1, oi i2, oi i3, oi i4, oi 0, oi 0, oi c3, oi c4, oi c5, .unset, .unset, .unset, .unset, .unset] [(.ref a_6)]))
      obtain ⟨hall, rfl, rfl, rfl⟩ : _ ∧ _ ∧ _ ∧ _ := r6_4.resolve_right (fun q => q.1.elim fun k h => absurd h.1 (Nat.not_lt_zero k))
      have W7 : Arv Z h6 t_6 kt_6 .byte (0 : Int32) [] (.int 0) := r6_3
      show G (T6.setTop (mkF m 51 #[oi i0, oi i1, oi i2, oi i3, oi i4, oi 0, oi 0, oi c3, oi c4, oi c5, .unset, .unset, .unset, .unset, .unset] [(.ref a_6)]))
      refine q_astore B X6 at_51 rfl rfl rfl rfl ?_
      refine qnw B X6 hZ6 hown6 35 36 37 rfl rfl rfl e6 at_53 (by decide) fun T8 h8 b8 z8 X8 e8 E8 A8 D8 => ?_
      have R8 := (CHr.ext E8 R6.1)
      have C8 := C6.trans R8
      have K8 := K6.ext E8
      have O8 := O6.ext E8
      refine q_dup B X8 at_56 rfl rfl rfl ?_
      refine q_iload B X8 at_57 rfl rfl ?_
      refine q_aload B X8 at_59 rfl rfl rfl ?_
      show G (T8.setTop (mkF m 61 #[oi i0, oi i1, oi i2, oi i3, oi i4, oi 0, oi 0, oi c3, oi c4, oi c5, oa a_6, .unset, .unset, .unset, .unset] [(.ref a_6), (.int 0), (.ref b8), (.ref b8)]))
      refine qI B X8 hZ6 hown6 38 39 37 40 rfl rfl rfl rfl rfl (own_finit hw (0 : Int32) (.ref a_6) O8 rfl A8 (own_ge O6 (Nat.le_of_eq z8.symm)) (D8 (Or.inr (ow hw 48 rfl)) (ty := .boolean) (by decide)) (D8 (Or.inr (ow hw 50 rfl)) (ty := (.object "java/lang/String")) (by decide))) e8 own_pd34 rfl rfl at_61 1 rfl rfl rfl (by decide) ?_
      rintro T9 h9 _ L9 X9 e9 ⟨rfl, M9, J9, r9_0, r9_1, r9_2⟩
      have N9 := Fr.app N6 M9
      have sf10 : Safe Z consts_1 _ h8 b8 := (Safe.exa hZ6.alike A8 (by decide) (by decide))
      have R9 := (CHr.keep J9 (allS sf10 all0) R8.1)
      have C9 := C8.trans R9
      have K9 := K8.trans J9 (allS (Or.inr (Nat.le_trans K6.1 (Nat.le_of_eq z8.symm))) all0)
      have O9 := O8.keep J9 (allS (own_ge O6 (Nat.le_of_eq z8.symm)) all0)
      refine q_astore B X9 at_64 rfl rfl rfl rfl ?_
      refine q_aload B X9 at_66 rfl rfl rfl ?_
      show G (T9.setTop (mkF m 68 #[oi i0, oi i1, oi i2, oi i3, oi i4, oi 0, oi 0, oi c3, oi c4, oi c5, oa a_6, oa b8, .unset, .unset, .unset] [(.ref b8)]))
      have f12 := ((r6_0.ext E8).keep J9)
      have f13 := ((r6_1.ext E8).keep J9 (ninS (own_ne r6_0.lt (Nat.le_of_eq z8.symm)) nin0))
      have f14 := ((r6_2.ext E8).keep J9 (ninS (own_ne r6_0.lt (Nat.le_of_eq z8.symm)) nin0))
      have f15 := ((W7.ext E8).keep J9 (ninS (own_ne r6_3.lt (Nat.le_of_eq z8.symm)) nin0))
      refine qVW B X9 hZ6 hown6 51 52 54 53 37 55 rfl rfl rfl rfl rfl rfl (own_line0_0 hw hEL (0 : Int32) (5 : Int32) (5 : Int32) 5 5 O9 r9_0 r9_1 r9_2 f12 f13 f14 f15 g2_S g3_S g4_S g0_S g1_hcpt (by decide) (by decide) (by decide) ⟨by decide, by decide, rfl, by decide, by decide, Nat.le_of_ble_eq_true rfl⟩ (by decide) ⟨by decide, by decide, by decide, by decide, Nat.le_of_ble_eq_true rfl⟩ g5_hfmt g6_S) e9 SI6 (Nat.le_trans (Nat.le_trans (Nat.le_refl _) R8.2.1) R9.2.1) hEL R9.1 r9_0 own_pd31 rfl rfl at_68 0 rfl rfl rfl (by decide) ?_
      rintro T11 h11 v11 L11 X11 e11 SI11 hZ11 hown11 Y11 ⟨r_11, u_11, ku_11, rfl, M11, J11, y11_0, y11_1, r11_0, r11_1, r11_2, r11_3⟩
      have N11 := Fr.app N9 M11
      have R11 := Y11
      have C11 := C9.trans R11
      have K11 := K9.trans J11 all0
      have O11 := O9.keep J11 all0
      show G (T11.setTop (mkF m 71 #[oi i0, oi i1, oi i2, oi i3, oi i4, oi 0, oi 0, oi c3, oi c4, oi c5, oa a_6, oa b8, .unset, .unset, .unset] [(.ref r_11)]))
      have W16 : Arv Z h11 u_11 ku_11 .byte (5 : Int32) [(.int 100), (.int 101), (.int 110), (.int 121), (.int 32)] (.int 0) := r11_3
      show G (T11.setTop (mkF m 71 #[oi i0, oi i1, oi i2, oi i3, oi i4, oi 0, oi 0, oi c3, oi c4, oi c5, oa a_6, oa b8, .unset, .unset, .unset] [(.ref r_11)]))
      refine q_astore B X11 at_71 rfl rfl rfl rfl ?_
      refine q_iload B X11 at_73 rfl rfl ?_
      refine q_ifYes 83 B X11 at_75 rfl ((if0 _ _).trans (teq (by decide)).1) rfl rfl (by decide) ?_
      refine q_iconst B X11 at_83 rfl ?_
      refine q_istore B X11 at_84 rfl rfl rfl ?_
      refine q_aload B X11 at_86 rfl rfl rfl ?_
      refine q_ifnullNo B X11 at_88 rfl rfl ?_
      refine q_aload B X11 at_91 rfl rfl rfl ?_
      show G (T11.setTop (mkF m 93 #[oi i0, oi i1, oi i2, oi i3, oi i4, oi 0, oi 0, oi c3, oi c4, oi c5, oa a_6, oa b8, oa r_11, oi 5, .unset] [(.ref r_11)]))
      refine qV B X11 hZ11 hown11 169 88 90 89 8 91 rfl rfl rfl rfl rfl rfl (own_len hw [(100 : Int32), (101 : Int32), (110 : Int32), (121 : Int32), (32 : Int32)] O11 r11_0 r11_1 r11_2 W16 (Or.inl ⟨(own_allc (by decide) (own_allc (by decide) (own_allc (by decide) (own_allc (by decide) (own_allc (by decide) own_alln))))), rfl, rfl, rfl⟩) (Nat.le_of_ble_eq_true rfl) (own_allc (by decide) (own_allc (by decide) (own_allc (by decide) (own_allc (by decide) (own_allc (by decide) own_alln))))) g0_S g1_hcpt) e11 r11_0 own_pd12 rfl rfl at_93 0 rfl rfl rfl (by decide) ?_
      rintro T17 h17 _ L17 X17 e17 ⟨rfl, M17, rfl⟩
      have N17 := Fr.app N11 M17
      show G (T17.setTop (mkF m 96 #[oi i0, oi i1, oi i2, oi i3, oi i4, oi 0, oi 0, oi c3, oi c4, oi c5, oa a_6, oa b8, oa r_11, oi 5, .unset] [(.int (Int32.ofNat [(100 : Int32), (101 : Int32), (110 : Int32), (121 : Int32), (32 : Int32)].length))]))
      show G (T17.setTop (mkF m 96 #[oi i0, oi i1, oi i2, oi i3, oi i4, oi 0, oi 0, oi c3, oi c4, oi c5, oa a_6, oa b8, oa r_11, oi 5, .unset] [(.int 5)]))
      refine q_iload B X17 at_96 rfl rfl ?_
      refine q_iload B X17 at_98 rfl rfl ?_
      refine q_iadd B X17 at_100 rfl rfl ?_
      show G (T17.setTop (mkF m 101 #[oi i0, oi i1, oi i2, oi i3, oi i4, oi 0, oi 0, oi c3, oi c4, oi c5, oa a_6, oa b8, oa r_11, oi 5, .unset] [(.int ((5 : Int32) + (0 : Int32))), (.int 5)]))
      rw [show ((5 : Int32) + (0 : Int32)) = (5 : Int32) from by decide]
      show G (T17.setTop (mkF m 101 #[oi i0, oi i1, oi i2, oi i3, oi i4, oi 0, oi 0, oi c3, oi c4, oi c5, oa a_6, oa b8, oa r_11, oi 5, .unset] [(.int 5), (.int 5)]))
      refine q_icmpYes 106 B X17 at_101 rfl (teq (by decide)).1 rfl rfl (by decide) ?_
      refine q_iload B X17 at_106 rfl rfl ?_
      refine q_ifYes 187 B X17 at_108 rfl ((if0 _ _).trans (teq (by decide)).1) rfl rfl (by decide) ?_
      refine q_aload B X17 at_187 rfl rfl rfl ?_
      refine q_iconst B X17 at_189 rfl ?_
      show G (T17.setTop (mkF m 190 #[oi i0, oi i1, oi i2, oi i3, oi i4, oi 0, oi 0, oi c3, oi c4, oi c5, oa a_6, oa b8, oa r_11, oi 5, .unset] [(.int 0), (.ref r_11)]))
      refine qV B X17 hZ11 hown11 170 171 173 172 8 174 rfl rfl rfl rfl rfl rfl (own_ca hw [(100 : Int32), (101 : Int32), (110 : Int32), (121 : Int32), (32 : Int32)] 0 O11 r11_0 r11_1 r11_2 W16 (Or.inl ⟨(own_allc (by decide) (own_allc (by decide) (own_allc (by decide) (own_allc (by decide) (own_allc (by decide) own_alln))))), rfl, rfl, rfl⟩) (Nat.le_of_ble_eq_true rfl) (own_allc (by decide) (own_allc (by decide) (own_allc (by decide) (own_allc (by decide) (own_allc (by decide) own_alln))))) g0_S g1_hcpt g2_S g3_S g4_S (Nat.le_of_ble_eq_true rfl) g5_hfmt g6_S) e17 r11_0 own_pd17 rfl rfl at_190 0 rfl rfl rfl (by decide) ?_
      rintro T18 h18 _ L18 X18 e18 ⟨rfl, M18, rfl⟩
      have N18 := Fr.app N17 M18
      show G (T18.setTop (mkF m 193 #[oi i0, oi i1, oi i2, oi i3, oi i4, oi 0, oi 0, oi c3, oi c4, oi c5, oa a_6, oa b8, oa r_11, oi 5, .unset] [(.int ([(100 : Int32), (101 : Int32), (110 : Int32), (121 : Int32), (32 : Int32)].getD 0 0))]))
      show G (T18.setTop (mkF m 193 #[oi i0, oi i1, oi i2, oi i3, oi i4, oi 0, oi 0, oi c3, oi c4, oi c5, oa a_6, oa b8, oa r_11, oi 5, .unset] [(.int 100)]))
      refine q_bipush B X18 at_193 rfl ?_
      refine q_icmpNo B X18 at_195 rfl (teq (by decide)).2 rfl ?_
      refine q_aload B X18 at_198 rfl rfl rfl ?_
      refine q_iconst B X18 at_200 rfl ?_
      show G (T18.setTop (mkF m 201 #[oi i0, oi i1, oi i2, oi i3, oi i4, oi 0, oi 0, oi c3, oi c4, oi c5, oa a_6, oa b8, oa r_11, oi 5, .unset] [(.int 1), (.ref r_11)]))
      refine qV B X18 hZ11 hown11 170 171 173 172 8 174 rfl rfl rfl rfl rfl rfl (own_ca hw [(100 : Int32), (101 : Int32), (110 : Int32), (121 : Int32), (32 : Int32)] 1 O11 r11_0 r11_1 r11_2 W16 (Or.inl ⟨(own_allc (by decide) (own_allc (by decide) (own_allc (by decide) (own_allc (by decide) (own_allc (by decide) own_alln))))), rfl, rfl, rfl⟩) (Nat.le_of_ble_eq_true rfl) (own_allc (by decide) (own_allc (by decide) (own_allc (by decide) (own_allc (by decide) (own_allc (by decide) own_alln))))) g0_S g1_hcpt g2_S g3_S g4_S (Nat.le_of_ble_eq_true rfl) g5_hfmt g6_S) e18 r11_0 own_pd17 rfl rfl at_201 0 rfl rfl rfl (by decide) ?_
      rintro T19 h19 _ L19 X19 e19 ⟨rfl, M19, rfl⟩
      have N19 := Fr.app N18 M19
      show G (T19.setTop (mkF m 204 #[oi i0, oi i1, oi i2, oi i3, oi i4, oi 0, oi 0, oi c3, oi c4, oi c5, oa a_6, oa b8, oa r_11, oi 5, .unset] [(.int ([(100 : Int32), (101 : Int32), (110 : Int32), (121 : Int32), (32 : Int32)].getD 1 0))]))
      show G (T19.setTop (mkF m 204 #[oi i0, oi i1, oi i2, oi i3, oi i4, oi 0, oi 0, oi c3, oi c4, oi c5, oa a_6, oa b8, oa r_11, oi 5, .unset] [(.int 101)]))
      refine q_bipush B X19 at_204 rfl ?_
      refine q_icmpNo B X19 at_206 rfl (teq (by decide)).2 rfl ?_
      refine q_aload B X19 at_209 rfl rfl rfl ?_
      refine q_iconst B X19 at_211 rfl ?_
      show G (T19.setTop (mkF m 212 #[oi i0, oi i1, oi i2, oi i3, oi i4, oi 0, oi 0, oi c3, oi c4, oi c5, oa a_6, oa b8, oa r_11, oi 5, .unset] [(.int 2), (.ref r_11)]))
      refine qV B X19 hZ11 hown11 170 171 173 172 8 174 rfl rfl rfl rfl rfl rfl (own_ca hw [(100 : Int32), (101 : Int32), (110 : Int32), (121 : Int32), (32 : Int32)] 2 O11 r11_0 r11_1 r11_2 W16 (Or.inl ⟨(own_allc (by decide) (own_allc (by decide) (own_allc (by decide) (own_allc (by decide) (own_allc (by decide) own_alln))))), rfl, rfl, rfl⟩) (Nat.le_of_ble_eq_true rfl) (own_allc (by decide) (own_allc (by decide) (own_allc (by decide) (own_allc (by decide) (own_allc (by decide) own_alln))))) g0_S g1_hcpt g2_S g3_S g4_S (Nat.le_of_ble_eq_true rfl) g5_hfmt g6_S) e19 r11_0 own_pd17 rfl rfl at_212 0 rfl rfl rfl (by decide) ?_
      rintro T20 h20 _ L20 X20 e20 ⟨rfl, M20, rfl⟩
      have N20 := Fr.app N19 M20
      show G (T20.setTop (mkF m 215 #[oi i0, oi i1, oi i2, oi i3, oi i4, oi 0, oi 0, oi c3, oi c4, oi c5, oa a_6, oa b8, oa r_11, oi 5, .unset] [(.int ([(100 : Int32), (101 : Int32), (110 : Int32), (121 : Int32), (32 : Int32)].getD 2 0))]))
      show G (T20.setTop (mkF m 215 #[oi i0, oi i1, oi i2, oi i3, oi i4, oi 0, oi 0, oi c3, oi c4, oi c5, oa a_6, oa b8, oa r_11, oi 5, .unset] [(.int 110)]))
      refine q_bipush B X20 at_215 rfl ?_
      refine q_icmpNo B X20 at_217 rfl (teq (by decide)).2 rfl ?_
      refine q_aload B X20 at_220 rfl rfl rfl ?_
      refine q_iconst B X20 at_222 rfl ?_
      show G (T20.setTop (mkF m 223 #[oi i0, oi i1, oi i2, oi i3, oi i4, oi 0, oi 0, oi c3, oi c4, oi c5, oa a_6, oa b8, oa r_11, oi 5, .unset] [(.int 3), (.ref r_11)]))
      refine qV B X20 hZ11 hown11 170 171 173 172 8 174 rfl rfl rfl rfl rfl rfl (own_ca hw [(100 : Int32), (101 : Int32), (110 : Int32), (121 : Int32), (32 : Int32)] 3 O11 r11_0 r11_1 r11_2 W16 (Or.inl ⟨(own_allc (by decide) (own_allc (by decide) (own_allc (by decide) (own_allc (by decide) (own_allc (by decide) own_alln))))), rfl, rfl, rfl⟩) (Nat.le_of_ble_eq_true rfl) (own_allc (by decide) (own_allc (by decide) (own_allc (by decide) (own_allc (by decide) (own_allc (by decide) own_alln))))) g0_S g1_hcpt g2_S g3_S g4_S (Nat.le_of_ble_eq_true rfl) g5_hfmt g6_S) e20 r11_0 own_pd17 rfl rfl at_223 0 rfl rfl rfl (by decide) ?_
      rintro T21 h21 _ L21 X21 e21 ⟨rfl, M21, rfl⟩
      have N21 := Fr.app N20 M21
      show G (T21.setTop (mkF m 226 #[oi i0, oi i1, oi i2, oi i3, oi i4, oi 0, oi 0, oi c3, oi c4, oi c5, oa a_6, oa b8, oa r_11, oi 5, .unset] [(.int ([(100 : Int32), (101 : Int32), (110 : Int32), (121 : Int32), (32 : Int32)].getD 3 0))]))
      show G (T21.setTop (mkF m 226 #[oi i0, oi i1, oi i2, oi i3, oi i4, oi 0, oi 0, oi c3, oi c4, oi c5, oa a_6, oa b8, oa r_11, oi 5, .unset] [(.int 121)]))
      refine q_bipush B X21 at_226 rfl ?_
      refine q_icmpNo B X21 at_228 rfl (teq (by decide)).2 rfl ?_
      refine q_aload B X21 at_231 rfl rfl rfl ?_
      refine q_iconst B X21 at_233 rfl ?_
      show G (T21.setTop (mkF m 234 #[oi i0, oi i1, oi i2, oi i3, oi i4, oi 0, oi 0, oi c3, oi c4, oi c5, oa a_6, oa b8, oa r_11, oi 5, .unset] [(.int 4), (.ref r_11)]))
      refine qV B X21 hZ11 hown11 170 171 173 172 8 174 rfl rfl rfl rfl rfl rfl (own_ca hw [(100 : Int32), (101 : Int32), (110 : Int32), (121 : Int32), (32 : Int32)] 4 O11 r11_0 r11_1 r11_2 W16 (Or.inl ⟨(own_allc (by decide) (own_allc (by decide) (own_allc (by decide) (own_allc (by decide) (own_allc (by decide) own_alln))))), rfl, rfl, rfl⟩) (Nat.le_of_ble_eq_true rfl) (own_allc (by decide) (own_allc (by decide) (own_allc (by decide) (own_allc (by decide) (own_allc (by decide) own_alln))))) g0_S g1_hcpt g2_S g3_S g4_S (Nat.le_of_ble_eq_true rfl) g5_hfmt g6_S) e21 r11_0 own_pd17 rfl rfl at_234 0 rfl rfl rfl (by decide) ?_
      rintro T22 h22 _ L22 X22 e22 ⟨rfl, M22, rfl⟩
      have N22 := Fr.app N21 M22
      show G (T22.setTop (mkF m 237 #[oi i0, oi i1, oi i2, oi i3, oi i4, oi 0, oi 0, oi c3, oi c4, oi c5, oa a_6, oa b8, oa r_11, oi 5, .unset] [(.int ([(100 : Int32), (101 : Int32), (110 : Int32), (121 : Int32), (32 : Int32)].getD 4 0))]))
      show G (T22.setTop (mkF m 237 #[oi i0, oi i1, oi i2, oi i3, oi i4, oi 0, oi 0, oi c3, oi c4, oi c5, oa a_6, oa b8, oa r_11, oi 5, .unset] [(.int 32)]))
      refine q_bipush B X22 at_237 rfl ?_
      refine q_icmpNo B X22 at_239 rfl (teq (by decide)).2 rfl ?_
      refine q_iconst B X22 at_242 rfl ?_
      refine q_goto 247 B X22 at_243 rfl rfl (by decide) ?_
      refine q_istore B X22 at_247 rfl rfl rfl ?_
      refine q_iload B X22 at_249 rfl rfl ?_
      refine q_ifYes 256 B X22 at_251 rfl ((if0 _ _).trans (feq (by decide)).2) rfl rfl (by decide) ?_
      refine q_iload B X22 at_256 rfl rfl ?_
      refine q_iconst B X22 at_258 rfl ?_
      refine q_icmpYes 276 B X22 at_259 rfl (tlt (by decide)).1 rfl rfl (by decide) ?_
      refine q_iload B X22 at_276 rfl rfl ?_
      refine q_iconst B X22 at_278 rfl ?_
      refine q_icmpYes 298 B X22 at_279 rfl (tlt (by decide)).1 rfl rfl (by decide) ?_
      refine q_iload B X22 at_298 rfl rfl ?_
      refine q_iconst B X22 at_300 rfl ?_
      refine q_icmpYes 320 B X22 at_301 rfl (tlt (by decide)).1 rfl rfl (by decide) ?_
      refine q_iconst B X22 at_320 rfl ?_
      show G (T22.setTop (mkF m 321 #[oi i0, oi i1, oi i2, oi i3, oi i4, oi 0, oi 0, oi c3, oi c4, oi c5, oa a_6, oa b8, oa r_11, oi 5, oi 1] [(.int 1)]))
      exact qRNW B hR hret (by simp) X22 at_321 e22 SI11 (Nat.le_refl _) hZ11 C11 ⟨rfl, N22, K11⟩ (by decide)
    · skip
      show G (s₁.setTop (mkF m 18 #[oi i0, oi i1, oi i2, oi i3, oi i4, oi 0, oi 1, .unset, .unset, .unset, .unset, .unset, .unset, .unset, .unset] []))
      refine q_iloadN B X0 at_18 rfl rfl ?_
      refine hG _ _ (X0.ldcInt hx hown (mvT hZ (ow hw 0 rfl)) (g := (mkF m 19 #[oi i0, oi i1, oi i2, oi i3, oi i4, oi 0, oi 1, .unset, .unset, .unset, .unset, .unset, .unset, .unset, .unset] [(.int i2)])) rfl (hb hby at_19)) ?_
      refine q_iand B X0 at_21 rfl rfl ?_
      refine q_i2c B X0 at_22 rfl rfl ?_
      show G (s₁.setTop (mkF m 23 #[oi i0, oi i1, oi i2, oi i3, oi i4, oi 0, oi 1, .unset, .unset, .unset, .unset, .unset, .unset, .unset, .unset] [(.int ((i2 &&& (65535 : Int32)).toUInt32.toUInt16.toUInt32.toInt32))]))
      generalize hn_c23 : ((i2 &&& (65535 : Int32)).toUInt32.toUInt16.toUInt32.toInt32) = c23
      have hr_c23 := own_i2c16 hn_c23
      show G (s₁.setTop (mkF m 23 #[oi i0, oi i1, oi i2, oi i3, oi i4, oi 0, oi 1, .unset, .unset, .unset, .unset, .unset, .unset, .unset, .unset] [(.int c23)]))
      refine q_istore B X0 at_23 rfl rfl rfl ?_
      refine q_iloadN B X0 at_25 rfl rfl ?_
      refine hG _ _ (X0.ldcInt hx hown (mvT hZ (ow hw 0 rfl)) (g := (mkF m 26 #[oi i0, oi i1, oi i2, oi i3, oi i4, oi 0, oi 1, oi c23, .unset, .unset, .unset, .unset, .unset, .unset, .unset] [(.int i3)])) rfl (hb hby at_26)) ?_
      refine q_iand B X0 at_28 rfl rfl ?_
      refine q_i2c B X0 at_29 rfl rfl ?_
      show G (s₁.setTop (mkF m 30 #[oi i0, oi i1, oi i2, oi i3, oi i4, oi 0, oi 1, oi c23, .unset, .unset, .unset, .unset, .unset, .unset, .unset] [(.int ((i3 &&& (65535 : Int32)).toUInt32.toUInt16.toUInt32.toInt32))]))
      generalize hn_c24 : ((i3 &&& (65535 : Int32)).toUInt32.toUInt16.toUInt32.toInt32) = c24
      have hr_c24 := own_i2c16 hn_c24
      show G (s₁.setTop (mkF m 30 #[oi i0, oi i1, oi i2, oi i3, oi i4, oi 0, oi 1, oi c23, .unset, .unset, .unset, .unset, .unset, .unset, .unset] [(.int c24)]))
      refine q_istore B X0 at_30 rfl rfl rfl ?_
      refine q_iload B X0 at_32 rfl rfl ?_
      refine hG _ _ (X0.ldcInt hx hown (mvT hZ (ow hw 0 rfl)) (g := (mkF m 34 #[oi i0, oi i1, oi i2, oi i3, oi i4, oi 0, oi 1, oi c23, oi c24, .unset, .unset, .unset, .unset, .unset, .unset] [(.int i4)])) rfl (hb hby at_34)) ?_
      refine q_iand B X0 at_36 rfl rfl ?_
      refine q_i2c B X0 at_37 rfl rfl ?_
      show G (s₁.setTop (mkF m 38 #[oi i0, oi i1, oi i2, oi i3, oi i4, oi 0, oi 1, oi c23, oi c24, .unset, .unset, .unset, .unset, .unset, .unset] [(.int ((i4 &&& (65535 : Int32)).toUInt32.toUInt16.toUInt32.toInt32))]))
      generalize hn_c25 : ((i4 &&& (65535 : Int32)).toUInt32.toUInt16.toUInt32.toInt32) = c25
      have hr_c25 := own_i2c16 hn_c25
      show G (s₁.setTop (mkF m 38 #[oi i0, oi i1, oi i2, oi i3, oi i4, oi 0, oi 1, oi c23, oi c24, .unset, .unset, .unset, .unset, .unset, .unset] [(.int c25)]))
      refine q_istore B X0 at_38 rfl rfl rfl ?_
      refine q_iload B X0 at_40 rfl rfl ?_
      refine q_iload B X0 at_42 rfl rfl ?_
      refine q_iload B X0 at_44 rfl rfl ?_
      refine q_iload B X0 at_46 rfl rfl ?_
      show G (s₁.setTop (mkF m 48 #[oi i0, oi i1, oi i2, oi i3, oi i4, oi 0, oi 1, oi c23, oi c24, oi c25, .unset, .unset, .unset, .unset, .unset] [(.int c25), (.int c24), (.int c23), (.int 1)]))
      refine qS B X0 hZ hown 1 2 3 4 rfl rfl rfl rfl (own_make1 hw c23 c24 c25 O0 g0_S g1_hcpt g2_S g3_S g4_S hr_c23 hr_c24 hr_c25) e0 own_pd35 rfl rfl at_48 0 rfl rfl rfl (by decide) ?_
      rintro T26 h26 _ L26 X26 e26 ⟨a_26, t_26, kt_26, cd_26, nb_26, vs_26, rfl, M26, J26, y26_0, r26_0, r26_1, r26_2, r26_3, r26_4⟩
      have N26 := Fr.app N0 M26
      have R26 := (CHr.keep J26 all0 H0)
      have C26 := (CHr.refl H0).trans R26
      have K26 := (Keep.refl h0 []).trans J26 all0
      have O26 := O0.keep J26 all0
      show G (T26.setTop (mkF m 51 #[oi i0, oi i1, oi i2, oi i3, oi i4, oi 0, oi 1, oi c23, oi c24, oi c25, .unset, .unset, .unset, .unset, .unset] [(.ref a_26)]))
      rcases r26_4 with ⟨hall, rfl, rfl, rfl⟩ | ⟨hbig, rfl, rfl, h16⟩
      · skip
        have W27 : Arv Z h26 t_26 kt_26 .byte (1 : Int32) [(.int (c23.toInt8.toInt32))] (.int 0) := r26_3
        show G (T26.setTop (mkF m 51 #[oi i0, oi i1, oi i2, oi i3, oi i4, oi 0, oi 1, oi c23, oi c24, oi c25, .unset, .unset, .unset, .unset, .unset] [(.ref a_26)]))
        refine q_astore B X26 at_51 rfl rfl rfl rfl ?_
        refine qnw B X26 hZ hown 35 36 37 rfl rfl rfl e26 at_53 (by decide) fun T28 h28 b28 z28 X28 e28 E28 A28 D28 => ?_
        have R28 := (CHr.ext E28 R26.1)
        have C28 := C26.trans R28
        have K28 := K26.ext E28
        have O28 := O26.ext E28
        refine q_dup B X28 at_56 rfl rfl rfl ?_
        refine q_iload B X28 at_57 rfl rfl ?_
        refine q_aload B X28 at_59 rfl rfl rfl ?_
        show G (T28.setTop (mkF m 61 #[oi i0, oi i1, oi i2, oi i3, oi i4, oi 0, oi 1, oi c23, oi c24, oi c25, oa a_26, .unset, .unset, .unset, .unset] [(.ref a_26), (.int 0), (.ref b28), (.ref b28)]))
        refine qI B X28 hZ hown 38 39 37 40 rfl rfl rfl rfl rfl (own_finit hw (0 : Int32) (.ref a_26) O28 rfl A28 (own_ge O26 (Nat.le_of_eq z28.symm)) (D28 (Or.inr (ow hw 48 rfl)) (ty := .boolean) (by decide)) (D28 (Or.inr (ow hw 50 rfl)) (ty := (.object "java/lang/String")) (by decide))) e28 own_pd34 rfl rfl at_61 1 rfl rfl rfl (by decide) ?_
        rintro T29 h29 _ L29 X29 e29 ⟨rfl, M29, J29, r29_0, r29_1, r29_2⟩
        have N29 := Fr.app N26 M29
        have sf30 : Safe Z consts_1 _ h28 b28 := (Safe.exa hZ.alike A28 (by decide) (by decide))
        have R29 := (CHr.keep J29 (allS sf30 all0) R28.1)
        have C29 := C28.trans R29
        have K29 := K28.trans J29 (allS (Or.inr (Nat.le_trans K26.1 (Nat.le_of_eq z28.symm))) all0)
        have O29 := O28.keep J29 (allS (own_ge O26 (Nat.le_of_eq z28.symm)) all0)
        refine q_astore B X29 at_64 rfl rfl rfl rfl ?_
        refine q_aload B X29 at_66 rfl rfl rfl ?_
        show G (T29.setTop (mkF m 68 #[oi i0, oi i1, oi i2, oi i3, oi i4, oi 0, oi 1, oi c23, oi c24, oi c25, oa a_26, oa b28, .unset, .unset, .unset] [(.ref b28)]))
        have f32 := ((r26_0.ext E28).keep J29)
        have f33 := ((r26_1.ext E28).keep J29 (ninS (own_ne r26_0.lt (Nat.le_of_eq z28.symm)) nin0))
        have f34 := ((r26_2.ext E28).keep J29 (ninS (own_ne r26_0.lt (Nat.le_of_eq z28.symm)) nin0))
        have f35 := ((W27.ext E28).keep J29 (ninS (own_ne r26_3.lt (Nat.le_of_eq z28.symm)) nin0))
        refine qVW B X29 hZ hown 51 52 54 53 37 55 rfl rfl rfl rfl rfl rfl (own_line0_0 hw hEL (1 : Int32) (6 : Int32) (6 : Int32) 5 6 O29 r29_0 r29_1 r29_2 f32 f33 f34 f35 g2_S g3_S g4_S g0_S g1_hcpt (by decide) (by decide) (by decide) ⟨by decide, by decide, rfl, by decide, by decide, Nat.le_of_ble_eq_true rfl⟩ (by decide) ⟨by decide, by decide, by decide, by decide, Nat.le_of_ble_eq_true rfl⟩ g5_hfmt g6_S) e29 SI0 (Nat.le_trans (Nat.le_trans (Nat.le_trans (Nat.le_refl _) R26.2.1) R28.2.1) R29.2.1) hEL R29.1 r29_0 own_pd31 rfl rfl at_68 0 rfl rfl rfl (by decide) ?_
        rintro T31 h31 v31 L31 X31 e31 SI31 hZ31 hown31 Y31 ⟨r_31, u_31, ku_31, rfl, M31, J31, y31_0, y31_1, r31_0, r31_1, r31_2, r31_3⟩
        have N31 := Fr.app N29 M31
        have R31 := Y31
        have C31 := C29.trans R31
        have K31 := K29.trans J31 all0
        have O31 := O29.keep J31 all0
        show G (T31.setTop (mkF m 71 #[oi i0, oi i1, oi i2, oi i3, oi i4, oi 0, oi 1, oi c23, oi c24, oi c25, oa a_26, oa b28, .unset, .unset, .unset] [(.ref r_31)]))
        have W36 : Arv Z h31 u_31 ku_31 .byte (6 : Int32) [(.int 100), (.int 101), (.int 110), (.int 121), (.int 32), (.int (c23.toInt8.toInt32))] (.int 0) := r31_3
        show G (T31.setTop (mkF m 71 #[oi i0, oi i1, oi i2, oi i3, oi i4, oi 0, oi 1, oi c23, oi c24, oi c25, oa a_26, oa b28, .unset, .unset, .unset] [(.ref r_31)]))
        refine q_astore B X31 at_71 rfl rfl rfl rfl ?_
        refine q_iload B X31 at_73 rfl rfl ?_
        refine q_ifYes 83 B X31 at_75 rfl ((if0 _ _).trans (teq (by decide)).1) rfl rfl (by decide) ?_
        refine q_iconst B X31 at_83 rfl ?_
        refine q_istore B X31 at_84 rfl rfl rfl ?_
        refine q_aload B X31 at_86 rfl rfl rfl ?_
        refine q_ifnullNo B X31 at_88 rfl rfl ?_
        refine q_aload B X31 at_91 rfl rfl rfl ?_
        show G (T31.setTop (mkF m 93 #[oi i0, oi i1, oi i2, oi i3, oi i4, oi 0, oi 1, oi c23, oi c24, oi c25, oa a_26, oa b28, oa r_31, oi 5, .unset] [(.ref r_31)]))
        refine qV B X31 hZ31 hown31 169 88 90 89 8 91 rfl rfl rfl rfl rfl rfl (own_len hw [(100 : Int32), (101 : Int32), (110 : Int32), (121 : Int32), (32 : Int32), c23] O31 r31_0 r31_1 r31_2 W36 (Or.inl ⟨(own_allc (by decide) (own_allc (by decide) (own_allc (by decide) (own_allc (by decide) (own_allc (by decide) (own_allc (hall _ (List.mem_of_getElem? (i := 0) rfl)) own_alln)))))), rfl, rfl, rfl⟩) (Nat.le_of_ble_eq_true rfl) (own_allc (by decide) (own_allc (by decide) (own_allc (by decide) (own_allc (by decide) (own_allc (by decide) (own_allc hr_c23 own_alln)))))) g0_S g1_hcpt) e31 r31_0 own_pd12 rfl rfl at_93 0 rfl rfl rfl (by decide) ?_
        rintro T37 h37 _ L37 X37 e37 ⟨rfl, M37, rfl⟩
        have N37 := Fr.app N31 M37
        show G (T37.setTop (mkF m 96 #[oi i0, oi i1, oi i2, oi i3, oi i4, oi 0, oi 1, oi c23, oi c24, oi c25, oa a_26, oa b28, oa r_31, oi 5, .unset] [(.int (Int32.ofNat [(100 : Int32), (101 : Int32), (110 : Int32), (121 : Int32), (32 : Int32), c23].length))]))
        show G (T37.setTop (mkF m 96 #[oi i0, oi i1, oi i2, oi i3, oi i4, oi 0, oi 1, oi c23, oi c24, oi c25, oa a_26, oa b28, oa r_31, oi 5, .unset] [(.int 6)]))
        refine q_iload B X37 at_96 rfl rfl ?_
        refine q_iload B X37 at_98 rfl rfl ?_
        refine q_iadd B X37 at_100 rfl rfl ?_
        show G (T37.setTop (mkF m 101 #[oi i0, oi i1, oi i2, oi i3, oi i4, oi 0, oi 1, oi c23, oi c24, oi c25, oa a_26, oa b28, oa r_31, oi 5, .unset] [(.int ((5 : Int32) + (1 : Int32))), (.int 6)]))
        rw [show ((5 : Int32) + (1 : Int32)) = (6 : Int32) from by decide]
        show G (T37.setTop (mkF m 101 #[oi i0, oi i1, oi i2, oi i3, oi i4, oi 0, oi 1, oi c23, oi c24, oi c25, oa a_26, oa b28, oa r_31, oi 5, .unset] [(.int 6), (.int 6)]))
        refine q_icmpYes 106 B X37 at_101 rfl (teq (by decide)).1 rfl rfl (by decide) ?_
        refine q_iload B X37 at_106 rfl rfl ?_
        refine q_ifYes 187 B X37 at_108 rfl ((if0 _ _).trans (teq (by decide)).1) rfl rfl (by decide) ?_
        refine q_aload B X37 at_187 rfl rfl rfl ?_
        refine q_iconst B X37 at_189 rfl ?_
        show G (T37.setTop (mkF m 190 #[oi i0, oi i1, oi i2, oi i3, oi i4, oi 0, oi 1, oi c23, oi c24, oi c25, oa a_26, oa b28, oa r_31, oi 5, .unset] [(.int 0), (.ref r_31)]))
        refine qV B X37 hZ31 hown31 170 171 173 172 8 174 rfl rfl rfl rfl rfl rfl (own_ca hw [(100 : Int32), (101 : Int32), (110 : Int32), (121 : Int32), (32 : Int32), c23] 0 O31 r31_0 r31_1 r31_2 W36 (Or.inl ⟨(own_allc (by decide) (own_allc (by decide) (own_allc (by decide) (own_allc (by decide) (own_allc (by decide) (own_allc (hall _ (List.mem_of_getElem? (i := 0) rfl)) own_alln)))))), rfl, rfl, rfl⟩) (Nat.le_of_ble_eq_true rfl) (own_allc (by decide) (own_allc (by decide) (own_allc (by decide) (own_allc (by decide) (own_allc (by decide) (own_allc hr_c23 own_alln)))))) g0_S g1_hcpt g2_S g3_S g4_S (Nat.le_of_ble_eq_true rfl) g5_hfmt g6_S) e37 r31_0 own_pd17 rfl rfl at_190 0 rfl rfl rfl (by decide) ?_
        rintro T38 h38 _ L38 X38 e38 ⟨rfl, M38, rfl⟩
        have N38 := Fr.app N37 M38
        show G (T38.setTop (mkF m 193 #[oi i0, oi i1, oi i2, oi i3, oi i4, oi 0, oi 1, oi c23, oi c24, oi c25, oa a_26, oa b28, oa r_31, oi 5, .unset] [(.int ([(100 : Int32), (101 : Int32), (110 : Int32), (121 : Int32), (32 : Int32), c23].getD 0 0))]))
        show G (T38.setTop (mkF m 193 #[oi i0, oi i1, oi i2, oi i3, oi i4, oi 0, oi 1, oi c23, oi c24, oi c25, oa a_26, oa b28, oa r_31, oi 5, .unset] [(.int 100)]))
        refine q_bipush B X38 at_193 rfl ?_
        refine q_icmpNo B X38 at_195 rfl (teq (by decide)).2 rfl ?_
        refine q_aload B X38 at_198 rfl rfl rfl ?_
        refine q_iconst B X38 at_200 rfl ?_
        show G (T38.setTop (mkF m 201 #[oi i0, oi i1, oi i2, oi i3, oi i4, oi 0, oi 1, oi c23, oi c24, oi c25, oa a_26, oa b28, oa r_31, oi 5, .unset] [(.int 1), (.ref r_31)]))
        refine qV B X38 hZ31 hown31 170 171 173 172 8 174 rfl rfl rfl rfl rfl rfl (own_ca hw [(100 : Int32), (101 : Int32), (110 : Int32), (121 : Int32), (32 : Int32), c23] 1 O31 r31_0 r31_1 r31_2 W36 (Or.inl ⟨(own_allc (by decide) (own_allc (by decide) (own_allc (by decide) (own_allc (by decide) (own_allc (by decide) (own_allc (hall _ (List.mem_of_getElem? (i := 0) rfl)) own_alln)))))), rfl, rfl, rfl⟩) (Nat.le_of_ble_eq_true rfl) (own_allc (by decide) (own_allc (by decide) (own_allc (by decide) (own_allc (by decide) (own_allc (by decide) (own_allc hr_c23 own_alln)))))) g0_S g1_hcpt g2_S g3_S g4_S (Nat.le_of_ble_eq_true rfl) g5_hfmt g6_S) e38 r31_0 own_pd17 rfl rfl at_201 0 rfl rfl rfl (by decide) ?_
        rintro T39 h39 _ L39 X39 e39 ⟨rfl, M39, rfl⟩
        have N39 := Fr.app N38 M39
        show G (T39.setTop (mkF m 204 #[oi i0, oi i1, oi i2, oi i3, oi i4, oi 0, oi 1, oi c23, oi c24, oi c25, oa a_26, oa b28, oa r_31, oi 5, .unset] [(.int ([(100 : Int32), (101 : Int32), (110 : Int32), (121 : Int32), (32 : Int32), c23].getD 1 0))]))
        show G (T39.setTop (mkF m 204 #[oi i0, oi i1, oi i2, oi i3, oi i4, oi 0, oi 1, oi c23, oi c24, oi c25, oa a_26, oa b28, oa r_31, oi 5, .unset] [(.int 101)]))
        refine q_bipush B X39 at_204 rfl ?_
        refine q_icmpNo B X39 at_206 rfl (teq (by decide)).2 rfl ?_
        refine q_aload B X39 at_209 rfl rfl rfl ?_
        refine q_iconst B X39 at_211 rfl ?_
        show G (T39.setTop (mkF m 212 #[oi i0, oi i1, oi i2, oi i3, oi i4, oi 0, oi 1, oi c23, oi c24, oi c25, oa a_26, oa b28, oa r_31, oi 5, .unset] [(.int 2), (.ref r_31)]))
        refine qV B X39 hZ31 hown31 170 171 173 172 8 174 rfl rfl rfl rfl rfl rfl (own_ca hw [(100 : Int32), (101 : Int32), (110 : Int32), (121 : Int32), (32 : Int32), c23] 2 O31 r31_0 r31_1 r31_2 W36 (Or.inl ⟨(own_allc (by decide) (own_allc (by decide) (own_allc (by decide) (own_allc (by decide) (own_allc (by decide) (own_allc (hall _ (List.mem_of_getElem? (i := 0) rfl)) own_alln)))))), rfl, rfl, rfl⟩) (Nat.le_of_ble_eq_true rfl) (own_allc (by decide) (own_allc (by decide) (own_allc (by decide) (own_allc (by decide) (own_allc (by decide) (own_allc hr_c23 own_alln)))))) g0_S g1_hcpt g2_S g3_S g4_S (Nat.le_of_ble_eq_true rfl) g5_hfmt g6_S) e39 r31_0 own_pd17 rfl rfl at_212 0 rfl rfl rfl (by decide) ?_
        rintro T40 h40 _ L40 X40 e40 ⟨rfl, M40, rfl⟩
        have N40 := Fr.app N39 M40
        show G (T40.setTop (mkF m 215 #[oi i0, oi i1, oi i2, oi i3, oi i4, oi 0, oi 1, oi c23, oi c24, oi c25, oa a_26, oa b28, oa r_31, oi 5, .unset] [(.int ([(100 : Int32), (101 : Int32), (110 : Int32), (121 : Int32), (32 : Int32), c23].getD 2 0))]))
        show G (T40.setTop (mkF m 215 #[oi i0, oi i1, oi i2, oi i3, oi i4, oi 0, oi 1, oi c23, oi c24, oi c25, oa a_26, oa b28, oa r_31, oi 5, .unset] [(.int 110)]))
        refine q_bipush B X40 at_215 rfl ?_
        refine q_icmpNo B X40 at_217 rfl (teq (by decide)).2 rfl ?_
        refine q_aload B X40 at_220 rfl rfl rfl ?_
        refine q_iconst B X40 at_222 rfl ?_
        show G (T40.setTop (mkF m 223 #[oi i0, oi i1, oi i2, oi i3, oi i4, oi 0, oi 1, oi c23, oi c24, oi c25, oa a_26, oa b28, oa r_31, oi 5, .unset] [(.int 3), (.ref r_31)]))
        refine qV B X40 hZ31 hown31 170 171 173 172 8 174 rfl rfl rfl rfl rfl rfl (own_ca hw [(100 : Int32), (101 : Int32), (110 : Int32), (121 : Int32), (32 : Int32), c23] 3 O31 r31_0 r31_1 r31_2 W36 (Or.inl ⟨(own_allc (by decide) (own_allc (by decide) (own_allc (by decide) (own_allc (by decide) (own_allc (by decide) (own_allc (hall _ (List.mem_of_getElem? (i := 0) rfl)) own_alln)))))), rfl, rfl, rfl⟩) (Nat.le_of_ble_eq_true rfl) (own_allc (by decide) (own_allc (by decide) (own_allc (by decide) (own_allc (by decide) (own_allc (by decide) (own_allc hr_c23 own_alln)))))) g0_S g1_hcpt g2_S g3_S g4_S (Nat.le_of_ble_eq_true rfl) g5_hfmt g6_S) e40 r31_0 own_pd17 rfl rfl at_223 0 rfl rfl rfl (by decide) ?_
        rintro T41 h41 _ L41 X41 e41 ⟨rfl, M41, rfl⟩
        have N41 := Fr.app N40 M41
        show G (T41.setTop (mkF m 226 #[oi i0, oi i1, oi i2, oi i3, oi i4, oi 0, oi 1, oi c23, oi c24, oi c25, oa a_26, oa b28, oa r_31, oi 5, .unset] [(.int ([(100 : Int32), (101 : Int32), (110 : Int32), (121 : Int32), (32 : Int32), c23].getD 3 0))]))
        show G (T41.setTop (mkF m 226 #[oi i0, oi i1, oi i2, oi i3, oi i4, oi 0, oi 1, oi c23, oi c24, oi c25, oa a_26, oa b28, oa r_31, oi 5, .unset] [(.int 121)]))
        refine q_bipush B X41 at_226 rfl ?_
        refine q_icmpNo B X41 at_228 rfl (teq (by decide)).2 rfl ?_
        refine q_aload B X41 at_231 rfl rfl rfl ?_
        refine q_iconst B X41 at_233 rfl ?_
        show G (T41.setTop (mkF m 234 #[oi i0, oi i1, oi i2, oi i3, oi i4, oi 0, oi 1, oi c23, oi c24, oi c25, oa a_26, oa b28, oa r_31, oi 5, .unset] [(.int 4), (.ref r_31)]))
        refine qV B X41 hZ31 hown31 170 171 173 172 8 174 rfl rfl rfl rfl rfl rfl (own_ca hw [(100 : Int32), (101 : Int32), (110 : Int32), (121 : Int32), (32 : Int32), c23] 4 O31 r31_0 r31_1 r31_2 W36 (Or.inl ⟨(own_allc (by decide) (own_allc (by decide) (own_allc (by decide) (own_allc (by decide) (own_allc (by decide) (own_allc (hall _ (List.mem_of_getElem? (i := 0) rfl)) own_alln)))))), rfl, rfl, rfl⟩) (Nat.le_of_ble_eq_true rfl) (own_allc (by decide) (own_allc (by decide) (own_allc (by decide) (own_allc (by decide) (own_allc (by decide) (own_allc hr_c23 own_alln)))))) g0_S g1_hcpt g2_S g3_S g4_S (Nat.le_of_ble_eq_true rfl) g5_hfmt g6_S) e41 r31_0 own_pd17 rfl rfl at_234 0 rfl rfl rfl (by decide) ?_
        rintro T42 h42 _ L42 X42 e42 ⟨rfl, M42, rfl⟩
        have N42 := Fr.app N41 M42
        show G (T42.setTop (mkF m 237 #[oi i0, oi i1, oi i2, oi i3, oi i4, oi 0, oi 1, oi c23, oi c24, oi c25, oa a_26, oa b28, oa r_31, oi 5, .unset] [(.int ([(100 : Int32), (101 : Int32), (110 : Int32), (121 : Int32), (32 : Int32), c23].getD 4 0))]))
        show G (T42.setTop (mkF m 237 #[oi i0, oi i1, oi i2, oi i3, oi i4, oi 0, oi 1, oi c23, oi c24, oi c25, oa a_26, oa b28, oa r_31, oi 5, .unset] [(.int 32)]))
        refine q_bipush B X42 at_237 rfl ?_
        refine q_icmpNo B X42 at_239 rfl (teq (by decide)).2 rfl ?_
        refine q_iconst B X42 at_242 rfl ?_
        refine q_goto 247 B X42 at_243 rfl rfl (by decide) ?_
        refine q_istore B X42 at_247 rfl rfl rfl ?_
        refine q_iload B X42 at_249 rfl rfl ?_
        refine q_ifYes 256 B X42 at_251 rfl ((if0 _ _).trans (feq (by decide)).2) rfl rfl (by decide) ?_
        refine q_iload B X42 at_256 rfl rfl ?_
        refine q_iconst B X42 at_258 rfl ?_
        refine q_icmpNo B X42 at_259 rfl (flt (by decide)).1 rfl ?_
        refine q_aload B X42 at_262 rfl rfl rfl ?_
        refine q_iload B X42 at_264 rfl rfl ?_
        show G (T42.setTop (mkF m 266 #[oi i0, oi i1, oi i2, oi i3, oi i4, oi 0, oi 1, oi c23, oi c24, oi c25, oa a_26, oa b28, oa r_31, oi 5, oi 1] [(.int 5), (.ref r_31)]))
        refine qV B X42 hZ31 hown31 170 171 173 172 8 174 rfl rfl rfl rfl rfl rfl (own_ca hw [(100 : Int32), (101 : Int32), (110 : Int32), (121 : Int32), (32 : Int32), c23] 5 O31 r31_0 r31_1 r31_2 W36 (Or.inl ⟨(own_allc (by decide) (own_allc (by decide) (own_allc (by decide) (own_allc (by decide) (own_allc (by decide) (own_allc (hall _ (List.mem_of_getElem? (i := 0) rfl)) own_alln)))))), rfl, rfl, rfl⟩) (Nat.le_of_ble_eq_true rfl) (own_allc (by decide) (own_allc (by decide) (own_allc (by decide) (own_allc (by decide) (own_allc (by decide) (own_allc hr_c23 own_alln)))))) g0_S g1_hcpt g2_S g3_S g4_S (Nat.le_of_ble_eq_true rfl) g5_hfmt g6_S) e42 r31_0 own_pd17 rfl rfl at_266 0 rfl rfl rfl (by decide) ?_
        rintro T43 h43 _ L43 X43 e43 ⟨rfl, M43, rfl⟩
        have N43 := Fr.app N42 M43
        show G (T43.setTop (mkF m 269 #[oi i0, oi i1, oi i2, oi i3, oi i4, oi 0, oi 1, oi c23, oi c24, oi c25, oa a_26, oa b28, oa r_31, oi 5, oi 1] [(.int ([(100 : Int32), (101 : Int32), (110 : Int32), (121 : Int32), (32 : Int32), c23].getD 5 0))]))
        show G (T43.setTop (mkF m 269 #[oi i0, oi i1, oi i2, oi i3, oi i4, oi 0, oi 1, oi c23, oi c24, oi c25, oa a_26, oa b28, oa r_31, oi 5, oi 1] [(.int c23)]))
        refine q_iload B X43 at_269 rfl rfl ?_
        refine q_icmpYes 276 B X43 at_271 rfl (teq (rfl : c23 = c23)).1 rfl rfl (by decide) ?_
        refine q_iload B X43 at_276 rfl rfl ?_
        refine q_iconst B X43 at_278 rfl ?_
        refine q_icmpYes 298 B X43 at_279 rfl (tlt (by decide)).1 rfl rfl (by decide) ?_
        refine q_iload B X43 at_298 rfl rfl ?_
        refine q_iconst B X43 at_300 rfl ?_
        refine q_icmpYes 320 B X43 at_301 rfl (tlt (by decide)).1 rfl rfl (by decide) ?_
        refine q_iconst B X43 at_320 rfl ?_
        show G (T43.setTop (mkF m 321 #[oi i0, oi i1, oi i2, oi i3, oi i4, oi 0, oi 1, oi c23, oi c24, oi c25, oa a_26, oa b28, oa r_31, oi 5, oi 1] [(.int 1)]))
        exact qRNW B hR hret (by simp) X43 at_321 e43 SI31 (Nat.le_refl _) hZ31 C31 ⟨rfl, N43, K31⟩ (by decide)
      · skip
        have hv := own_is16_list h16
        subst hv
        have W44 : Arv Z h26 t_26 kt_26 .byte (2 : Int32) [(.int (own_lo c23)), (.int (own_hi c23))] (.int 0) := r26_3
        show G (T26.setTop (mkF m 51 #[oi i0, oi i1, oi i2, oi i3, oi i4, oi 0, oi 1, oi c23, oi c24, oi c25, .unset, .unset, .unset, .unset, .unset] [(.ref a_26)]))
        refine q_astore B X26 at_51 rfl rfl rfl rfl ?_
        refine qnw B X26 hZ hown 35 36 37 rfl rfl rfl e26 at_53 (by decide) fun T45 h45 b45 z45 X45 e45 E45 A45 D45 => ?_
        have R45 := (CHr.ext E45 R26.1)
        have C45 := C26.trans R45
        have K45 := K26.ext E45
        have O45 := O26.ext E45
        refine q_dup B X45 at_56 rfl rfl rfl ?_
        refine q_iload B X45 at_57 rfl rfl ?_
        refine q_aload B X45 at_59 rfl rfl rfl ?_
        show G (T45.setTop (mkF m 61 #[oi i0, oi i1, oi i2, oi i3, oi i4, oi 0, oi 1, oi c23, oi c24, oi c25, oa a_26, .unset, .unset, .unset, .unset] [(.ref a_26), (.int 0), (.ref b45), (.ref b45)]))
        refine qI B X45 hZ hown 38 39 37 40 rfl rfl rfl rfl rfl (own_finit hw (0 : Int32) (.ref a_26) O45 rfl A45 (own_ge O26 (Nat.le_of_eq z45.symm)) (D45 (Or.inr (ow hw 48 rfl)) (ty := .boolean) (by decide)) (D45 (Or.inr (ow hw 50 rfl)) (ty := (.object "java/lang/String")) (by decide))) e45 own_pd34 rfl rfl at_61 1 rfl rfl rfl (by decide) ?_
        rintro T46 h46 _ L46 X46 e46 ⟨rfl, M46, J46, r46_0, r46_1, r46_2⟩
        have N46 := Fr.app N26 M46
        have sf47 : Safe Z consts_1 _ h45 b45 := (Safe.exa hZ.alike A45 (by decide) (by decide))
        have R46 := (CHr.keep J46 (allS sf47 all0) R45.1)
        have C46 := C45.trans R46
        have K46 := K45.trans J46 (allS (Or.inr (Nat.le_trans K26.1 (Nat.le_of_eq z45.symm))) all0)
        have O46 := O45.keep J46 (allS (own_ge O26 (Nat.le_of_eq z45.symm)) all0)
        refine q_astore B X46 at_64 rfl rfl rfl rfl ?_
        refine q_aload B X46 at_66 rfl rfl rfl ?_
        show G (T46.setTop (mkF m 68 #[oi i0, oi i1, oi i2, oi i3, oi i4, oi 0, oi 1, oi c23, oi c24, oi c25, oa a_26, oa b45, .unset, .unset, .unset] [(.ref b45)]))
        have f49 := ((r26_0.ext E45).keep J46)
        have f50 := ((r26_1.ext E45).keep J46 (ninS (own_ne r26_0.lt (Nat.le_of_eq z45.symm)) nin0))
        have f51 := ((r26_2.ext E45).keep J46 (ninS (own_ne r26_0.lt (Nat.le_of_eq z45.symm)) nin0))
        have f52 := ((W44.ext E45).keep J46 (ninS (own_ne r26_3.lt (Nat.le_of_eq z45.symm)) nin0))
        refine qVW B X46 hZ hown 51 52 54 53 37 55 rfl rfl rfl rfl rfl rfl (own_line0_1 hw hEL (1 : Int32) (6 : Int32) (12 : Int32) 10 12 O46 r46_0 r46_1 r46_2 f49 f50 f51 f52 g2_S g3_S g4_S g0_S g1_hcpt (by decide) (by decide) (by decide) ⟨by decide, by decide, rfl, by decide, by decide, Nat.le_of_ble_eq_true rfl⟩ (by decide) ⟨by decide, by decide, by decide, by decide, Nat.le_of_ble_eq_true rfl⟩ g5_hfmt g6_S) e46 SI0 (Nat.le_trans (Nat.le_trans (Nat.le_trans (Nat.le_refl _) R26.2.1) R45.2.1) R46.2.1) hEL R46.1 r46_0 own_pd31 rfl rfl at_68 0 rfl rfl rfl (by decide) ?_
        rintro T48 h48 v48 L48 X48 e48 SI48 hZ48 hown48 Y48 ⟨r_48, u_48, ku_48, rfl, M48, J48, y48_0, y48_1, r48_0, r48_1, r48_2, r48_3⟩
        have N48 := Fr.app N46 M48
        have R48 := Y48
        have C48 := C46.trans R48
        have K48 := K46.trans J48 all0
        have O48 := O46.keep J48 all0
        show G (T48.setTop (mkF m 71 #[oi i0, oi i1, oi i2, oi i3, oi i4, oi 0, oi 1, oi c23, oi c24, oi c25, oa a_26, oa b45, .unset, .unset, .unset] [(.ref r_48)]))
        have W53 : Arv Z h48 u_48 ku_48 .byte (12 : Int32) [(.int (own_lo (100 : Int32))), (.int (own_hi (100 : Int32))), (.int (own_lo (101 : Int32))), (.int (own_hi (101 : Int32))), (.int (own_lo (110 : Int32))), (.int (own_hi (110 : Int32))), (.int (own_lo (121 : Int32))), (.int (own_hi (121 : Int32))), (.int (own_lo (32 : Int32))), (.int (own_hi (32 : Int32))), (.int (own_lo c23)), (.int (own_hi c23))] (.int 0) := r48_3
        show G (T48.setTop (mkF m 71 #[oi i0, oi i1, oi i2, oi i3, oi i4, oi 0, oi 1, oi c23, oi c24, oi c25, oa a_26, oa b45, .unset, .unset, .unset] [(.ref r_48)]))
        refine q_astore B X48 at_71 rfl rfl rfl rfl ?_
        refine q_iload B X48 at_73 rfl rfl ?_
        refine q_ifYes 83 B X48 at_75 rfl ((if0 _ _).trans (teq (by decide)).1) rfl rfl (by decide) ?_
        refine q_iconst B X48 at_83 rfl ?_
        refine q_istore B X48 at_84 rfl rfl rfl ?_
        refine q_aload B X48 at_86 rfl rfl rfl ?_
        refine q_ifnullNo B X48 at_88 rfl rfl ?_
        refine q_aload B X48 at_91 rfl rfl rfl ?_
        show G (T48.setTop (mkF m 93 #[oi i0, oi i1, oi i2, oi i3, oi i4, oi 0, oi 1, oi c23, oi c24, oi c25, oa a_26, oa b45, oa r_48, oi 5, .unset] [(.ref r_48)]))
        refine qV B X48 hZ48 hown48 169 88 90 89 8 91 rfl rfl rfl rfl rfl rfl (own_len hw [(100 : Int32), (101 : Int32), (110 : Int32), (121 : Int32), (32 : Int32), c23] O48 r48_0 r48_1 r48_2 W53 (Or.inr ⟨own_big_app [(100 : Int32), (101 : Int32), (110 : Int32), (121 : Int32), (32 : Int32)] hbig, rfl, rfl, own_is16_bytes [(100 : Int32), (101 : Int32), (110 : Int32), (121 : Int32), (32 : Int32), c23]⟩) (Nat.le_of_ble_eq_true rfl) (own_allc (by decide) (own_allc (by decide) (own_allc (by decide) (own_allc (by decide) (own_allc (by decide) (own_allc hr_c23 own_alln)))))) g0_S g1_hcpt) e48 r48_0 own_pd12 rfl rfl at_93 0 rfl rfl rfl (by decide) ?_
        rintro T54 h54 _ L54 X54 e54 ⟨rfl, M54, rfl⟩
        have N54 := Fr.app N48 M54
        show G (T54.setTop (mkF m 96 #[oi i0, oi i1, oi i2, oi i3, oi i4, oi 0, oi 1, oi c23, oi c24, oi c25, oa a_26, oa b45, oa r_48, oi 5, .unset] [(.int (Int32.ofNat [(100 : Int32), (101 : Int32), (110 : Int32), (121 : Int32), (32 : Int32), c23].length))]))
        show G (T54.setTop (mkF m 96 #[oi i0, oi i1, oi i2, oi i3, oi i4, oi 0, oi 1, oi c23, oi c24, oi c25, oa a_26, oa b45, oa r_48, oi 5, .unset] [(.int 6)]))
        refine q_iload B X54 at_96 rfl rfl ?_
        refine q_iload B X54 at_98 rfl rfl ?_
        refine q_iadd B X54 at_100 rfl rfl ?_
        show G (T54.setTop (mkF m 101 #[oi i0, oi i1, oi i2, oi i3, oi i4, oi 0, oi 1, oi c23, oi c24, oi c25, oa a_26, oa b45, oa r_48, oi 5, .unset] [(.int ((5 : Int32) + (1 : Int32))), (.int 6)]))
        rw [show ((5 : Int32) + (1 : Int32)) = (6 : Int32) from by decide]
        show G (T54.setTop (mkF m 101 #[oi i0, oi i1, oi i2, oi i3, oi i4, oi 0, oi 1, oi c23, oi c24, oi c25, oa a_26, oa b45, oa r_48, oi 5, .unset] [(.int 6), (.int 6)]))
        refine q_icmpYes 106 B X54 at_101 rfl (teq (by decide)).1 rfl rfl (by decide) ?_
        refine q_iload B X54 at_106 rfl rfl ?_
        refine q_ifYes 187 B X54 at_108 rfl ((if0 _ _).trans (teq (by decide)).1) rfl rfl (by decide) ?_
        refine q_aload B X54 at_187 rfl rfl rfl ?_
        refine q_iconst B X54 at_189 rfl ?_
        show G (T54.setTop (mkF m 190 #[oi i0, oi i1, oi i2, oi i3, oi i4, oi 0, oi 1, oi c23, oi c24, oi c25, oa a_26, oa b45, oa r_48, oi 5, .unset] [(.int 0), (.ref r_48)]))
        refine qV B X54 hZ48 hown48 170 171 173 172 8 174 rfl rfl rfl rfl rfl rfl (own_ca hw [(100 : Int32), (101 : Int32), (110 : Int32), (121 : Int32), (32 : Int32), c23] 0 O48 r48_0 r48_1 r48_2 W53 (Or.inr ⟨own_big_app [(100 : Int32), (101 : Int32), (110 : Int32), (121 : Int32), (32 : Int32)] hbig, rfl, rfl, own_is16_bytes [(100 : Int32), (101 : Int32), (110 : Int32), (121 : Int32), (32 : Int32), c23]⟩) (Nat.le_of_ble_eq_true rfl) (own_allc (by decide) (own_allc (by decide) (own_allc (by decide) (own_allc (by decide) (own_allc (by decide) (own_allc hr_c23 own_alln)))))) g0_S g1_hcpt g2_S g3_S g4_S (Nat.le_of_ble_eq_true rfl) g5_hfmt g6_S) e54 r48_0 own_pd17 rfl rfl at_190 0 rfl rfl rfl (by decide) ?_
        rintro T55 h55 _ L55 X55 e55 ⟨rfl, M55, rfl⟩
        have N55 := Fr.app N54 M55
        show G (T55.setTop (mkF m 193 #[oi i0, oi i1, oi i2, oi i3, oi i4, oi 0, oi 1, oi c23, oi c24, oi c25, oa a_26, oa b45, oa r_48, oi 5, .unset] [(.int ([(100 : Int32), (101 : Int32), (110 : Int32), (121 : Int32), (32 : Int32), c23].getD 0 0))]))
        show G (T55.setTop (mkF m 193 #[oi i0, oi i1, oi i2, oi i3, oi i4, oi 0, oi 1, oi c23, oi c24, oi c25, oa a_26, oa b45, oa r_48, oi 5, .unset] [(.int 100)]))
        refine q_bipush B X55 at_193 rfl ?_
        refine q_icmpNo B X55 at_195 rfl (teq (by decide)).2 rfl ?_
        refine q_aload B X55 at_198 rfl rfl rfl ?_
        refine q_iconst B X55 at_200 rfl ?_
        show G (T55.setTop (mkF m 201 #[oi i0, oi i1, oi i2, oi i3, oi i4, oi 0, oi 1, oi c23, oi c24, oi c25, oa a_26, oa b45, oa r_48, oi 5, .unset] [(.int 1), (.ref r_48)]))
        refine qV B X55 hZ48 hown48 170 171 173 172 8 174 rfl rfl rfl rfl rfl rfl (own_ca hw [(100 : Int32), (101 : Int32), (110 : Int32), (121 : Int32), (32 : Int32), c23] 1 O48 r48_0 r48_1 r48_2 W53 (Or.inr ⟨own_big_app [(100 : Int32), (101 : Int32), (110 : Int32), (121 : Int32), (32 : Int32)] hbig, rfl, rfl, own_is16_bytes [(100 : Int32), (101 : Int32), (110 : Int32), (121 : Int32), (32 : Int32), c23]⟩) (Nat.le_of_ble_eq_true rfl) (own_allc (by decide) (own_allc (by decide) (own_allc (by decide) (own_allc (by decide) (own_allc (by decide) (own_allc hr_c23 own_alln)))))) g0_S g1_hcpt g2_S g3_S g4_S (Nat.le_of_ble_eq_true rfl) g5_hfmt g6_S) e55 r48_0 own_pd17 rfl rfl at_201 0 rfl rfl rfl (by decide) ?_
        rintro T56 h56 _ L56 X56 e56 ⟨rfl, M56, rfl⟩
        have N56 := Fr.app N55 M56
        show G (T56.setTop (mkF m 204 #[oi i0, oi i1, oi i2, oi i3, oi i4, oi 0, oi 1, oi c23, oi c24, oi c25, oa a_26, oa b45, oa r_48, oi 5, .unset] [(.int ([(100 : Int32), (101 : Int32), (110 : Int32), (121 : Int32), (32 : Int32), c23].getD 1 0))]))
        show G (T56.setTop (mkF m 204 #[oi i0, oi i1, oi i2, oi i3, oi i4, oi 0, oi 1, oi c23, oi c24, oi c25, oa a_26, oa b45, oa r_48, oi 5, .unset] [(.int 101)]))
        refine q_bipush B X56 at_204 rfl ?_
        refine q_icmpNo B X56 at_206 rfl (teq (by decide)).2 rfl ?_
        refine q_aload B X56 at_209 rfl rfl rfl ?_
        refine q_iconst B X56 at_211 rfl ?_
        show G (T56.setTop (mkF m 212 #[oi i0, oi i1, oi i2, oi i3, oi i4, oi 0, oi 1, oi c23, oi c24, oi c25, oa a_26, oa b45, oa r_48, oi 5, .unset] [(.int 2), (.ref r_48)]))
        refine qV B X56 hZ48 hown48 170 171 173 172 8 174 rfl rfl rfl rfl rfl rfl (own_ca hw [(100 : Int32), (101 : Int32), (110 : Int32), (121 : Int32), (32 : Int32), c23] 2 O48 r48_0 r48_1 r48_2 W53 (Or.inr ⟨own_big_app [(100 : Int32), (101 : Int32), (110 : Int32), (121 : Int32), (32 : Int32)] hbig, rfl, rfl, own_is16_bytes [(100 : Int32), (101 : Int32), (110 : Int32), (121 : Int32), (32 : Int32), c23]⟩) (Nat.le_of_ble_eq_true rfl) (own_allc (by decide) (own_allc (by decide) (own_allc (by decide) (own_allc (by decide) (own_allc (by decide) (own_allc hr_c23 own_alln)))))) g0_S g1_hcpt g2_S g3_S g4_S (Nat.le_of_ble_eq_true rfl) g5_hfmt g6_S) e56 r48_0 own_pd17 rfl rfl at_212 0 rfl rfl rfl (by decide) ?_
        rintro T57 h57 _ L57 X57 e57 ⟨rfl, M57, rfl⟩
        have N57 := Fr.app N56 M57
        show G (T57.setTop (mkF m 215 #[oi i0, oi i1, oi i2, oi i3, oi i4, oi 0, oi 1, oi c23, oi c24, oi c25, oa a_26, oa b45, oa r_48, oi 5, .unset] [(.int ([(100 : Int32), (101 : Int32), (110 : Int32), (121 : Int32), (32 : Int32), c23].getD 2 0))]))
        show G (T57.setTop (mkF m 215 #[oi i0, oi i1, oi i2, oi i3, oi i4, oi 0, oi 1, oi c23, oi c24, oi c25, oa a_26, oa b45, oa r_48, oi 5, .unset] [(.int 110)]))
        refine q_bipush B X57 at_215 rfl ?_
        refine q_icmpNo B X57 at_217 rfl (teq (by decide)).2 rfl ?_
        refine q_aload B X57 at_220 rfl rfl rfl ?_
        refine q_iconst B X57 at_222 rfl ?_
        show G (T57.setTop (mkF m 223 #[oi i0, oi i1, oi i2, oi i3, oi i4, oi 0, oi 1, oi c23, oi c24, oi c25, oa a_26, oa b45, oa r_48, oi 5, .unset] [(.int 3), (.ref r_48)]))
        refine qV B X57 hZ48 hown48 170 171 173 172 8 174 rfl rfl rfl rfl rfl rfl (own_ca hw [(100 : Int32), (101 : Int32), (110 : Int32), (121 : Int32), (32 : Int32), c23] 3 O48 r48_0 r48_1 r48_2 W53 (Or.inr ⟨own_big_app [(100 : Int32), (101 : Int32), (110 : Int32), (121 : Int32), (32 : Int32)] hbig, rfl, rfl, own_is16_bytes [(100 : Int32), (101 : Int32), (110 : Int32), (121 : Int32), (32 : Int32), c23]⟩) (Nat.le_of_ble_eq_true rfl) (own_allc (by decide) (own_allc (by decide) (own_allc (by decide) (own_allc (by decide) (own_allc (by decide) (own_allc hr_c23 own_alln)))))) g0_S g1_hcpt g2_S g3_S g4_S (Nat.le_of_ble_eq_true rfl) g5_hfmt g6_S) e57 r48_0 own_pd17 rfl rfl at_223 0 rfl rfl rfl (by decide) ?_
        rintro T58 h58 _ L58 X58 e58 ⟨rfl, M58, rfl⟩
        have N58 := Fr.app N57 M58
        show G (T58.setTop (mkF m 226 #[oi i0, oi i1, oi i2, oi i3, oi i4, oi 0, oi 1, oi c23, oi c24, oi c25, oa a_26, oa b45, oa r_48, oi 5, .unset] [(.int ([(100 : Int32), (101 : Int32), (110 : Int32), (121 : Int32), (32 : Int32), c23].getD 3 0))]))
        show G (T58.setTop (mkF m 226 #[oi i0, oi i1, oi i2, oi i3, oi i4, oi 0, oi 1, oi c23, oi c24, oi c25, oa a_26, oa b45, oa r_48, oi 5, .unset] [(.int 121)]))
        refine q_bipush B X58 at_226 rfl ?_
        refine q_icmpNo B X58 at_228 rfl (teq (by decide)).2 rfl ?_
        refine q_aload B X58 at_231 rfl rfl rfl ?_
        refine q_iconst B X58 at_233 rfl ?_
        show G (T58.setTop (mkF m 234 #[oi i0, oi i1, oi i2, oi i3, oi i4, oi 0, oi 1, oi c23, oi c24, oi c25, oa a_26, oa b45, oa r_48, oi 5, .unset] [(.int 4), (.ref r_48)]))
        refine qV B X58 hZ48 hown48 170 171 173 172 8 174 rfl rfl rfl rfl rfl rfl (own_ca hw [(100 : Int32), (101 : Int32), (110 : Int32), (121 : Int32), (32 : Int32), c23] 4 O48 r48_0 r48_1 r48_2 W53 (Or.inr ⟨own_big_app [(100 : Int32), (101 : Int32), (110 : Int32), (121 : Int32), (32 : Int32)] hbig, rfl, rfl, own_is16_bytes [(100 : Int32), (101 : Int32), (110 : Int32), (121 : Int32), (32 : Int32), c23]⟩) (Nat.le_of_ble_eq_true rfl) (own_allc (by decide) (own_allc (by decide) (own_allc (by decide) (own_allc (by decide) (own_allc (by decide) (own_allc hr_c23 own_alln)))))) g0_S g1_hcpt g2_S g3_S g4_S (Nat.le_of_ble_eq_true rfl) g5_hfmt g6_S) e58 r48_0 own_pd17 rfl rfl at_234 0 rfl rfl rfl (by decide) ?_
        rintro T59 h59 _ L59 X59 e59 ⟨rfl, M59, rfl⟩
        have N59 := Fr.app N58 M59
        show G (T59.setTop (mkF m 237 #[oi i0, oi i1, oi i2, oi i3, oi i4, oi 0, oi 1, oi c23, oi c24, oi c25, oa a_26, oa b45, oa r_48, oi 5, .unset] [(.int ([(100 : Int32), (101 : Int32), (110 : Int32), (121 : Int32), (32 : Int32), c23].getD 4 0))]))
        show G (T59.setTop (mkF m 237 #[oi i0, oi i1, oi i2, oi i3, oi i4, oi 0, oi 1, oi c23, oi c24, oi c25, oa a_26, oa b45, oa r_48, oi 5, .unset] [(.int 32)]))
        refine q_bipush B X59 at_237 rfl ?_
        refine q_icmpNo B X59 at_239 rfl (teq (by decide)).2 rfl ?_
        refine q_iconst B X59 at_242 rfl ?_
        refine q_goto 247 B X59 at_243 rfl rfl (by decide) ?_
        refine q_istore B X59 at_247 rfl rfl rfl ?_
        refine q_iload B X59 at_249 rfl rfl ?_
        refine q_ifYes 256 B X59 at_251 rfl ((if0 _ _).trans (feq (by decide)).2) rfl rfl (by decide) ?_
        refine q_iload B X59 at_256 rfl rfl ?_
        refine q_iconst B X59 at_258 rfl ?_
        refine q_icmpNo B X59 at_259 rfl (flt (by decide)).1 rfl ?_
        refine q_aload B X59 at_262 rfl rfl rfl ?_
        refine q_iload B X59 at_264 rfl rfl ?_
        show G (T59.setTop (mkF m 266 #[oi i0, oi i1, oi i2, oi i3, oi i4, oi 0, oi 1, oi c23, oi c24, oi c25, oa a_26, oa b45, oa r_48, oi 5, oi 1] [(.int 5), (.ref r_48)]))
        refine qV B X59 hZ48 hown48 170 171 173 172 8 174 rfl rfl rfl rfl rfl rfl (own_ca hw [(100 : Int32), (101 : Int32), (110 : Int32), (121 : Int32), (32 : Int32), c23] 5 O48 r48_0 r48_1 r48_2 W53 (Or.inr ⟨own_big_app [(100 : Int32), (101 : Int32), (110 : Int32), (121 : Int32), (32 : Int32)] hbig, rfl, rfl, own_is16_bytes [(100 : Int32), (101 : Int32), (110 : Int32), (121 : Int32), (32 : Int32), c23]⟩) (Nat.le_of_ble_eq_true rfl) (own_allc (by decide) (own_allc (by decide) (own_allc (by decide) (own_allc (by decide) (own_allc (by decide) (own_allc hr_c23 own_alln)))))) g0_S g1_hcpt g2_S g3_S g4_S (Nat.le_of_ble_eq_true rfl) g5_hfmt g6_S) e59 r48_0 own_pd17 rfl rfl at_266 0 rfl rfl rfl (by decide) ?_
        rintro T60 h60 _ L60 X60 e60 ⟨rfl, M60, rfl⟩
        have N60 := Fr.app N59 M60
        show G (T60.setTop (mkF m 269 #[oi i0, oi i1, oi i2, oi i3, oi i4, oi 0, oi 1, oi c23, oi c24, oi c25, oa a_26, oa b45, oa r_48, oi 5, oi 1] [(.int ([(100 : Int32), (101 : Int32), (110 : Int32), (121 : Int32), (32 : Int32), c23].getD 5 0))]))
        show G (T60.setTop (mkF m 269 #[oi i0, oi i1, oi i2, oi i3, oi i4, oi 0, oi 1, oi c23, oi c24, oi c25, oa a_26, oa b45, oa r_48, oi 5, oi 1] [(.int c23)]))
        refine q_iload B X60 at_269 rfl rfl ?_
        refine q_icmpYes 276 B X60 at_271 rfl (teq (rfl : c23 = c23)).1 rfl rfl (by decide) ?_
        refine q_iload B X60 at_276 rfl rfl ?_
        refine q_iconst B X60 at_278 rfl ?_
        refine q_icmpYes 298 B X60 at_279 rfl (tlt (by decide)).1 rfl rfl (by decide) ?_
        refine q_iload B X60 at_298 rfl rfl ?_
        refine q_iconst B X60 at_300 rfl ?_
        refine q_icmpYes 320 B X60 at_301 rfl (tlt (by decide)).1 rfl rfl (by decide) ?_
        refine q_iconst B X60 at_320 rfl ?_
        show G (T60.setTop (mkF m 321 #[oi i0, oi i1, oi i2, oi i3, oi i4, oi 0, oi 1, oi c23, oi c24, oi c25, oa a_26, oa b45, oa r_48, oi 5, oi 1] [(.int 1)]))
        exact qRNW B hR hret (by simp) X60 at_321 e60 SI48 (Nat.le_refl _) hZ48 C48 ⟨rfl, N60, K48⟩ (by decide)
    · skip
      show G (s₁.setTop (mkF m 18 #[oi i0, oi i1, oi i2, oi i3, oi i4, oi 0, oi 2, .unset, .unset, .unset, .unset, .unset, .unset, .unset, .unset] []))
      refine q_iloadN B X0 at_18 rfl rfl ?_
      refine hG _ _ (X0.ldcInt hx hown (mvT hZ (ow hw 0 rfl)) (g := (mkF m 19 #[oi i0, oi i1, oi i2, oi i3, oi i4, oi 0, oi 2, .unset, .unset, .unset, .unset, .unset, .unset, .unset, .unset] [(.int i2)])) rfl (hb hby at_19)) ?_
      refine q_iand B X0 at_21 rfl rfl ?_
      refine q_i2c B X0 at_22 rfl rfl ?_
      show G (s₁.setTop (mkF m 23 #[oi i0, oi i1, oi i2, oi i3, oi i4, oi 0, oi 2, .unset, .unset, .unset, .unset, .unset, .unset, .unset, .unset] [(.int ((i2 &&& (65535 : Int32)).toUInt32.toUInt16.toUInt32.toInt32))]))
      generalize hn_c61 : ((i2 &&& (65535 : Int32)).toUInt32.toUInt16.toUInt32.toInt32) = c61
      have hr_c61 := own_i2c16 hn_c61
      show G (s₁.setTop (mkF m 23 #[oi i0, oi i1, oi i2, oi i3, oi i4, oi 0, oi 2, .unset, .unset, .unset, .unset, .unset, .unset, .unset, .unset] [(.int c61)]))
      refine q_istore B X0 at_23 rfl rfl rfl ?_
      refine q_iloadN B X0 at_25 rfl rfl ?_
      refine hG _ _ (X0.ldcInt hx hown (mvT hZ (ow hw 0 rfl)) (g := (mkF m 26 #[oi i0, oi i1, oi i2, oi i3, oi i4, oi 0, oi 2, oi c61, .unset, .unset, .unset, .unset, .unset, .unset, .unset] [(.int i3)])) rfl (hb hby at_26)) ?_
      refine q_iand B X0 at_28 rfl rfl ?_
      refine q_i2c B X0 at_29 rfl rfl ?_
      show G (s₁.setTop (mkF m 30 #[oi i0, oi i1, oi i2, oi i3, oi i4, oi 0, oi 2, oi c61, .unset, .unset, .unset, .unset, .unset, .unset, .unset] [(.int ((i3 &&& (65535 : Int32)).toUInt32.toUInt16.toUInt32.toInt32))]))
      generalize hn_c62 : ((i3 &&& (65535 : Int32)).toUInt32.toUInt16.toUInt32.toInt32) = c62
      have hr_c62 := own_i2c16 hn_c62
      show G (s₁.setTop (mkF m 30 #[oi i0, oi i1, oi i2, oi i3, oi i4, oi 0, oi 2, oi c61, .unset, .unset, .unset, .unset, .unset, .unset, .unset] [(.int c62)]))
      refine q_istore B X0 at_30 rfl rfl rfl ?_
      refine q_iload B X0 at_32 rfl rfl ?_
      refine hG _ _ (X0.ldcInt hx hown (mvT hZ (ow hw 0 rfl)) (g := (mkF m 34 #[oi i0, oi i1, oi i2, oi i3, oi i4, oi 0, oi 2, oi c61, oi c62, .unset, .unset, .unset, .unset, .unset, .unset] [(.int i4)])) rfl (hb hby at_34)) ?_
      refine q_iand B X0 at_36 rfl rfl ?_
      refine q_i2c B X0 at_37 rfl rfl ?_
      show G (s₁.setTop (mkF m 38 #[oi i0, oi i1, oi i2, oi i3, oi i4, oi 0, oi 2, oi c61, oi c62, .unset, .unset, .unset, .unset, .unset, .unset] [(.int ((i4 &&& (65535 : Int32)).toUInt32.toUInt16.toUInt32.toInt32))]))
      generalize hn_c63 : ((i4 &&& (65535 : Int32)).toUInt32.toUInt16.toUInt32.toInt32) = c63
      have hr_c63 := own_i2c16 hn_c63
      show G (s₁.setTop (mkF m 38 #[oi i0, oi i1, oi i2, oi i3, oi i4, oi 0, oi 2, oi c61, oi c62, .unset, .unset, .unset, .unset, .unset, .unset] [(.int c63)]))
      refine q_istore B X0 at_38 rfl rfl rfl ?_
      refine q_iload B X0 at_40 rfl rfl ?_
      refine q_iload B X0 at_42 rfl rfl ?_
      refine q_iload B X0 at_44 rfl rfl ?_
      refine q_iload B X0 at_46 rfl rfl ?_
      show G (s₁.setTop (mkF m 48 #[oi i0, oi i1, oi i2, oi i3, oi i4, oi 0, oi 2, oi c61, oi c62, oi c63, .unset, .unset, .unset, .unset, .unset] [(.int c63), (.int c62), (.int c61), (.int 2)]))
      refine qS B X0 hZ hown 1 2 3 4 rfl rfl rfl rfl (own_make2 hw c61 c62 c63 O0 g0_S g1_hcpt g2_S g3_S g4_S hr_c61 hr_c62 hr_c63) e0 own_pd35 rfl rfl at_48 0 rfl rfl rfl (by decide) ?_
      rintro T64 h64 _ L64 X64 e64 ⟨a_64, t_64, kt_64, cd_64, nb_64, vs_64, rfl, M64, J64, y64_0, r64_0, r64_1, r64_2, r64_3, r64_4⟩
      have N64 := Fr.app N0 M64
      have R64 := (CHr.keep J64 all0 H0)
      have C64 := (CHr.refl H0).trans R64
      have K64 := (Keep.refl h0 []).trans J64 all0
      have O64 := O0.keep J64 all0
      show G (T64.setTop (mkF m 51 #[oi i0, oi i1, oi i2, oi i3, oi i4, oi 0, oi 2, oi c61, oi c62, oi c63, .unset, .unset, .unset, .unset, .unset] [(.ref a_64)]))
      rcases r64_4 with ⟨hall, rfl, rfl, rfl⟩ | ⟨hbig, rfl, rfl, h16⟩
      · skip
        have W65 : Arv Z h64 t_64 kt_64 .byte (2 : Int32) [(.int (c61.toInt8.toInt32)), (.int (c62.toInt8.toInt32))] (.int 0) := r64_3
        show G (T64.setTop (mkF m 51 #[oi i0, oi i1, oi i2, oi i3, oi i4, oi 0, oi 2, oi c61, oi c62, oi c63, .unset, .unset, .unset, .unset, .unset] [(.ref a_64)]))
        refine q_astore B X64 at_51 rfl rfl rfl rfl ?_
        refine qnw B X64 hZ hown 35 36 37 rfl rfl rfl e64 at_53 (by decide) fun T66 h66 b66 z66 X66 e66 E66 A66 D66 => ?_
        have R66 := (CHr.ext E66 R64.1)
        have C66 := C64.trans R66
        have K66 := K64.ext E66
        have O66 := O64.ext E66
        refine q_dup B X66 at_56 rfl rfl rfl ?_
        refine q_iload B X66 at_57 rfl rfl ?_
        refine q_aload B X66 at_59 rfl rfl rfl ?_
        show G (T66.setTop (mkF m 61 #[oi i0, oi i1, oi i2, oi i3, oi i4, oi 0, oi 2, oi c61, oi c62, oi c63, oa a_64, .unset, .unset, .unset, .unset] [(.ref a_64), (.int 0), (.ref b66), (.ref b66)]))
        refine qI B X66 hZ hown 38 39 37 40 rfl rfl rfl rfl rfl (own_finit hw (0 : Int32) (.ref a_64) O66 rfl A66 (own_ge O64 (Nat.le_of_eq z66.symm)) (D66 (Or.inr (ow hw 48 rfl)) (ty := .boolean) (by decide)) (D66 (Or.inr (ow hw 50 rfl)) (ty := (.object "java/lang/String")) (by decide))) e66 own_pd34 rfl rfl at_61 1 rfl rfl rfl (by decide) ?_
        rintro T67 h67 _ L67 X67 e67 ⟨rfl, M67, J67, r67_0, r67_1, r67_2⟩
        have N67 := Fr.app N64 M67
        have sf68 : Safe Z consts_1 _ h66 b66 := (Safe.exa hZ.alike A66 (by decide) (by decide))
        have R67 := (CHr.keep J67 (allS sf68 all0) R66.1)
        have C67 := C66.trans R67
        have K67 := K66.trans J67 (allS (Or.inr (Nat.le_trans K64.1 (Nat.le_of_eq z66.symm))) all0)
        have O67 := O66.keep J67 (allS (own_ge O64 (Nat.le_of_eq z66.symm)) all0)
        refine q_astore B X67 at_64 rfl rfl rfl rfl ?_
        refine q_aload B X67 at_66 rfl rfl rfl ?_
        show G (T67.setTop (mkF m 68 #[oi i0, oi i1, oi i2, oi i3, oi i4, oi 0, oi 2, oi c61, oi c62, oi c63, oa a_64, oa b66, .unset, .unset, .unset] [(.ref b66)]))
        have f70 := ((r64_0.ext E66).keep J67)
        have f71 := ((r64_1.ext E66).keep J67 (ninS (own_ne r64_0.lt (Nat.le_of_eq z66.symm)) nin0))
        have f72 := ((r64_2.ext E66).keep J67 (ninS (own_ne r64_0.lt (Nat.le_of_eq z66.symm)) nin0))
        have f73 := ((W65.ext E66).keep J67 (ninS (own_ne r64_3.lt (Nat.le_of_eq z66.symm)) nin0))
        refine qVW B X67 hZ hown 51 52 54 53 37 55 rfl rfl rfl rfl rfl rfl (own_line0_0 hw hEL (2 : Int32) (7 : Int32) (7 : Int32) 5 7 O67 r67_0 r67_1 r67_2 f70 f71 f72 f73 g2_S g3_S g4_S g0_S g1_hcpt (by decide) (by decide) (by decide) ⟨by decide, by decide, rfl, by decide, by decide, Nat.le_of_ble_eq_true rfl⟩ (by decide) ⟨by decide, by decide, by decide, by decide, Nat.le_of_ble_eq_true rfl⟩ g5_hfmt g6_S) e67 SI0 (Nat.le_trans (Nat.le_trans (Nat.le_trans (Nat.le_refl _) R64.2.1) R66.2.1) R67.2.1) hEL R67.1 r67_0 own_pd31 rfl rfl at_68 0 rfl rfl rfl (by decide) ?_
        rintro T69 h69 v69 L69 X69 e69 SI69 hZ69 hown69 Y69 ⟨r_69, u_69, ku_69, rfl, M69, J69, y69_0, y69_1, r69_0, r69_1, r69_2, r69_3⟩
        have N69 := Fr.app N67 M69
        have R69 := Y69
        have C69 := C67.trans R69
        have K69 := K67.trans J69 all0
        have O69 := O67.keep J69 all0
        show G (T69.setTop (mkF m 71 #[oi i0, oi i1, oi i2, oi i3, oi i4, oi 0, oi 2, oi c61, oi c62, oi c63, oa a_64, oa b66, .unset, .unset, .unset] [(.ref r_69)]))
        have W74 : Arv Z h69 u_69 ku_69 .byte (7 : Int32) [(.int 100), (.int 101), (.int 110), (.int 121), (.int 32), (.int (c61.toInt8.toInt32)), (.int (c62.toInt8.toInt32))] (.int 0) := r69_3
        show G (T69.setTop (mkF m 71 #[oi i0, oi i1, oi i2, oi i3, oi i4, oi 0, oi 2, oi c61, oi c62, oi c63, oa a_64, oa b66, .unset, .unset, .unset] [(.ref r_69)]))
        refine q_astore B X69 at_71 rfl rfl rfl rfl ?_
        refine q_iload B X69 at_73 rfl rfl ?_
        refine q_ifYes 83 B X69 at_75 rfl ((if0 _ _).trans (teq (by decide)).1) rfl rfl (by decide) ?_
        refine q_iconst B X69 at_83 rfl ?_
        refine q_istore B X69 at_84 rfl rfl rfl ?_
        refine q_aload B X69 at_86 rfl rfl rfl ?_
        refine q_ifnullNo B X69 at_88 rfl rfl ?_
        refine q_aload B X69 at_91 rfl rfl rfl ?_
        show G (T69.setTop (mkF m 93 #[oi i0, oi i1, oi i2, oi i3, oi i4, oi 0, oi 2, oi c61, oi c62, oi c63, oa a_64, oa b66, oa r_69, oi 5, .unset] [(.ref r_69)]))
        refine qV B X69 hZ69 hown69 169 88 90 89 8 91 rfl rfl rfl rfl rfl rfl (own_len hw [(100 : Int32), (101 : Int32), (110 : Int32), (121 : Int32), (32 : Int32), c61, c62] O69 r69_0 r69_1 r69_2 W74 (Or.inl ⟨(own_allc (by decide) (own_allc (by decide) (own_allc (by decide) (own_allc (by decide) (own_allc (by decide) (own_allc (hall _ (List.mem_of_getElem? (i := 0) rfl)) (own_allc (hall _ (List.mem_of_getElem? (i := 1) rfl)) own_alln))))))), rfl, rfl, rfl⟩) (Nat.le_of_ble_eq_true rfl) (own_allc (by decide) (own_allc (by decide) (own_allc (by decide) (own_allc (by decide) (own_allc (by decide) (own_allc hr_c61 (own_allc hr_c62 own_alln))))))) g0_S g1_hcpt) e69 r69_0 own_pd12 rfl rfl at_93 0 rfl rfl rfl (by decide) ?_
        rintro T75 h75 _ L75 X75 e75 ⟨rfl, M75, rfl⟩
        have N75 := Fr.app N69 M75
        show G (T75.setTop (mkF m 96 #[oi i0, oi i1, oi i2, oi i3, oi i4, oi 0, oi 2, oi c61, oi c62, oi c63, oa a_64, oa b66, oa r_69, oi 5, .unset] [(.int (Int32.ofNat [(100 : Int32), (101 : Int32), (110 : Int32), (121 : Int32), (32 : Int32), c61, c62].length))]))
        show G (T75.setTop (mkF m 96 #[oi i0, oi i1, oi i2, oi i3, oi i4, oi 0, oi 2, oi c61, oi c62, oi c63, oa a_64, oa b66, oa r_69, oi 5, .unset] [(.int 7)]))
        refine q_iload B X75 at_96 rfl rfl ?_
        refine q_iload B X75 at_98 rfl rfl ?_
        refine q_iadd B X75 at_100 rfl rfl ?_
        show G (T75.setTop (mkF m 101 #[oi i0, oi i1, oi i2, oi i3, oi i4, oi 0, oi 2, oi c61, oi c62, oi c63, oa a_64, oa b66, oa r_69, oi 5, .unset] [(.int ((5 : Int32) + (2 : Int32))), (.int 7)]))
        rw [show ((5 : Int32) + (2 : Int32)) = (7 : Int32) from by decide]
        show G (T75.setTop (mkF m 101 #[oi i0, oi i1, oi i2, oi i3, oi i4, oi 0, oi 2, oi c61, oi c62, oi c63, oa a_64, oa b66, oa r_69, oi 5, .unset] [(.int 7), (.int 7)]))
        refine q_icmpYes 106 B X75 at_101 rfl (teq (by decide)).1 rfl rfl (by decide) ?_
        refine q_iload B X75 at_106 rfl rfl ?_
        refine q_ifYes 187 B X75 at_108 rfl ((if0 _ _).trans (teq (by decide)).1) rfl rfl (by decide) ?_
        refine q_aload B X75 at_187 rfl rfl rfl ?_
        refine q_iconst B X75 at_189 rfl ?_
        show G (T75.setTop (mkF m 190 #[oi i0, oi i1, oi i2, oi i3, oi i4, oi 0, oi 2, oi c61, oi c62, oi c63, oa a_64, oa b66, oa r_69, oi 5, .unset] [(.int 0), (.ref r_69)]))
        refine qV B X75 hZ69 hown69 170 171 173 172 8 174 rfl rfl rfl rfl rfl rfl (own_ca hw [(100 : Int32), (101 : Int32), (110 : Int32), (121 : Int32), (32 : Int32), c61, c62] 0 O69 r69_0 r69_1 r69_2 W74 (Or.inl ⟨(own_allc (by decide) (own_allc (by decide) (own_allc (by decide) (own_allc (by decide) (own_allc (by decide) (own_allc (hall _ (List.mem_of_getElem? (i := 0) rfl)) (own_allc (hall _ (List.mem_of_getElem? (i := 1) rfl)) own_alln))))))), rfl, rfl, rfl⟩) (Nat.le_of_ble_eq_true rfl) (own_allc (by decide) (own_allc (by decide) (own_allc (by decide) (own_allc (by decide) (own_allc (by decide) (own_allc hr_c61 (own_allc hr_c62 own_alln))))))) g0_S g1_hcpt g2_S g3_S g4_S (Nat.le_of_ble_eq_true rfl) g5_hfmt g6_S) e75 r69_0 own_pd17 rfl rfl at_190 0 rfl rfl rfl (by decide) ?_
        rintro T76 h76 _ L76 X76 e76 ⟨rfl, M76, rfl⟩
        have N76 := Fr.app N75 M76
        show G (T76.setTop (mkF m 193 #[oi i0, oi i1, oi i2, oi i3, oi i4, oi 0, oi 2, oi c61, oi c62, oi c63, oa a_64, oa b66, oa r_69, oi 5, .unset] [(.int ([(100 : Int32), (101 : Int32), (110 : Int32), (121 : Int32), (32 : Int32), c61, c62].getD 0 0))]))
        show G (T76.setTop (mkF m 193 #[oi i0, oi i1, oi i2, oi i3, oi i4, oi 0, oi 2, oi c61, oi c62, oi c63, oa a_64, oa b66, oa r_69, oi 5, .unset] [(.int 100)]))
        refine q_bipush B X76 at_193 rfl ?_
        refine q_icmpNo B X76 at_195 rfl (teq (by decide)).2 rfl ?_
        refine q_aload B X76 at_198 rfl rfl rfl ?_
        refine q_iconst B X76 at_200 rfl ?_
        show G (T76.setTop (mkF m 201 #[oi i0, oi i1, oi i2, oi i3, oi i4, oi 0, oi 2, oi c61, oi c62, oi c63, oa a_64, oa b66, oa r_69, oi 5, .unset] [(.int 1), (.ref r_69)]))
        refine qV B X76 hZ69 hown69 170 171 173 172 8 174 rfl rfl rfl rfl rfl rfl (own_ca hw [(100 : Int32), (101 : Int32), (110 : Int32), (121 : Int32), (32 : Int32), c61, c62] 1 O69 r69_0 r69_1 r69_2 W74 (Or.inl ⟨(own_allc (by decide) (own_allc (by decide) (own_allc (by decide) (own_allc (by decide) (own_allc (by decide) (own_allc (hall _ (List.mem_of_getElem? (i := 0) rfl)) (own_allc (hall _ (List.mem_of_getElem? (i := 1) rfl)) own_alln))))))), rfl, rfl, rfl⟩) (Nat.le_of_ble_eq_true rfl) (own_allc (by decide) (own_allc (by decide) (own_allc (by decide) (own_allc (by decide) (own_allc (by decide) (own_allc hr_c61 (own_allc hr_c62 own_alln))))))) g0_S g1_hcpt g2_S g3_S g4_S (Nat.le_of_ble_eq_true rfl) g5_hfmt g6_S) e76 r69_0 own_pd17 rfl rfl at_201 0 rfl rfl rfl (by decide) ?_
        rintro T77 h77 _ L77 X77 e77 ⟨rfl, M77, rfl⟩
        have N77 := Fr.app N76 M77
        show G (T77.setTop (mkF m 204 #[oi i0, oi i1, oi i2, oi i3, oi i4, oi 0, oi 2, oi c61, oi c62, oi c63, oa a_64, oa b66, oa r_69, oi 5, .unset] [(.int ([(100 : Int32), (101 : Int32), (110 : Int32), (121 : Int32), (32 : Int32), c61, c62].getD 1 0))]))
        show G (T77.setTop (mkF m 204 #[oi i0, oi i1, oi i2, oi i3, oi i4, oi 0, oi 2, oi c61, oi c62, oi c63, oa a_64, oa b66, oa r_69, oi 5, .unset] [(.int 101)]))
        refine q_bipush B X77 at_204 rfl ?_
        refine q_icmpNo B X77 at_206 rfl (teq (by decide)).2 rfl ?_
        refine q_aload B X77 at_209 rfl rfl rfl ?_
        refine q_iconst B X77 at_211 rfl ?_
        show G (T77.setTop (mkF m 212 #[oi i0, oi i1, oi i2, oi i3, oi i4, oi 0, oi 2, oi c61, oi c62, oi c63, oa a_64, oa b66, oa r_69, oi 5, .unset] [(.int 2), (.ref r_69)]))
        refine qV B X77 hZ69 hown69 170 171 173 172 8 174 rfl rfl rfl rfl rfl rfl (own_ca hw [(100 : Int32), (101 : Int32), (110 : Int32), (121 : Int32), (32 : Int32), c61, c62] 2 O69 r69_0 r69_1 r69_2 W74 (Or.inl ⟨(own_allc (by decide) (own_allc (by decide) (own_allc (by decide) (own_allc (by decide) (own_allc (by decide) (own_allc (hall _ (List.mem_of_getElem? (i := 0) rfl)) (own_allc (hall _ (List.mem_of_getElem? (i := 1) rfl)) own_alln))))))), rfl, rfl, rfl⟩) (Nat.le_of_ble_eq_true rfl) (own_allc (by decide) (own_allc (by decide) (own_allc (by decide) (own_allc (by decide) (own_allc (by decide) (own_allc hr_c61 (own_allc hr_c62 own_alln))))))) g0_S g1_hcpt g2_S g3_S g4_S (Nat.le_of_ble_eq_true rfl) g5_hfmt g6_S) e77 r69_0 own_pd17 rfl rfl at_212 0 rfl rfl rfl (by decide) ?_
        rintro T78 h78 _ L78 X78 e78 ⟨rfl, M78, rfl⟩
        have N78 := Fr.app N77 M78
        show G (T78.setTop (mkF m 215 #[oi i0, oi i1, oi i2, oi i3, oi i4, oi 0, oi 2, oi c61, oi c62, oi c63, oa a_64, oa b66, oa r_69, oi 5, .unset] [(.int ([(100 : Int32), (101 : Int32), (110 : Int32), (121 : Int32), (32 : Int32), c61, c62].getD 2 0))]))
        show G (T78.setTop (mkF m 215 #[oi i0, oi i1, oi i2, oi i3, oi i4, oi 0, oi 2, oi c61, oi c62, oi c63, oa a_64, oa b66, oa r_69, oi 5, .unset] [(.int 110)]))
        refine q_bipush B X78 at_215 rfl ?_
        refine q_icmpNo B X78 at_217 rfl (teq (by decide)).2 rfl ?_
        refine q_aload B X78 at_220 rfl rfl rfl ?_
        refine q_iconst B X78 at_222 rfl ?_
        show G (T78.setTop (mkF m 223 #[oi i0, oi i1, oi i2, oi i3, oi i4, oi 0, oi 2, oi c61, oi c62, oi c63, oa a_64, oa b66, oa r_69, oi 5, .unset] [(.int 3), (.ref r_69)]))
        refine qV B X78 hZ69 hown69 170 171 173 172 8 174 rfl rfl rfl rfl rfl rfl (own_ca hw [(100 : Int32), (101 : Int32), (110 : Int32), (121 : Int32), (32 : Int32), c61, c62] 3 O69 r69_0 r69_1 r69_2 W74 (Or.inl ⟨(own_allc (by decide) (own_allc (by decide) (own_allc (by decide) (own_allc (by decide) (own_allc (by decide) (own_allc (hall _ (List.mem_of_getElem? (i := 0) rfl)) (own_allc (hall _ (List.mem_of_getElem? (i := 1) rfl)) own_alln))))))), rfl, rfl, rfl⟩) (Nat.le_of_ble_eq_true rfl) (own_allc (by decide) (own_allc (by decide) (own_allc (by decide) (own_allc (by decide) (own_allc (by decide) (own_allc hr_c61 (own_allc hr_c62 own_alln))))))) g0_S g1_hcpt g2_S g3_S g4_S (Nat.le_of_ble_eq_true rfl) g5_hfmt g6_S) e78 r69_0 own_pd17 rfl rfl at_223 0 rfl rfl rfl (by decide) ?_
        rintro T79 h79 _ L79 X79 e79 ⟨rfl, M79, rfl⟩
        have N79 := Fr.app N78 M79
        show G (T79.setTop (mkF m 226 #[oi i0, oi i1, oi i2, oi i3, oi i4, oi 0, oi 2, oi c61, oi c62, oi c63, oa a_64, oa b66, oa r_69, oi 5, .unset] [(.int ([(100 : Int32), (101 : Int32), (110 : Int32), (121 : Int32), (32 : Int32), c61, c62].getD 3 0))]))
        show G (T79.setTop (mkF m 226 #[oi i0, oi i1, oi i2, oi i3, oi i4, oi 0, oi 2, oi c61, oi c62, oi c63, oa a_64, oa b66, oa r_69, oi 5, .unset] [(.int 121)]))
        refine q_bipush B X79 at_226 rfl ?_
        refine q_icmpNo B X79 at_228 rfl (teq (by decide)).2 rfl ?_
        refine q_aload B X79 at_231 rfl rfl rfl ?_
        refine q_iconst B X79 at_233 rfl ?_
        show G (T79.setTop (mkF m 234 #[oi i0, oi i1, oi i2, oi i3, oi i4, oi 0, oi 2, oi c61, oi c62, oi c63, oa a_64, oa b66, oa r_69, oi 5, .unset] [(.int 4), (.ref r_69)]))
        refine qV B X79 hZ69 hown69 170 171 173 172 8 174 rfl rfl rfl rfl rfl rfl (own_ca hw [(100 : Int32), (101 : Int32), (110 : Int32), (121 : Int32), (32 : Int32), c61, c62] 4 O69 r69_0 r69_1 r69_2 W74 (Or.inl ⟨(own_allc (by decide) (own_allc (by decide) (own_allc (by decide) (own_allc (by decide) (own_allc (by decide) (own_allc (hall _ (List.mem_of_getElem? (i := 0) rfl)) (own_allc (hall _ (List.mem_of_getElem? (i := 1) rfl)) own_alln))))))), rfl, rfl, rfl⟩) (Nat.le_of_ble_eq_true rfl) (own_allc (by decide) (own_allc (by decide) (own_allc (by decide) (own_allc (by decide) (own_allc (by decide) (own_allc hr_c61 (own_allc hr_c62 own_alln))))))) g0_S g1_hcpt g2_S g3_S g4_S (Nat.le_of_ble_eq_true rfl) g5_hfmt g6_S) e79 r69_0 own_pd17 rfl rfl at_234 0 rfl rfl rfl (by decide) ?_
        rintro T80 h80 _ L80 X80 e80 ⟨rfl, M80, rfl⟩
        have N80 := Fr.app N79 M80
        show G (T80.setTop (mkF m 237 #[oi i0, oi i1, oi i2, oi i3, oi i4, oi 0, oi 2, oi c61, oi c62, oi c63, oa a_64, oa b66, oa r_69, oi 5, .unset] [(.int ([(100 : Int32), (101 : Int32), (110 : Int32), (121 : Int32), (32 : Int32), c61, c62].getD 4 0))]))
        show G (T80.setTop (mkF m 237 #[oi i0, oi i1, oi i2, oi i3, oi i4, oi 0, oi 2, oi c61, oi c62, oi c63, oa a_64, oa b66, oa r_69, oi 5, .unset] [(.int 32)]))
        refine q_bipush B X80 at_237 rfl ?_
        refine q_icmpNo B X80 at_239 rfl (teq (by decide)).2 rfl ?_
        refine q_iconst B X80 at_242 rfl ?_
        refine q_goto 247 B X80 at_243 rfl rfl (by decide) ?_
        refine q_istore B X80 at_247 rfl rfl rfl ?_
        refine q_iload B X80 at_249 rfl rfl ?_
        refine q_ifYes 256 B X80 at_251 rfl ((if0 _ _).trans (feq (by decide)).2) rfl rfl (by decide) ?_
        refine q_iload B X80 at_256 rfl rfl ?_
        refine q_iconst B X80 at_258 rfl ?_
        refine q_icmpNo B X80 at_259 rfl (flt (by decide)).1 rfl ?_
        refine q_aload B X80 at_262 rfl rfl rfl ?_
        refine q_iload B X80 at_264 rfl rfl ?_
        show G (T80.setTop (mkF m 266 #[oi i0, oi i1, oi i2, oi i3, oi i4, oi 0, oi 2, oi c61, oi c62, oi c63, oa a_64, oa b66, oa r_69, oi 5, oi 1] [(.int 5), (.ref r_69)]))
        refine qV B X80 hZ69 hown69 170 171 173 172 8 174 rfl rfl rfl rfl rfl rfl (own_ca hw [(100 : Int32), (101 : Int32), (110 : Int32), (121 : Int32), (32 : Int32), c61, c62] 5 O69 r69_0 r69_1 r69_2 W74 (Or.inl ⟨(own_allc (by decide) (own_allc (by decide) (own_allc (by decide) (own_allc (by decide) (own_allc (by decide) (own_allc (hall _ (List.mem_of_getElem? (i := 0) rfl)) (own_allc (hall _ (List.mem_of_getElem? (i := 1) rfl)) own_alln))))))), rfl, rfl, rfl⟩) (Nat.le_of_ble_eq_true rfl) (own_allc (by decide) (own_allc (by decide) (own_allc (by decide) (own_allc (by decide) (own_allc (by decide) (own_allc hr_c61 (own_allc hr_c62 own_alln))))))) g0_S g1_hcpt g2_S g3_S g4_S (Nat.le_of_ble_eq_true rfl) g5_hfmt g6_S) e80 r69_0 own_pd17 rfl rfl at_266 0 rfl rfl rfl (by decide) ?_
        rintro T81 h81 _ L81 X81 e81 ⟨rfl, M81, rfl⟩
        have N81 := Fr.app N80 M81
        show G (T81.setTop (mkF m 269 #[oi i0, oi i1, oi i2, oi i3, oi i4, oi 0, oi 2, oi c61, oi c62, oi c63, oa a_64, oa b66, oa r_69, oi 5, oi 1] [(.int ([(100 : Int32), (101 : Int32), (110 : Int32), (121 : Int32), (32 : Int32), c61, c62].getD 5 0))]))
        show G (T81.setTop (mkF m 269 #[oi i0, oi i1, oi i2, oi i3, oi i4, oi 0, oi 2, oi c61, oi c62, oi c63, oa a_64, oa b66, oa r_69, oi 5, oi 1] [(.int c61)]))
        refine q_iload B X81 at_269 rfl rfl ?_
        refine q_icmpYes 276 B X81 at_271 rfl (teq (rfl : c61 = c61)).1 rfl rfl (by decide) ?_
        refine q_iload B X81 at_276 rfl rfl ?_
        refine q_iconst B X81 at_278 rfl ?_
        refine q_icmpNo B X81 at_279 rfl (flt (by decide)).1 rfl ?_
        refine q_aload B X81 at_282 rfl rfl rfl ?_
        refine q_iload B X81 at_284 rfl rfl ?_
        refine q_iconst B X81 at_286 rfl ?_
        refine q_iadd B X81 at_287 rfl rfl ?_
        show G (T81.setTop (mkF m 288 #[oi i0, oi i1, oi i2, oi i3, oi i4, oi 0, oi 2, oi c61, oi c62, oi c63, oa a_64, oa b66, oa r_69, oi 5, oi 1] [(.int ((5 : Int32) + (1 : Int32))), (.ref r_69)]))
        rw [show ((5 : Int32) + (1 : Int32)) = (6 : Int32) from by decide]
        show G (T81.setTop (mkF m 288 #[oi i0, oi i1, oi i2, oi i3, oi i4, oi 0, oi 2, oi c61, oi c62, oi c63, oa a_64, oa b66, oa r_69, oi 5, oi 1] [(.int 6), (.ref r_69)]))
        refine qV B X81 hZ69 hown69 170 171 173 172 8 174 rfl rfl rfl rfl rfl rfl (own_ca hw [(100 : Int32), (101 : Int32), (110 : Int32), (121 : Int32), (32 : Int32), c61, c62] 6 O69 r69_0 r69_1 r69_2 W74 (Or.inl ⟨(own_allc (by decide) (own_allc (by decide) (own_allc (by decide) (own_allc (by decide) (own_allc (by decide) (own_allc (hall _ (List.mem_of_getElem? (i := 0) rfl)) (own_allc (hall _ (List.mem_of_getElem? (i := 1) rfl)) own_alln))))))), rfl, rfl, rfl⟩) (Nat.le_of_ble_eq_true rfl) (own_allc (by decide) (own_allc (by decide) (own_allc (by decide) (own_allc (by decide) (own_allc (by decide) (own_allc hr_c61 (own_allc hr_c62 own_alln))))))) g0_S g1_hcpt g2_S g3_S g4_S (Nat.le_of_ble_eq_true rfl) g5_hfmt g6_S) e81 r69_0 own_pd17 rfl rfl at_288 0 rfl rfl rfl (by decide) ?_
        rintro T82 h82 _ L82 X82 e82 ⟨rfl, M82, rfl⟩
        have N82 := Fr.app N81 M82
        show G (T82.setTop (mkF m 291 #[oi i0, oi i1, oi i2, oi i3, oi i4, oi 0, oi 2, oi c61, oi c62, oi c63, oa a_64, oa b66, oa r_69, oi 5, oi 1] [(.int ([(100 : Int32), (101 : Int32), (110 : Int32), (121 : Int32), (32 : Int32), c61, c62].getD 6 0))]))
        show G (T82.setTop (mkF m 291 #[oi i0, oi i1, oi i2, oi i3, oi i4, oi 0, oi 2, oi c61, oi c62, oi c63, oa a_64, oa b66, oa r_69, oi 5, oi 1] [(.int c62)]))
        refine q_iload B X82 at_291 rfl rfl ?_
        refine q_icmpYes 298 B X82 at_293 rfl (teq (rfl : c62 = c62)).1 rfl rfl (by decide) ?_
        refine q_iload B X82 at_298 rfl rfl ?_
        refine q_iconst B X82 at_300 rfl ?_
        refine q_icmpYes 320 B X82 at_301 rfl (tlt (by decide)).1 rfl rfl (by decide) ?_
        refine q_iconst B X82 at_320 rfl ?_
        show G (T82.setTop (mkF m 321 #[oi i0, oi i1, oi i2, oi i3, oi i4, oi 0, oi 2, oi c61, oi c62, oi c63, oa a_64, oa b66, oa r_69, oi 5, oi 1] [(.int 1)]))
        exact qRNW B hR hret (by simp) X82 at_321 e82 SI69 (Nat.le_refl _) hZ69 C69 ⟨rfl, N82, K69⟩ (by decide)
      · skip
        have hv := own_is16_list h16
        subst hv
        have W83 : Arv Z h64 t_64 kt_64 .byte (4 : Int32) [(.int (own_lo c61)), (.int (own_hi c61)), (.int (own_lo c62)), (.int (own_hi c62))] (.int 0) := r64_3
        show G (T64.setTop (mkF m 51 #[oi i0, oi i1, oi i2, oi i3, oi i4, oi 0, oi 2, oi c61, oi c62, oi c63, .unset, .unset, .unset, .unset, .unset] [(.ref a_64)]))
        refine q_astore B X64 at_51 rfl rfl rfl rfl ?_
        refine qnw B X64 hZ hown 35 36 37 rfl rfl rfl e64 at_53 (by decide) fun T84 h84 b84 z84 X84 e84 E84 A84 D84 => ?_
        have R84 := (CHr.ext E84 R64.1)
        have C84 := C64.trans R84
        have K84 := K64.ext E84
        have O84 := O64.ext E84
        refine q_dup B X84 at_56 rfl rfl rfl ?_
        refine q_iload B X84 at_57 rfl rfl ?_
        refine q_aload B X84 at_59 rfl rfl rfl ?_
        show G (T84.setTop (mkF m 61 #[oi i0, oi i1, oi i2, oi i3, oi i4, oi 0, oi 2, oi c61, oi c62, oi c63, oa a_64, .unset, .unset, .unset, .unset] [(.ref a_64), (.int 0), (.ref b84), (.ref b84)]))
        refine qI B X84 hZ hown 38 39 37 40 rfl rfl rfl rfl rfl (own_finit hw (0 : Int32) (.ref a_64) O84 rfl A84 (own_ge O64 (Nat.le_of_eq z84.symm)) (D84 (Or.inr (ow hw 48 rfl)) (ty := .boolean) (by decide)) (D84 (Or.inr (ow hw 50 rfl)) (ty := (.object "java/lang/String")) (by decide))) e84 own_pd34 rfl rfl at_61 1 rfl rfl rfl (by decide) ?_
        rintro T85 h85 _ L85 X85 e85 ⟨rfl, M85, J85, r85_0, r85_1, r85_2⟩
        have N85 := Fr.app N64 M85
        have sf86 : Safe Z consts_1 _ h84 b84 := (Safe.exa hZ.alike A84 (by decide) (by decide))
        have R85 := (CHr.keep J85 (allS sf86 all0) R84.1)
        have C85 := C84.trans R85
        have K85 := K84.trans J85 (allS (Or.inr (Nat.le_trans K64.1 (Nat.le_of_eq z84.symm))) all0)
        have O85 := O84.keep J85 (allS (own_ge O64 (Nat.le_of_eq z84.symm)) all0)
        refine q_astore B X85 at_64 rfl rfl rfl rfl ?_
        refine q_aload B X85 at_66 rfl rfl rfl ?_
        show G (T85.setTop (mkF m 68 #[oi i0, oi i1, oi i2, oi i3, oi i4, oi 0, oi 2, oi c61, oi c62, oi c63, oa a_64, oa b84, .unset, .unset, .unset] [(.ref b84)]))
        have f88 := ((r64_0.ext E84).keep J85)
        have f89 := ((r64_1.ext E84).keep J85 (ninS (own_ne r64_0.lt (Nat.le_of_eq z84.symm)) nin0))
        have f90 := ((r64_2.ext E84).keep J85 (ninS (own_ne r64_0.lt (Nat.le_of_eq z84.symm)) nin0))
        have f91 := ((W83.ext E84).keep J85 (ninS (own_ne r64_3.lt (Nat.le_of_eq z84.symm)) nin0))
        refine qVW B X85 hZ hown 51 52 54 53 37 55 rfl rfl rfl rfl rfl rfl (own_line0_1 hw hEL (2 : Int32) (7 : Int32) (14 : Int32) 10 14 O85 r85_0 r85_1 r85_2 f88 f89 f90 f91 g2_S g3_S g4_S g0_S g1_hcpt (by decide) (by decide) (by decide) ⟨by decide, by decide, rfl, by decide, by decide, Nat.le_of_ble_eq_true rfl⟩ (by decide) ⟨by decide, by decide, by decide, by decide, Nat.le_of_ble_eq_true rfl⟩ g5_hfmt g6_S) e85 SI0 (Nat.le_trans (Nat.le_trans (Nat.le_trans (Nat.le_refl _) R64.2.1) R84.2.1) R85.2.1) hEL R85.1 r85_0 own_pd31 rfl rfl at_68 0 rfl rfl rfl (by decide) ?_
        rintro T87 h87 v87 L87 X87 e87 SI87 hZ87 hown87 Y87 ⟨r_87, u_87, ku_87, rfl, M87, J87, y87_0, y87_1, r87_0, r87_1, r87_2, r87_3⟩
        have N87 := Fr.app N85 M87
        have R87 := Y87
        have C87 := C85.trans R87
        have K87 := K85.trans J87 all0
        have O87 := O85.keep J87 all0
        show G (T87.setTop (mkF m 71 #[oi i0, oi i1, oi i2, oi i3, oi i4, oi 0, oi 2, oi c61, oi c62, oi c63, oa a_64, oa b84, .unset, .unset, .unset] [(.ref r_87)]))
        have W92 : Arv Z h87 u_87 ku_87 .byte (14 : Int32) [(.int (own_lo (100 : Int32))), (.int (own_hi (100 : Int32))), (.int (own_lo (101 : Int32))), (.int (own_hi (101 : Int32))), (.int (own_lo (110 : Int32))), (.int (own_hi (110 : Int32))), (.int (own_lo (121 : Int32))), (.int (own_hi (121 : Int32))), (.int (own_lo (32 : Int32))), (.int (own_hi (32 : Int32))), (.int (own_lo c61)), (.int (own_hi c61)), (.int (own_lo c62)), (.int (own_hi c62))] (.int 0) := r87_3
        show G (T87.setTop (mkF m 71 #[oi i0, oi i1, oi i2, oi i3, oi i4, oi 0, oi 2, oi c61, oi c62, oi c63, oa a_64, oa b84, .unset, .unset, .unset] [(.ref r_87)]))
        refine q_astore B X87 at_71 rfl rfl rfl rfl ?_
        refine q_iload B X87 at_73 rfl rfl ?_
        refine q_ifYes 83 B X87 at_75 rfl ((if0 _ _).trans (teq (by decide)).1) rfl rfl (by decide) ?_
        refine q_iconst B X87 at_83 rfl ?_
        refine q_istore B X87 at_84 rfl rfl rfl ?_
        refine q_aload B X87 at_86 rfl rfl rfl ?_
        refine q_ifnullNo B X87 at_88 rfl rfl ?_
        refine q_aload B X87 at_91 rfl rfl rfl ?_
        show G (T87.setTop (mkF m 93 #[oi i0, oi i1, oi i2, oi i3, oi i4, oi 0, oi 2, oi c61, oi c62, oi c63, oa a_64, oa b84, oa r_87, oi 5, .unset] [(.ref r_87)]))
        refine qV B X87 hZ87 hown87 169 88 90 89 8 91 rfl rfl rfl rfl rfl rfl (own_len hw [(100 : Int32), (101 : Int32), (110 : Int32), (121 : Int32), (32 : Int32), c61, c62] O87 r87_0 r87_1 r87_2 W92 (Or.inr ⟨own_big_app [(100 : Int32), (101 : Int32), (110 : Int32), (121 : Int32), (32 : Int32)] hbig, rfl, rfl, own_is16_bytes [(100 : Int32), (101 : Int32), (110 : Int32), (121 : Int32), (32 : Int32), c61, c62]⟩) (Nat.le_of_ble_eq_true rfl) (own_allc (by decide) (own_allc (by decide) (own_allc (by decide) (own_allc (by decide) (own_allc (by decide) (own_allc hr_c61 (own_allc hr_c62 own_alln))))))) g0_S g1_hcpt) e87 r87_0 own_pd12 rfl rfl at_93 0 rfl rfl rfl (by decide) ?_
        rintro T93 h93 _ L93 X93 e93 ⟨rfl, M93, rfl⟩
        have N93 := Fr.app N87 M93
        show G (T93.setTop (mkF m 96 #[oi i0, oi i1, oi i2, oi i3, oi i4, oi 0, oi 2, oi c61, oi c62, oi c63, oa a_64, oa b84, oa r_87, oi 5, .unset] [(.int (Int32.ofNat [(100 : Int32), (101 : Int32), (110 : Int32), (121 : Int32), (32 : Int32), c61, c62].length))]))
        show G (T93.setTop (mkF m 96 #[oi i0, oi i1, oi i2, oi i3, oi i4, oi 0, oi 2, oi c61, oi c62, oi c63, oa a_64, oa b84, oa r_87, oi 5, .unset] [(.int 7)]))
        refine q_iload B X93 at_96 rfl rfl ?_
        refine q_iload B X93 at_98 rfl rfl ?_
        refine q_iadd B X93 at_100 rfl rfl ?_
        show G (T93.setTop (mkF m 101 #[oi i0, oi i1, oi i2, oi i3, oi i4, oi 0, oi 2, oi c61, oi c62, oi c63, oa a_64, oa b84, oa r_87, oi 5, .unset] [(.int ((5 : Int32) + (2 : Int32))), (.int 7)]))
        rw [show ((5 : Int32) + (2 : Int32)) = (7 : Int32) from by decide]
        show G (T93.setTop (mkF m 101 #[oi i0, oi i1, oi i2, oi i3, oi i4, oi 0, oi 2, oi c61, oi c62, oi c63, oa a_64, oa b84, oa r_87, oi 5, .unset] [(.int 7), (.int 7)]))
        refine q_icmpYes 106 B X93 at_101 rfl (teq (by decide)).1 rfl rfl (by decide) ?_
        refine q_iload B X93 at_106 rfl rfl ?_
        refine q_ifYes 187 B X93 at_108 rfl ((if0 _ _).trans (teq (by decide)).1) rfl rfl (by decide) ?_
        refine q_aload B X93 at_187 rfl rfl rfl ?_
        refine q_iconst B X93 at_189 rfl ?_
        show G (T93.setTop (mkF m 190 #[oi i0, oi i1, oi i2, oi i3, oi i4, oi 0, oi 2, oi c61, oi c62, oi c63, oa a_64, oa b84, oa r_87, oi 5, .unset] [(.int 0), (.ref r_87)]))
        refine qV B X93 hZ87 hown87 170 171 173 172 8 174 rfl rfl rfl rfl rfl rfl (own_ca hw [(100 : Int32), (101 : Int32), (110 : Int32), (121 : Int32), (32 : Int32), c61, c62] 0 O87 r87_0 r87_1 r87_2 W92 (Or.inr ⟨own_big_app [(100 : Int32), (101 : Int32), (110 : Int32), (121 : Int32), (32 : Int32)] hbig, rfl, rfl, own_is16_bytes [(100 : Int32), (101 : Int32), (110 : Int32), (121 : Int32), (32 : Int32), c61, c62]⟩) (Nat.le_of_ble_eq_true rfl) (own_allc (by decide) (own_allc (by decide) (own_allc (by decide) (own_allc (by decide) (own_allc (by decide) (own_allc hr_c61 (own_allc hr_c62 own_alln))))))) g0_S g1_hcpt g2_S g3_S g4_S (Nat.le_of_ble_eq_true rfl) g5_hfmt g6_S) e93 r87_0 own_pd17 rfl rfl at_190 0 rfl rfl rfl (by decide) ?_
        rintro T94 h94 _ L94 X94 e94 ⟨rfl, M94, rfl⟩
        have N94 := Fr.app N93 M94
        show G (T94.setTop (mkF m 193 #[oi i0, oi i1, oi i2, oi i3, oi i4, oi 0, oi 2, oi c61, oi c62, oi c63, oa a_64, oa b84, oa r_87, oi 5, .unset] [(.int ([(100 : Int32), (101 : Int32), (110 : Int32), (121 : Int32), (32 : Int32), c61, c62].getD 0 0))]))
        show G (T94.setTop (mkF m 193 #[oi i0, oi i1, oi i2, oi i3, oi i4, oi 0, oi 2, oi c61, oi c62, oi c63, oa a_64, oa b84, oa r_87, oi 5, .unset] [(.int 100)]))
        refine q_bipush B X94 at_193 rfl ?_
        refine q_icmpNo B X94 at_195 rfl (teq (by decide)).2 rfl ?_
        refine q_aload B X94 at_198 rfl rfl rfl ?_
        refine q_iconst B X94 at_200 rfl ?_
        show G (T94.setTop (mkF m 201 #[oi i0, oi i1, oi i2, oi i3, oi i4, oi 0, oi 2, oi c61, oi c62, oi c63, oa a_64, oa b84, oa r_87, oi 5, .unset] [(.int 1), (.ref r_87)]))
        refine qV B X94 hZ87 hown87 170 171 173 172 8 174 rfl rfl rfl rfl rfl rfl (own_ca hw [(100 : Int32), (101 : Int32), (110 : Int32), (121 : Int32), (32 : Int32), c61, c62] 1 O87 r87_0 r87_1 r87_2 W92 (Or.inr ⟨own_big_app [(100 : Int32), (101 : Int32), (110 : Int32), (121 : Int32), (32 : Int32)] hbig, rfl, rfl, own_is16_bytes [(100 : Int32), (101 : Int32), (110 : Int32), (121 : Int32), (32 : Int32), c61, c62]⟩) (Nat.le_of_ble_eq_true rfl) (own_allc (by decide) (own_allc (by decide) (own_allc (by decide) (own_allc (by decide) (own_allc (by decide) (own_allc hr_c61 (own_allc hr_c62 own_alln))))))) g0_S g1_hcpt g2_S g3_S g4_S (Nat.le_of_ble_eq_true rfl) g5_hfmt g6_S) e94 r87_0 own_pd17 rfl rfl at_201 0 rfl rfl rfl (by decide) ?_
        rintro T95 h95 _ L95 X95 e95 ⟨rfl, M95, rfl⟩
        have N95 := Fr.app N94 M95
        show G (T95.setTop (mkF m 204 #[oi i0, oi i1, oi i2, oi i3, oi i4, oi 0, oi 2, oi c61, oi c62, oi c63, oa a_64, oa b84, oa r_87, oi 5, .unset] [(.int ([(100 : Int32), (101 : Int32), (110 : Int32), (121 : Int32), (32 : Int32), c61, c62].getD 1 0))]))
        show G (T95.setTop (mkF m 204 #[oi i0, oi i1, oi i2, oi i3, oi i4, oi 0, oi 2, oi c61, oi c62, oi c63, oa a_64, oa b84, oa r_87, oi 5, .unset] [(.int 101)]))
        refine q_bipush B X95 at_204 rfl ?_
        refine q_icmpNo B X95 at_206 rfl (teq (by decide)).2 rfl ?_
        refine q_aload B X95 at_209 rfl rfl rfl ?_
        refine q_iconst B X95 at_211 rfl ?_
        show G (T95.setTop (mkF m 212 #[oi i0, oi i1, oi i2, oi i3, oi i4, oi 0, oi 2, oi c61, oi c62, oi c63, oa a_64, oa b84, oa r_87, oi 5, .unset] [(.int 2), (.ref r_87)]))
        refine qV B X95 hZ87 hown87 170 171 173 172 8 174 rfl rfl rfl rfl rfl rfl (own_ca hw [(100 : Int32), (101 : Int32), (110 : Int32), (121 : Int32), (32 : Int32), c61, c62] 2 O87 r87_0 r87_1 r87_2 W92 (Or.inr ⟨own_big_app [(100 : Int32), (101 : Int32), (110 : Int32), (121 : Int32), (32 : Int32)] hbig, rfl, rfl, own_is16_bytes [(100 : Int32), (101 : Int32), (110 : Int32), (121 : Int32), (32 : Int32), c61, c62]⟩) (Nat.le_of_ble_eq_true rfl) (own_allc (by decide) (own_allc (by decide) (own_allc (by decide) (own_allc (by decide) (own_allc (by decide) (own_allc hr_c61 (own_allc hr_c62 own_alln))))))) g0_S g1_hcpt g2_S g3_S g4_S (Nat.le_of_ble_eq_true rfl) g5_hfmt g6_S) e95 r87_0 own_pd17 rfl rfl at_212 0 rfl rfl rfl (by decide) ?_
        rintro T96 h96 _ L96 X96 e96 ⟨rfl, M96, rfl⟩
        have N96 := Fr.app N95 M96
        show G (T96.setTop (mkF m 215 #[oi i0, oi i1, oi i2, oi i3, oi i4, oi 0, oi 2, oi c61, oi c62, oi c63, oa a_64, oa b84, oa r_87, oi 5, .unset] [(.int ([(100 : Int32), (101 : Int32), (110 : Int32), (121 : Int32), (32 : Int32), c61, c62].getD 2 0))]))
        show G (T96.setTop (mkF m 215 #[oi i0, oi i1, oi i2, oi i3, oi i4, oi 0, oi 2, oi c61, oi c62, oi c63, oa a_64, oa b84, oa r_87, oi 5, .unset] [(.int 110)]))
        refine q_bipush B X96 at_215 rfl ?_
        refine q_icmpNo B X96 at_217 rfl (teq (by decide)).2 rfl ?_
        refine q_aload B X96 at_220 rfl rfl rfl ?_
        refine q_iconst B X96 at_222 rfl ?_
        show G (T96.setTop (mkF m 223 #[oi i0, oi i1, oi i2, oi i3, oi i4, oi 0, oi 2, oi c61, oi c62, oi c63, oa a_64, oa b84, oa r_87, oi 5, .unset] [(.int 3), (.ref r_87)]))
        refine qV B X96 hZ87 hown87 170 171 173 172 8 174 rfl rfl rfl rfl rfl rfl (own_ca hw [(100 : Int32), (101 : Int32), (110 : Int32), (121 : Int32), (32 : Int32), c61, c62] 3 O87 r87_0 r87_1 r87_2 W92 (Or.inr ⟨own_big_app [(100 : Int32), (101 : Int32), (110 : Int32), (121 : Int32), (32 : Int32)] hbig, rfl, rfl, own_is16_bytes [(100 : Int32), (101 : Int32), (110 : Int32), (121 : Int32), (32 : Int32), c61, c62]⟩) (Nat.le_of_ble_eq_true rfl) (own_allc (by decide) (own_allc (by decide) (own_allc (by decide) (own_allc (by decide) (own_allc (by decide) (own_allc hr_c61 (own_allc hr_c62 own_alln))))))) g0_S g1_hcpt g2_S g3_S g4_S (Nat.le_of_ble_eq_true rfl) g5_hfmt g6_S) e96 r87_0 own_pd17 rfl rfl at_223 0 rfl rfl rfl (by decide) ?_
        rintro T97 h97 _ L97 X97 e97 ⟨rfl, M97, rfl⟩
        have N97 := Fr.app N96 M97
        show G (T97.setTop (mkF m 226 #[oi i0, oi i1, oi i2, oi i3, oi i4, oi 0, oi 2, oi c61, oi c62, oi c63, oa a_64, oa b84, oa r_87, oi 5, .unset] [(.int ([(100 : Int32), (101 : Int32), (110 : Int32), (121 : Int32), (32 : Int32), c61, c62].getD 3 0))]))
        show G (T97.setTop (mkF m 226 #[oi i0, oi i1, oi i2, oi i3, oi i4, oi 0, oi 2, oi c61, oi c62, oi c63, oa a_64, oa b84, oa r_87, oi 5, .unset] [(.int 121)]))
        refine q_bipush B X97 at_226 rfl ?_
        refine q_icmpNo B X97 at_228 rfl (teq (by decide)).2 rfl ?_
        refine q_aload B X97 at_231 rfl rfl rfl ?_
        refine q_iconst B X97 at_233 rfl ?_
        show G (T97.setTop (mkF m 234 #[oi i0, oi i1, oi i2, oi i3, oi i4, oi 0, oi 2, oi c61, oi c62, oi c63, oa a_64, oa b84, oa r_87, oi 5, .unset] [(.int 4), (.ref r_87)]))
        refine qV B X97 hZ87 hown87 170 171 173 172 8 174 rfl rfl rfl rfl rfl rfl (own_ca hw [(100 : Int32), (101 : Int32), (110 : Int32), (121 : Int32), (32 : Int32), c61, c62] 4 O87 r87_0 r87_1 r87_2 W92 (Or.inr ⟨own_big_app [(100 : Int32), (101 : Int32), (110 : Int32), (121 : Int32), (32 : Int32)] hbig, rfl, rfl, own_is16_bytes [(100 : Int32), (101 : Int32), (110 : Int32), (121 : Int32), (32 : Int32), c61, c62]⟩) (Nat.le_of_ble_eq_true rfl) (own_allc (by decide) (own_allc (by decide) (own_allc (by decide) (own_allc (by decide) (own_allc (by decide) (own_allc hr_c61 (own_allc hr_c62 own_alln))))))) g0_S g1_hcpt g2_S g3_S g4_S (Nat.le_of_ble_eq_true rfl) g5_hfmt g6_S) e97 r87_0 own_pd17 rfl rfl at_234 0 rfl rfl rfl (by decide) ?_
        rintro T98 h98 _ L98 X98 e98 ⟨rfl, M98, rfl⟩
        have N98 := Fr.app N97 M98
        show G (T98.setTop (mkF m 237 #[oi i0, oi i1, oi i2, oi i3, oi i4, oi 0, oi 2, oi c61, oi c62, oi c63, oa a_64, oa b84, oa r_87, oi 5, .unset] [(.int ([(100 : Int32), (101 : Int32), (110 : Int32), (121 : Int32), (32 : Int32), c61, c62].getD 4 0))]))
        show G (T98.setTop (mkF m 237 #[oi i0, oi i1, oi i2, oi i3, oi i4, oi 0, oi 2, oi c61, oi c62, oi c63, oa a_64, oa b84, oa r_87, oi 5, .unset] [(.int 32)]))
        refine q_bipush B X98 at_237 rfl ?_
        refine q_icmpNo B X98 at_239 rfl (teq (by decide)).2 rfl ?_
        refine q_iconst B X98 at_242 rfl ?_
        refine q_goto 247 B X98 at_243 rfl rfl (by decide) ?_
        refine q_istore B X98 at_247 rfl rfl rfl ?_
        refine q_iload B X98 at_249 rfl rfl ?_
        refine q_ifYes 256 B X98 at_251 rfl ((if0 _ _).trans (feq (by decide)).2) rfl rfl (by decide) ?_
        refine q_iload B X98 at_256 rfl rfl ?_
        refine q_iconst B X98 at_258 rfl ?_
        refine q_icmpNo B X98 at_259 rfl (flt (by decide)).1 rfl ?_
        refine q_aload B X98 at_262 rfl rfl rfl ?_
        refine q_iload B X98 at_264 rfl rfl ?_
        show G (T98.setTop (mkF m 266 #[oi i0, oi i1, oi i2, oi i3, oi i4, oi 0, oi 2, oi c61, oi c62, oi c63, oa a_64, oa b84, oa r_87, oi 5, oi 1] [(.int 5), (.ref r_87)]))
        refine qV B X98 hZ87 hown87 170 171 173 172 8 174 rfl rfl rfl rfl rfl rfl (own_ca hw [(100 : Int32), (101 : Int32), (110 : Int32), (121 : Int32), (32 : Int32), c61, c62] 5 O87 r87_0 r87_1 r87_2 W92 (Or.inr ⟨own_big_app [(100 : Int32), (101 : Int32), (110 : Int32), (121 : Int32), (32 : Int32)] hbig, rfl, rfl, own_is16_bytes [(100 : Int32), (101 : Int32), (110 : Int32), (121 : Int32), (32 : Int32), c61, c62]⟩) (Nat.le_of_ble_eq_true rfl) (own_allc (by decide) (own_allc (by decide) (own_allc (by decide) (own_allc (by decide) (own_allc (by decide) (own_allc hr_c61 (own_allc hr_c62 own_alln))))))) g0_S g1_hcpt g2_S g3_S g4_S (Nat.le_of_ble_eq_true rfl) g5_hfmt g6_S) e98 r87_0 own_pd17 rfl rfl at_266 0 rfl rfl rfl (by decide) ?_
        rintro T99 h99 _ L99 X99 e99 ⟨rfl, M99, rfl⟩
        have N99 := Fr.app N98 M99
        show G (T99.setTop (mkF m 269 #[oi i0, oi i1, oi i2, oi i3, oi i4, oi 0, oi 2, oi c61, oi c62, oi c63, oa a_64, oa b84, oa r_87, oi 5, oi 1] [(.int ([(100 : Int32), (101 : Int32), (110 : Int32), (121 : Int32), (32 : Int32), c61, c62].getD 5 0))]))
        show G (T99.setTop (mkF m 269 #[oi i0, oi i1, oi i2, oi i3, oi i4, oi 0, oi 2, oi c61, oi c62, oi c63, oa a_64, oa b84, oa r_87, oi 5, oi 1] [(.int c61)]))
        refine q_iload B X99 at_269 rfl rfl ?_
        refine q_icmpYes 276 B X99 at_271 rfl (teq (rfl : c61 = c61)).1 rfl rfl (by decide) ?_
        refine q_iload B X99 at_276 rfl rfl ?_
        refine q_iconst B X99 at_278 rfl ?_
        refine q_icmpNo B X99 at_279 rfl (flt (by decide)).1 rfl ?_
        refine q_aload B X99 at_282 rfl rfl rfl ?_
        refine q_iload B X99 at_284 rfl rfl ?_
        refine q_iconst B X99 at_286 rfl ?_
        refine q_iadd B X99 at_287 rfl rfl ?_
        show G (T99.setTop (mkF m 288 #[oi i0, oi i1, oi i2, oi i3, oi i4, oi 0, oi 2, oi c61, oi c62, oi c63, oa a_64, oa b84, oa r_87, oi 5, oi 1] [(.int ((5 : Int32) + (1 : Int32))), (.ref r_87)]))
        rw [show ((5 : Int32) + (1 : Int32)) = (6 : Int32) from by decide]
        show G (T99.setTop (mkF m 288 #[oi i0, oi i1, oi i2, oi i3, oi i4, oi 0, oi 2, oi c61, oi c62, oi c63, oa a_64, oa b84, oa r_87, oi 5, oi 1] [(.int 6), (.ref r_87)]))
        refine qV B X99 hZ87 hown87 170 171 173 172 8 174 rfl rfl rfl rfl rfl rfl (own_ca hw [(100 : Int32), (101 : Int32), (110 : Int32), (121 : Int32), (32 : Int32), c61, c62] 6 O87 r87_0 r87_1 r87_2 W92 (Or.inr ⟨own_big_app [(100 : Int32), (101 : Int32), (110 : Int32), (121 : Int32), (32 : Int32)] hbig, rfl, rfl, own_is16_bytes [(100 : Int32), (101 : Int32), (110 : Int32), (121 : Int32), (32 : Int32), c61, c62]⟩) (Nat.le_of_ble_eq_true rfl) (own_allc (by decide) (own_allc (by decide) (own_allc (by decide) (own_allc (by decide) (own_allc (by decide) (own_allc hr_c61 (own_allc hr_c62 own_alln))))))) g0_S g1_hcpt g2_S g3_S g4_S (Nat.le_of_ble_eq_true rfl) g5_hfmt g6_S) e99 r87_0 own_pd17 rfl rfl at_288 0 rfl rfl rfl (by decide) ?_
        rintro T100 h100 _ L100 X100 e100 ⟨rfl, M100, rfl⟩
        have N100 := Fr.app N99 M100
        show G (T100.setTop (mkF m 291 #[oi i0, oi i1, oi i2, oi i3, oi i4, oi 0, oi 2, oi c61, oi c62, oi c63, oa a_64, oa b84, oa r_87, oi 5, oi 1] [(.int ([(100 : Int32), (101 : Int32), (110 : Int32), (121 : Int32), (32 : Int32), c61, c62].getD 6 0))]))
        show G (T100.setTop (mkF m 291 #[oi i0, oi i1, oi i2, oi i3, oi i4, oi 0, oi 2, oi c61, oi c62, oi c63, oa a_64, oa b84, oa r_87, oi 5, oi 1] [(.int c62)]))
        refine q_iload B X100 at_291 rfl rfl ?_
        refine q_icmpYes 298 B X100 at_293 rfl (teq (rfl : c62 = c62)).1 rfl rfl (by decide) ?_
        refine q_iload B X100 at_298 rfl rfl ?_
        refine q_iconst B X100 at_300 rfl ?_
        refine q_icmpYes 320 B X100 at_301 rfl (tlt (by decide)).1 rfl rfl (by decide) ?_
        refine q_iconst B X100 at_320 rfl ?_
        show G (T100.setTop (mkF m 321 #[oi i0, oi i1, oi i2, oi i3, oi i4, oi 0, oi 2, oi c61, oi c62, oi c63, oa a_64, oa b84, oa r_87, oi 5, oi 1] [(.int 1)]))
        exact qRNW B hR hret (by simp) X100 at_321 e100 SI87 (Nat.le_refl _) hZ87 C87 ⟨rfl, N100, K87⟩ (by decide)
    · skip
      show G (s₁.setTop (mkF m 18 #[oi i0, oi i1, oi i2, oi i3, oi i4, oi 0, oi 3, .unset, .unset, .unset, .unset, .unset, .unset, .unset, .unset] []))
      refine q_iloadN B X0 at_18 rfl rfl ?_
      refine hG _ _ (X0.ldcInt hx hown (mvT hZ (ow hw 0 rfl)) (g := (mkF m 19 #[oi i0, oi i1, oi i2, oi i3, oi i4, oi 0, oi 3, .unset, .unset, .unset, .unset, .unset, .unset, .unset, .unset] [(.int i2)])) rfl (hb hby at_19)) ?_
      refine q_iand B X0 at_21 rfl rfl ?_
      refine q_i2c B X0 at_22 rfl rfl ?_
      show G (s₁.setTop (mkF m 23 #[oi i0, oi i1, oi i2, oi i3, oi i4, oi 0, oi 3, .unset, .unset, .unset, .unset, .unset, .unset, .unset, .unset] [(.int ((i2 &&& (65535 : Int32)).toUInt32.toUInt16.toUInt32.toInt32))]))
      generalize hn_c101 : ((i2 &&& (65535 : Int32)).toUInt32.toUInt16.toUInt32.toInt32) = c101
      have hr_c101 := own_i2c16 hn_c101
      show G (s₁.setTop (mkF m 23 #[oi i0, oi i1, oi i2, oi i3, oi i4, oi 0, oi 3, .unset, .unset, .unset, .unset, .unset, .unset, .unset, .unset] [(.int c101)]))
      refine q_istore B X0 at_23 rfl rfl rfl ?_
      refine q_iloadN B X0 at_25 rfl rfl ?_
      refine hG _ _ (X0.ldcInt hx hown (mvT hZ (ow hw 0 rfl)) (g := (mkF m 26 #[oi i0, oi i1, oi i2, oi i3, oi i4, oi 0, oi 3, oi c101, .unset, .unset, .unset, .unset, .unset, .unset, .unset] [(.int i3)])) rfl (hb hby at_26)) ?_
      refine q_iand B X0 at_28 rfl rfl ?_
      refine q_i2c B X0 at_29 rfl rfl ?_
      show G (s₁.setTop (mkF m 30 #[oi i0, oi i1, oi i2, oi i3, oi i4, oi 0, oi 3, oi c101, .unset, .unset, .unset, .unset, .unset, .unset, .unset] [(.int ((i3 &&& (65535 : Int32)).toUInt32.toUInt16.toUInt32.toInt32))]))
      generalize hn_c102 : ((i3 &&& (65535 : Int32)).toUInt32.toUInt16.toUInt32.toInt32) = c102
      have hr_c102 := own_i2c16 hn_c102
      show G (s₁.setTop (mkF m 30 #[oi i0, oi i1, oi i2, oi i3, oi i4, oi 0, oi 3, oi c101, .unset, .unset, .unset, .unset, .unset, .unset, .unset] [(.int c102)]))
      refine q_istore B X0 at_30 rfl rfl rfl ?_
      refine q_iload B X0 at_32 rfl rfl ?_
      refine hG _ _ (X0.ldcInt hx hown (mvT hZ (ow hw 0 rfl)) (g := (mkF m 34 #[oi i0, oi i1, oi i2, oi i3, oi i4, oi 0, oi 3, oi c101, oi c102, .unset, .unset, .unset, .unset, .unset, .unset] [(.int i4)])) rfl (hb hby at_34)) ?_
      refine q_iand B X0 at_36 rfl rfl ?_
      refine q_i2c B X0 at_37 rfl rfl ?_
      show G (s₁.setTop (mkF m 38 #[oi i0, oi i1, oi i2, oi i3, oi i4, oi 0, oi 3, oi c101, oi c102, .unset, .unset, .unset, .unset, .unset, .unset] [(.int ((i4 &&& (65535 : Int32)).toUInt32.toUInt16.toUInt32.toInt32))]))
      generalize hn_c103 : ((i4 &&& (65535 : Int32)).toUInt32.toUInt16.toUInt32.toInt32) = c103
      have hr_c103 := own_i2c16 hn_c103
      show G (s₁.setTop (mkF m 38 #[oi i0, oi i1, oi i2, oi i3, oi i4, oi 0, oi 3, oi c101, oi c102, .unset, .unset, .unset, .unset, .unset, .unset] [(.int c103)]))
      refine q_istore B X0 at_38 rfl rfl rfl ?_
      refine q_iload B X0 at_40 rfl rfl ?_
      refine q_iload B X0 at_42 rfl rfl ?_
      refine q_iload B X0 at_44 rfl rfl ?_
      refine q_iload B X0 at_46 rfl rfl ?_
      show G (s₁.setTop (mkF m 48 #[oi i0, oi i1, oi i2, oi i3, oi i4, oi 0, oi 3, oi c101, oi c102, oi c103, .unset, .unset, .unset, .unset, .unset] [(.int c103), (.int c102), (.int c101), (.int 3)]))
      refine qS B X0 hZ hown 1 2 3 4 rfl rfl rfl rfl (own_make3 hw c101 c102 c103 O0 g0_S g1_hcpt g2_S g3_S g4_S hr_c101 hr_c102 hr_c103) e0 own_pd35 rfl rfl at_48 0 rfl rfl rfl (by decide) ?_
      rintro T104 h104 _ L104 X104 e104 ⟨a_104, t_104, kt_104, cd_104, nb_104, vs_104, rfl, M104, J104, y104_0, r104_0, r104_1, r104_2, r104_3, r104_4⟩
      have N104 := Fr.app N0 M104
      have R104 := (CHr.keep J104 all0 H0)
      have C104 := (CHr.refl H0).trans R104
      have K104 := (Keep.refl h0 []).trans J104 all0
      have O104 := O0.keep J104 all0
      show G (T104.setTop (mkF m 51 #[oi i0, oi i1, oi i2, oi i3, oi i4, oi 0, oi 3, oi c101, oi c102, oi c103, .unset, .unset, .unset, .unset, .unset] [(.ref a_104)]))
      rcases r104_4 with ⟨hall, rfl, rfl, rfl⟩ | ⟨hbig, rfl, rfl, h16⟩
      · skip
        have W105 : Arv Z h104 t_104 kt_104 .byte (3 : Int32) [(.int (c101.toInt8.toInt32)), (.int (c102.toInt8.toInt32)), (.int (c103.toInt8.toInt32))] (.int 0) := r104_3
        show G (T104.setTop (mkF m 51 #[oi i0, oi i1, oi i2, oi i3, oi i4, oi 0, oi 3, oi c101, oi c102, oi c103, .unset, .unset, .unset, .unset, .unset] [(.ref a_104)]))
        refine q_astore B X104 at_51 rfl rfl rfl rfl ?_
        refine qnw B X104 hZ hown 35 36 37 rfl rfl rfl e104 at_53 (by decide) fun T106 h106 b106 z106 X106 e106 E106 A106 D106 => ?_
        have R106 := (CHr.ext E106 R104.1)
        have C106 := C104.trans R106
        have K106 := K104.ext E106
        have O106 := O104.ext E106
        refine q_dup B X106 at_56 rfl rfl rfl ?_
        refine q_iload B X106 at_57 rfl rfl ?_
        refine q_aload B X106 at_59 rfl rfl rfl ?_
        show G (T106.setTop (mkF m 61 #[oi i0, oi i1, oi i2, oi i3, oi i4, oi 0, oi 3, oi c101, oi c102, oi c103, oa a_104, .unset, .unset, .unset, .unset] [(.ref a_104), (.int 0), (.ref b106), (.ref b106)]))
        refine qI B X106 hZ hown 38 39 37 40 rfl rfl rfl rfl rfl (own_finit hw (0 : Int32) (.ref a_104) O106 rfl A106 (own_ge O104 (Nat.le_of_eq z106.symm)) (D106 (Or.inr (ow hw 48 rfl)) (ty := .boolean) (by decide)) (D106 (Or.inr (ow hw 50 rfl)) (ty := (.object "java/lang/String")) (by decide))) e106 own_pd34 rfl rfl at_61 1 rfl rfl rfl (by decide) ?_
        rintro T107 h107 _ L107 X107 e107 ⟨rfl, M107, J107, r107_0, r107_1, r107_2⟩
        have N107 := Fr.app N104 M107
        have sf108 : Safe Z consts_1 _ h106 b106 := (Safe.exa hZ.alike A106 (by decide) (by decide))
        have R107 := (CHr.keep J107 (allS sf108 all0) R106.1)
        have C107 := C106.trans R107
        have K107 := K106.trans J107 (allS (Or.inr (Nat.le_trans K104.1 (Nat.le_of_eq z106.symm))) all0)
        have O107 := O106.keep J107 (allS (own_ge O104 (Nat.le_of_eq z106.symm)) all0)
        refine q_astore B X107 at_64 rfl rfl rfl rfl ?_
        refine q_aload B X107 at_66 rfl rfl rfl ?_
        show G (T107.setTop (mkF m 68 #[oi i0, oi i1, oi i2, oi i3, oi i4, oi 0, oi 3, oi c101, oi c102, oi c103, oa a_104, oa b106, .unset, .unset, .unset] [(.ref b106)]))
        have f110 := ((r104_0.ext E106).keep J107)
        have f111 := ((r104_1.ext E106).keep J107 (ninS (own_ne r104_0.lt (Nat.le_of_eq z106.symm)) nin0))
        have f112 := ((r104_2.ext E106).keep J107 (ninS (own_ne r104_0.lt (Nat.le_of_eq z106.symm)) nin0))
        have f113 := ((W105.ext E106).keep J107 (ninS (own_ne r104_3.lt (Nat.le_of_eq z106.symm)) nin0))
        refine qVW B X107 hZ hown 51 52 54 53 37 55 rfl rfl rfl rfl rfl rfl (own_line0_0 hw hEL (3 : Int32) (8 : Int32) (8 : Int32) 5 8 O107 r107_0 r107_1 r107_2 f110 f111 f112 f113 g2_S g3_S g4_S g0_S g1_hcpt (by decide) (by decide) (by decide) ⟨by decide, by decide, rfl, by decide, by decide, Nat.le_of_ble_eq_true rfl⟩ (by decide) ⟨by decide, by decide, by decide, by decide, Nat.le_of_ble_eq_true rfl⟩ g5_hfmt g6_S) e107 SI0 (Nat.le_trans (Nat.le_trans (Nat.le_trans (Nat.le_refl _) R104.2.1) R106.2.1) R107.2.1) hEL R107.1 r107_0 own_pd31 rfl rfl at_68 0 rfl rfl rfl (by decide) ?_
        rintro T109 h109 v109 L109 X109 e109 SI109 hZ109 hown109 Y109 ⟨r_109, u_109, ku_109, rfl, M109, J109, y109_0, y109_1, r109_0, r109_1, r109_2, r109_3⟩
        have N109 := Fr.app N107 M109
        have R109 := Y109
        have C109 := C107.trans R109
        have K109 := K107.trans J109 all0
        have O109 := O107.keep J109 all0
        show G (T109.setTop (mkF m 71 #[oi i0, oi i1, oi i2, oi i3, oi i4, oi 0, oi 3, oi c101, oi c102, oi c103, oa a_104, oa b106, .unset, .unset, .unset] [(.ref r_109)]))
        have W114 : Arv Z h109 u_109 ku_109 .byte (8 : Int32) [(.int 100), (.int 101), (.int 110), (.int 121), (.int 32), (.int (c101.toInt8.toInt32)), (.int (c102.toInt8.toInt32)), (.int (c103.toInt8.toInt32))] (.int 0) := r109_3
        show G (T109.setTop (mkF m 71 #[oi i0, oi i1, oi i2, oi i3, oi i4, oi 0, oi 3, oi c101, oi c102, oi c103, oa a_104, oa b106, .unset, .unset, .unset] [(.ref r_109)]))
        refine q_astore B X109 at_71 rfl rfl rfl rfl ?_
        refine q_iload B X109 at_73 rfl rfl ?_
        refine q_ifYes 83 B X109 at_75 rfl ((if0 _ _).trans (teq (by decide)).1) rfl rfl (by decide) ?_
        refine q_iconst B X109 at_83 rfl ?_
        refine q_istore B X109 at_84 rfl rfl rfl ?_
        refine q_aload B X109 at_86 rfl rfl rfl ?_
        refine q_ifnullNo B X109 at_88 rfl rfl ?_
        refine q_aload B X109 at_91 rfl rfl rfl ?_
        show G (T109.setTop (mkF m 93 #[oi i0, oi i1, oi i2, oi i3, oi i4, oi 0, oi 3, oi c101, oi c102, oi c103, oa a_104, oa b106, oa r_109, oi 5, .unset] [(.ref r_109)]))
        refine qV B X109 hZ109 hown109 169 88 90 89 8 91 rfl rfl rfl rfl rfl rfl (own_len hw [(100 : Int32), (101 : Int32), (110 : Int32), (121 : Int32), (32 : Int32), c101, c102, c103] O109 r109_0 r109_1 r109_2 W114 (Or.inl ⟨(own_allc (by decide) (own_allc (by decide) (own_allc (by decide) (own_allc (by decide) (own_allc (by decide) (own_allc (hall _ (List.mem_of_getElem? (i := 0) rfl)) (own_allc (hall _ (List.mem_of_getElem? (i := 1) rfl)) (own_allc (hall _ (List.mem_of_getElem? (i := 2) rfl)) own_alln)))))))), rfl, rfl, rfl⟩) (Nat.le_of_ble_eq_true rfl) (own_allc (by decide) (own_allc (by decide) (own_allc (by decide) (own_allc (by decide) (own_allc (by decide) (own_allc hr_c101 (own_allc hr_c102 (own_allc hr_c103 own_alln)))))))) g0_S g1_hcpt) e109 r109_0 own_pd12 rfl rfl at_93 0 rfl rfl rfl (by decide) ?_
        rintro T115 h115 _ L115 X115 e115 ⟨rfl, M115, rfl⟩
        have N115 := Fr.app N109 M115
        show G (T115.setTop (mkF m 96 #[oi i0, oi i1, oi i2, oi i3, oi i4, oi 0, oi 3, oi c101, oi c102, oi c103, oa a_104, oa b106, oa r_109, oi 5, .unset] [(.int (Int32.ofNat [(100 : Int32), (101 : Int32), (110 : Int32), (121 : Int32), (32 : Int32), c101, c102, c103].length))]))
        show G (T115.setTop (mkF m 96 #[oi i0, oi i1, oi i2, oi i3, oi i4, oi 0, oi 3, oi c101, oi c102, oi c103, oa a_104, oa b106, oa r_109, oi 5, .unset] [(.int 8)]))
        refine q_iload B X115 at_96 rfl rfl ?_
        refine q_iload B X115 at_98 rfl rfl ?_
        refine q_iadd B X115 at_100 rfl rfl ?_
        show G (T115.setTop (mkF m 101 #[oi i0, oi i1, oi i2, oi i3, oi i4, oi 0, oi 3, oi c101, oi c102, oi c103, oa a_104, oa b106, oa r_109, oi 5, .unset] [(.int ((5 : Int32) + (3 : Int32))), (.int 8)]))
        rw [show ((5 : Int32) + (3 : Int32)) = (8 : Int32) from by decide]
        show G (T115.setTop (mkF m 101 #[oi i0, oi i1, oi i2, oi i3, oi i4, oi 0, oi 3, oi c101, oi c102, oi c103, oa a_104, oa b106, oa r_109, oi 5, .unset] [(.int 8), (.int 8)]))
        refine q_icmpYes 106 B X115 at_101 rfl (teq (by decide)).1 rfl rfl (by decide) ?_
        refine q_iload B X115 at_106 rfl rfl ?_
        refine q_ifYes 187 B X115 at_108 rfl ((if0 _ _).trans (teq (by decide)).1) rfl rfl (by decide) ?_
        refine q_aload B X115 at_187 rfl rfl rfl ?_
        refine q_iconst B X115 at_189 rfl ?_
        show G (T115.setTop (mkF m 190 #[oi i0, oi i1, oi i2, oi i3, oi i4, oi 0, oi 3, oi c101, oi c102, oi c103, oa a_104, oa b106, oa r_109, oi 5, .unset] [(.int 0), (.ref r_109)]))
        refine qV B X115 hZ109 hown109 170 171 173 172 8 174 rfl rfl rfl rfl rfl rfl (own_ca hw [(100 : Int32), (101 : Int32), (110 : Int32), (121 : Int32), (32 : Int32), c101, c102, c103] 0 O109 r109_0 r109_1 r109_2 W114 (Or.inl ⟨(own_allc (by decide) (own_allc (by decide) (own_allc (by decide) (own_allc (by decide) (own_allc (by decide) (own_allc (hall _ (List.mem_of_getElem? (i := 0) rfl)) (own_allc (hall _ (List.mem_of_getElem? (i := 1) rfl)) (own_allc (hall _ (List.mem_of_getElem? (i := 2) rfl)) own_alln)))))))), rfl, rfl, rfl⟩) (Nat.le_of_ble_eq_true rfl) (own_allc (by decide) (own_allc (by decide) (own_allc (by decide) (own_allc (by decide) (own_allc (by decide) (own_allc hr_c101 (own_allc hr_c102 (own_allc hr_c103 own_alln)))))))) g0_S g1_hcpt g2_S g3_S g4_S (Nat.le_of_ble_eq_true rfl) g5_hfmt g6_S) e115 r109_0 own_pd17 rfl rfl at_190 0 rfl rfl rfl (by decide) ?_
        rintro T116 h116 _ L116 X116 e116 ⟨rfl, M116, rfl⟩
        have N116 := Fr.app N115 M116
        show G (T116.setTop (mkF m 193 #[oi i0, oi i1, oi i2, oi i3, oi i4, oi 0, oi 3, oi c101, oi c102, oi c103, oa a_104, oa b106, oa r_109, oi 5, .unset] [(.int ([(100 : Int32), (101 : Int32), (110 : Int32), (121 : Int32), (32 : Int32), c101, c102, c103].getD 0 0))]))
        show G (T116.setTop (mkF m 193 #[oi i0, oi i1, oi i2, oi i3, oi i4, oi 0, oi 3, oi c101, oi c102, oi c103, oa a_104, oa b106, oa r_109, oi 5, .unset] [(.int 100)]))
        refine q_bipush B X116 at_193 rfl ?_
        refine q_icmpNo B X116 at_195 rfl (teq (by decide)).2 rfl ?_
        refine q_aload B X116 at_198 rfl rfl rfl ?_
        refine q_iconst B X116 at_200 rfl ?_
        show G (T116.setTop (mkF m 201 #[oi i0, oi i1, oi i2, oi i3, oi i4, oi 0, oi 3, oi c101, oi c102, oi c103, oa a_104, oa b106, oa r_109, oi 5, .unset] [(.int 1), (.ref r_109)]))
        refine qV B X116 hZ109 hown109 170 171 173 172 8 174 rfl rfl rfl rfl rfl rfl (own_ca hw [(100 : Int32), (101 : Int32), (110 : Int32), (121 : Int32), (32 : Int32), c101, c102, c103] 1 O109 r109_0 r109_1 r109_2 W114 (Or.inl ⟨(own_allc (by decide) (own_allc (by decide) (own_allc (by decide) (own_allc (by decide) (own_allc (by decide) (own_allc (hall _ (List.mem_of_getElem? (i := 0) rfl)) (own_allc (hall _ (List.mem_of_getElem? (i := 1) rfl)) (own_allc (hall _ (List.mem_of_getElem? (i := 2) rfl)) own_alln)))))))), rfl, rfl, rfl⟩) (Nat.le_of_ble_eq_true rfl) (own_allc (by decide) (own_allc (by decide) (own_allc (by decide) (own_allc (by decide) (own_allc (by decide) (own_allc hr_c101 (own_allc hr_c102 (own_allc hr_c103 own_alln)))))))) g0_S g1_hcpt g2_S g3_S g4_S (Nat.le_of_ble_eq_true rfl) g5_hfmt g6_S) e116 r109_0 own_pd17 rfl rfl at_201 0 rfl rfl rfl (by decide) ?_
        rintro T117 h117 _ L117 X117 e117 ⟨rfl, M117, rfl⟩
        have N117 := Fr.app N116 M117
        show G (T117.setTop (mkF m 204 #[oi i0, oi i1, oi i2, oi i3, oi i4, oi 0, oi 3, oi c101, oi c102, oi c103, oa a_104, oa b106, oa r_109, oi 5, .unset] [(.int ([(100 : Int32), (101 : Int32), (110 : Int32), (121 : Int32), (32 : Int32), c101, c102, c103].getD 1 0))]))
        show G (T117.setTop (mkF m 204 #[oi i0, oi i1, oi i2, oi i3, oi i4, oi 0, oi 3, oi c101, oi c102, oi c103, oa a_104, oa b106, oa r_109, oi 5, .unset] [(.int 101)]))
        refine q_bipush B X117 at_204 rfl ?_
        refine q_icmpNo B X117 at_206 rfl (teq (by decide)).2 rfl ?_
        refine q_aload B X117 at_209 rfl rfl rfl ?_
        refine q_iconst B X117 at_211 rfl ?_
        show G (T117.setTop (mkF m 212 #[oi i0, oi i1, oi i2, oi i3, oi i4, oi 0, oi 3, oi c101, oi c102, oi c103, oa a_104, oa b106, oa r_109, oi 5, .unset] [(.int 2), (.ref r_109)]))
        refine qV B X117 hZ109 hown109 170 171 173 172 8 174 rfl rfl rfl rfl rfl rfl (own_ca hw [(100 : Int32), (101 : Int32), (110 : Int32), (121 : Int32), (32 : Int32), c101, c102, c103] 2 O109 r109_0 r109_1 r109_2 W114 (Or.inl ⟨(own_allc (by decide) (own_allc (by decide) (own_allc (by decide) (own_allc (by decide) (own_allc (by decide) (own_allc (hall _ (List.mem_of_getElem? (i := 0) rfl)) (own_allc (hall _ (List.mem_of_getElem? (i := 1) rfl)) (own_allc (hall _ (List.mem_of_getElem? (i := 2) rfl)) own_alln)))))))), rfl, rfl, rfl⟩) (Nat.le_of_ble_eq_true rfl) (own_allc (by decide) (own_allc (by decide) (own_allc (by decide) (own_allc (by decide) (own_allc (by decide) (own_allc hr_c101 (own_allc hr_c102 (own_allc hr_c103 own_alln)))))))) g0_S g1_hcpt g2_S g3_S g4_S (Nat.le_of_ble_eq_true rfl) g5_hfmt g6_S) e117 r109_0 own_pd17 rfl rfl at_212 0 rfl rfl rfl (by decide) ?_
        rintro T118 h118 _ L118 X118 e118 ⟨rfl, M118, rfl⟩
        have N118 := Fr.app N117 M118
        show G (T118.setTop (mkF m 215 #[oi i0, oi i1, oi i2, oi i3, oi i4, oi 0, oi 3, oi c101, oi c102, oi c103, oa a_104, oa b106, oa r_109, oi 5, .unset] [(.int ([(100 : Int32), (101 : Int32), (110 : Int32), (121 : Int32), (32 : Int32), c101, c102, c103].getD 2 0))]))
        show G (T118.setTop (mkF m 215 #[oi i0, oi i1, oi i2, oi i3, oi i4, oi 0, oi 3, oi c101, oi c102, oi c103, oa a_104, oa b106, oa r_109, oi 5, .unset] [(.int 110)]))
        refine q_bipush B X118 at_215 rfl ?_
        refine q_icmpNo B X118 at_217 rfl (teq (by decide)).2 rfl ?_
        refine q_aload B X118 at_220 rfl rfl rfl ?_
        refine q_iconst B X118 at_222 rfl ?_
        show G (T118.setTop (mkF m 223 #[oi i0, oi i1, oi i2, oi i3, oi i4, oi 0, oi 3, oi c101, oi c102, oi c103, oa a_104, oa b106, oa r_109, oi 5, .unset] [(.int 3), (.ref r_109)]))
        refine qV B X118 hZ109 hown109 170 171 173 172 8 174 rfl rfl rfl rfl rfl rfl (own_ca hw [(100 : Int32), (101 : Int32), (110 : Int32), (121 : Int32), (32 : Int32), c101, c102, c103] 3 O109 r109_0 r109_1 r109_2 W114 (Or.inl ⟨(own_allc (by decide) (own_allc (by decide) (own_allc (by decide) (own_allc (by decide) (own_allc (by decide) (own_allc (hall _ (List.mem_of_getElem? (i := 0) rfl)) (own_allc (hall _ (List.mem_of_getElem? (i := 1) rfl)) (own_allc (hall _ (List.mem_of_getElem? (i := 2) rfl)) own_alln)))))))), rfl, rfl, rfl⟩) (Nat.le_of_ble_eq_true rfl) (own_allc (by decide) (own_allc (by decide) (own_allc (by decide) (own_allc (by decide) (own_allc (by decide) (own_allc hr_c101 (own_allc hr_c102 (own_allc hr_c103 own_alln)))))))) g0_S g1_hcpt g2_S g3_S g4_S (Nat.le_of_ble_eq_true rfl) g5_hfmt g6_S) e118 r109_0 own_pd17 rfl rfl at_223 0 rfl rfl rfl (by decide) ?_
        rintro T119 h119 _ L119 X119 e119 ⟨rfl, M119, rfl⟩
        have N119 := Fr.app N118 M119
        show G (T119.setTop (mkF m 226 #[oi i0, oi i1, oi i2, oi i3, oi i4, oi 0, oi 3, oi c101, oi c102, oi c103, oa a_104, oa b106, oa r_109, oi 5, .unset] [(.int ([(100 : Int32), (101 : Int32), (110 : Int32), (121 : Int32), (32 : Int32), c101, c102, c103].getD 3 0))]))
        show G (T119.setTop (mkF m 226 #[oi i0, oi i1, oi i2, oi i3, oi i4, oi 0, oi 3, oi c101, oi c102, oi c103, oa a_104, oa b106, oa r_109, oi 5, .unset] [(.int 121)]))
        refine q_bipush B X119 at_226 rfl ?_
        refine q_icmpNo B X119 at_228 rfl (teq (by decide)).2 rfl ?_
        refine q_aload B X119 at_231 rfl rfl rfl ?_
        refine q_iconst B X119 at_233 rfl ?_
        show G (T119.setTop (mkF m 234 #[oi i0, oi i1, oi i2, oi i3, oi i4, oi 0, oi 3, oi c101, oi c102, oi c103, oa a_104, oa b106, oa r_109, oi 5, .unset] [(.int 4), (.ref r_109)]))
        refine qV B X119 hZ109 hown109 170 171 173 172 8 174 rfl rfl rfl rfl rfl rfl (own_ca hw [(100 : Int32), (101 : Int32), (110 : Int32), (121 : Int32), (32 : Int32), c101, c102, c103] 4 O109 r109_0 r109_1 r109_2 W114 (Or.inl ⟨(own_allc (by decide) (own_allc (by decide) (own_allc (by decide) (own_allc (by decide) (own_allc (by decide) (own_allc (hall _ (List.mem_of_getElem? (i := 0) rfl)) (own_allc (hall _ (List.mem_of_getElem? (i := 1) rfl)) (own_allc (hall _ (List.mem_of_getElem? (i := 2) rfl)) own_alln)))))))), rfl, rfl, rfl⟩) (Nat.le_of_ble_eq_true rfl) (own_allc (by decide) (own_allc (by decide) (own_allc (by decide) (own_allc (by decide) (own_allc (by decide) (own_allc hr_c101 (own_allc hr_c102 (own_allc hr_c103 own_alln)))))))) g0_S g1_hcpt g2_S g3_S g4_S (Nat.le_of_ble_eq_true rfl) g5_hfmt g6_S) e119 r109_0 own_pd17 rfl rfl at_234 0 rfl rfl rfl (by decide) ?_
        rintro T120 h120 _ L120 X120 e120 ⟨rfl, M120, rfl⟩
        have N120 := Fr.app N119 M120
        show G (T120.setTop (mkF m 237 #[oi i0, oi i1, oi i2, oi i3, oi i4, oi 0, oi 3, oi c101, oi c102, oi c103, oa a_104, oa b106, oa r_109, oi 5, .unset] [(.int ([(100 : Int32), (101 : Int32), (110 : Int32), (121 : Int32), (32 : Int32), c101, c102, c103].getD 4 0))]))
        show G (T120.setTop (mkF m 237 #[oi i0, oi i1, oi i2, oi i3, oi i4, oi 0, oi 3, oi c101, oi c102, oi c103, oa a_104, oa b106, oa r_109, oi 5, .unset] [(.int 32)]))
        refine q_bipush B X120 at_237 rfl ?_
        refine q_icmpNo B X120 at_239 rfl (teq (by decide)).2 rfl ?_
        refine q_iconst B X120 at_242 rfl ?_
        refine q_goto 247 B X120 at_243 rfl rfl (by decide) ?_
        refine q_istore B X120 at_247 rfl rfl rfl ?_
        refine q_iload B X120 at_249 rfl rfl ?_
        refine q_ifYes 256 B X120 at_251 rfl ((if0 _ _).trans (feq (by decide)).2) rfl rfl (by decide) ?_
        refine q_iload B X120 at_256 rfl rfl ?_
        refine q_iconst B X120 at_258 rfl ?_
        refine q_icmpNo B X120 at_259 rfl (flt (by decide)).1 rfl ?_
        refine q_aload B X120 at_262 rfl rfl rfl ?_
        refine q_iload B X120 at_264 rfl rfl ?_
        show G (T120.setTop (mkF m 266 #[oi i0, oi i1, oi i2, oi i3, oi i4, oi 0, oi 3, oi c101, oi c102, oi c103, oa a_104, oa b106, oa r_109, oi 5, oi 1] [(.int 5), (.ref r_109)]))
        refine qV B X120 hZ109 hown109 170 171 173 172 8 174 rfl rfl rfl rfl rfl rfl (own_ca hw [(100 : Int32), (101 : Int32), (110 : Int32), (121 : Int32), (32 : Int32), c101, c102, c103] 5 O109 r109_0 r109_1 r109_2 W114 (Or.inl ⟨(own_allc (by decide) (own_allc (by decide) (own_allc (by decide) (own_allc (by decide) (own_allc (by decide) (own_allc (hall _ (List.mem_of_getElem? (i := 0) rfl)) (own_allc (hall _ (List.mem_of_getElem? (i := 1) rfl)) (own_allc (hall _ (List.mem_of_getElem? (i := 2) rfl)) own_alln)))))))), rfl, rfl, rfl⟩) (Nat.le_of_ble_eq_true rfl) (own_allc (by decide) (own_allc (by decide) (own_allc (by decide) (own_allc (by decide) (own_allc (by decide) (own_allc hr_c101 (own_allc hr_c102 (own_allc hr_c103 own_alln)))))))) g0_S g1_hcpt g2_S g3_S g4_S (Nat.le_of_ble_eq_true rfl) g5_hfmt g6_S) e120 r109_0 own_pd17 rfl rfl at_266 0 rfl rfl rfl (by decide) ?_
        rintro T121 h121 _ L121 X121 e121 ⟨rfl, M121, rfl⟩
        have N121 := Fr.app N120 M121
        show G (T121.setTop (mkF m 269 #[oi i0, oi i1, oi i2, oi i3, oi i4, oi 0, oi 3, oi c101, oi c102, oi c103, oa a_104, oa b106, oa r_109, oi 5, oi 1] [(.int ([(100 : Int32), (101 : Int32), (110 : Int32), (121 : Int32), (32 : Int32), c101, c102, c103].getD 5 0))]))
        show G (T121.setTop (mkF m 269 #[oi i0, oi i1, oi i2, oi i3, oi i4, oi 0, oi 3, oi c101, oi c102, oi c103, oa a_104, oa b106, oa r_109, oi 5, oi 1] [(.int c101)]))
        refine q_iload B X121 at_269 rfl rfl ?_
        refine q_icmpYes 276 B X121 at_271 rfl (teq (rfl : c101 = c101)).1 rfl rfl (by decide) ?_
        refine q_iload B X121 at_276 rfl rfl ?_
        refine q_iconst B X121 at_278 rfl ?_
        refine q_icmpNo B X121 at_279 rfl (flt (by decide)).1 rfl ?_
        refine q_aload B X121 at_282 rfl rfl rfl ?_
        refine q_iload B X121 at_284 rfl rfl ?_
        refine q_iconst B X121 at_286 rfl ?_
        refine q_iadd B X121 at_287 rfl rfl ?_
        show G (T121.setTop (mkF m 288 #[oi i0, oi i1, oi i2, oi i3, oi i4, oi 0, oi 3, oi c101, oi c102, oi c103, oa a_104, oa b106, oa r_109, oi 5, oi 1] [(.int ((5 : Int32) + (1 : Int32))), (.ref r_109)]))
        rw [show ((5 : Int32) + (1 : Int32)) = (6 : Int32) from by decide]
        show G (T121.setTop (mkF m 288 #[oi i0, oi i1, oi i2, oi i3, oi i4, oi 0, oi 3, oi c101, oi c102, oi c103, oa a_104, oa b106, oa r_109, oi 5, oi 1] [(.int 6), (.ref r_109)]))
        refine qV B X121 hZ109 hown109 170 171 173 172 8 174 rfl rfl rfl rfl rfl rfl (own_ca hw [(100 : Int32), (101 : Int32), (110 : Int32), (121 : Int32), (32 : Int32), c101, c102, c103] 6 O109 r109_0 r109_1 r109_2 W114 (Or.inl ⟨(own_allc (by decide) (own_allc (by decide) (own_allc (by decide) (own_allc (by decide) (own_allc (by decide) (own_allc (hall _ (List.mem_of_getElem? (i := 0) rfl)) (own_allc (hall _ (List.mem_of_getElem? (i := 1) rfl)) (own_allc (hall _ (List.mem_of_getElem? (i := 2) rfl)) own_alln)))))))), rfl, rfl, rfl⟩) (Nat.le_of_ble_eq_true rfl) (own_allc (by decide) (own_allc (by decide) (own_allc (by decide) (own_allc (by decide) (own_allc (by decide) (own_allc hr_c101 (own_allc hr_c102 (own_allc hr_c103 own_alln)))))))) g0_S g1_hcpt g2_S g3_S g4_S (Nat.le_of_ble_eq_true rfl) g5_hfmt g6_S) e121 r109_0 own_pd17 rfl rfl at_288 0 rfl rfl rfl (by decide) ?_
        rintro T122 h122 _ L122 X122 e122 ⟨rfl, M122, rfl⟩
        have N122 := Fr.app N121 M122
        show G (T122.setTop (mkF m 291 #[oi i0, oi i1, oi i2, oi i3, oi i4, oi 0, oi 3, oi c101, oi c102, oi c103, oa a_104, oa b106, oa r_109, oi 5, oi 1] [(.int ([(100 : Int32), (101 : Int32), (110 : Int32), (121 : Int32), (32 : Int32), c101, c102, c103].getD 6 0))]))
        show G (T122.setTop (mkF m 291 #[oi i0, oi i1, oi i2, oi i3, oi i4, oi 0, oi 3, oi c101, oi c102, oi c103, oa a_104, oa b106, oa r_109, oi 5, oi 1] [(.int c102)]))
        refine q_iload B X122 at_291 rfl rfl ?_
        refine q_icmpYes 298 B X122 at_293 rfl (teq (rfl : c102 = c102)).1 rfl rfl (by decide) ?_
        refine q_iload B X122 at_298 rfl rfl ?_
        refine q_iconst B X122 at_300 rfl ?_
        refine q_icmpNo B X122 at_301 rfl (flt (by decide)).1 rfl ?_
        refine q_aload B X122 at_304 rfl rfl rfl ?_
        refine q_iload B X122 at_306 rfl rfl ?_
        refine q_iconst B X122 at_308 rfl ?_
        refine q_iadd B X122 at_309 rfl rfl ?_
        show G (T122.setTop (mkF m 310 #[oi i0, oi i1, oi i2, oi i3, oi i4, oi 0, oi 3, oi c101, oi c102, oi c103, oa a_104, oa b106, oa r_109, oi 5, oi 1] [(.int ((5 : Int32) + (2 : Int32))), (.ref r_109)]))
        rw [show ((5 : Int32) + (2 : Int32)) = (7 : Int32) from by decide]
        show G (T122.setTop (mkF m 310 #[oi i0, oi i1, oi i2, oi i3, oi i4, oi 0, oi 3, oi c101, oi c102, oi c103, oa a_104, oa b106, oa r_109, oi 5, oi 1] [(.int 7), (.ref r_109)]))
        refine qV B X122 hZ109 hown109 170 171 173 172 8 174 rfl rfl rfl rfl rfl rfl (own_ca hw [(100 : Int32), (101 : Int32), (110 : Int32), (121 : Int32), (32 : Int32), c101, c102, c103] 7 O109 r109_0 r109_1 r109_2 W114 (Or.inl ⟨(own_allc (by decide) (own_allc (by decide) (own_allc (by decide) (own_allc (by decide) (own_allc (by decide) (own_allc (hall _ (List.mem_of_getElem? (i := 0) rfl)) (own_allc (hall _ (List.mem_of_getElem? (i := 1) rfl)) (own_allc (hall _ (List.mem_of_getElem? (i := 2) rfl)) own_alln)))))))), rfl, rfl, rfl⟩) (Nat.le_of_ble_eq_true rfl) (own_allc (by decide) (own_allc (by decide) (own_allc (by decide) (own_allc (by decide) (own_allc (by decide) (own_allc hr_c101 (own_allc hr_c102 (own_allc hr_c103 own_alln)))))))) g0_S g1_hcpt g2_S g3_S g4_S (Nat.le_of_ble_eq_true rfl) g5_hfmt g6_S) e122 r109_0 own_pd17 rfl rfl at_310 0 rfl rfl rfl (by decide) ?_
        rintro T123 h123 _ L123 X123 e123 ⟨rfl, M123, rfl⟩
        have N123 := Fr.app N122 M123
        show G (T123.setTop (mkF m 313 #[oi i0, oi i1, oi i2, oi i3, oi i4, oi 0, oi 3, oi c101, oi c102, oi c103, oa a_104, oa b106, oa r_109, oi 5, oi 1] [(.int ([(100 : Int32), (101 : Int32), (110 : Int32), (121 : Int32), (32 : Int32), c101, c102, c103].getD 7 0))]))
        show G (T123.setTop (mkF m 313 #[oi i0, oi i1, oi i2, oi i3, oi i4, oi 0, oi 3, oi c101, oi c102, oi c103, oa a_104, oa b106, oa r_109, oi 5, oi 1] [(.int c103)]))
        refine q_iload B X123 at_313 rfl rfl ?_
        refine q_icmpYes 320 B X123 at_315 rfl (teq (rfl : c103 = c103)).1 rfl rfl (by decide) ?_
        refine q_iconst B X123 at_320 rfl ?_
        show G (T123.setTop (mkF m 321 #[oi i0, oi i1, oi i2, oi i3, oi i4, oi 0, oi 3, oi c101, oi c102, oi c103, oa a_104, oa b106, oa r_109, oi 5, oi 1] [(.int 1)]))
        exact qRNW B hR hret (by simp) X123 at_321 e123 SI109 (Nat.le_refl _) hZ109 C109 ⟨rfl, N123, K109⟩ (by decide)
      · skip
        have hv := own_is16_list h16
        subst hv
        have W124 : Arv Z h104 t_104 kt_104 .byte (6 : Int32) [(.int (own_lo c101)), (.int (own_hi c101)), (.int (own_lo c102)), (.int (own_hi c102)), (.int (own_lo c103)), (.int (own_hi c103))] (.int 0) := r104_3
        show G (T104.setTop (mkF m 51 #[oi i0, oi i1, oi i2, oi i3, oi i4, oi 0, oi 3, oi c101, oi c102, oi c103, .unset, .unset, .unset, .unset, .unset] [(.ref a_104)]))
        refine q_astore B X104 at_51 rfl rfl rfl rfl ?_
        refine qnw B X104 hZ hown 35 36 37 rfl rfl rfl e104 at_53 (by decide) fun T125 h125 b125 z125 X125 e125 E125 A125 D125 => ?_
        have R125 := (CHr.ext E125 R104.1)
        have C125 := C104.trans R125
        have K125 := K104.ext E125
        have O125 := O104.ext E125
        refine q_dup B X125 at_56 rfl rfl rfl ?_
        refine q_iload B X125 at_57 rfl rfl ?_
        refine q_aload B X125 at_59 rfl rfl rfl ?_
        show G (T125.setTop (mkF m 61 #[oi i0, oi i1, oi i2, oi i3, oi i4, oi 0, oi 3, oi c101, oi c102, oi c103, oa a_104, .unset, .unset, .unset, .unset] [(.ref a_104), (.int 0), (.ref b125), (.ref b125)]))
        refine qI B X125 hZ hown 38 39 37 40 rfl rfl rfl rfl rfl (own_finit hw (0 : Int32) (.ref a_104) O125 rfl A125 (own_ge O104 (Nat.le_of_eq z125.symm)) (D125 (Or.inr (ow hw 48 rfl)) (ty := .boolean) (by decide)) (D125 (Or.inr (ow hw 50 rfl)) (ty := (.object "java/lang/String")) (by decide))) e125 own_pd34 rfl rfl at_61 1 rfl rfl rfl (by decide) ?_
        rintro T126 h126 _ L126 X126 e126 ⟨rfl, M126, J126, r126_0, r126_1, r126_2⟩
        have N126 := Fr.app N104 M126
        have sf127 : Safe Z consts_1 _ h125 b125 := (Safe.exa hZ.alike A125 (by decide) (by decide))
        have R126 := (CHr.keep J126 (allS sf127 all0) R125.1)
        have C126 := C125.trans R126
        have K126 := K125.trans J126 (allS (Or.inr (Nat.le_trans K104.1 (Nat.le_of_eq z125.symm))) all0)
        have O126 := O125.keep J126 (allS (own_ge O104 (Nat.le_of_eq z125.symm)) all0)
        refine q_astore B X126 at_64 rfl rfl rfl rfl ?_
        refine q_aload B X126 at_66 rfl rfl rfl ?_
        show G (T126.setTop (mkF m 68 #[oi i0, oi i1, oi i2, oi i3, oi i4, oi 0, oi 3, oi c101, oi c102, oi c103, oa a_104, oa b125, .unset, .unset, .unset] [(.ref b125)]))
        have f129 := ((r104_0.ext E125).keep J126)
        have f130 := ((r104_1.ext E125).keep J126 (ninS (own_ne r104_0.lt (Nat.le_of_eq z125.symm)) nin0))
        have f131 := ((r104_2.ext E125).keep J126 (ninS (own_ne r104_0.lt (Nat.le_of_eq z125.symm)) nin0))
        have f132 := ((W124.ext E125).keep J126 (ninS (own_ne r104_3.lt (Nat.le_of_eq z125.symm)) nin0))
        refine qVW B X126 hZ hown 51 52 54 53 37 55 rfl rfl rfl rfl rfl rfl (own_line0_1 hw hEL (3 : Int32) (8 : Int32) (16 : Int32) 10 16 O126 r126_0 r126_1 r126_2 f129 f130 f131 f132 g2_S g3_S g4_S g0_S g1_hcpt (by decide) (by decide) (by decide) ⟨by decide, by decide, rfl, by decide, by decide, Nat.le_of_ble_eq_true rfl⟩ (by decide) ⟨by decide, by decide, by decide, by decide, Nat.le_of_ble_eq_true rfl⟩ g5_hfmt g6_S) e126 SI0 (Nat.le_trans (Nat.le_trans (Nat.le_trans (Nat.le_refl _) R104.2.1) R125.2.1) R126.2.1) hEL R126.1 r126_0 own_pd31 rfl rfl at_68 0 rfl rfl rfl (by decide) ?_
        rintro T128 h128 v128 L128 X128 e128 SI128 hZ128 hown128 Y128 ⟨r_128, u_128, ku_128, rfl, M128, J128, y128_0, y128_1, r128_0, r128_1, r128_2, r128_3⟩
        have N128 := Fr.app N126 M128
        have R128 := Y128
        have C128 := C126.trans R128
        have K128 := K126.trans J128 all0
        have O128 := O126.keep J128 all0
        show G (T128.setTop (mkF m 71 #[oi i0, oi i1, oi i2, oi i3, oi i4, oi 0, oi 3, oi c101, oi c102, oi c103, oa a_104, oa b125, .unset, .unset, .unset] [(.ref r_128)]))
        have W133 : Arv Z h128 u_128 ku_128 .byte (16 : Int32) [(.int (own_lo (100 : Int32))), (.int (own_hi (100 : Int32))), (.int (own_lo (101 : Int32))), (.int (own_hi (101 : Int32))), (.int (own_lo (110 : Int32))), (.int (own_hi (110 : Int32))), (.int (own_lo (121 : Int32))), (.int (own_hi (121 : Int32))), (.int (own_lo (32 : Int32))), (.int (own_hi (32 : Int32))), (.int (own_lo c101)), (.int (own_hi c101)), (.int (own_lo c102)), (.int (own_hi c102)), (.int (own_lo c103)), (.int (own_hi c103))] (.int 0) := r128_3
        show G (T128.setTop (mkF m 71 #[oi i0, oi i1, oi i2, oi i3, oi i4, oi 0, oi 3, oi c101, oi c102, oi c103, oa a_104, oa b125, .unset, .unset, .unset] [(.ref r_128)]))
        refine q_astore B X128 at_71 rfl rfl rfl rfl ?_
        refine q_iload B X128 at_73 rfl rfl ?_
        refine q_ifYes 83 B X128 at_75 rfl ((if0 _ _).trans (teq (by decide)).1) rfl rfl (by decide) ?_
        refine q_iconst B X128 at_83 rfl ?_
        refine q_istore B X128 at_84 rfl rfl rfl ?_
        refine q_aload B X128 at_86 rfl rfl rfl ?_
        refine q_ifnullNo B X128 at_88 rfl rfl ?_
        refine q_aload B X128 at_91 rfl rfl rfl ?_
        show G (T128.setTop (mkF m 93 #[oi i0, oi i1, oi i2, oi i3, oi i4, oi 0, oi 3, oi c101, oi c102, oi c103, oa a_104, oa b125, oa r_128, oi 5, .unset] [(.ref r_128)]))
        refine qV B X128 hZ128 hown128 169 88 90 89 8 91 rfl rfl rfl rfl rfl rfl (own_len hw [(100 : Int32), (101 : Int32), (110 : Int32), (121 : Int32), (32 : Int32), c101, c102, c103] O128 r128_0 r128_1 r128_2 W133 (Or.inr ⟨own_big_app [(100 : Int32), (101 : Int32), (110 : Int32), (121 : Int32), (32 : Int32)] hbig, rfl, rfl, own_is16_bytes [(100 : Int32), (101 : Int32), (110 : Int32), (121 : Int32), (32 : Int32), c101, c102, c103]⟩) (Nat.le_of_ble_eq_true rfl) (own_allc (by decide) (own_allc (by decide) (own_allc (by decide) (own_allc (by decide) (own_allc (by decide) (own_allc hr_c101 (own_allc hr_c102 (own_allc hr_c103 own_alln)))))))) g0_S g1_hcpt) e128 r128_0 own_pd12 rfl rfl at_93 0 rfl rfl rfl (by decide) ?_
        rintro T134 h134 _ L134 X134 e134 ⟨rfl, M134, rfl⟩
        have N134 := Fr.app N128 M134
        show G (T134.setTop (mkF m 96 #[oi i0, oi i1, oi i2, oi i3, oi i4, oi 0, oi 3, oi c101, oi c102, oi c103, oa a_104, oa b125, oa r_128, oi 5, .unset] [(.int (Int32.ofNat [(100 : Int32), (101 : Int32), (110 : Int32), (121 : Int32), (32 : Int32), c101, c102, c103].length))]))
        show G (T134.setTop (mkF m 96 #[oi i0, oi i1, oi i2, oi i3, oi i4, oi 0, oi 3, oi c101, oi c102, oi c103, oa a_104, oa b125, oa r_128, oi 5, .unset] [(.int 8)]))
        refine q_iload B X134 at_96 rfl rfl ?_
        refine q_iload B X134 at_98 rfl rfl ?_
        refine q_iadd B X134 at_100 rfl rfl ?_
        show G (T134.setTop (mkF m 101 #[oi i0, oi i1, oi i2, oi i3, oi i4, oi 0, oi 3, oi c101, oi c102, oi c103, oa a_104, oa b125, oa r_128, oi 5, .unset] [(.int ((5 : Int32) + (3 : Int32))), (.int 8)]))
        rw [show ((5 : Int32) + (3 : Int32)) = (8 : Int32) from by decide]
        show G (T134.setTop (mkF m 101 #[oi i0, oi i1, oi i2, oi i3, oi i4, oi 0, oi 3, oi c101, oi c102, oi c103, oa a_104, oa b125, oa r_128, oi 5, .unset] [(.int 8), (.int 8)]))
        refine q_icmpYes 106 B X134 at_101 rfl (teq (by decide)).1 rfl rfl (by decide) ?_
        refine q_iload B X134 at_106 rfl rfl ?_
        refine q_ifYes 187 B X134 at_108 rfl ((if0 _ _).trans (teq (by decide)).1) rfl rfl (by decide) ?_
        refine q_aload B X134 at_187 rfl rfl rfl ?_
        refine q_iconst B X134 at_189 rfl ?_
        show G (T134.setTop (mkF m 190 #[oi i0, oi i1, oi i2, oi i3, oi i4, oi 0, oi 3, oi c101, oi c102, oi c103, oa a_104, oa b125, oa r_128, oi 5, .unset] [(.int 0), (.ref r_128)]))
        refine qV B X134 hZ128 hown128 170 171 173 172 8 174 rfl rfl rfl rfl rfl rfl (own_ca hw [(100 : Int32), (101 : Int32), (110 : Int32), (121 : Int32), (32 : Int32), c101, c102, c103] 0 O128 r128_0 r128_1 r128_2 W133 (Or.inr ⟨own_big_app [(100 : Int32), (101 : Int32), (110 : Int32), (121 : Int32), (32 : Int32)] hbig, rfl, rfl, own_is16_bytes [(100 : Int32), (101 : Int32), (110 : Int32), (121 : Int32), (32 : Int32), c101, c102, c103]⟩) (Nat.le_of_ble_eq_true rfl) (own_allc (by decide) (own_allc (by decide) (own_allc (by decide) (own_allc (by decide) (own_allc (by decide) (own_allc hr_c101 (own_allc hr_c102 (own_allc hr_c103 own_alln)))))))) g0_S g1_hcpt g2_S g3_S g4_S (Nat.le_of_ble_eq_true rfl) g5_hfmt g6_S) e134 r128_0 own_pd17 rfl rfl at_190 0 rfl rfl rfl (by decide) ?_
        rintro T135 h135 _ L135 X135 e135 ⟨rfl, M135, rfl⟩
        have N135 := Fr.app N134 M135
        show G (T135.setTop (mkF m 193 #[oi i0, oi i1, oi i2, oi i3, oi i4, oi 0, oi 3, oi c101, oi c102, oi c103, oa a_104, oa b125, oa r_128, oi 5, .unset] [(.int ([(100 : Int32), (101 : Int32), (110 : Int32), (121 : Int32), (32 : Int32), c101, c102, c103].getD 0 0))]))
        show G (T135.setTop (mkF m 193 #[oi i0, oi i1, oi i2, oi i3, oi i4, oi 0, oi 3, oi c101, oi c102, oi c103, oa a_104, oa b125, oa r_128, oi 5, .unset] [(.int 100)]))
        refine q_bipush B X135 at_193 rfl ?_
        refine q_icmpNo B X135 at_195 rfl (teq (by decide)).2 rfl ?_
        refine q_aload B X135 at_198 rfl rfl rfl ?_
        refine q_iconst B X135 at_200 rfl ?_
        show G (T135.setTop (mkF m 201 #[oi i0, oi i1, oi i2, oi i3, oi i4, oi 0, oi 3, oi c101, oi c102, oi c103, oa a_104, oa b125, oa r_128, oi 5, .unset] [(.int 1), (.ref r_128)]))
        refine qV B X135 hZ128 hown128 170 171 173 172 8 174 rfl rfl rfl rfl rfl rfl (own_ca hw [(100 : Int32), (101 : Int32), (110 : Int32), (121 : Int32), (32 : Int32), c101, c102, c103] 1 O128 r128_0 r128_1 r128_2 W133 (Or.inr ⟨own_big_app [(100 : Int32), (101 : Int32), (110 : Int32), (121 : Int32), (32 : Int32)] hbig, rfl, rfl, own_is16_bytes [(100 : Int32), (101 : Int32), (110 : Int32), (121 : Int32), (32 : Int32), c101, c102, c103]⟩) (Nat.le_of_ble_eq_true rfl) (own_allc (by decide) (own_allc (by decide) (own_allc (by decide) (own_allc (by decide) (own_allc (by decide) (own_allc hr_c101 (own_allc hr_c102 (own_allc hr_c103 own_alln)))))))) g0_S g1_hcpt g2_S g3_S g4_S (Nat.le_of_ble_eq_true rfl) g5_hfmt g6_S) e135 r128_0 own_pd17 rfl rfl at_201 0 rfl rfl rfl (by decide) ?_
        rintro T136 h136 _ L136 X136 e136 ⟨rfl, M136, rfl⟩
        have N136 := Fr.app N135 M136
        show G (T136.setTop (mkF m 204 #[oi i0, oi i1, oi i2, oi i3, oi i4, oi 0, oi 3, oi c101, oi c102, oi c103, oa a_104, oa b125, oa r_128, oi 5, .unset] [(.int ([(100 : Int32), (101 : Int32), (110 : Int32), (121 : Int32), (32 : Int32), c101, c102, c103].getD 1 0))]))
        show G (T136.setTop (mkF m 204 #[oi i0, oi i1, oi i2, oi i3, oi i4, oi 0, oi 3, oi c101, oi c102, oi c103, oa a_104, oa b125, oa r_128, oi 5, .unset] [(.int 101)]))
        refine q_bipush B X136 at_204 rfl ?_
        refine q_icmpNo B X136 at_206 rfl (teq (by decide)).2 rfl ?_
        refine q_aload B X136 at_209 rfl rfl rfl ?_
        refine q_iconst B X136 at_211 rfl ?_
        show G (T136.setTop (mkF m 212 #[oi i0, oi i1, oi i2, oi i3, oi i4, oi 0, oi 3, oi c101, oi c102, oi c103, oa a_104, oa b125, oa r_128, oi 5, .unset] [(.int 2), (.ref r_128)]))
        refine qV B X136 hZ128 hown128 170 171 173 172 8 174 rfl rfl rfl rfl rfl rfl (own_ca hw [(100 : Int32), (101 : Int32), (110 : Int32), (121 : Int32), (32 : Int32), c101, c102, c103] 2 O128 r128_0 r128_1 r128_2 W133 (Or.inr ⟨own_big_app [(100 : Int32), (101 : Int32), (110 : Int32), (121 : Int32), (32 : Int32)] hbig, rfl, rfl, own_is16_bytes [(100 : Int32), (101 : Int32), (110 : Int32), (121 : Int32), (32 : Int32), c101, c102, c103]⟩) (Nat.le_of_ble_eq_true rfl) (own_allc (by decide) (own_allc (by decide) (own_allc (by decide) (own_allc (by decide) (own_allc (by decide) (own_allc hr_c101 (own_allc hr_c102 (own_allc hr_c103 own_alln)))))))) g0_S g1_hcpt g2_S g3_S g4_S (Nat.le_of_ble_eq_true rfl) g5_hfmt g6_S) e136 r128_0 own_pd17 rfl rfl at_212 0 rfl rfl rfl (by decide) ?_
        rintro T137 h137 _ L137 X137 e137 ⟨rfl, M137, rfl⟩
        have N137 := Fr.app N136 M137
        show G (T137.setTop (mkF m 215 #[oi i0, oi i1, oi i2, oi i3, oi i4, oi 0, oi 3, oi c101, oi c102, oi c103, oa a_104, oa b125, oa r_128, oi 5, .unset] [(.int ([(100 : Int32), (101 : Int32), (110 : Int32), (121 : Int32), (32 : Int32), c101, c102, c103].getD 2 0))]))
        show G (T137.setTop (mkF m 215 #[oi i0, oi i1, oi i2, oi i3, oi i4, oi 0, oi 3, oi c101, oi c102, oi c103, oa a_104, oa b125, oa r_128, oi 5, .unset] [(.int 110)]))
        refine q_bipush B X137 at_215 rfl ?_
        refine q_icmpNo B X137 at_217 rfl (teq (by decide)).2 rfl ?_
        refine q_aload B X137 at_220 rfl rfl rfl ?_
        refine q_iconst B X137 at_222 rfl ?_
        show G (T137.setTop (mkF m 223 #[oi i0, oi i1, oi i2, oi i3, oi i4, oi 0, oi 3, oi c101, oi c102, oi c103, oa a_104, oa b125, oa r_128, oi 5, .unset] [(.int 3), (.ref r_128)]))
        refine qV B X137 hZ128 hown128 170 171 173 172 8 174 rfl rfl rfl rfl rfl rfl (own_ca hw [(100 : Int32), (101 : Int32), (110 : Int32), (121 : Int32), (32 : Int32), c101, c102, c103] 3 O128 r128_0 r128_1 r128_2 W133 (Or.inr ⟨own_big_app [(100 : Int32), (101 : Int32), (110 : Int32), (121 : Int32), (32 : Int32)] hbig, rfl, rfl, own_is16_bytes [(100 : Int32), (101 : Int32), (110 : Int32), (121 : Int32), (32 : Int32), c101, c102, c103]⟩) (Nat.le_of_ble_eq_true rfl) (own_allc (by decide) (own_allc (by decide) (own_allc (by decide) (own_allc (by decide) (own_allc (by decide) (own_allc hr_c101 (own_allc hr_c102 (own_allc hr_c103 own_alln)))))))) g0_S g1_hcpt g2_S g3_S g4_S (Nat.le_of_ble_eq_true rfl) g5_hfmt g6_S) e137 r128_0 own_pd17 rfl rfl at_223 0 rfl rfl rfl (by decide) ?_
        rintro T138 h138 _ L138 X138 e138 ⟨rfl, M138, rfl⟩
        have N138 := Fr.app N137 M138
        show G (T138.setTop (mkF m 226 #[oi i0, oi i1, oi i2, oi i3, oi i4, oi 0, oi 3, oi c101, oi c102, oi c103, oa a_104, oa b125, oa r_128, oi 5, .unset] [(.int ([(100 : Int32), (101 : Int32), (110 : Int32), (121 : Int32), (32 : Int32), c101, c102, c103].getD 3 0))]))
        show G (T138.setTop (mkF m 226 #[oi i0, oi i1, oi i2, oi i3, oi i4, oi 0, oi 3, oi c101, oi c102, oi c103, oa a_104, oa b125, oa r_128, oi 5, .unset] [(.int 121)]))
        refine q_bipush B X138 at_226 rfl ?_
        refine q_icmpNo B X138 at_228 rfl (teq (by decide)).2 rfl ?_
        refine q_aload B X138 at_231 rfl rfl rfl ?_
        refine q_iconst B X138 at_233 rfl ?_
        show G (T138.setTop (mkF m 234 #[oi i0, oi i1, oi i2, oi i3, oi i4, oi 0, oi 3, oi c101, oi c102, oi c103, oa a_104, oa b125, oa r_128, oi 5, .unset] [(.int 4), (.ref r_128)]))
        refine qV B X138 hZ128 hown128 170 171 173 172 8 174 rfl rfl rfl rfl rfl rfl (own_ca hw [(100 : Int32), (101 : Int32), (110 : Int32), (121 : Int32), (32 : Int32), c101, c102, c103] 4 O128 r128_0 r128_1 r128_2 W133 (Or.inr ⟨own_big_app [(100 : Int32), (101 : Int32), (110 : Int32), (121 : Int32), (32 : Int32)] hbig, rfl, rfl, own_is16_bytes [(100 : Int32), (101 : Int32), (110 : Int32), (121 : Int32), (32 : Int32), c101, c102, c103]⟩) (Nat.le_of_ble_eq_true rfl) (own_allc (by decide) (own_allc (by decide) (own_allc (by decide) (own_allc (by decide) (own_allc (by decide) (own_allc hr_c101 (own_allc hr_c102 (own_allc hr_c103 own_alln)))))))) g0_S g1_hcpt g2_S g3_S g4_S (Nat.le_of_ble_eq_true rfl) g5_hfmt g6_S) e138 r128_0 own_pd17 rfl rfl at_234 0 rfl rfl rfl (by decide) ?_
        rintro T139 h139 _ L139 X139 e139 ⟨rfl, M139, rfl⟩
        have N139 := Fr.app N138 M139
        show G (T139.setTop (mkF m 237 #[oi i0, oi i1, oi i2, oi i3, oi i4, oi 0, oi 3, oi c101, oi c102, oi c103, oa a_104, oa b125, oa r_128, oi 5, .unset] [(.int ([(100 : Int32), (101 : Int32), (110 : Int32), (121 : Int32), (32 : Int32), c101, c102, c103].getD 4 0))]))
        show G (T139.setTop (mkF m 237 #[oi i0, oi i1, oi i2, oi i3, oi i4, oi 0, oi 3, oi c101, oi c102, oi c103, oa a_104, oa b125, oa r_128, oi 5, .unset] [(.int 32)]))
        refine q_bipush B X139 at_237 rfl ?_
        refine q_icmpNo B X139 at_239 rfl (teq (by decide)).2 rfl ?_
        refine q_iconst B X139 at_242 rfl ?_
        refine q_goto 247 B X139 at_243 rfl rfl (by decide) ?_
        refine q_istore B X139 at_247 rfl rfl rfl ?_
        refine q_iload B X139 at_249 rfl rfl ?_
        refine q_ifYes 256 B X139 at_251 rfl ((if0 _ _).trans (feq (by decide)).2) rfl rfl (by decide) ?_
        refine q_iload B X139 at_256 rfl rfl ?_
        refine q_iconst B X139 at_258 rfl ?_
        refine q_icmpNo B X139 at_259 rfl (flt (by decide)).1 rfl ?_
        refine q_aload B X139 at_262 rfl rfl rfl ?_
        refine q_iload B X139 at_264 rfl rfl ?_
        show G (T139.setTop (mkF m 266 #[oi i0, oi i1, oi i2, oi i3, oi i4, oi 0, oi 3, oi c101, oi c102, oi c103, oa a_104, oa b125, oa r_128, oi 5, oi 1] [(.int 5), (.ref r_128)]))
        refine qV B X139 hZ128 hown128 170 171 173 172 8 174 rfl rfl rfl rfl rfl rfl (own_ca hw [(100 : Int32), (101 : Int32), (110 : Int32), (121 : Int32), (32 : Int32), c101, c102, c103] 5 O128 r128_0 r128_1 r128_2 W133 (Or.inr ⟨own_big_app [(100 : Int32), (101 : Int32), (110 : Int32), (121 : Int32), (32 : Int32)] hbig, rfl, rfl, own_is16_bytes [(100 : Int32), (101 : Int32), (110 : Int32), (121 : Int32), (32 : Int32), c101, c102, c103]⟩) (Nat.le_of_ble_eq_true rfl) (own_allc (by decide) (own_allc (by decide) (own_allc (by decide) (own_allc (by decide) (own_allc (by decide) (own_allc hr_c101 (own_allc hr_c102 (own_allc hr_c103 own_alln)))))))) g0_S g1_hcpt g2_S g3_S g4_S (Nat.le_of_ble_eq_true rfl) g5_hfmt g6_S) e139 r128_0 own_pd17 rfl rfl at_266 0 rfl rfl rfl (by decide) ?_
        rintro T140 h140 _ L140 X140 e140 ⟨rfl, M140, rfl⟩
        have N140 := Fr.app N139 M140
        show G (T140.setTop (mkF m 269 #[oi i0, oi i1, oi i2, oi i3, oi i4, oi 0, oi 3, oi c101, oi c102, oi c103, oa a_104, oa b125, oa r_128, oi 5, oi 1] [(.int ([(100 : Int32), (101 : Int32), (110 : Int32), (121 : Int32), (32 : Int32), c101, c102, c103].getD 5 0))]))
        show G (T140.setTop (mkF m 269 #[oi i0, oi i1, oi i2, oi i3, oi i4, oi 0, oi 3, oi c101, oi c102, oi c103, oa a_104, oa b125, oa r_128, oi 5, oi 1] [(.int c101)]))
        refine q_iload B X140 at_269 rfl rfl ?_
        refine q_icmpYes 276 B X140 at_271 rfl (teq (rfl : c101 = c101)).1 rfl rfl (by decide) ?_
        refine q_iload B X140 at_276 rfl rfl ?_
        refine q_iconst B X140 at_278 rfl ?_
        refine q_icmpNo B X140 at_279 rfl (flt (by decide)).1 rfl ?_
        refine q_aload B X140 at_282 rfl rfl rfl ?_
        refine q_iload B X140 at_284 rfl rfl ?_
        refine q_iconst B X140 at_286 rfl ?_
        refine q_iadd B X140 at_287 rfl rfl ?_
        show G (T140.setTop (mkF m 288 #[oi i0, oi i1, oi i2, oi i3, oi i4, oi 0, oi 3, oi c101, oi c102, oi c103, oa a_104, oa b125, oa r_128, oi 5, oi 1] [(.int ((5 : Int32) + (1 : Int32))), (.ref r_128)]))
        rw [show ((5 : Int32) + (1 : Int32)) = (6 : Int32) from by decide]
        show G (T140.setTop (mkF m 288 #[oi i0, oi i1, oi i2, oi i3, oi i4, oi 0, oi 3, oi c101, oi c102, oi c103, oa a_104, oa b125, oa r_128, oi 5, oi 1] [(.int 6), (.ref r_128)]))
        refine qV B X140 hZ128 hown128 170 171 173 172 8 174 rfl rfl rfl rfl rfl rfl (own_ca hw [(100 : Int32), (101 : Int32), (110 : Int32), (121 : Int32), (32 : Int32), c101, c102, c103] 6 O128 r128_0 r128_1 r128_2 W133 (Or.inr ⟨own_big_app [(100 : Int32), (101 : Int32), (110 : Int32), (121 : Int32), (32 : Int32)] hbig, rfl, rfl, own_is16_bytes [(100 : Int32), (101 : Int32), (110 : Int32), (121 : Int32), (32 : Int32), c101, c102, c103]⟩) (Nat.le_of_ble_eq_true rfl) (own_allc (by decide) (own_allc (by decide) (own_allc (by decide) (own_allc (by decide) (own_allc (by decide) (own_allc hr_c101 (own_allc hr_c102 (own_allc hr_c103 own_alln)))))))) g0_S g1_hcpt g2_S g3_S g4_S (Nat.le_of_ble_eq_true rfl) g5_hfmt g6_S) e140 r128_0 own_pd17 rfl rfl at_288 0 rfl rfl rfl (by decide) ?_
        rintro T141 h141 _ L141 X141 e141 ⟨rfl, M141, rfl⟩
        have N141 := Fr.app N140 M141
        show G (T141.setTop (mkF m 291 #[oi i0, oi i1, oi i2, oi i3, oi i4, oi 0, oi 3, oi c101, oi c102, oi c103, oa a_104, oa b125, oa r_128, oi 5, oi 1] [(.int ([(100 : Int32), (101 : Int32), (110 : Int32), (121 : Int32), (32 : Int32), c101, c102, c103].getD 6 0))]))
        show G (T141.setTop (mkF m 291 #[oi i0, oi i1, oi i2, oi i3, oi i4, oi 0, oi 3, oi c101, oi c102, oi c103, oa a_104, oa b125, oa r_128, oi 5, oi 1] [(.int c102)]))
        refine q_iload B X141 at_291 rfl rfl ?_
        refine q_icmpYes 298 B X141 at_293 rfl (teq (rfl : c102 = c102)).1 rfl rfl (by decide) ?_
        refine q_iload B X141 at_298 rfl rfl ?_
        refine q_iconst B X141 at_300 rfl ?_
        refine q_icmpNo B X141 at_301 rfl (flt (by decide)).1 rfl ?_
        refine q_aload B X141 at_304 rfl rfl rfl ?_
        refine q_iload B X141 at_306 rfl rfl ?_
        refine q_iconst B X141 at_308 rfl ?_
        refine q_iadd B X141 at_309 rfl rfl ?_
        show G (T141.setTop (mkF m 310 #[oi i0, oi i1, oi i2, oi i3, oi i4, oi 0, oi 3, oi c101, oi c102, oi c103, oa a_104, oa b125, oa r_128, oi 5, oi 1] [(.int ((5 : Int32) + (2 : Int32))), (.ref r_128)]))
        rw [show ((5 : Int32) + (2 : Int32)) = (7 : Int32) from by decide]
        show G (T141.setTop (mkF m 310 #[oi i0, oi i1, oi i2, oi i3, oi i4, oi 0, oi 3, oi c101, oi c102, oi c103, oa a_104, oa b125, oa r_128, oi 5, oi 1] [(.int 7), (.ref r_128)]))
        refine qV B X141 hZ128 hown128 170 171 173 172 8 174 rfl rfl rfl rfl rfl rfl (own_ca hw [(100 : Int32), (101 : Int32), (110 : Int32), (121 : Int32), (32 : Int32), c101, c102, c103] 7 O128 r128_0 r128_1 r128_2 W133 (Or.inr ⟨own_big_app [(100 : Int32), (101 : Int32), (110 : Int32), (121 : Int32), (32 : Int32)] hbig, rfl, rfl, own_is16_bytes [(100 : Int32), (101 : Int32), (110 : Int32), (121 : Int32), (32 : Int32), c101, c102, c103]⟩) (Nat.le_of_ble_eq_true rfl) (own_allc (by decide) (own_allc (by decide) (own_allc (by decide) (own_allc (by decide) (own_allc (by decide) (own_allc hr_c101 (own_allc hr_c102 (own_allc hr_c103 own_alln)))))))) g0_S g1_hcpt g2_S g3_S g4_S (Nat.le_of_ble_eq_true rfl) g5_hfmt g6_S) e141 r128_0 own_pd17 rfl rfl at_310 0 rfl rfl rfl (by decide) ?_
        rintro T142 h142 _ L142 X142 e142 ⟨rfl, M142, rfl⟩
        have N142 := Fr.app N141 M142
        show G (T142.setTop (mkF m 313 #[oi i0, oi i1, oi i2, oi i3, oi i4, oi 0, oi 3, oi c101, oi c102, oi c103, oa a_104, oa b125, oa r_128, oi 5, oi 1] [(.int ([(100 : Int32), (101 : Int32), (110 : Int32), (121 : Int32), (32 : Int32), c101, c102, c103].getD 7 0))]))
        show G (T142.setTop (mkF m 313 #[oi i0, oi i1, oi i2, oi i3, oi i4, oi 0, oi 3, oi c101, oi c102, oi c103, oa a_104, oa b125, oa r_128, oi 5, oi 1] [(.int c103)]))
        refine q_iload B X142 at_313 rfl rfl ?_
        refine q_icmpYes 320 B X142 at_315 rfl (teq (rfl : c103 = c103)).1 rfl rfl (by decide) ?_
        refine q_iconst B X142 at_320 rfl ?_
        show G (T142.setTop (mkF m 321 #[oi i0, oi i1, oi i2, oi i3, oi i4, oi 0, oi 3, oi c101, oi c102, oi c103, oa a_104, oa b125, oa r_128, oi 5, oi 1] [(.int 1)]))
        exact qRNW B hR hret (by simp) X142 at_321 e142 SI128 (Nat.le_refl _) hZ128 C128 ⟨rfl, N142, K128⟩ (by decide)
  · skip
    refine q_ifNo B X0 at_3 rfl ((if0 _ _).trans (feq hc3_1).1) rfl ?_
    refine q_iconst B X0 at_6 rfl ?_
    refine q_goto 11 B X0 at_7 rfl rfl (by decide) ?_
    refine q_istore B X0 at_11 rfl rfl rfl ?_
    refine q_iloadN B X0 at_13 rfl rfl ?_
    refine q_iconst B X0 at_14 rfl ?_
    refine q_iand B X0 at_15 rfl rfl ?_
    refine q_istore B X0 at_16 rfl rfl rfl ?_
    show G (s₁.setTop (mkF m 18 #[oi i0, oi i1, oi i2, oi i3, oi i4, oi 1, oi (i1 &&& (3 : Int32)), .unset, .unset, .unset, .unset, .unset, .unset, .unset, .unset] []))
    generalize hn_q143 : (i1 &&& (3 : Int32)) = q143
    rcases own_m3' hn_q143 with rfl | rfl | rfl | rfl
    · skip
      show G (s₁.setTop (mkF m 18 #[oi i0, oi i1, oi i2, oi i3, oi i4, oi 1, oi 0, .unset, .unset, .unset, .unset, .unset, .unset, .unset, .unset] []))
      refine q_iloadN B X0 at_18 rfl rfl ?_
      refine hG _ _ (X0.ldcInt hx hown (mvT hZ (ow hw 0 rfl)) (g := (mkF m 19 #[oi i0, oi i1, oi i2, oi i3, oi i4, oi 1, oi 0, .unset, .unset, .unset, .unset, .unset, .unset, .unset, .unset] [(.int i2)])) rfl (hb hby at_19)) ?_
      refine q_iand B X0 at_21 rfl rfl ?_
      refine q_i2c B X0 at_22 rfl rfl ?_
      show G (s₁.setTop (mkF m 23 #[oi i0, oi i1, oi i2, oi i3, oi i4, oi 1, oi 0, .unset, .unset, .unset, .unset, .unset, .unset, .unset, .unset] [(.int ((i2 &&& (65535 : Int32)).toUInt32.toUInt16.toUInt32.toInt32))]))
      generalize hn_c144 : ((i2 &&& (65535 : Int32)).toUInt32.toUInt16.toUInt32.toInt32) = c144
      have hr_c144 := own_i2c16 hn_c144
      show G (s₁.setTop (mkF m 23 #[oi i0, oi i1, oi i2, oi i3, oi i4, oi 1, oi 0, .unset, .unset, .unset, .unset, .unset, .unset, .unset, .unset] [(.int c144)]))
      refine q_istore B X0 at_23 rfl rfl rfl ?_
      refine q_iloadN B X0 at_25 rfl rfl ?_
      refine hG _ _ (X0.ldcInt hx hown (mvT hZ (ow hw 0 rfl)) (g := (mkF m 26 #[oi i0, oi i1, oi i2, oi i3, oi i4, oi 1, oi 0, oi c144, .unset, .unset, .unset, .unset, .unset, .unset, .unset] [(.int i3)])) rfl (hb hby at_26)) ?_
      refine q_iand B X0 at_28 rfl rfl ?_
      refine q_i2c B X0 at_29 rfl rfl ?_
      show G (s₁.setTop (mkF m 30 #[oi i0, oi i1, oi i2, oi i3, oi i4, oi 1, oi 0, oi c144, .unset, .unset, .unset, .unset, .unset, .unset, .unset] [(.int ((i3 &&& (65535 : Int32)).toUInt32.toUInt16.toUInt32.toInt32))]))
      generalize hn_c145 : ((i3 &&& (65535 : Int32)).toUInt32.toUInt16.toUInt32.toInt32) = c145
      have hr_c145 := own_i2c16 hn_c145
      show G (s₁.setTop (mkF m 30 #[oi i0, oi i1, oi i2, oi i3, oi i4, oi 1, oi 0, oi c144, .unset, .unset, .unset, .unset, .unset, .unset, .unset] [(.int c145)]))
      refine q_istore B X0 at_30 rfl rfl rfl ?_
      refine q_iload B X0 at_32 rfl rfl ?_
      refine hG _ _ (X0.ldcInt hx hown (mvT hZ (ow hw 0 rfl)) (g := (mkF m 34 #[oi i0, oi i1, oi i2, oi i3, oi i4, oi 1, oi 0, oi c144, oi c145, .unset, .unset, .unset, .unset, .unset, .unset] [(.int i4)])) rfl (hb hby at_34)) ?_
      refine q_iand B X0 at_36 rfl rfl ?_
      refine q_i2c B X0 at_37 rfl rfl ?_
      show G (s₁.setTop (mkF m 38 #[oi i0, oi i1, oi i2, oi i3, oi i4, oi 1, oi 0, oi c144, oi c145, .unset, .unset, .unset, .unset, .unset, .unset] [(.int ((i4 &&& (65535 : Int32)).toUInt32.toUInt16.toUInt32.toInt32))]))
      generalize hn_c146 : ((i4 &&& (65535 : Int32)).toUInt32.toUInt16.toUInt32.toInt32) = c146
      have hr_c146 := own_i2c16 hn_c146
      show G (s₁.setTop (mkF m 38 #[oi i0, oi i1, oi i2, oi i3, oi i4, oi 1, oi 0, oi c144, oi c145, .unset, .unset, .unset, .unset, .unset, .unset] [(.int c146)]))
      refine q_istore B X0 at_38 rfl rfl rfl ?_
      refine q_iload B X0 at_40 rfl rfl ?_
      refine q_iload B X0 at_42 rfl rfl ?_
      refine q_iload B X0 at_44 rfl rfl ?_
      refine q_iload B X0 at_46 rfl rfl ?_
      show G (s₁.setTop (mkF m 48 #[oi i0, oi i1, oi i2, oi i3, oi i4, oi 1, oi 0, oi c144, oi c145, oi c146, .unset, .unset, .unset, .unset, .unset] [(.int c146), (.int c145), (.int c144), (.int 0)]))
      refine qSW B X0 hZ hown 1 2 3 4 rfl rfl rfl rfl (own_make0 hw hEL c144 c145 c146 O0 g0_S g1_hcpt g2_S g3_S g4_S hr_c144 hr_c145 hr_c146) e0 SI0 (Nat.le_refl _) hEL H0 own_pd35 rfl rfl at_48 0 rfl rfl rfl (by decide) ?_
      rintro T147 h147 v147 L147 X147 e147 SI147 hZ147 hown147 Y147 ⟨a_147, t_147, kt_147, cd_147, nb_147, vs_147, rfl, M147, J147, y147_0, r147_0, r147_1, r147_2, r147_3, r147_4⟩
      have N147 := Fr.app N0 M147
      have R147 := Y147
      have C147 := (CHr.refl H0).trans R147
      have K147 := (Keep.refl h0 []).trans J147 all0
      have O147 := O0.keep J147 all0
      show G (T147.setTop (mkF m 51 #[oi i0, oi i1, oi i2, oi i3, oi i4, oi 1, oi 0, oi c144, oi c145, oi c146, .unset, .unset, .unset, .unset, .unset] [(.ref a_147)]))
      obtain ⟨hall, rfl, rfl, rfl⟩ : _ ∧ _ ∧ _ ∧ _ := r147_4.resolve_right (fun q => q.1.elim fun k h => absurd h.1 (Nat.not_lt_zero k))
      have W148 : Arv Z h147 t_147 kt_147 .byte (0 : Int32) [] (.int 0) := r147_3
      show G (T147.setTop (mkF m 51 #[oi i0, oi i1, oi i2, oi i3, oi i4, oi 1, oi 0, oi c144, oi c145, oi c146, .unset, .unset, .unset, .unset, .unset] [(.ref a_147)]))
      refine q_astore B X147 at_51 rfl rfl rfl rfl ?_
      refine qnw B X147 hZ147 hown147 35 36 37 rfl rfl rfl e147 at_53 (by decide) fun T149 h149 b149 z149 X149 e149 E149 A149 D149 => ?_
      have R149 := (CHr.ext E149 R147.1)
      have C149 := C147.trans R149
      have K149 := K147.ext E149
      have O149 := O147.ext E149
      refine q_dup B X149 at_56 rfl rfl rfl ?_
      refine q_iload B X149 at_57 rfl rfl ?_
      refine q_aload B X149 at_59 rfl rfl rfl ?_
      show G (T149.setTop (mkF m 61 #[oi i0, oi i1, oi i2, oi i3, oi i4, oi 1, oi 0, oi c144, oi c145, oi c146, oa a_147, .unset, .unset, .unset, .unset] [(.ref a_147), (.int 1), (.ref b149), (.ref b149)]))
      refine qI B X149 hZ147 hown147 38 39 37 40 rfl rfl rfl rfl rfl (own_finit hw (1 : Int32) (.ref a_147) O149 rfl A149 (own_ge O147 (Nat.le_of_eq z149.symm)) (D149 (Or.inr (ow hw 48 rfl)) (ty := .boolean) (by decide)) (D149 (Or.inr (ow hw 50 rfl)) (ty := (.object "java/lang/String")) (by decide))) e149 own_pd34 rfl rfl at_61 1 rfl rfl rfl (by decide) ?_
      rintro T150 h150 _ L150 X150 e150 ⟨rfl, M150, J150, r150_0, r150_1, r150_2⟩
      have N150 := Fr.app N147 M150
      have sf151 : Safe Z consts_1 _ h149 b149 := (Safe.exa hZ147.alike A149 (by decide) (by decide))
      have R150 := (CHr.keep J150 (allS sf151 all0) R149.1)
      have C150 := C149.trans R150
      have K150 := K149.trans J150 (allS (Or.inr (Nat.le_trans K147.1 (Nat.le_of_eq z149.symm))) all0)
      have O150 := O149.keep J150 (allS (own_ge O147 (Nat.le_of_eq z149.symm)) all0)
      refine q_astore B X150 at_64 rfl rfl rfl rfl ?_
      refine q_aload B X150 at_66 rfl rfl rfl ?_
      show G (T150.setTop (mkF m 68 #[oi i0, oi i1, oi i2, oi i3, oi i4, oi 1, oi 0, oi c144, oi c145, oi c146, oa a_147, oa b149, .unset, .unset, .unset] [(.ref b149)]))
      have f153 := ((r147_0.ext E149).keep J150)
      have f154 := ((r147_1.ext E149).keep J150 (ninS (own_ne r147_0.lt (Nat.le_of_eq z149.symm)) nin0))
      have f155 := ((r147_2.ext E149).keep J150 (ninS (own_ne r147_0.lt (Nat.le_of_eq z149.symm)) nin0))
      have f156 := ((W148.ext E149).keep J150 (ninS (own_ne r147_3.lt (Nat.le_of_eq z149.symm)) nin0))
      refine qVW B X150 hZ147 hown147 51 52 54 53 37 55 rfl rfl rfl rfl rfl rfl (own_line1_0 hw hEL (0 : Int32) (6 : Int32) (6 : Int32) 6 6 O150 r150_0 r150_1 r150_2 f153 f154 f155 f156 g2_S g3_S g4_S g0_S g1_hcpt (by decide) (by decide) (by decide) ⟨by decide, by decide, rfl, by decide, by decide, Nat.le_of_ble_eq_true rfl⟩ (by decide) ⟨by decide, by decide, by decide, by decide, Nat.le_of_ble_eq_true rfl⟩ g5_hfmt g6_S) e150 SI147 (Nat.le_trans (Nat.le_trans (Nat.le_refl _) R149.2.1) R150.2.1) hEL R150.1 r150_0 own_pd31 rfl rfl at_68 0 rfl rfl rfl (by decide) ?_
      rintro T152 h152 v152 L152 X152 e152 SI152 hZ152 hown152 Y152 ⟨r_152, u_152, ku_152, rfl, M152, J152, y152_0, y152_1, r152_0, r152_1, r152_2, r152_3⟩
      have N152 := Fr.app N150 M152
      have R152 := Y152
      have C152 := C150.trans R152
      have K152 := K150.trans J152 all0
      have O152 := O150.keep J152 all0
      show G (T152.setTop (mkF m 71 #[oi i0, oi i1, oi i2, oi i3, oi i4, oi 1, oi 0, oi c144, oi c145, oi c146, oa a_147, oa b149, .unset, .unset, .unset] [(.ref r_152)]))
      have W157 : Arv Z h152 u_152 ku_152 .byte (6 : Int32) [(.int 97), (.int 108), (.int 108), (.int 111), (.int 119), (.int 32)] (.int 0) := r152_3
      show G (T152.setTop (mkF m 71 #[oi i0, oi i1, oi i2, oi i3, oi i4, oi 1, oi 0, oi c144, oi c145, oi c146, oa a_147, oa b149, .unset, .unset, .unset] [(.ref r_152)]))
      refine q_astore B X152 at_71 rfl rfl rfl rfl ?_
      refine q_iload B X152 at_73 rfl rfl ?_
      refine q_ifNo B X152 at_75 rfl ((if0 _ _).trans (feq (by decide)).1) rfl ?_
      refine q_bipush B X152 at_78 rfl ?_
      refine q_goto 84 B X152 at_80 rfl rfl (by decide) ?_
      refine q_istore B X152 at_84 rfl rfl rfl ?_
      refine q_aload B X152 at_86 rfl rfl rfl ?_
      refine q_ifnullNo B X152 at_88 rfl rfl ?_
      refine q_aload B X152 at_91 rfl rfl rfl ?_
      show G (T152.setTop (mkF m 93 #[oi i0, oi i1, oi i2, oi i3, oi i4, oi 1, oi 0, oi c144, oi c145, oi c146, oa a_147, oa b149, oa r_152, oi 6, .unset] [(.ref r_152)]))
      refine qV B X152 hZ152 hown152 169 88 90 89 8 91 rfl rfl rfl rfl rfl rfl (own_len hw [(97 : Int32), (108 : Int32), (108 : Int32), (111 : Int32), (119 : Int32), (32 : Int32)] O152 r152_0 r152_1 r152_2 W157 (Or.inl ⟨(own_allc (by decide) (own_allc (by decide) (own_allc (by decide) (own_allc (by decide) (own_allc (by decide) (own_allc (by decide) own_alln)))))), rfl, rfl, rfl⟩) (Nat.le_of_ble_eq_true rfl) (own_allc (by decide) (own_allc (by decide) (own_allc (by decide) (own_allc (by decide) (own_allc (by decide) (own_allc (by decide) own_alln)))))) g0_S g1_hcpt) e152 r152_0 own_pd12 rfl rfl at_93 0 rfl rfl rfl (by decide) ?_
      rintro T158 h158 _ L158 X158 e158 ⟨rfl, M158, rfl⟩
      have N158 := Fr.app N152 M158
      show G (T158.setTop (mkF m 96 #[oi i0, oi i1, oi i2, oi i3, oi i4, oi 1, oi 0, oi c144, oi c145, oi c146, oa a_147, oa b149, oa r_152, oi 6, .unset] [(.int (Int32.ofNat [(97 : Int32), (108 : Int32), (108 : Int32), (111 : Int32), (119 : Int32), (32 : Int32)].length))]))
      show G (T158.setTop (mkF m 96 #[oi i0, oi i1, oi i2, oi i3, oi i4, oi 1, oi 0, oi c144, oi c145, oi c146, oa a_147, oa b149, oa r_152, oi 6, .unset] [(.int 6)]))
      refine q_iload B X158 at_96 rfl rfl ?_
      refine q_iload B X158 at_98 rfl rfl ?_
      refine q_iadd B X158 at_100 rfl rfl ?_
      show G (T158.setTop (mkF m 101 #[oi i0, oi i1, oi i2, oi i3, oi i4, oi 1, oi 0, oi c144, oi c145, oi c146, oa a_147, oa b149, oa r_152, oi 6, .unset] [(.int ((6 : Int32) + (0 : Int32))), (.int 6)]))
      rw [show ((6 : Int32) + (0 : Int32)) = (6 : Int32) from by decide]
      show G (T158.setTop (mkF m 101 #[oi i0, oi i1, oi i2, oi i3, oi i4, oi 1, oi 0, oi c144, oi c145, oi c146, oa a_147, oa b149, oa r_152, oi 6, .unset] [(.int 6), (.int 6)]))
      refine q_icmpYes 106 B X158 at_101 rfl (teq (by decide)).1 rfl rfl (by decide) ?_
      refine q_iload B X158 at_106 rfl rfl ?_
      refine q_ifNo B X158 at_108 rfl ((if0 _ _).trans (feq (by decide)).1) rfl ?_
      refine q_aload B X158 at_111 rfl rfl rfl ?_
      refine q_iconst B X158 at_113 rfl ?_
      show G (T158.setTop (mkF m 114 #[oi i0, oi i1, oi i2, oi i3, oi i4, oi 1, oi 0, oi c144, oi c145, oi c146, oa a_147, oa b149, oa r_152, oi 6, .unset] [(.int 0), (.ref r_152)]))
      refine qV B X158 hZ152 hown152 170 171 173 172 8 174 rfl rfl rfl rfl rfl rfl (own_ca hw [(97 : Int32), (108 : Int32), (108 : Int32), (111 : Int32), (119 : Int32), (32 : Int32)] 0 O152 r152_0 r152_1 r152_2 W157 (Or.inl ⟨(own_allc (by decide) (own_allc (by decide) (own_allc (by decide) (own_allc (by decide) (own_allc (by decide) (own_allc (by decide) own_alln)))))), rfl, rfl, rfl⟩) (Nat.le_of_ble_eq_true rfl) (own_allc (by decide) (own_allc (by decide) (own_allc (by decide) (own_allc (by decide) (own_allc (by decide) (own_allc (by decide) own_alln)))))) g0_S g1_hcpt g2_S g3_S g4_S (Nat.le_of_ble_eq_true rfl) g5_hfmt g6_S) e158 r152_0 own_pd17 rfl rfl at_114 0 rfl rfl rfl (by decide) ?_
      rintro T159 h159 _ L159 X159 e159 ⟨rfl, M159, rfl⟩
      have N159 := Fr.app N158 M159
      show G (T159.setTop (mkF m 117 #[oi i0, oi i1, oi i2, oi i3, oi i4, oi 1, oi 0, oi c144, oi c145, oi c146, oa a_147, oa b149, oa r_152, oi 6, .unset] [(.int ([(97 : Int32), (108 : Int32), (108 : Int32), (111 : Int32), (119 : Int32), (32 : Int32)].getD 0 0))]))
      show G (T159.setTop (mkF m 117 #[oi i0, oi i1, oi i2, oi i3, oi i4, oi 1, oi 0, oi c144, oi c145, oi c146, oa a_147, oa b149, oa r_152, oi 6, .unset] [(.int 97)]))
      refine q_bipush B X159 at_117 rfl ?_
      refine q_icmpNo B X159 at_119 rfl (teq (by decide)).2 rfl ?_
      refine q_aload B X159 at_122 rfl rfl rfl ?_
      refine q_iconst B X159 at_124 rfl ?_
      show G (T159.setTop (mkF m 125 #[oi i0, oi i1, oi i2, oi i3, oi i4, oi 1, oi 0, oi c144, oi c145, oi c146, oa a_147, oa b149, oa r_152, oi 6, .unset] [(.int 1), (.ref r_152)]))
      refine qV B X159 hZ152 hown152 170 171 173 172 8 174 rfl rfl rfl rfl rfl rfl (own_ca hw [(97 : Int32), (108 : Int32), (108 : Int32), (111 : Int32), (119 : Int32), (32 : Int32)] 1 O152 r152_0 r152_1 r152_2 W157 (Or.inl ⟨(own_allc (by decide) (own_allc (by decide) (own_allc (by decide) (own_allc (by decide) (own_allc (by decide) (own_allc (by decide) own_alln)))))), rfl, rfl, rfl⟩) (Nat.le_of_ble_eq_true rfl) (own_allc (by decide) (own_allc (by decide) (own_allc (by decide) (own_allc (by decide) (own_allc (by decide) (own_allc (by decide) own_alln)))))) g0_S g1_hcpt g2_S g3_S g4_S (Nat.le_of_ble_eq_true rfl) g5_hfmt g6_S) e159 r152_0 own_pd17 rfl rfl at_125 0 rfl rfl rfl (by decide) ?_
      rintro T160 h160 _ L160 X160 e160 ⟨rfl, M160, rfl⟩
      have N160 := Fr.app N159 M160
      show G (T160.setTop (mkF m 128 #[oi i0, oi i1, oi i2, oi i3, oi i4, oi 1, oi 0, oi c144, oi c145, oi c146, oa a_147, oa b149, oa r_152, oi 6, .unset] [(.int ([(97 : Int32), (108 : Int32), (108 : Int32), (111 : Int32), (119 : Int32), (32 : Int32)].getD 1 0))]))
      show G (T160.setTop (mkF m 128 #[oi i0, oi i1, oi i2, oi i3, oi i4, oi 1, oi 0, oi c144, oi c145, oi c146, oa a_147, oa b149, oa r_152, oi 6, .unset] [(.int 108)]))
      refine q_bipush B X160 at_128 rfl ?_
      refine q_icmpNo B X160 at_130 rfl (teq (by decide)).2 rfl ?_
      refine q_aload B X160 at_133 rfl rfl rfl ?_
      refine q_iconst B X160 at_135 rfl ?_
      show G (T160.setTop (mkF m 136 #[oi i0, oi i1, oi i2, oi i3, oi i4, oi 1, oi 0, oi c144, oi c145, oi c146, oa a_147, oa b149, oa r_152, oi 6, .unset] [(.int 2), (.ref r_152)]))
      refine qV B X160 hZ152 hown152 170 171 173 172 8 174 rfl rfl rfl rfl rfl rfl (own_ca hw [(97 : Int32), (108 : Int32), (108 : Int32), (111 : Int32), (119 : Int32), (32 : Int32)] 2 O152 r152_0 r152_1 r152_2 W157 (Or.inl ⟨(own_allc (by decide) (own_allc (by decide) (own_allc (by decide) (own_allc (by decide) (own_allc (by decide) (own_allc (by decide) own_alln)))))), rfl, rfl, rfl⟩) (Nat.le_of_ble_eq_true rfl) (own_allc (by decide) (own_allc (by decide) (own_allc (by decide) (own_allc (by decide) (own_allc (by decide) (own_allc (by decide) own_alln)))))) g0_S g1_hcpt g2_S g3_S g4_S (Nat.le_of_ble_eq_true rfl) g5_hfmt g6_S) e160 r152_0 own_pd17 rfl rfl at_136 0 rfl rfl rfl (by decide) ?_
      rintro T161 h161 _ L161 X161 e161 ⟨rfl, M161, rfl⟩
      have N161 := Fr.app N160 M161
      show G (T161.setTop (mkF m 139 #[oi i0, oi i1, oi i2, oi i3, oi i4, oi 1, oi 0, oi c144, oi c145, oi c146, oa a_147, oa b149, oa r_152, oi 6, .unset] [(.int ([(97 : Int32), (108 : Int32), (108 : Int32), (111 : Int32), (119 : Int32), (32 : Int32)].getD 2 0))]))
      show G (T161.setTop (mkF m 139 #[oi i0, oi i1, oi i2, oi i3, oi i4, oi 1, oi 0, oi c144, oi c145, oi c146, oa a_147, oa b149, oa r_152, oi 6, .unset] [(.int 108)]))
      refine q_bipush B X161 at_139 rfl ?_
      refine q_icmpNo B X161 at_141 rfl (teq (by decide)).2 rfl ?_
      refine q_aload B X161 at_144 rfl rfl rfl ?_
      refine q_iconst B X161 at_146 rfl ?_
      show G (T161.setTop (mkF m 147 #[oi i0, oi i1, oi i2, oi i3, oi i4, oi 1, oi 0, oi c144, oi c145, oi c146, oa a_147, oa b149, oa r_152, oi 6, .unset] [(.int 3), (.ref r_152)]))
      refine qV B X161 hZ152 hown152 170 171 173 172 8 174 rfl rfl rfl rfl rfl rfl (own_ca hw [(97 : Int32), (108 : Int32), (108 : Int32), (111 : Int32), (119 : Int32), (32 : Int32)] 3 O152 r152_0 r152_1 r152_2 W157 (Or.inl ⟨(own_allc (by decide) (own_allc (by decide) (own_allc (by decide) (own_allc (by decide) (own_allc (by decide) (own_allc (by decide) own_alln)))))), rfl, rfl, rfl⟩) (Nat.le_of_ble_eq_true rfl) (own_allc (by decide) (own_allc (by decide) (own_allc (by decide) (own_allc (by decide) (own_allc (by decide) (own_allc (by decide) own_alln)))))) g0_S g1_hcpt g2_S g3_S g4_S (Nat.le_of_ble_eq_true rfl) g5_hfmt g6_S) e161 r152_0 own_pd17 rfl rfl at_147 0 rfl rfl rfl (by decide) ?_
      rintro T162 h162 _ L162 X162 e162 ⟨rfl, M162, rfl⟩
      have N162 := Fr.app N161 M162
      show G (T162.setTop (mkF m 150 #[oi i0, oi i1, oi i2, oi i3, oi i4, oi 1, oi 0, oi c144, oi c145, oi c146, oa a_147, oa b149, oa r_152, oi 6, .unset] [(.int ([(97 : Int32), (108 : Int32), (108 : Int32), (111 : Int32), (119 : Int32), (32 : Int32)].getD 3 0))]))
      show G (T162.setTop (mkF m 150 #[oi i0, oi i1, oi i2, oi i3, oi i4, oi 1, oi 0, oi c144, oi c145, oi c146, oa a_147, oa b149, oa r_152, oi 6, .unset] [(.int 111)]))
      refine q_bipush B X162 at_150 rfl ?_
      refine q_icmpNo B X162 at_152 rfl (teq (by decide)).2 rfl ?_
      refine q_aload B X162 at_155 rfl rfl rfl ?_
      refine q_iconst B X162 at_157 rfl ?_
      show G (T162.setTop (mkF m 158 #[oi i0, oi i1, oi i2, oi i3, oi i4, oi 1, oi 0, oi c144, oi c145, oi c146, oa a_147, oa b149, oa r_152, oi 6, .unset] [(.int 4), (.ref r_152)]))
      refine qV B X162 hZ152 hown152 170 171 173 172 8 174 rfl rfl rfl rfl rfl rfl (own_ca hw [(97 : Int32), (108 : Int32), (108 : Int32), (111 : Int32), (119 : Int32), (32 : Int32)] 4 O152 r152_0 r152_1 r152_2 W157 (Or.inl ⟨(own_allc (by decide) (own_allc (by decide) (own_allc (by decide) (own_allc (by decide) (own_allc (by decide) (own_allc (by decide) own_alln)))))), rfl, rfl, rfl⟩) (Nat.le_of_ble_eq_true rfl) (own_allc (by decide) (own_allc (by decide) (own_allc (by decide) (own_allc (by decide) (own_allc (by decide) (own_allc (by decide) own_alln)))))) g0_S g1_hcpt g2_S g3_S g4_S (Nat.le_of_ble_eq_true rfl) g5_hfmt g6_S) e162 r152_0 own_pd17 rfl rfl at_158 0 rfl rfl rfl (by decide) ?_
      rintro T163 h163 _ L163 X163 e163 ⟨rfl, M163, rfl⟩
      have N163 := Fr.app N162 M163
      show G (T163.setTop (mkF m 161 #[oi i0, oi i1, oi i2, oi i3, oi i4, oi 1, oi 0, oi c144, oi c145, oi c146, oa a_147, oa b149, oa r_152, oi 6, .unset] [(.int ([(97 : Int32), (108 : Int32), (108 : Int32), (111 : Int32), (119 : Int32), (32 : Int32)].getD 4 0))]))
      show G (T163.setTop (mkF m 161 #[oi i0, oi i1, oi i2, oi i3, oi i4, oi 1, oi 0, oi c144, oi c145, oi c146, oa a_147, oa b149, oa r_152, oi 6, .unset] [(.int 119)]))
      refine q_bipush B X163 at_161 rfl ?_
      refine q_icmpNo B X163 at_163 rfl (teq (by decide)).2 rfl ?_
      refine q_aload B X163 at_166 rfl rfl rfl ?_
      refine q_iconst B X163 at_168 rfl ?_
      show G (T163.setTop (mkF m 169 #[oi i0, oi i1, oi i2, oi i3, oi i4, oi 1, oi 0, oi c144, oi c145, oi c146, oa a_147, oa b149, oa r_152, oi 6, .unset] [(.int 5), (.ref r_152)]))
      refine qV B X163 hZ152 hown152 170 171 173 172 8 174 rfl rfl rfl rfl rfl rfl (own_ca hw [(97 : Int32), (108 : Int32), (108 : Int32), (111 : Int32), (119 : Int32), (32 : Int32)] 5 O152 r152_0 r152_1 r152_2 W157 (Or.inl ⟨(own_allc (by decide) (own_allc (by decide) (own_allc (by decide) (own_allc (by decide) (own_allc (by decide) (own_allc (by decide) own_alln)))))), rfl, rfl, rfl⟩) (Nat.le_of_ble_eq_true rfl) (own_allc (by decide) (own_allc (by decide) (own_allc (by decide) (own_allc (by decide) (own_allc (by decide) (own_allc (by decide) own_alln)))))) g0_S g1_hcpt g2_S g3_S g4_S (Nat.le_of_ble_eq_true rfl) g5_hfmt g6_S) e163 r152_0 own_pd17 rfl rfl at_169 0 rfl rfl rfl (by decide) ?_
      rintro T164 h164 _ L164 X164 e164 ⟨rfl, M164, rfl⟩
      have N164 := Fr.app N163 M164
      show G (T164.setTop (mkF m 172 #[oi i0, oi i1, oi i2, oi i3, oi i4, oi 1, oi 0, oi c144, oi c145, oi c146, oa a_147, oa b149, oa r_152, oi 6, .unset] [(.int ([(97 : Int32), (108 : Int32), (108 : Int32), (111 : Int32), (119 : Int32), (32 : Int32)].getD 5 0))]))
      show G (T164.setTop (mkF m 172 #[oi i0, oi i1, oi i2, oi i3, oi i4, oi 1, oi 0, oi c144, oi c145, oi c146, oa a_147, oa b149, oa r_152, oi 6, .unset] [(.int 32)]))
      refine q_bipush B X164 at_172 rfl ?_
      refine q_icmpNo B X164 at_174 rfl (teq (by decide)).2 rfl ?_
      refine q_iconst B X164 at_177 rfl ?_
      refine q_goto 182 B X164 at_178 rfl rfl (by decide) ?_
      refine q_istore B X164 at_182 rfl rfl rfl ?_
      refine q_goto 249 B X164 at_184 rfl rfl (by decide) ?_
      refine q_iload B X164 at_249 rfl rfl ?_
      refine q_ifYes 256 B X164 at_251 rfl ((if0 _ _).trans (feq (by decide)).2) rfl rfl (by decide) ?_
      refine q_iload B X164 at_256 rfl rfl ?_
      refine q_iconst B X164 at_258 rfl ?_
      refine q_icmpYes 276 B X164 at_259 rfl (tlt (by decide)).1 rfl rfl (by decide) ?_
      refine q_iload B X164 at_276 rfl rfl ?_
      refine q_iconst B X164 at_278 rfl ?_
      refine q_icmpYes 298 B X164 at_279 rfl (tlt (by decide)).1 rfl rfl (by decide) ?_
      refine q_iload B X164 at_298 rfl rfl ?_
      refine q_iconst B X164 at_300 rfl ?_
      refine q_icmpYes 320 B X164 at_301 rfl (tlt (by decide)).1 rfl rfl (by decide) ?_
      show G (T164.setTop (mkF m 320 #[oi i0, oi i1, oi i2, oi i3, oi i4, oi 1, oi 0, oi c144, oi c145, oi c146, oa a_147, oa b149, oa r_152, oi 6, oi 1] []))
      refine q_iconst B X164 at_320 rfl ?_
      show G (T164.setTop (mkF m 321 #[oi i0, oi i1, oi i2, oi i3, oi i4, oi 1, oi 0, oi c144, oi c145, oi c146, oa a_147, oa b149, oa r_152, oi 6, oi 1] [(.int 1)]))
      exact qRNW B hR hret (by simp) X164 at_321 e164 SI152 (Nat.le_refl _) hZ152 C152 ⟨rfl, N164, K152⟩ (by decide)
    · skip
      show G (s₁.setTop (mkF m 18 #[oi i0, oi i1, oi i2, oi i3, oi i4, oi 1, oi 1, .unset, .unset, .unset, .unset, .unset, .unset, .unset, .unset] []))
      refine q_iloadN B X0 at_18 rfl rfl ?_
      refine hG _ _ (X0.ldcInt hx hown (mvT hZ (ow hw 0 rfl)) (g := (mkF m 19 #[oi i0, oi i1, oi i2, oi i3, oi i4, oi 1, oi 1, .unset, .unset, .unset, .unset, .unset, .unset, .unset, .unset] [(.int i2)])) rfl (hb hby at_19)) ?_
      refine q_iand B X0 at_21 rfl rfl ?_
      refine q_i2c B X0 at_22 rfl rfl ?_
      show G (s₁.setTop (mkF m 23 #[oi i0, oi i1, oi i2, oi i3, oi i4, oi 1, oi 1, .unset, .unset, .unset, .unset, .unset, .unset, .unset, .unset] [(.int ((i2 &&& (65535 : Int32)).toUInt32.toUInt16.toUInt32.toInt32))]))
      generalize hn_c165 : ((i2 &&& (65535 : Int32)).toUInt32.toUInt16.toUInt32.toInt32) = c165
      have hr_c165 := own_i2c16 hn_c165
      show G (s₁.setTop (mkF m 23 #[oi i0, oi i1, oi i2, oi i3, oi i4, oi 1, oi 1, .unset, .unset, .unset, .unset, .unset, .unset, .unset, .unset] [(.int c165)]))
      refine q_istore B X0 at_23 rfl rfl rfl ?_
      refine q_iloadN B X0 at_25 rfl rfl ?_
      refine hG _ _ (X0.ldcInt hx hown (mvT hZ (ow hw 0 rfl)) (g := (mkF m 26 #[oi i0, oi i1, oi i2, oi i3, oi i4, oi 1, oi 1, oi c165, .unset, .unset, .unset, .unset, .unset, .unset, .unset] [(.int i3)])) rfl (hb hby at_26)) ?_
      refine q_iand B X0 at_28 rfl rfl ?_
      refine q_i2c B X0 at_29 rfl rfl ?_
      show G (s₁.setTop (mkF m 30 #[oi i0, oi i1, oi i2, oi i3, oi i4, oi 1, oi 1, oi c165, .unset, .unset, .unset, .unset, .unset, .unset, .unset] [(.int ((i3 &&& (65535 : Int32)).toUInt32.toUInt16.toUInt32.toInt32))]))
      generalize hn_c166 : ((i3 &&& (65535 : Int32)).toUInt32.toUInt16.toUInt32.toInt32) = c166
      have hr_c166 := own_i2c16 hn_c166
      show G (s₁.setTop (mkF m 30 #[oi i0, oi i1, oi i2, oi i3, oi i4, oi 1, oi 1, oi c165, .unset, .unset, .unset, .unset, .unset, .unset, .unset] [(.int c166)]))
      refine q_istore B X0 at_30 rfl rfl rfl ?_
      refine q_iload B X0 at_32 rfl rfl ?_
      refine hG _ _ (X0.ldcInt hx hown (mvT hZ (ow hw 0 rfl)) (g := (mkF m 34 #[oi i0, oi i1, oi i2, oi i3, oi i4, oi 1, oi 1, oi c165, oi c166, .unset, .unset, .unset, .unset, .unset, .unset] [(.int i4)])) rfl (hb hby at_34)) ?_
      refine q_iand B X0 at_36 rfl rfl ?_
      refine q_i2c B X0 at_37 rfl rfl ?_
      show G (s₁.setTop (mkF m 38 #[oi i0, oi i1, oi i2, oi i3, oi i4, oi 1, oi 1, oi c165, oi c166, .unset, .unset, .unset, .unset, .unset, .unset] [(.int ((i4 &&& (65535 : Int32)).toUInt32.toUInt16.toUInt32.toInt32))]))
      generalize hn_c167 : ((i4 &&& (65535 : Int32)).toUInt32.toUInt16.toUInt32.toInt32) = c167
      have hr_c167 := own_i2c16 hn_c167
      show G (s₁.setTop (mkF m 38 #[oi i0, oi i1, oi i2, oi i3, oi i4, oi 1, oi 1, oi c165, oi c166, .unset, .unset, .unset, .unset, .unset, .unset] [(.int c167)]))
      refine q_istore B X0 at_38 rfl rfl rfl ?_
      refine q_iload B X0 at_40 rfl rfl ?_
      refine q_iload B X0 at_42 rfl rfl ?_
      refine q_iload B X0 at_44 rfl rfl ?_
      refine q_iload B X0 at_46 rfl rfl ?_
      show G (s₁.setTop (mkF m 48 #[oi i0, oi i1, oi i2, oi i3, oi i4, oi 1, oi 1, oi c165, oi c166, oi c167, .unset, .unset, .unset, .unset, .unset] [(.int c167), (.int c166), (.int c165), (.int 1)]))
      refine qS B X0 hZ hown 1 2 3 4 rfl rfl rfl rfl (own_make1 hw c165 c166 c167 O0 g0_S g1_hcpt g2_S g3_S g4_S hr_c165 hr_c166 hr_c167) e0 own_pd35 rfl rfl at_48 0 rfl rfl rfl (by decide) ?_
      rintro T168 h168 _ L168 X168 e168 ⟨a_168, t_168, kt_168, cd_168, nb_168, vs_168, rfl, M168, J168, y168_0, r168_0, r168_1, r168_2, r168_3, r168_4⟩
      have N168 := Fr.app N0 M168
      have R168 := (CHr.keep J168 all0 H0)
      have C168 := (CHr.refl H0).trans R168
      have K168 := (Keep.refl h0 []).trans J168 all0
      have O168 := O0.keep J168 all0
      show G (T168.setTop (mkF m 51 #[oi i0, oi i1, oi i2, oi i3, oi i4, oi 1, oi 1, oi c165, oi c166, oi c167, .unset, .unset, .unset, .unset, .unset] [(.ref a_168)]))
      rcases r168_4 with ⟨hall, rfl, rfl, rfl⟩ | ⟨hbig, rfl, rfl, h16⟩
      · skip
        have W169 : Arv Z h168 t_168 kt_168 .byte (1 : Int32) [(.int (c165.toInt8.toInt32))] (.int 0) := r168_3
        show G (T168.setTop (mkF m 51 #[oi i0, oi i1, oi i2, oi i3, oi i4, oi 1, oi 1, oi c165, oi c166, oi c167, .unset, .unset, .unset, .unset, .unset] [(.ref a_168)]))
        refine q_astore B X168 at_51 rfl rfl rfl rfl ?_
        refine qnw B X168 hZ hown 35 36 37 rfl rfl rfl e168 at_53 (by decide) fun T170 h170 b170 z170 X170 e170 E170 A170 D170 => ?_
        have R170 := (CHr.ext E170 R168.1)
        have C170 := C168.trans R170
        have K170 := K168.ext E170
        have O170 := O168.ext E170
        refine q_dup B X170 at_56 rfl rfl rfl ?_
        refine q_iload B X170 at_57 rfl rfl ?_
        refine q_aload B X170 at_59 rfl rfl rfl ?_
        show G (T170.setTop (mkF m 61 #[oi i0, oi i1, oi i2, oi i3, oi i4, oi 1, oi 1, oi c165, oi c166, oi c167, oa a_168, .unset, .unset, .unset, .unset] [(.ref a_168), (.int 1), (.ref b170), (.ref b170)]))
        refine qI B X170 hZ hown 38 39 37 40 rfl rfl rfl rfl rfl (own_finit hw (1 : Int32) (.ref a_168) O170 rfl A170 (own_ge O168 (Nat.le_of_eq z170.symm)) (D170 (Or.inr (ow hw 48 rfl)) (ty := .boolean) (by decide)) (D170 (Or.inr (ow hw 50 rfl)) (ty := (.object "java/lang/String")) (by decide))) e170 own_pd34 rfl rfl at_61 1 rfl rfl rfl (by decide) ?_
        rintro T171 h171 _ L171 X171 e171 ⟨rfl, M171, J171, r171_0, r171_1, r171_2⟩
        have N171 := Fr.app N168 M171
        have sf172 : Safe Z consts_1 _ h170 b170 := (Safe.exa hZ.alike A170 (by decide) (by decide))
        have R171 := (CHr.keep J171 (allS sf172 all0) R170.1)
        have C171 := C170.trans R171
        have K171 := K170.trans J171 (allS (Or.inr (Nat.le_trans K168.1 (Nat.le_of_eq z170.symm))) all0)
        have O171 := O170.keep J171 (allS (own_ge O168 (Nat.le_of_eq z170.symm)) all0)
        refine q_astore B X171 at_64 rfl rfl rfl rfl ?_
        refine q_aload B X171 at_66 rfl rfl rfl ?_
        show G (T171.setTop (mkF m 68 #[oi i0, oi i1, oi i2, oi i3, oi i4, oi 1, oi 1, oi c165, oi c166, oi c167, oa a_168, oa b170, .unset, .unset, .unset] [(.ref b170)]))
        have f174 := ((r168_0.ext E170).keep J171)
        have f175 := ((r168_1.ext E170).keep J171 (ninS (own_ne r168_0.lt (Nat.le_of_eq z170.symm)) nin0))
        have f176 := ((r168_2.ext E170).keep J171 (ninS (own_ne r168_0.lt (Nat.le_of_eq z170.symm)) nin0))
        have f177 := ((W169.ext E170).keep J171 (ninS (own_ne r168_3.lt (Nat.le_of_eq z170.symm)) nin0))
        refine qVW B X171 hZ hown 51 52 54 53 37 55 rfl rfl rfl rfl rfl rfl (own_line1_0 hw hEL (1 : Int32) (7 : Int32) (7 : Int32) 6 7 O171 r171_0 r171_1 r171_2 f174 f175 f176 f177 g2_S g3_S g4_S g0_S g1_hcpt (by decide) (by decide) (by decide) ⟨by decide, by decide, rfl, by decide, by decide, Nat.le_of_ble_eq_true rfl⟩ (by decide) ⟨by decide, by decide, by decide, by decide, Nat.le_of_ble_eq_true rfl⟩ g5_hfmt g6_S) e171 SI0 (Nat.le_trans (Nat.le_trans (Nat.le_trans (Nat.le_refl _) R168.2.1) R170.2.1) R171.2.1) hEL R171.1 r171_0 own_pd31 rfl rfl at_68 0 rfl rfl rfl (by decide) ?_
        rintro T173 h173 v173 L173 X173 e173 SI173 hZ173 hown173 Y173 ⟨r_173, u_173, ku_173, rfl, M173, J173, y173_0, y173_1, r173_0, r173_1, r173_2, r173_3⟩
        have N173 := Fr.app N171 M173
        have R173 := Y173
        have C173 := C171.trans R173
        have K173 := K171.trans J173 all0
        have O173 := O171.keep J173 all0
        show G (T173.setTop (mkF m 71 #[oi i0, oi i1, oi i2, oi i3, oi i4, oi 1, oi 1, oi c165, oi c166, oi c167, oa a_168, oa b170, .unset, .unset, .unset] [(.ref r_173)]))
        have W178 : Arv Z h173 u_173 ku_173 .byte (7 : Int32) [(.int 97), (.int 108), (.int 108), (.int 111), (.int 119), (.int 32), (.int (c165.toInt8.toInt32))] (.int 0) := r173_3
        show G (T173.setTop (mkF m 71 #[oi i0, oi i1, oi i2, oi i3, oi i4, oi 1, oi 1, oi c165, oi c166, oi c167, oa a_168, oa b170, .unset, .unset, .unset] [(.ref r_173)]))
        refine q_astore B X173 at_71 rfl rfl rfl rfl ?_
        refine q_iload B X173 at_73 rfl rfl ?_
        refine q_ifNo B X173 at_75 rfl ((if0 _ _).trans (feq (by decide)).1) rfl ?_
        refine q_bipush B X173 at_78 rfl ?_
        refine q_goto 84 B X173 at_80 rfl rfl (by decide) ?_
        refine q_istore B X173 at_84 rfl rfl rfl ?_
        refine q_aload B X173 at_86 rfl rfl rfl ?_
        refine q_ifnullNo B X173 at_88 rfl rfl ?_
        refine q_aload B X173 at_91 rfl rfl rfl ?_
        show G (T173.setTop (mkF m 93 #[oi i0, oi i1, oi i2, oi i3, oi i4, oi 1, oi 1, oi c165, oi c166, oi c167, oa a_168, oa b170, oa r_173, oi 6, .unset] [(.ref r_173)]))
        refine qV B X173 hZ173 hown173 169 88 90 89 8 91 rfl rfl rfl rfl rfl rfl (own_len hw [(97 : Int32), (108 : Int32), (108 : Int32), (111 : Int32), (119 : Int32), (32 : Int32), c165] O173 r173_0 r173_1 r173_2 W178 (Or.inl ⟨(own_allc (by decide) (own_allc (by decide) (own_allc (by decide) (own_allc (by decide) (own_allc (by decide) (own_allc (by decide) (own_allc (hall _ (List.mem_of_getElem? (i := 0) rfl)) own_alln))))))), rfl, rfl, rfl⟩) (Nat.le_of_ble_eq_true rfl) (own_allc (by decide) (own_allc (by decide) (own_allc (by decide) (own_allc (by decide) (own_allc (by decide) (own_allc (by decide) (own_allc hr_c165 own_alln))))))) g0_S g1_hcpt) e173 r173_0 own_pd12 rfl rfl at_93 0 rfl rfl rfl (by decide) ?_
        rintro T179 h179 _ L179 X179 e179 ⟨rfl, M179, rfl⟩
        have N179 := Fr.app N173 M179
        show G (T179.setTop (mkF m 96 #[oi i0, oi i1, oi i2, oi i3, oi i4, oi 1, oi 1, oi c165, oi c166, oi c167, oa a_168, oa b170, oa r_173, oi 6, .unset] [(.int (Int32.ofNat [(97 : Int32), (108 : Int32), (108 : Int32), (111 : Int32), (119 : Int32), (32 : Int32), c165].length))]))
        show G (T179.setTop (mkF m 96 #[oi i0, oi i1, oi i2, oi i3, oi i4, oi 1, oi 1, oi c165, oi c166, oi c167, oa a_168, oa b170, oa r_173, oi 6, .unset] [(.int 7)]))
        refine q_iload B X179 at_96 rfl rfl ?_
        refine q_iload B X179 at_98 rfl rfl ?_
        refine q_iadd B X179 at_100 rfl rfl ?_
        show G (T179.setTop (mkF m 101 #[oi i0, oi i1, oi i2, oi i3, oi i4, oi 1, oi 1, oi c165, oi c166, oi c167, oa a_168, oa b170, oa r_173, oi 6, .unset] [(.int ((6 : Int32) + (1 : Int32))), (.int 7)]))
        rw [show ((6 : Int32) + (1 : Int32)) = (7 : Int32) from by decide]
        show G (T179.setTop (mkF m 101 #[oi i0, oi i1, oi i2, oi i3, oi i4, oi 1, oi 1, oi c165, oi c166, oi c167, oa a_168, oa b170, oa r_173, oi 6, .unset] [(.int 7), (.int 7)]))
        refine q_icmpYes 106 B X179 at_101 rfl (teq (by decide)).1 rfl rfl (by decide) ?_
        refine q_iload B X179 at_106 rfl rfl ?_
        refine q_ifNo B X179 at_108 rfl ((if0 _ _).trans (feq (by decide)).1) rfl ?_
        refine q_aload B X179 at_111 rfl rfl rfl ?_
        refine q_iconst B X179 at_113 rfl ?_
        show G (T179.setTop (mkF m 114 #[oi i0, oi i1, oi i2, oi i3, oi i4, oi 1, oi 1, oi c165, oi c166, oi c167, oa a_168, oa b170, oa r_173, oi 6, .unset] [(.int 0), (.ref r_173)]))
        refine qV B X179 hZ173 hown173 170 171 173 172 8 174 rfl rfl rfl rfl rfl rfl (own_ca hw [(97 : Int32), (108 : Int32), (108 : Int32), (111 : Int32), (119 : Int32), (32 : Int32), c165] 0 O173 r173_0 r173_1 r173_2 W178 (Or.inl ⟨(own_allc (by decide) (own_allc (by decide) (own_allc (by decide) (own_allc (by decide) (own_allc (by decide) (own_allc (by decide) (own_allc (hall _ (List.mem_of_getElem? (i := 0) rfl)) own_alln))))))), rfl, rfl, rfl⟩) (Nat.le_of_ble_eq_true rfl) (own_allc (by decide) (own_allc (by decide) (own_allc (by decide) (own_allc (by decide) (own_allc (by decide) (own_allc (by decide) (own_allc hr_c165 own_alln))))))) g0_S g1_hcpt g2_S g3_S g4_S (Nat.le_of_ble_eq_true rfl) g5_hfmt g6_S) e179 r173_0 own_pd17 rfl rfl at_114 0 rfl rfl rfl (by decide) ?_
        rintro T180 h180 _ L180 X180 e180 ⟨rfl, M180, rfl⟩
        have N180 := Fr.app N179 M180
        show G (T180.setTop (mkF m 117 #[oi i0, oi i1, oi i2, oi i3, oi i4, oi 1, oi 1, oi c165, oi c166, oi c167, oa a_168, oa b170, oa r_173, oi 6, .unset] [(.int ([(97 : Int32), (108 : Int32), (108 : Int32), (111 : Int32), (119 : Int32), (32 : Int32), c165].getD 0 0))]))
        show G (T180.setTop (mkF m 117 #[oi i0, oi i1, oi i2, oi i3, oi i4, oi 1, oi 1, oi c165, oi c166, oi c167, oa a_168, oa b170, oa r_173, oi 6, .unset] [(.int 97)]))
        refine q_bipush B X180 at_117 rfl ?_
        refine q_icmpNo B X180 at_119 rfl (teq (by decide)).2 rfl ?_
        refine q_aload B X180 at_122 rfl rfl rfl ?_
        refine q_iconst B X180 at_124 rfl ?_
        show G (T180.setTop (mkF m 125 #[oi i0, oi i1, oi i2, oi i3, oi i4, oi 1, oi 1, oi c165, oi c166, oi c167, oa a_168, oa b170, oa r_173, oi 6, .unset] [(.int 1), (.ref r_173)]))
        refine qV B X180 hZ173 hown173 170 171 173 172 8 174 rfl rfl rfl rfl rfl rfl (own_ca hw [(97 : Int32), (108 : Int32), (108 : Int32), (111 : Int32), (119 : Int32), (32 : Int32), c165] 1 O173 r173_0 r173_1 r173_2 W178 (Or.inl ⟨(own_allc (by decide) (own_allc (by decide) (own_allc (by decide) (own_allc (by decide) (own_allc (by decide) (own_allc (by decide) (own_allc (hall _ (List.mem_of_getElem? (i := 0) rfl)) own_alln))))))), rfl, rfl, rfl⟩) (Nat.le_of_ble_eq_true rfl) (own_allc (by decide) (own_allc (by decide) (own_allc (by decide) (own_allc (by decide) (own_allc (by decide) (own_allc (by decide) (own_allc hr_c165 own_alln))))))) g0_S g1_hcpt g2_S g3_S g4_S (Nat.le_of_ble_eq_true rfl) g5_hfmt g6_S) e180 r173_0 own_pd17 rfl rfl at_125 0 rfl rfl rfl (by decide) ?_
        rintro T181 h181 _ L181 X181 e181 ⟨rfl, M181, rfl⟩
        have N181 := Fr.app N180 M181
        show G (T181.setTop (mkF m 128 #[oi i0, oi i1, oi i2, oi i3, oi i4, oi 1, oi 1, oi c165, oi c166, oi c167, oa a_168, oa b170, oa r_173, oi 6, .unset] [(.int ([(97 : Int32), (108 : Int32), (108 : Int32), (111 : Int32), (119 : Int32), (32 : Int32), c165].getD 1 0))]))
        show G (T181.setTop (mkF m 128 #[oi i0, oi i1, oi i2, oi i3, oi i4, oi 1, oi 1, oi c165, oi c166, oi c167, oa a_168, oa b170, oa r_173, oi 6, .unset] [(.int 108)]))
        refine q_bipush B X181 at_128 rfl ?_
        refine q_icmpNo B X181 at_130 rfl (teq (by decide)).2 rfl ?_
        refine q_aload B X181 at_133 rfl rfl rfl ?_
        refine q_iconst B X181 at_135 rfl ?_
        show G (T181.setTop (mkF m 136 #[oi i0, oi i1, oi i2, oi i3, oi i4, oi 1, oi 1, oi c165, oi c166, oi c167, oa a_168, oa b170, oa r_173, oi 6, .unset] [(.int 2), (.ref r_173)]))
        refine qV B X181 hZ173 hown173 170 171 173 172 8 174 rfl rfl rfl rfl rfl rfl (own_ca hw [(97 : Int32), (108 : Int32), (108 : Int32), (111 : Int32), (119 : Int32), (32 : Int32), c165] 2 O173 r173_0 r173_1 r173_2 W178 (Or.inl ⟨(own_allc (by decide) (own_allc (by decide) (own_allc (by decide) (own_allc (by decide) (own_allc (by decide) (own_allc (by decide) (own_allc (hall _ (List.mem_of_getElem? (i := 0) rfl)) own_alln))))))), rfl, rfl, rfl⟩) (Nat.le_of_ble_eq_true rfl) (own_allc (by decide) (own_allc (by decide) (own_allc (by decide) (own_allc (by decide) (own_allc (by decide) (own_allc (by decide) (own_allc hr_c165 own_alln))))))) g0_S g1_hcpt g2_S g3_S g4_S (Nat.le_of_ble_eq_true rfl) g5_hfmt g6_S) e181 r173_0 own_pd17 rfl rfl at_136 0 rfl rfl rfl (by decide) ?_
        rintro T182 h182 _ L182 X182 e182 ⟨rfl, M182, rfl⟩
        have N182 := Fr.app N181 M182
        show G (T182.setTop (mkF m 139 #[oi i0, oi i1, oi i2, oi i3, oi i4, oi 1, oi 1, oi c165, oi c166, oi c167, oa a_168, oa b170, oa r_173, oi 6, .unset] [(.int ([(97 : Int32), (108 : Int32), (108 : Int32), (111 : Int32), (119 : Int32), (32 : Int32), c165].getD 2 0))]))
        show G (T182.setTop (mkF m 139 #[oi i0, oi i1, oi i2, oi i3, oi i4, oi 1, oi 1, oi c165, oi c166, oi c167, oa a_168, oa b170, oa r_173, oi 6, .unset] [(.int 108)]))
        refine q_bipush B X182 at_139 rfl ?_
        refine q_icmpNo B X182 at_141 rfl (teq (by decide)).2 rfl ?_
        refine q_aload B X182 at_144 rfl rfl rfl ?_
        refine q_iconst B X182 at_146 rfl ?_
        show G (T182.setTop (mkF m 147 #[oi i0, oi i1, oi i2, oi i3, oi i4, oi 1, oi 1, oi c165, oi c166, oi c167, oa a_168, oa b170, oa r_173, oi 6, .unset] [(.int 3), (.ref r_173)]))
        refine qV B X182 hZ173 hown173 170 171 173 172 8 174 rfl rfl rfl rfl rfl rfl (own_ca hw [(97 : Int32), (108 : Int32), (108 : Int32), (111 : Int32), (119 : Int32), (32 : Int32), c165] 3 O173 r173_0 r173_1 r173_2 W178 (Or.inl ⟨(own_allc (by decide) (own_allc (by decide) (own_allc (by decide) (own_allc (by decide) (own_allc (by decide) (own_allc (by decide) (own_allc (hall _ (List.mem_of_getElem? (i := 0) rfl)) own_alln))))))), rfl, rfl, rfl⟩) (Nat.le_of_ble_eq_true rfl) (own_allc (by decide) (own_allc (by decide) (own_allc (by decide) (own_allc (by decide) (own_allc (by decide) (own_allc (by decide) (own_allc hr_c165 own_alln))))))) g0_S g1_hcpt g2_S g3_S g4_S (Nat.le_of_ble_eq_true rfl) g5_hfmt g6_S) e182 r173_0 own_pd17 rfl rfl at_147 0 rfl rfl rfl (by decide) ?_
        rintro T183 h183 _ L183 X183 e183 ⟨rfl, M183, rfl⟩
        have N183 := Fr.app N182 M183
        show G (T183.setTop (mkF m 150 #[oi i0, oi i1, oi i2, oi i3, oi i4, oi 1, oi 1, oi c165, oi c166, oi c167, oa a_168, oa b170, oa r_173, oi 6, .unset] [(.int ([(97 : Int32), (108 : Int32), (108 : Int32), (111 : Int32), (119 : Int32), (32 : Int32), c165].getD 3 0))]))
        show G (T183.setTop (mkF m 150 #[oi i0, oi i1, oi i2, oi i3, oi i4, oi 1, oi 1, oi c165, oi c166, oi c167, oa a_168, oa b170, oa r_173, oi 6, .unset] [(.int 111)]))
        refine q_bipush B X183 at_150 rfl ?_
        refine q_icmpNo B X183 at_152 rfl (teq (by decide)).2 rfl ?_
        refine q_aload B X183 at_155 rfl rfl rfl ?_
        refine q_iconst B X183 at_157 rfl ?_
        show G (T183.setTop (mkF m 158 #[oi i0, oi i1, oi i2, oi i3, oi i4, oi 1, oi 1, oi c165, oi c166, oi c167, oa a_168, oa b170, oa r_173, oi 6, .unset] [(.int 4), (.ref r_173)]))
        refine qV B X183 hZ173 hown173 170 171 173 172 8 174 rfl rfl rfl rfl rfl rfl (own_ca hw [(97 : Int32), (108 : Int32), (108 : Int32), (111 : Int32), (119 : Int32), (32 : Int32), c165] 4 O173 r173_0 r173_1 r173_2 W178 (Or.inl ⟨(own_allc (by decide) (own_allc (by decide) (own_allc (by decide) (own_allc (by decide) (own_allc (by decide) (own_allc (by decide) (own_allc (hall _ (List.mem_of_getElem? (i := 0) rfl)) own_alln))))))), rfl, rfl, rfl⟩) (Nat.le_of_ble_eq_true rfl) (own_allc (by decide) (own_allc (by decide) (own_allc (by decide) (own_allc (by decide) (own_allc (by decide) (own_allc (by decide) (own_allc hr_c165 own_alln))))))) g0_S g1_hcpt g2_S g3_S g4_S (Nat.le_of_ble_eq_true rfl) g5_hfmt g6_S) e183 r173_0 own_pd17 rfl rfl at_158 0 rfl rfl rfl (by decide) ?_
        rintro T184 h184 _ L184 X184 e184 ⟨rfl, M184, rfl⟩
        have N184 := Fr.app N183 M184
        show G (T184.setTop (mkF m 161 #[oi i0, oi i1, oi i2, oi i3, oi i4, oi 1, oi 1, oi c165, oi c166, oi c167, oa a_168, oa b170, oa r_173, oi 6, .unset] [(.int ([(97 : Int32), (108 : Int32), (108 : Int32), (111 : Int32), (119 : Int32), (32 : Int32), c165].getD 4 0))]))
        show G (T184.setTop (mkF m 161 #[oi i0, oi i1, oi i2, oi i3, oi i4, oi 1, oi 1, oi c165, oi c166, oi c167, oa a_168, oa b170, oa r_173, oi 6, .unset] [(.int 119)]))
        refine q_bipush B X184 at_161 rfl ?_
        refine q_icmpNo B X184 at_163 rfl (teq (by decide)).2 rfl ?_
        refine q_aload B X184 at_166 rfl rfl rfl ?_
        refine q_iconst B X184 at_168 rfl ?_
        show G (T184.setTop (mkF m 169 #[oi i0, oi i1, oi i2, oi i3, oi i4, oi 1, oi 1, oi c165, oi c166, oi c167, oa a_168, oa b170, oa r_173, oi 6, .unset] [(.int 5), (.ref r_173)]))
        refine qV B X184 hZ173 hown173 170 171 173 172 8 174 rfl rfl rfl rfl rfl rfl (own_ca hw [(97 : Int32), (108 : Int32), (108 : Int32), (111 : Int32), (119 : Int32), (32 : Int32), c165] 5 O173 r173_0 r173_1 r173_2 W178 (Or.inl ⟨(own_allc (by decide) (own_allc (by decide) (own_allc (by decide) (own_allc (by decide) (own_allc (by decide) (own_allc (by decide) (own_allc (hall _ (List.mem_of_getElem? (i := 0) rfl)) own_alln))))))), rfl, rfl, rfl⟩) (Nat.le_of_ble_eq_true rfl) (own_allc (by decide) (own_allc (by decide) (own_allc (by decide) (own_allc (by decide) (own_allc (by decide) (own_allc (by decide) (own_allc hr_c165 own_alln))))))) g0_S g1_hcpt g2_S g3_S g4_S (Nat.le_of_ble_eq_true rfl) g5_hfmt g6_S) e184 r173_0 own_pd17 rfl rfl at_169 0 rfl rfl rfl (by decide) ?_
        rintro T185 h185 _ L185 X185 e185 ⟨rfl, M185, rfl⟩
        have N185 := Fr.app N184 M185
        show G (T185.setTop (mkF m 172 #[oi i0, oi i1, oi i2, oi i3, oi i4, oi 1, oi 1, oi c165, oi c166, oi c167, oa a_168, oa b170, oa r_173, oi 6, .unset] [(.int ([(97 : Int32), (108 : Int32), (108 : Int32), (111 : Int32), (119 : Int32), (32 : Int32), c165].getD 5 0))]))
        show G (T185.setTop (mkF m 172 #[oi i0, oi i1, oi i2, oi i3, oi i4, oi 1, oi 1, oi c165, oi c166, oi c167, oa a_168, oa b170, oa r_173, oi 6, .unset] [(.int 32)]))
        refine q_bipush B X185 at_172 rfl ?_
        refine q_icmpNo B X185 at_174 rfl (teq (by decide)).2 rfl ?_
        refine q_iconst B X185 at_177 rfl ?_
        refine q_goto 182 B X185 at_178 rfl rfl (by decide) ?_
        refine q_istore B X185 at_182 rfl rfl rfl ?_
        refine q_goto 249 B X185 at_184 rfl rfl (by decide) ?_
        refine q_iload B X185 at_249 rfl rfl ?_
        refine q_ifYes 256 B X185 at_251 rfl ((if0 _ _).trans (feq (by decide)).2) rfl rfl (by decide) ?_
        refine q_iload B X185 at_256 rfl rfl ?_
        refine q_iconst B X185 at_258 rfl ?_
        refine q_icmpNo B X185 at_259 rfl (flt (by decide)).1 rfl ?_
        refine q_aload B X185 at_262 rfl rfl rfl ?_
        refine q_iload B X185 at_264 rfl rfl ?_
        show G (T185.setTop (mkF m 266 #[oi i0, oi i1, oi i2, oi i3, oi i4, oi 1, oi 1, oi c165, oi c166, oi c167, oa a_168, oa b170, oa r_173, oi 6, oi 1] [(.int 6), (.ref r_173)]))
        refine qV B X185 hZ173 hown173 170 171 173 172 8 174 rfl rfl rfl rfl rfl rfl (own_ca hw [(97 : Int32), (108 : Int32), (108 : Int32), (111 : Int32), (119 : Int32), (32 : Int32), c165] 6 O173 r173_0 r173_1 r173_2 W178 (Or.inl ⟨(own_allc (by decide) (own_allc (by decide) (own_allc (by decide) (own_allc (by decide) (own_allc (by decide) (own_allc (by decide) (own_allc (hall _ (List.mem_of_getElem? (i := 0) rfl)) own_alln))))))), rfl, rfl, rfl⟩) (Nat.le_of_ble_eq_true rfl) (own_allc (by decide) (own_allc (by decide) (own_allc (by decide) (own_allc (by decide) (own_allc (by decide) (own_allc (by decide) (own_allc hr_c165 own_alln))))))) g0_S g1_hcpt g2_S g3_S g4_S (Nat.le_of_ble_eq_true rfl) g5_hfmt g6_S) e185 r173_0 own_pd17 rfl rfl at_266 0 rfl rfl rfl (by decide) ?_
        rintro T186 h186 _ L186 X186 e186 ⟨rfl, M186, rfl⟩
        have N186 := Fr.app N185 M186
        show G (T186.setTop (mkF m 269 #[oi i0, oi i1, oi i2, oi i3, oi i4, oi 1, oi 1, oi c165, oi c166, oi c167, oa a_168, oa b170, oa r_173, oi 6, oi 1] [(.int ([(97 : Int32), (108 : Int32), (108 : Int32), (111 : Int32), (119 : Int32), (32 : Int32), c165].getD 6 0))]))
        show G (T186.setTop (mkF m 269 #[oi i0, oi i1, oi i2, oi i3, oi i4, oi 1, oi 1, oi c165, oi c166, oi c167, oa a_168, oa b170, oa r_173, oi 6, oi 1] [(.int c165)]))
        refine q_iload B X186 at_269 rfl rfl ?_
        refine q_icmpYes 276 B X186 at_271 rfl (teq (rfl : c165 = c165)).1 rfl rfl (by decide) ?_
        refine q_iload B X186 at_276 rfl rfl ?_
        refine q_iconst B X186 at_278 rfl ?_
        refine q_icmpYes 298 B X186 at_279 rfl (tlt (by decide)).1 rfl rfl (by decide) ?_
        refine q_iload B X186 at_298 rfl rfl ?_
        refine q_iconst B X186 at_300 rfl ?_
        refine q_icmpYes 320 B X186 at_301 rfl (tlt (by decide)).1 rfl rfl (by decide) ?_
        refine q_iconst B X186 at_320 rfl ?_
        show G (T186.setTop (mkF m 321 #[oi i0, oi i1, oi i2, oi i3, oi i4, oi 1, oi 1, oi c165, oi c166, oi c167, oa a_168, oa b170, oa r_173, oi 6, oi 1] [(.int 1)]))
        exact qRNW B hR hret (by simp) X186 at_321 e186 SI173 (Nat.le_refl _) hZ173 C173 ⟨rfl, N186, K173⟩ (by decide)
      · skip
        have hv := own_is16_list h16
        subst hv
        have W187 : Arv Z h168 t_168 kt_168 .byte (2 : Int32) [(.int (own_lo c165)), (.int (own_hi c165))] (.int 0) := r168_3
        show G (T168.setTop (mkF m 51 #[oi i0, oi i1, oi i2, oi i3, oi i4, oi 1, oi 1, oi c165, oi c166, oi c167, .unset, .unset, .unset, .unset, .unset] [(.ref a_168)]))
        refine q_astore B X168 at_51 rfl rfl rfl rfl ?_
        refine qnw B X168 hZ hown 35 36 37 rfl rfl rfl e168 at_53 (by decide) fun T188 h188 b188 z188 X188 e188 E188 A188 D188 => ?_
        have R188 := (CHr.ext E188 R168.1)
        have C188 := C168.trans R188
        have K188 := K168.ext E188
        have O188 := O168.ext E188
        refine q_dup B X188 at_56 rfl rfl rfl ?_
        refine q_iload B X188 at_57 rfl rfl ?_
        refine q_aload B X188 at_59 rfl rfl rfl ?_
        show G (T188.setTop (mkF m 61 #[oi i0, oi i1, oi i2, oi i3, oi i4, oi 1, oi 1, oi c165, oi c166, oi c167, oa a_168, .unset, .unset, .unset, .unset] [(.ref a_168), (.int 1), (.ref b188), (.ref b188)]))
        refine qI B X188 hZ hown 38 39 37 40 rfl rfl rfl rfl rfl (own_finit hw (1 : Int32) (.ref a_168) O188 rfl A188 (own_ge O168 (Nat.le_of_eq z188.symm)) (D188 (Or.inr (ow hw 48 rfl)) (ty := .boolean) (by decide)) (D188 (Or.inr (ow hw 50 rfl)) (ty := (.object "java/lang/String")) (by decide))) e188 own_pd34 rfl rfl at_61 1 rfl rfl rfl (by decide) ?_
        rintro T189 h189 _ L189 X189 e189 ⟨rfl, M189, J189, r189_0, r189_1, r189_2⟩
        have N189 := Fr.app N168 M189
        have sf190 : Safe Z consts_1 _ h188 b188 := (Safe.exa hZ.alike A188 (by decide) (by decide))
        have R189 := (CHr.keep J189 (allS sf190 all0) R188.1)
        have C189 := C188.trans R189
        have K189 := K188.trans J189 (allS (Or.inr (Nat.le_trans K168.1 (Nat.le_of_eq z188.symm))) all0)
        have O189 := O188.keep J189 (allS (own_ge O168 (Nat.le_of_eq z188.symm)) all0)
        refine q_astore B X189 at_64 rfl rfl rfl rfl ?_
        refine q_aload B X189 at_66 rfl rfl rfl ?_
        show G (T189.setTop (mkF m 68 #[oi i0, oi i1, oi i2, oi i3, oi i4, oi 1, oi 1, oi c165, oi c166, oi c167, oa a_168, oa b188, .unset, .unset, .unset] [(.ref b188)]))
        have f192 := ((r168_0.ext E188).keep J189)
        have f193 := ((r168_1.ext E188).keep J189 (ninS (own_ne r168_0.lt (Nat.le_of_eq z188.symm)) nin0))
        have f194 := ((r168_2.ext E188).keep J189 (ninS (own_ne r168_0.lt (Nat.le_of_eq z188.symm)) nin0))
        have f195 := ((W187.ext E188).keep J189 (ninS (own_ne r168_3.lt (Nat.le_of_eq z188.symm)) nin0))
        refine qVW B X189 hZ hown 51 52 54 53 37 55 rfl rfl rfl rfl rfl rfl (own_line1_1 hw hEL (1 : Int32) (7 : Int32) (14 : Int32) 12 14 O189 r189_0 r189_1 r189_2 f192 f193 f194 f195 g2_S g3_S g4_S g0_S g1_hcpt (by decide) (by decide) (by decide) ⟨by decide, by decide, rfl, by decide, by decide, Nat.le_of_ble_eq_true rfl⟩ (by decide) ⟨by decide, by decide, by decide, by decide, Nat.le_of_ble_eq_true rfl⟩ g5_hfmt g6_S) e189 SI0 (Nat.le_trans (Nat.le_trans (Nat.le_trans (Nat.le_refl _) R168.2.1) R188.2.1) R189.2.1) hEL R189.1 r189_0 own_pd31 rfl rfl at_68 0 rfl rfl rfl (by decide) ?_
        rintro T191 h191 v191 L191 X191 e191 SI191 hZ191 hown191 Y191 ⟨r_191, u_191, ku_191, rfl, M191, J191, y191_0, y191_1, r191_0, r191_1, r191_2, r191_3⟩
        have N191 := Fr.app N189 M191
        have R191 := Y191
        have C191 := C189.trans R191
        have K191 := K189.trans J191 all0
        have O191 := O189.keep J191 all0
        show G (T191.setTop (mkF m 71 #[oi i0, oi i1, oi i2, oi i3, oi i4, oi 1, oi 1, oi c165, oi c166, oi c167, oa a_168, oa b188, .unset, .unset, .unset] [(.ref r_191)]))
        have W196 : Arv Z h191 u_191 ku_191 .byte (14 : Int32) [(.int (own_lo (97 : Int32))), (.int (own_hi (97 : Int32))), (.int (own_lo (108 : Int32))), (.int (own_hi (108 : Int32))), (.int (own_lo (108 : Int32))), (.int (own_hi (108 : Int32))), (.int (own_lo (111 : Int32))), (.int (own_hi (111 : Int32))), (.int (own_lo (119 : Int32))), (.int (own_hi (119 : Int32))), (.int (own_lo (32 : Int32))), (.int (own_hi (32 : Int32))), (.int (own_lo c165)), (.int (own_hi c165))] (.int 0) := r191_3
        show G (T191.setTop (mkF m 71 #[oi i0, oi i1, oi i2, oi i3, oi i4, oi 1, oi 1, oi c165, oi c166, oi c167, oa a_168, oa b188, .unset, .unset, .unset] [(.ref r_191)]))
        refine q_astore B X191 at_71 rfl rfl rfl rfl ?_
        refine q_iload B X191 at_73 rfl rfl ?_
        refine q_ifNo B X191 at_75 rfl ((if0 _ _).trans (feq (by decide)).1) rfl ?_
        refine q_bipush B X191 at_78 rfl ?_
        refine q_goto 84 B X191 at_80 rfl rfl (by decide) ?_
        refine q_istore B X191 at_84 rfl rfl rfl ?_
        refine q_aload B X191 at_86 rfl rfl rfl ?_
        refine q_ifnullNo B X191 at_88 rfl rfl ?_
        refine q_aload B X191 at_91 rfl rfl rfl ?_
        show G (T191.setTop (mkF m 93 #[oi i0, oi i1, oi i2, oi i3, oi i4, oi 1, oi 1, oi c165, oi c166, oi c167, oa a_168, oa b188, oa r_191, oi 6, .unset] [(.ref r_191)]))
        refine qV B X191 hZ191 hown191 169 88 90 89 8 91 rfl rfl rfl rfl rfl rfl (own_len hw [(97 : Int32), (108 : Int32), (108 : Int32), (111 : Int32), (119 : Int32), (32 : Int32), c165] O191 r191_0 r191_1 r191_2 W196 (Or.inr ⟨own_big_app [(97 : Int32), (108 : Int32), (108 : Int32), (111 : Int32), (119 : Int32), (32 : Int32)] hbig, rfl, rfl, own_is16_bytes [(97 : Int32), (108 : Int32), (108 : Int32), (111 : Int32), (119 : Int32), (32 : Int32), c165]⟩) (Nat.le_of_ble_eq_true rfl) (own_allc (by decide) (own_allc (by decide) (own_allc (by decide) (own_allc (by decide) (own_allc (by decide) (own_allc (by decide) (own_allc hr_c165 own_alln))))))) g0_S g1_hcpt) e191 r191_0 own_pd12 rfl rfl at_93 0 rfl rfl rfl (by decide) ?_
        rintro T197 h197 _ L197 X197 e197 ⟨rfl, M197, rfl⟩
        have N197 := Fr.app N191 M197
        show G (T197.setTop (mkF m 96 #[oi i0, oi i1, oi i2, oi i3, oi i4, oi 1, oi 1, oi c165, oi c166, oi c167, oa a_168, oa b188, oa r_191, oi 6, .unset] [(.int (Int32.ofNat [(97 : Int32), (108 : Int32), (108 : Int32), (111 : Int32), (119 : Int32), (32 : Int32), c165].length))]))
        show G (T197.setTop (mkF m 96 #[oi i0, oi i1, oi i2, oi i3, oi i4, oi 1, oi 1, oi c165, oi c166, oi c167, oa a_168, oa b188, oa r_191, oi 6, .unset] [(.int 7)]))
        refine q_iload B X197 at_96 rfl rfl ?_
        refine q_iload B X197 at_98 rfl rfl ?_
        refine q_iadd B X197 at_100 rfl rfl ?_
        show G (T197.setTop (mkF m 101 #[oi i0, oi i1, oi i2, oi i3, oi i4, oi 1, oi 1, oi c165, oi c166, oi c167, oa a_168, oa b188, oa r_191, oi 6, .unset] [(.int ((6 : Int32) + (1 : Int32))), (.int 7)]))
        rw [show ((6 : Int32) + (1 : Int32)) = (7 : Int32) from by decide]
        show G (T197.setTop (mkF m 101 #[oi i0, oi i1, oi i2, oi i3, oi i4, oi 1, oi 1, oi c165, oi c166, oi c167, oa a_168, oa b188, oa r_191, oi 6, .unset] [(.int 7), (.int 7)]))
        refine q_icmpYes 106 B X197 at_101 rfl (teq (by decide)).1 rfl rfl (by decide) ?_
        refine q_iload B X197 at_106 rfl rfl ?_
        refine q_ifNo B X197 at_108 rfl ((if0 _ _).trans (feq (by decide)).1) rfl ?_
        refine q_aload B X197 at_111 rfl rfl rfl ?_
        refine q_iconst B X197 at_113 rfl ?_
        show G (T197.setTop (mkF m 114 #[oi i0, oi i1, oi i2, oi i3, oi i4, oi 1, oi 1, oi c165, oi c166, oi c167, oa a_168, oa b188, oa r_191, oi 6, .unset] [(.int 0), (.ref r_191)]))
        refine qV B X197 hZ191 hown191 170 171 173 172 8 174 rfl rfl rfl rfl rfl rfl (own_ca hw [(97 : Int32), (108 : Int32), (108 : Int32), (111 : Int32), (119 : Int32), (32 : Int32), c165] 0 O191 r191_0 r191_1 r191_2 W196 (Or.inr ⟨own_big_app [(97 : Int32), (108 : Int32), (108 : Int32), (111 : Int32), (119 : Int32), (32 : Int32)] hbig, rfl, rfl, own_is16_bytes [(97 : Int32), (108 : Int32), (108 : Int32), (111 : Int32), (119 : Int32), (32 : Int32), c165]⟩) (Nat.le_of_ble_eq_true rfl) (own_allc (by decide) (own_allc (by decide) (own_allc (by decide) (own_allc (by decide) (own_allc (by decide) (own_allc (by decide) (own_allc hr_c165 own_alln))))))) g0_S g1_hcpt g2_S g3_S g4_S (Nat.le_of_ble_eq_true rfl) g5_hfmt g6_S) e197 r191_0 own_pd17 rfl rfl at_114 0 rfl rfl rfl (by decide) ?_
        rintro T198 h198 _ L198 X198 e198 ⟨rfl, M198, rfl⟩
        have N198 := Fr.app N197 M198
        show G (T198.setTop (mkF m 117 #[oi i0, oi i1, oi i2, oi i3, oi i4, oi 1, oi 1, oi c165, oi c166, oi c167, oa a_168, oa b188, oa r_191, oi 6, .unset] [(.int ([(97 : Int32), (108 : Int32), (108 : Int32), (111 : Int32), (119 : Int32), (32 : Int32), c165].getD 0 0))]))
        show G (T198.setTop (mkF m 117 #[oi i0, oi i1, oi i2, oi i3, oi i4, oi 1, oi 1, oi c165, oi c166, oi c167, oa a_168, oa b188, oa r_191, oi 6, .unset] [(.int 97)]))
        refine q_bipush B X198 at_117 rfl ?_
        refine q_icmpNo B X198 at_119 rfl (teq (by decide)).2 rfl ?_
        refine q_aload B X198 at_122 rfl rfl rfl ?_
        refine q_iconst B X198 at_124 rfl ?_
        show G (T198.setTop (mkF m 125 #[oi i0, oi i1, oi i2, oi i3, oi i4, oi 1, oi 1, oi c165, oi c166, oi c167, oa a_168, oa b188, oa r_191, oi 6, .unset] [(.int 1), (.ref r_191)]))
        refine qV B X198 hZ191 hown191 170 171 173 172 8 174 rfl rfl rfl rfl rfl rfl (own_ca hw [(97 : Int32), (108 : Int32), (108 : Int32), (111 : Int32), (119 : Int32), (32 : Int32), c165] 1 O191 r191_0 r191_1 r191_2 W196 (Or.inr ⟨own_big_app [(97 : Int32), (108 : Int32), (108 : Int32), (111 : Int32), (119 : Int32), (32 : Int32)] hbig, rfl, rfl, own_is16_bytes [(97 : Int32), (108 : Int32), (108 : Int32), (111 : Int32), (119 : Int32), (32 : Int32), c165]⟩) (Nat.le_of_ble_eq_true rfl) (own_allc (by decide) (own_allc (by decide) (own_allc (by decide) (own_allc (by decide) (own_allc (by decide) (own_allc (by decide) (own_allc hr_c165 own_alln))))))) g0_S g1_hcpt g2_S g3_S g4_S (Nat.le_of_ble_eq_true rfl) g5_hfmt g6_S) e198 r191_0 own_pd17 rfl rfl at_125 0 rfl rfl rfl (by decide) ?_
        rintro T199 h199 _ L199 X199 e199 ⟨rfl, M199, rfl⟩
        have N199 := Fr.app N198 M199
        show G (T199.setTop (mkF m 128 #[oi i0, oi i1, oi i2, oi i3, oi i4, oi 1, oi 1, oi c165, oi c166, oi c167, oa a_168, oa b188, oa r_191, oi 6, .unset] [(.int ([(97 : Int32), (108 : Int32), (108 : Int32), (111 : Int32), (119 : Int32), (32 : Int32), c165].getD 1 0))]))
        show G (T199.setTop (mkF m 128 #[oi i0, oi i1, oi i2, oi i3, oi i4, oi 1, oi 1, oi c165, oi c166, oi c167, oa a_168, oa b188, oa r_191, oi 6, .unset] [(.int 108)]))
        refine q_bipush B X199 at_128 rfl ?_
        refine q_icmpNo B X199 at_130 rfl (teq (by decide)).2 rfl ?_
        refine q_aload B X199 at_133 rfl rfl rfl ?_
        refine q_iconst B X199 at_135 rfl ?_
        show G (T199.setTop (mkF m 136 #[oi i0, oi i1, oi i2, oi i3, oi i4, oi 1, oi 1, oi c165, oi c166, oi c167, oa a_168, oa b188, oa r_191, oi 6, .unset] [(.int 2), (.ref r_191)]))
        refine qV B X199 hZ191 hown191 170 171 173 172 8 174 rfl rfl rfl rfl rfl rfl (own_ca hw [(97 : Int32), (108 : Int32), (108 : Int32), (111 : Int32), (119 : Int32), (32 : Int32), c165] 2 O191 r191_0 r191_1 r191_2 W196 (Or.inr ⟨own_big_app [(97 : Int32), (108 : Int32), (108 : Int32), (111 : Int32), (119 : Int32), (32 : Int32)] hbig, rfl, rfl, own_is16_bytes [(97 : Int32), (108 : Int32), (108 : Int32), (111 : Int32), (119 : Int32), (32 : Int32), c165]⟩) (Nat.le_of_ble_eq_true rfl) (own_allc (by decide) (own_allc (by decide) (own_allc (by decide) (own_allc (by decide) (own_allc (by decide) (own_allc (by decide) (own_allc hr_c165 own_alln))))))) g0_S g1_hcpt g2_S g3_S g4_S (Nat.le_of_ble_eq_true rfl) g5_hfmt g6_S) e199 r191_0 own_pd17 rfl rfl at_136 0 rfl rfl rfl (by decide) ?_
        rintro T200 h200 _ L200 X200 e200 ⟨rfl, M200, rfl⟩
        have N200 := Fr.app N199 M200
        show G (T200.setTop (mkF m 139 #[oi i0, oi i1, oi i2, oi i3, oi i4, oi 1, oi 1, oi c165, oi c166, oi c167, oa a_168, oa b188, oa r_191, oi 6, .unset] [(.int ([(97 : Int32), (108 : Int32), (108 : Int32), (111 : Int32), (119 : Int32), (32 : Int32), c165].getD 2 0))]))
        show G (T200.setTop (mkF m 139 #[oi i0, oi i1, oi i2, oi i3, oi i4, oi 1, oi 1, oi c165, oi c166, oi c167, oa a_168, oa b188, oa r_191, oi 6, .unset] [(.int 108)]))
        refine q_bipush B X200 at_139 rfl ?_
        refine q_icmpNo B X200 at_141 rfl (teq (by decide)).2 rfl ?_
        refine q_aload B X200 at_144 rfl rfl rfl ?_
        refine q_iconst B X200 at_146 rfl ?_
        show G (T200.setTop (mkF m 147 #[oi i0, oi i1, oi i2, oi i3, oi i4, oi 1, oi 1, oi c165, oi c166, oi c167, oa a_168, oa b188, oa r_191, oi 6, .unset] [(.int 3), (.ref r_191)]))
        refine qV B X200 hZ191 hown191 170 171 173 172 8 174 rfl rfl rfl rfl rfl rfl (own_ca hw [(97 : Int32), (108 : Int32), (108 : Int32), (111 : Int32), (119 : Int32), (32 : Int32), c165] 3 O191 r191_0 r191_1 r191_2 W196 (Or.inr ⟨own_big_app [(97 : Int32), (108 : Int32), (108 : Int32), (111 : Int32), (119 : Int32), (32 : Int32)] hbig, rfl, rfl, own_is16_bytes [(97 : Int32), (108 : Int32), (108 : Int32), (111 : Int32), (119 : Int32), (32 : Int32), c165]⟩) (Nat.le_of_ble_eq_true rfl) (own_allc (by decide) (own_allc (by decide) (own_allc (by decide) (own_allc (by decide) (own_allc (by decide) (own_allc (by decide) (own_allc hr_c165 own_alln))))))) g0_S g1_hcpt g2_S g3_S g4_S (Nat.le_of_ble_eq_true rfl) g5_hfmt g6_S) e200 r191_0 own_pd17 rfl rfl at_147 0 rfl rfl rfl (by decide) ?_
        rintro T201 h201 _ L201 X201 e201 ⟨rfl, M201, rfl⟩
        have N201 := Fr.app N200 M201
        show G (T201.setTop (mkF m 150 #[oi i0, oi i1, oi i2, oi i3, oi i4, oi 1, oi 1, oi c165, oi c166, oi c167, oa a_168, oa b188, oa r_191, oi 6, .unset] [(.int ([(97 : Int32), (108 : Int32), (108 : Int32), (111 : Int32), (119 : Int32), (32 : Int32), c165].getD 3 0))]))
        show G (T201.setTop (mkF m 150 #[oi i0, oi i1, oi i2, oi i3, oi i4, oi 1, oi 1, oi c165, oi c166, oi c167, oa a_168, oa b188, oa r_191, oi 6, .unset] [(.int 111)]))
        refine q_bipush B X201 at_150 rfl ?_
        refine q_icmpNo B X201 at_152 rfl (teq (by decide)).2 rfl ?_
        refine q_aload B X201 at_155 rfl rfl rfl ?_
        refine q_iconst B X201 at_157 rfl ?_
        show G (T201.setTop (mkF m 158 #[oi i0, oi i1, oi i2, oi i3, oi i4, oi 1, oi 1, oi c165, oi c166, oi c167, oa a_168, oa b188, oa r_191, oi 6, .unset] [(.int 4), (.ref r_191)]))
        refine qV B X201 hZ191 hown191 170 171 173 172 8 174 rfl rfl rfl rfl rfl rfl (own_ca hw [(97 : Int32), (108 : Int32), (108 : Int32), (111 : Int32), (119 : Int32), (32 : Int32), c165] 4 O191 r191_0 r191_1 r191_2 W196 (Or.inr ⟨own_big_app [(97 : Int32), (108 : Int32), (108 : Int32), (111 : Int32), (119 : Int32), (32 : Int32)] hbig, rfl, rfl, own_is16_bytes [(97 : Int32), (108 : Int32), (108 : Int32), (111 : Int32), (119 : Int32), (32 : Int32), c165]⟩) (Nat.le_of_ble_eq_true rfl) (own_allc (by decide) (own_allc (by decide) (own_allc (by decide) (own_allc (by decide) (own_allc (by decide) (own_allc (by decide) (own_allc hr_c165 own_alln))))))) g0_S g1_hcpt g2_S g3_S g4_S (Nat.le_of_ble_eq_true rfl) g5_hfmt g6_S) e201 r191_0 own_pd17 rfl rfl at_158 0 rfl rfl rfl (by decide) ?_
        rintro T202 h202 _ L202 X202 e202 ⟨rfl, M202, rfl⟩
        have N202 := Fr.app N201 M202
        show G (T202.setTop (mkF m 161 #[oi i0, oi i1, oi i2, oi i3, oi i4, oi 1, oi 1, oi c165, oi c166, oi c167, oa a_168, oa b188, oa r_191, oi 6, .unset] [(.int ([(97 : Int32), (108 : Int32), (108 : Int32), (111 : Int32), (119 : Int32), (32 : Int32), c165].getD 4 0))]))
        show G (T202.setTop (mkF m 161 #[oi i0, oi i1, oi i2, oi i3, oi i4, oi 1, oi 1, oi c165, oi c166, oi c167, oa a_168, oa b188, oa r_191, oi 6, .unset] [(.int 119)]))
        refine q_bipush B X202 at_161 rfl ?_
        refine q_icmpNo B X202 at_163 rfl (teq (by decide)).2 rfl ?_
        refine q_aload B X202 at_166 rfl rfl rfl ?_
        refine q_iconst B X202 at_168 rfl ?_
        show G (T202.setTop (mkF m 169 #[oi i0, oi i1, oi i2, oi i3, oi i4, oi 1, oi 1, oi c165, oi c166, oi c167, oa a_168, oa b188, oa r_191, oi 6, .unset] [(.int 5), (.ref r_191)]))
        refine qV B X202 hZ191 hown191 170 171 173 172 8 174 rfl rfl rfl rfl rfl rfl (own_ca hw [(97 : Int32), (108 : Int32), (108 : Int32), (111 : Int32), (119 : Int32), (32 : Int32), c165] 5 O191 r191_0 r191_1 r191_2 W196 (Or.inr ⟨own_big_app [(97 : Int32), (108 : Int32), (108 : Int32), (111 : Int32), (119 : Int32), (32 : Int32)] hbig, rfl, rfl, own_is16_bytes [(97 : Int32), (108 : Int32), (108 : Int32), (111 : Int32), (119 : Int32), (32 : Int32), c165]⟩) (Nat.le_of_ble_eq_true rfl) (own_allc (by decide) (own_allc (by decide) (own_allc (by decide) (own_allc (by decide) (own_allc (by decide) (own_allc (by decide) (own_allc hr_c165 own_alln))))))) g0_S g1_hcpt g2_S g3_S g4_S (Nat.le_of_ble_eq_true rfl) g5_hfmt g6_S) e202 r191_0 own_pd17 rfl rfl at_169 0 rfl rfl rfl (by decide) ?_
        rintro T203 h203 _ L203 X203 e203 ⟨rfl, M203, rfl⟩
        have N203 := Fr.app N202 M203
        show G (T203.setTop (mkF m 172 #[oi i0, oi i1, oi i2, oi i3, oi i4, oi 1, oi 1, oi c165, oi c166, oi c167, oa a_168, oa b188, oa r_191, oi 6, .unset] [(.int ([(97 : Int32), (108 : Int32), (108 : Int32), (111 : Int32), (119 : Int32), (32 : Int32), c165].getD 5 0))]))
        show G (T203.setTop (mkF m 172 #[oi i0, oi i1, oi i2, oi i3, oi i4, oi 1, oi 1, oi c165, oi c166, oi c167, oa a_168, oa b188, oa r_191, oi 6, .unset] [(.int 32)]))
        refine q_bipush B X203 at_172 rfl ?_
        refine q_icmpNo B X203 at_174 rfl (teq (by decide)).2 rfl ?_
        refine q_iconst B X203 at_177 rfl ?_
        refine q_goto 182 B X203 at_178 rfl rfl (by decide) ?_
        refine q_istore B X203 at_182 rfl rfl rfl ?_
        refine q_goto 249 B X203 at_184 rfl rfl (by decide) ?_
        refine q_iload B X203 at_249 rfl rfl ?_
        refine q_ifYes 256 B X203 at_251 rfl ((if0 _ _).trans (feq (by decide)).2) rfl rfl (by decide) ?_
        refine q_iload B X203 at_256 rfl rfl ?_
        refine q_iconst B X203 at_258 rfl ?_
        refine q_icmpNo B X203 at_259 rfl (flt (by decide)).1 rfl ?_
        refine q_aload B X203 at_262 rfl rfl rfl ?_
        refine q_iload B X203 at_264 rfl rfl ?_
        show G (T203.setTop (mkF m 266 #[oi i0, oi i1, oi i2, oi i3, oi i4, oi 1, oi 1, oi c165, oi c166, oi c167, oa a_168, oa b188, oa r_191, oi 6, oi 1] [(.int 6), (.ref r_191)]))
        refine qV B X203 hZ191 hown191 170 171 173 172 8 174 rfl rfl rfl rfl rfl rfl (own_ca hw [(97 : Int32), (108 : Int32), (108 : Int32), (111 : Int32), (119 : Int32), (32 : Int32), c165] 6 O191 r191_0 r191_1 r191_2 W196 (Or.inr ⟨own_big_app [(97 : Int32), (108 : Int32), (108 : Int32), (111 : Int32), (119 : Int32), (32 : Int32)] hbig, rfl, rfl, own_is16_bytes [(97 : Int32), (108 : Int32), (108 : Int32), (111 : Int32), (119 : Int32), (32 : Int32), c165]⟩) (Nat.le_of_ble_eq_true rfl) (own_allc (by decide) (own_allc (by decide) (own_allc (by decide) (own_allc (by decide) (own_allc (by decide) (own_allc (by decide) (own_allc hr_c165 own_alln))))))) g0_S g1_hcpt g2_S g3_S g4_S (Nat.le_of_ble_eq_true rfl) g5_hfmt g6_S) e203 r191_0 own_pd17 rfl rfl at_266 0 rfl rfl rfl (by decide) ?_
        rintro T204 h204 _ L204 X204 e204 ⟨rfl, M204, rfl⟩
        have N204 := Fr.app N203 M204
        show G (T204.setTop (mkF m 269 #[oi i0, oi i1, oi i2, oi i3, oi i4, oi 1, oi 1, oi c165, oi c166, oi c167, oa a_168, oa b188, oa r_191, oi 6, oi 1] [(.int ([(97 : Int32), (108 : Int32), (108 : Int32), (111 : Int32), (119 : Int32), (32 : Int32), c165].getD 6 0))]))
        show G (T204.setTop (mkF m 269 #[oi i0, oi i1, oi i2, oi i3, oi i4, oi 1, oi 1, oi c165, oi c166, oi c167, oa a_168, oa b188, oa r_191, oi 6, oi 1] [(.int c165)]))
        refine q_iload B X204 at_269 rfl rfl ?_
        refine q_icmpYes 276 B X204 at_271 rfl (teq (rfl : c165 = c165)).1 rfl rfl (by decide) ?_
        refine q_iload B X204 at_276 rfl rfl ?_
        refine q_iconst B X204 at_278 rfl ?_
        refine q_icmpYes 298 B X204 at_279 rfl (tlt (by decide)).1 rfl rfl (by decide) ?_
        refine q_iload B X204 at_298 rfl rfl ?_
        refine q_iconst B X204 at_300 rfl ?_
        refine q_icmpYes 320 B X204 at_301 rfl (tlt (by decide)).1 rfl rfl (by decide) ?_
        refine q_iconst B X204 at_320 rfl ?_
        show G (T204.setTop (mkF m 321 #[oi i0, oi i1, oi i2, oi i3, oi i4, oi 1, oi 1, oi c165, oi c166, oi c167, oa a_168, oa b188, oa r_191, oi 6, oi 1] [(.int 1)]))
        exact qRNW B hR hret (by simp) X204 at_321 e204 SI191 (Nat.le_refl _) hZ191 C191 ⟨rfl, N204, K191⟩ (by decide)
    · skip
      show G (s₁.setTop (mkF m 18 #[oi i0, oi i1, oi i2, oi i3, oi i4, oi 1, oi 2, .unset, .unset, .unset, .unset, .unset, .unset, .unset, .unset] []))
      refine q_iloadN B X0 at_18 rfl rfl ?_
      refine hG _ _ (X0.ldcInt hx hown (mvT hZ (ow hw 0 rfl)) (g := (mkF m 19 #[oi i0, oi i1, oi i2, oi i3, oi i4, oi 1, oi 2, .unset, .unset, .unset, .unset, .unset, .unset, .unset, .unset] [(.int i2)])) rfl (hb hby at_19)) ?_
      refine q_iand B X0 at_21 rfl rfl ?_
      refine q_i2c B X0 at_22 rfl rfl ?_
      show G (s₁.setTop (mkF m 23 #[oi i0, oi i1, oi i2, oi i3, oi i4, oi 1, oi 2, .unset, .unset, .unset, .unset, .unset, .unset, .unset, .unset] [(.int ((i2 &&& (65535 : Int32)).toUInt32.toUInt16.toUInt32.toInt32))]))
      generalize hn_c205 : ((i2 &&& (65535 : Int32)).toUInt32.toUInt16.toUInt32.toInt32) = c205
      have hr_c205 := own_i2c16 hn_c205
      show G (s₁.setTop (mkF m 23 #[oi i0, oi i1, oi i2, oi i3, oi i4, oi 1, oi 2, .unset, .unset, .unset, .unset, .unset, .unset, .unset, .unset] [(.int c205)]))
      refine q_istore B X0 at_23 rfl rfl rfl ?_
      refine q_iloadN B X0 at_25 rfl rfl ?_
      refine hG _ _ (X0.ldcInt hx hown (mvT hZ (ow hw 0 rfl)) (g := (mkF m 26 #[oi i0, oi i1, oi i2, oi i3, oi i4, oi 1, oi 2, oi c205, .unset, .unset, .unset, .unset, .unset, .unset, .unset] [(.int i3)])) rfl (hb hby at_26)) ?_
      refine q_iand B X0 at_28 rfl rfl ?_
      refine q_i2c B X0 at_29 rfl rfl ?_
      show G (s₁.setTop (mkF m 30 #[oi i0, oi i1, oi i2, oi i3, oi i4, oi 1, oi 2, oi c205, .unset, .unset, .unset, .unset, .unset, .unset, .unset] [(.int ((i3 &&& (65535 : Int32)).toUInt32.toUInt16.toUInt32.toInt32))]))
      generalize hn_c206 : ((i3 &&& (65535 : Int32)).toUInt32.toUInt16.toUInt32.toInt32) = c206
      have hr_c206 := own_i2c16 hn_c206
      show G (s₁.setTop (mkF m 30 #[oi i0, oi i1, oi i2, oi i3, oi i4, oi 1, oi 2, oi c205, .unset, .unset, .unset, .unset, .unset, .unset, .unset] [(.int c206)]))
      refine q_istore B X0 at_30 rfl rfl rfl ?_
      refine q_iload B X0 at_32 rfl rfl ?_
      refine hG _ _ (X0.ldcInt hx hown (mvT hZ (ow hw 0 rfl)) (g := (mkF m 34 #[oi i0, oi i1, oi i2, oi i3, oi i4, oi 1, oi 2, oi c205, oi c206, .unset, .unset, .unset, .unset, .unset, .unset] [(.int i4)])) rfl (hb hby at_34)) ?_
      refine q_iand B X0 at_36 rfl rfl ?_
      refine q_i2c B X0 at_37 rfl rfl ?_
      show G (s₁.setTop (mkF m 38 #[oi i0, oi i1, oi i2, oi i3, oi i4, oi 1, oi 2, oi c205, oi c206, .unset, .unset, .unset, .unset, .unset, .unset] [(.int ((i4 &&& (65535 : Int32)).toUInt32.toUInt16.toUInt32.toInt32))]))
      generalize hn_c207 : ((i4 &&& (65535 : Int32)).toUInt32.toUInt16.toUInt32.toInt32) = c207
      have hr_c207 := own_i2c16 hn_c207
      show G (s₁.setTop (mkF m 38 #[oi i0, oi i1, oi i2, oi i3, oi i4, oi 1, oi 2, oi c205, oi c206, .unset, .unset, .unset, .unset, .unset, .unset] [(.int c207)]))
      refine q_istore B X0 at_38 rfl rfl rfl ?_
      refine q_iload B X0 at_40 rfl rfl ?_
      refine q_iload B X0 at_42 rfl rfl ?_
      refine q_iload B X0 at_44 rfl rfl ?_
      refine q_iload B X0 at_46 rfl rfl ?_
      show G (s₁.setTop (mkF m 48 #[oi i0, oi i1, oi i2, oi i3, oi i4, oi 1, oi 2, oi c205, oi c206, oi c207, .unset, .unset, .unset, .unset, .unset] [(.int c207), (.int c206), (.int c205), (.int 2)]))
      refine qS B X0 hZ hown 1 2 3 4 rfl rfl rfl rfl (own_make2 hw c205 c206 c207 O0 g0_S g1_hcpt g2_S g3_S g4_S hr_c205 hr_c206 hr_c207) e0 own_pd35 rfl rfl at_48 0 rfl rfl rfl (by decide) ?_
      rintro T208 h208 _ L208 X208 e208 ⟨a_208, t_208, kt_208, cd_208, nb_208, vs_208, rfl, M208, J208, y208_0, r208_0, r208_1, r208_2, r208_3, r208_4⟩
      have N208 := Fr.app N0 M208
      have R208 := (CHr.keep J208 all0 H0)
      have C208 := (CHr.refl H0).trans R208
      have K208 := (Keep.refl h0 []).trans J208 all0
      have O208 := O0.keep J208 all0
      show G (T208.setTop (mkF m 51 #[oi i0, oi i1, oi i2, oi i3, oi i4, oi 1, oi 2, oi c205, oi c206, oi c207, .unset, .unset, .unset, .unset, .unset] [(.ref a_208)]))
      rcases r208_4 with ⟨hall, rfl, rfl, rfl⟩ | ⟨hbig, rfl, rfl, h16⟩
      · skip
        have W209 : Arv Z h208 t_208 kt_208 .byte (2 : Int32) [(.int (c205.toInt8.toInt32)), (.int (c206.toInt8.toInt32))] (.int 0) := r208_3
        show G (T208.setTop (mkF m 51 #[oi i0, oi i1, oi i2, oi i3, oi i4, oi 1, oi 2, oi c205, oi c206, oi c207, .unset, .unset, .unset, .unset, .unset] [(.ref a_208)]))
        refine q_astore B X208 at_51 rfl rfl rfl rfl ?_
        refine qnw B X208 hZ hown 35 36 37 rfl rfl rfl e208 at_53 (by decide) fun T210 h210 b210 z210 X210 e210 E210 A210 D210 => ?_
        have R210 := (CHr.ext E210 R208.1)
        have C210 := C208.trans R210
        have K210 := K208.ext E210
        have O210 := O208.ext E210
        refine q_dup B X210 at_56 rfl rfl rfl ?_
        refine q_iload B X210 at_57 rfl rfl ?_
        refine q_aload B X210 at_59 rfl rfl rfl ?_
        show G (T210.setTop (mkF m 61 #[oi i0, oi i1, oi i2, oi i3, oi i4, oi 1, oi 2, oi c205, oi c206, oi c207, oa a_208, .unset, .unset, .unset, .unset] [(.ref a_208), (.int 1), (.ref b210), (.ref b210)]))
        refine qI B X210 hZ hown 38 39 37 40 rfl rfl rfl rfl rfl (own_finit hw (1 : Int32) (.ref a_208) O210 rfl A210 (own_ge O208 (Nat.le_of_eq z210.symm)) (D210 (Or.inr (ow hw 48 rfl)) (ty := .boolean) (by decide)) (D210 (Or.inr (ow hw 50 rfl)) (ty := (.object "java/lang/String")) (by decide))) e210 own_pd34 rfl rfl at_61 1 rfl rfl rfl (by decide) ?_
        rintro T211 h211 _ L211 X211 e211 ⟨rfl, M211, J211, r211_0, r211_1, r211_2⟩
        have N211 := Fr.app N208 M211
        have sf212 : Safe Z consts_1 _ h210 b210 := (Safe.exa hZ.alike A210 (by decide) (by decide))
        have R211 := (CHr.keep J211 (allS sf212 all0) R210.1)
        have C211 := C210.trans R211
        have K211 := K210.trans J211 (allS (Or.inr (Nat.le_trans K208.1 (Nat.le_of_eq z210.symm))) all0)
        have O211 := O210.keep J211 (allS (own_ge O208 (Nat.le_of_eq z210.symm)) all0)
        refine q_astore B X211 at_64 rfl rfl rfl rfl ?_
        refine q_aload B X211 at_66 rfl rfl rfl ?_
        show G (T211.setTop (mkF m 68 #[oi i0, oi i1, oi i2, oi i3, oi i4, oi 1, oi 2, oi c205, oi c206, oi c207, oa a_208, oa b210, .unset, .unset, .unset] [(.ref b210)]))
        have f214 := ((r208_0.ext E210).keep J211)
        have f215 := ((r208_1.ext E210).keep J211 (ninS (own_ne r208_0.lt (Nat.le_of_eq z210.symm)) nin0))
        have f216 := ((r208_2.ext E210).keep J211 (ninS (own_ne r208_0.lt (Nat.le_of_eq z210.symm)) nin0))
        have f217 := ((W209.ext E210).keep J211 (ninS (own_ne r208_3.lt (Nat.le_of_eq z210.symm)) nin0))
        refine qVW B X211 hZ hown 51 52 54 53 37 55 rfl rfl rfl rfl rfl rfl (own_line1_0 hw hEL (2 : Int32) (8 : Int32) (8 : Int32) 6 8 O211 r211_0 r211_1 r211_2 f214 f215 f216 f217 g2_S g3_S g4_S g0_S g1_hcpt (by decide) (by decide) (by decide) ⟨by decide, by decide, rfl, by decide, by decide, Nat.le_of_ble_eq_true rfl⟩ (by decide) ⟨by decide, by decide, by decide, by decide, Nat.le_of_ble_eq_true rfl⟩ g5_hfmt g6_S) e211 SI0 (Nat.le_trans (Nat.le_trans (Nat.le_trans (Nat.le_refl _) R208.2.1) R210.2.1) R211.2.1) hEL R211.1 r211_0 own_pd31 rfl rfl at_68 0 rfl rfl rfl (by decide) ?_
        rintro T213 h213 v213 L213 X213 e213 SI213 hZ213 hown213 Y213 ⟨r_213, u_213, ku_213, rfl, M213, J213, y213_0, y213_1, r213_0, r213_1, r213_2, r213_3⟩
        have N213 := Fr.app N211 M213
        have R213 := Y213
        have C213 := C211.trans R213
        have K213 := K211.trans J213 all0
        have O213 := O211.keep J213 all0
        show G (T213.setTop (mkF m 71 #[oi i0, oi i1, oi i2, oi i3, oi i4, oi 1, oi 2, oi c205, oi c206, oi c207, oa a_208, oa b210, .unset, .unset, .unset] [(.ref r_213)]))
        have W218 : Arv Z h213 u_213 ku_213 .byte (8 : Int32) [(.int 97), (.int 108), (.int 108), (.int 111), (.int 119), (.int 32), (.int (c205.toInt8.toInt32)), (.int (c206.toInt8.toInt32))] (.int 0) := r213_3
        show G (T213.setTop (mkF m 71 #[oi i0, oi i1, oi i2, oi i3, oi i4, oi 1, oi 2, oi c205, oi c206, oi c207, oa a_208, oa b210, .unset, .unset, .unset] [(.ref r_213)]))
        refine q_astore B X213 at_71 rfl rfl rfl rfl ?_
        refine q_iload B X213 at_73 rfl rfl ?_
        refine q_ifNo B X213 at_75 rfl ((if0 _ _).trans (feq (by decide)).1) rfl ?_
        refine q_bipush B X213 at_78 rfl ?_
        refine q_goto 84 B X213 at_80 rfl rfl (by decide) ?_
        refine q_istore B X213 at_84 rfl rfl rfl ?_
        refine q_aload B X213 at_86 rfl rfl rfl ?_
        refine q_ifnullNo B X213 at_88 rfl rfl ?_
        refine q_aload B X213 at_91 rfl rfl rfl ?_
        show G (T213.setTop (mkF m 93 #[oi i0, oi i1, oi i2, oi i3, oi i4, oi 1, oi 2, oi c205, oi c206, oi c207, oa a_208, oa b210, oa r_213, oi 6, .unset] [(.ref r_213)]))
        refine qV B X213 hZ213 hown213 169 88 90 89 8 91 rfl rfl rfl rfl rfl rfl (own_len hw [(97 : Int32), (108 : Int32), (108 : Int32), (111 : Int32), (119 : Int32), (32 : Int32), c205, c206] O213 r213_0 r213_1 r213_2 W218 (Or.inl ⟨(own_allc (by decide) (own_allc (by decide) (own_allc (by decide) (own_allc (by decide) (own_allc (by decide) (own_allc (by decide) (own_allc (hall _ (List.mem_of_getElem? (i := 0) rfl)) (own_allc (hall _ (List.mem_of_getElem? (i := 1) rfl)) own_alln)))))))), rfl, rfl, rfl⟩) (Nat.le_of_ble_eq_true rfl) (own_allc (by decide) (own_allc (by decide) (own_allc (by decide) (own_allc (by decide) (own_allc (by decide) (own_allc (by decide) (own_allc hr_c205 (own_allc hr_c206 own_alln)))))))) g0_S g1_hcpt) e213 r213_0 own_pd12 rfl rfl at_93 0 rfl rfl rfl (by decide) ?_
        rintro T219 h219 _ L219 X219 e219 ⟨rfl, M219, rfl⟩
        have N219 := Fr.app N213 M219
        show G (T219.setTop (mkF m 96 #[oi i0, oi i1, oi i2, oi i3, oi i4, oi 1, oi 2, oi c205, oi c206, oi c207, oa a_208, oa b210, oa r_213, oi 6, .unset] [(.int (Int32.ofNat [(97 : Int32), (108 : Int32), (108 : Int32), (111 : Int32), (119 : Int32), (32 : Int32), c205, c206].length))]))
        show G (T219.setTop (mkF m 96 #[oi i0, oi i1, oi i2, oi i3, oi i4, oi 1, oi 2, oi c205, oi c206, oi c207, oa a_208, oa b210, oa r_213, oi 6, .unset] [(.int 8)]))
        refine q_iload B X219 at_96 rfl rfl ?_
        refine q_iload B X219 at_98 rfl rfl ?_
        refine q_iadd B X219 at_100 rfl rfl ?_
        show G (T219.setTop (mkF m 101 #[oi i0, oi i1, oi i2, oi i3, oi i4, oi 1, oi 2, oi c205, oi c206, oi c207, oa a_208, oa b210, oa r_213, oi 6, .unset] [(.int ((6 : Int32) + (2 : Int32))), (.int 8)]))
        rw [show ((6 : Int32) + (2 : Int32)) = (8 : Int32) from by decide]
        show G (T219.setTop (mkF m 101 #[oi i0, oi i1, oi i2, oi i3, oi i4, oi 1, oi 2, oi c205, oi c206, oi c207, oa a_208, oa b210, oa r_213, oi 6, .unset] [(.int 8), (.int 8)]))
        refine q_icmpYes 106 B X219 at_101 rfl (teq (by decide)).1 rfl rfl (by decide) ?_
        refine q_iload B X219 at_106 rfl rfl ?_
        refine q_ifNo B X219 at_108 rfl ((if0 _ _).trans (feq (by decide)).1) rfl ?_
        refine q_aload B X219 at_111 rfl rfl rfl ?_
        refine q_iconst B X219 at_113 rfl ?_
        show G (T219.setTop (mkF m 114 #[oi i0, oi i1, oi i2, oi i3, oi i4, oi 1, oi 2, oi c205, oi c206, oi c207, oa a_208, oa b210, oa r_213, oi 6, .unset] [(.int 0), (.ref r_213)]))
        refine qV B X219 hZ213 hown213 170 171 173 172 8 174 rfl rfl rfl rfl rfl rfl (own_ca hw [(97 : Int32), (108 : Int32), (108 : Int32), (111 : Int32), (119 : Int32), (32 : Int32), c205, c206] 0 O213 r213_0 r213_1 r213_2 W218 (Or.inl ⟨(own_allc (by decide) (own_allc (by decide) (own_allc (by decide) (own_allc (by decide) (own_allc (by decide) (own_allc (by decide) (own_allc (hall _ (List.mem_of_getElem? (i := 0) rfl)) (own_allc (hall _ (List.mem_of_getElem? (i := 1) rfl)) own_alln)))))))), rfl, rfl, rfl⟩) (Nat.le_of_ble_eq_true rfl) (own_allc (by decide) (own_allc (by decide) (own_allc (by decide) (own_allc (by decide) (own_allc (by decide) (own_allc (by decide) (own_allc hr_c205 (own_allc hr_c206 own_alln)))))))) g0_S g1_hcpt g2_S g3_S g4_S (Nat.le_of_ble_eq_true rfl) g5_hfmt g6_S) e219 r213_0 own_pd17 rfl rfl at_114 0 rfl rfl rfl (by decide) ?_
        rintro T220 h220 _ L220 X220 e220 ⟨rfl, M220, rfl⟩
        have N220 := Fr.app N219 M220
        show G (T220.setTop (mkF m 117 #[oi i0, oi i1, oi i2, oi i3, oi i4, oi 1, oi 2, oi c205, oi c206, oi c207, oa a_208, oa b210, oa r_213, oi 6, .unset] [(.int ([(97 : Int32), (108 : Int32), (108 : Int32), (111 : Int32), (119 : Int32), (32 : Int32), c205, c206].getD 0 0))]))
        show G (T220.setTop (mkF m 117 #[oi i0, oi i1, oi i2, oi i3, oi i4, oi 1, oi 2, oi c205, oi c206, oi c207, oa a_208, oa b210, oa r_213, oi 6, .unset] [(.int 97)]))
        refine q_bipush B X220 at_117 rfl ?_
        refine q_icmpNo B X220 at_119 rfl (teq (by decide)).2 rfl ?_
        refine q_aload B X220 at_122 rfl rfl rfl ?_
        refine q_iconst B X220 at_124 rfl ?_
        show G (T220.setTop (mkF m 125 #[oi i0, oi i1, oi i2, oi i3, oi i4, oi 1, oi 2, oi c205, oi c206, oi c207, oa a_208, oa b210, oa r_213, oi 6, .unset] [(.int 1), (.ref r_213)]))
        refine qV B X220 hZ213 hown213 170 171 173 172 8 174 rfl rfl rfl rfl rfl rfl (own_ca hw [(97 : Int32), (108 : Int32), (108 : Int32), (111 : Int32), (119 : Int32), (32 : Int32), c205, c206] 1 O213 r213_0 r213_1 r213_2 W218 (Or.inl ⟨(own_allc (by decide) (own_allc (by decide) (own_allc (by decide) (own_allc (by decide) (own_allc (by decide) (own_allc (by decide) (own_allc (hall _ (List.mem_of_getElem? (i := 0) rfl)) (own_allc (hall _ (List.mem_of_getElem? (i := 1) rfl)) own_alln)))))))), rfl, rfl, rfl⟩) (Nat.le_of_ble_eq_true rfl) (own_allc (by decide) (own_allc (by decide) (own_allc (by decide) (own_allc (by decide) (own_allc (by decide) (own_allc (by decide) (own_allc hr_c205 (own_allc hr_c206 own_alln)))))))) g0_S g1_hcpt g2_S g3_S g4_S (Nat.le_of_ble_eq_true rfl) g5_hfmt g6_S) e220 r213_0 own_pd17 rfl rfl at_125 0 rfl rfl rfl (by decide) ?_
        rintro T221 h221 _ L221 X221 e221 ⟨rfl, M221, rfl⟩
        have N221 := Fr.app N220 M221
        show G (T221.setTop (mkF m 128 #[oi i0, oi i1, oi i2, oi i3, oi i4, oi 1, oi 2, oi c205, oi c206, oi c207, oa a_208, oa b210, oa r_213, oi 6, .unset] [(.int ([(97 : Int32), (108 : Int32), (108 : Int32), (111 : Int32), (119 : Int32), (32 : Int32), c205, c206].getD 1 0))]))
        show G (T221.setTop (mkF m 128 #[oi i0, oi i1, oi i2, oi i3, oi i4, oi 1, oi 2, oi c205, oi c206, oi c207, oa a_208, oa b210, oa r_213, oi 6, .unset] [(.int 108)]))
        refine q_bipush B X221 at_128 rfl ?_
        refine q_icmpNo B X221 at_130 rfl (teq (by decide)).2 rfl ?_
        refine q_aload B X221 at_133 rfl rfl rfl ?_
        refine q_iconst B X221 at_135 rfl ?_
        show G (T221.setTop (mkF m 136 #[oi i0, oi i1, oi i2, oi i3, oi i4, oi 1, oi 2, oi c205, oi c206, oi c207, oa a_208, oa b210, oa r_213, oi 6, .unset] [(.int 2), (.ref r_213)]))
        refine qV B X221 hZ213 hown213 170 171 173 172 8 174 rfl rfl rfl rfl rfl rfl (own_ca hw [(97 : Int32), (108 : Int32), (108 : Int32), (111 : Int32), (119 : Int32), (32 : Int32), c205, c206] 2 O213 r213_0 r213_1 r213_2 W218 (Or.inl ⟨(own_allc (by decide) (own_allc (by decide) (own_allc (by decide) (own_allc (by decide) (own_allc (by decide) (own_allc (by decide) (own_allc (hall _ (List.mem_of_getElem? (i := 0) rfl)) (own_allc (hall _ (List.mem_of_getElem? (i := 1) rfl)) own_alln)))))))), rfl, rfl, rfl⟩) (Nat.le_of_ble_eq_true rfl) (own_allc (by decide) (own_allc (by decide) (own_allc (by decide) (own_allc (by decide) (own_allc (by decide) (own_allc (by decide) (own_allc hr_c205 (own_allc hr_c206 own_alln)))))))) g0_S g1_hcpt g2_S g3_S g4_S (Nat.le_of_ble_eq_true rfl) g5_hfmt g6_S) e221 r213_0 own_pd17 rfl rfl at_136 0 rfl rfl rfl (by decide) ?_
        rintro T222 h222 _ L222 X222 e222 ⟨rfl, M222, rfl⟩
        have N222 := Fr.app N221 M222
        show G (T222.setTop (mkF m 139 #[oi i0, oi i1, oi i2, oi i3, oi i4, oi 1, oi 2, oi c205, oi c206, oi c207, oa a_208, oa b210, oa r_213, oi 6, .unset] [(.int ([(97 : Int32), (108 : Int32), (108 : Int32), (111 : Int32), (119 : Int32), (32 : Int32), c205, c206].getD 2 0))]))
        show G (T222.setTop (mkF m 139 #[oi i0, oi i1, oi i2, oi i3, oi i4, oi 1, oi 2, oi c205, oi c206, oi c207, oa a_208, oa b210, oa r_213, oi 6, .unset] [(.int 108)]))
        refine q_bipush B X222 at_139 rfl ?_
        refine q_icmpNo B X222 at_141 rfl (teq (by decide)).2 rfl ?_
        refine q_aload B X222 at_144 rfl rfl rfl ?_
        refine q_iconst B X222 at_146 rfl ?_
        show G (T222.setTop (mkF m 147 #[oi i0, oi i1, oi i2, oi i3, oi i4, oi 1, oi 2, oi c205, oi c206, oi c207, oa a_208, oa b210, oa r_213, oi 6, .unset] [(.int 3), (.ref r_213)]))
        refine qV B X222 hZ213 hown213 170 171 173 172 8 174 rfl rfl rfl rfl rfl rfl (own_ca hw [(97 : Int32), (108 : Int32), (108 : Int32), (111 : Int32), (119 : Int32), (32 : Int32), c205, c206] 3 O213 r213_0 r213_1 r213_2 W218 (Or.inl ⟨(own_allc (by decide) (own_allc (by decide) (own_allc (by decide) (own_allc (by decide) (own_allc (by decide) (own_allc (by decide) (own_allc (hall _ (List.mem_of_getElem? (i := 0) rfl)) (own_allc (hall _ (List.mem_of_getElem? (i := 1) rfl)) own_alln)))))))), rfl, rfl, rfl⟩) (Nat.le_of_ble_eq_true rfl) (own_allc (by decide) (own_allc (by decide) (own_allc (by decide) (own_allc (by decide) (own_allc (by decide) (own_allc (by decide) (own_allc hr_c205 (own_allc hr_c206 own_alln)))))))) g0_S g1_hcpt g2_S g3_S g4_S (Nat.le_of_ble_eq_true rfl) g5_hfmt g6_S) e222 r213_0 own_pd17 rfl rfl at_147 0 rfl rfl rfl (by decide) ?_
        rintro T223 h223 _ L223 X223 e223 ⟨rfl, M223, rfl⟩
        have N223 := Fr.app N222 M223
        show G (T223.setTop (mkF m 150 #[oi i0, oi i1, oi i2, oi i3, oi i4, oi 1, oi 2, oi c205, oi c206, oi c207, oa a_208, oa b210, oa r_213, oi 6, .unset] [(.int ([(97 : Int32), (108 : Int32), (108 : Int32), (111 : Int32), (119 : Int32), (32 : Int32), c205, c206].getD 3 0))]))
        show G (T223.setTop (mkF m 150 #[oi i0, oi i1, oi i2, oi i3, oi i4, oi 1, oi 2, oi c205, oi c206, oi c207, oa a_208, oa b210, oa r_213, oi 6, .unset] [(.int 111)]))
        refine q_bipush B X223 at_150 rfl ?_
        refine q_icmpNo B X223 at_152 rfl (teq (by decide)).2 rfl ?_
        refine q_aload B X223 at_155 rfl rfl rfl ?_
        refine q_iconst B X223 at_157 rfl ?_
        show G (T223.setTop (mkF m 158 #[oi i0, oi i1, oi i2, oi i3, oi i4, oi 1, oi 2, oi c205, oi c206, oi c207, oa a_208, oa b210, oa r_213, oi 6, .unset] [(.int 4), (.ref r_213)]))
        refine qV B X223 hZ213 hown213 170 171 173 172 8 174 rfl rfl rfl rfl rfl rfl (own_ca hw [(97 : Int32), (108 : Int32), (108 : Int32), (111 : Int32), (119 : Int32), (32 : Int32), c205, c206] 4 O213 r213_0 r213_1 r213_2 W218 (Or.inl ⟨(own_allc (by decide) (own_allc (by decide) (own_allc (by decide) (own_allc (by decide) (own_allc (by decide) (own_allc (by decide) (own_allc (hall _ (List.mem_of_getElem? (i := 0) rfl)) (own_allc (hall _ (List.mem_of_getElem? (i := 1) rfl)) own_alln)))))))), rfl, rfl, rfl⟩) (Nat.le_of_ble_eq_true rfl) (own_allc (by decide) (own_allc (by decide) (own_allc (by decide) (own_allc (by decide) (own_allc (by decide) (own_allc (by decide) (own_allc hr_c205 (own_allc hr_c206 own_alln)))))))) g0_S g1_hcpt g2_S g3_S g4_S (Nat.le_of_ble_eq_true rfl) g5_hfmt g6_S) e223 r213_0 own_pd17 rfl rfl at_158 0 rfl rfl rfl (by decide) ?_
        rintro T224 h224 _ L224 X224 e224 ⟨rfl, M224, rfl⟩
        have N224 := Fr.app N223 M224
        show G (T224.setTop (mkF m 161 #[oi i0, oi i1, oi i2, oi i3, oi i4, oi 1, oi 2, oi c205, oi c206, oi c207, oa a_208, oa b210, oa r_213, oi 6, .unset] [(.int ([(97 : Int32), (108 : Int32), (108 : Int32), (111 : Int32), (119 : Int32), (32 : Int32), c205, c206].getD 4 0))]))
        show G (T224.setTop (mkF m 161 #[oi i0, oi i1, oi i2, oi i3, oi i4, oi 1, oi 2, oi c205, oi c206, oi c207, oa a_208, oa b210, oa r_213, oi 6, .unset] [(.int 119)]))
        refine q_bipush B X224 at_161 rfl ?_
        refine q_icmpNo B X224 at_163 rfl (teq (by decide)).2 rfl ?_
        refine q_aload B X224 at_166 rfl rfl rfl ?_
        refine q_iconst B X224 at_168 rfl ?_
        show G (T224.setTop (mkF m 169 #[oi i0, oi i1, oi i2, oi i3, oi i4, oi 1, oi 2, oi c205, oi c206, oi c207, oa a_208, oa b210, oa r_213, oi 6, .unset] [(.int 5), (.ref r_213)]))
        refine qV B X224 hZ213 hown213 170 171 173 172 8 174 rfl rfl rfl rfl rfl rfl (own_ca hw [(97 : Int32), (108 : Int32), (108 : Int32), (111 : Int32), (119 : Int32), (32 : Int32), c205, c206] 5 O213 r213_0 r213_1 r213_2 W218 (Or.inl ⟨(own_allc (by decide) (own_allc (by decide) (own_allc (by decide) (own_allc (by decide) (own_allc (by decide) (own_allc (by decide) (own_allc (hall _ (List.mem_of_getElem? (i := 0) rfl)) (own_allc (hall _ (List.mem_of_getElem? (i := 1) rfl)) own_alln)))))))), rfl, rfl, rfl⟩) (Nat.le_of_ble_eq_true rfl) (own_allc (by decide) (own_allc (by decide) (own_allc (by decide) (own_allc (by decide) (own_allc (by decide) (own_allc (by decide) (own_allc hr_c205 (own_allc hr_c206 own_alln)))))))) g0_S g1_hcpt g2_S g3_S g4_S (Nat.le_of_ble_eq_true rfl) g5_hfmt g6_S) e224 r213_0 own_pd17 rfl rfl at_169 0 rfl rfl rfl (by decide) ?_
        rintro T225 h225 _ L225 X225 e225 ⟨rfl, M225, rfl⟩
        have N225 := Fr.app N224 M225
        show G (T225.setTop (mkF m 172 #[oi i0, oi i1, oi i2, oi i3, oi i4, oi 1, oi 2, oi c205, oi c206, oi c207, oa a_208, oa b210, oa r_213, oi 6, .unset] [(.int ([(97 : Int32), (108 : Int32), (108 : Int32), (111 : Int32), (119 : Int32), (32 : Int32), c205, c206].getD 5 0))]))
        show G (T225.setTop (mkF m 172 #[oi i0, oi i1, oi i2, oi i3, oi i4, oi 1, oi 2, oi c205, oi c206, oi c207, oa a_208, oa b210, oa r_213, oi 6, .unset] [(.int 32)]))
        refine q_bipush B X225 at_172 rfl ?_
        refine q_icmpNo B X225 at_174 rfl (teq (by decide)).2 rfl ?_
        refine q_iconst B X225 at_177 rfl ?_
        refine q_goto 182 B X225 at_178 rfl rfl (by decide) ?_
        refine q_istore B X225 at_182 rfl rfl rfl ?_
        refine q_goto 249 B X225 at_184 rfl rfl (by decide) ?_
        refine q_iload B X225 at_249 rfl rfl ?_
        refine q_ifYes 256 B X225 at_251 rfl ((if0 _ _).trans (feq (by decide)).2) rfl rfl (by decide) ?_
        refine q_iload B X225 at_256 rfl rfl ?_
        refine q_iconst B X225 at_258 rfl ?_
        refine q_icmpNo B X225 at_259 rfl (flt (by decide)).1 rfl ?_
        refine q_aload B X225 at_262 rfl rfl rfl ?_
        refine q_iload B X225 at_264 rfl rfl ?_
        show G (T225.setTop (mkF m 266 #[oi i0, oi i1, oi i2, oi i3, oi i4, oi 1, oi 2, oi c205, oi c206, oi c207, oa a_208, oa b210, oa r_213, oi 6, oi 1] [(.int 6), (.ref r_213)]))
        refine qV B X225 hZ213 hown213 170 171 173 172 8 174 rfl rfl rfl rfl rfl rfl (own_ca hw [(97 : Int32), (108 : Int32), (108 : Int32), (111 : Int32), (119 : Int32), (32 : Int32), c205, c206] 6 O213 r213_0 r213_1 r213_2 W218 (Or.inl ⟨(own_allc (by decide) (own_allc (by decide) (own_allc (by decide) (own_allc (by decide) (own_allc (by decide) (own_allc (by decide) (own_allc (hall _ (List.mem_of_getElem? (i := 0) rfl)) (own_allc (hall _ (List.mem_of_getElem? (i := 1) rfl)) own_alln)))))))), rfl, rfl, rfl⟩) (Nat.le_of_ble_eq_true rfl) (own_allc (by decide) (own_allc (by decide) (own_allc (by decide) (own_allc (by decide) (own_allc (by decide) (own_allc (by decide) (own_allc hr_c205 (own_allc hr_c206 own_alln)))))))) g0_S g1_hcpt g2_S g3_S g4_S (Nat.le_of_ble_eq_true rfl) g5_hfmt g6_S) e225 r213_0 own_pd17 rfl rfl at_266 0 rfl rfl rfl (by decide) ?_
        rintro T226 h226 _ L226 X226 e226 ⟨rfl, M226, rfl⟩
        have N226 := Fr.app N225 M226
        show G (T226.setTop (mkF m 269 #[oi i0, oi i1, oi i2, oi i3, oi i4, oi 1, oi 2, oi c205, oi c206, oi c207, oa a_208, oa b210, oa r_213, oi 6, oi 1] [(.int ([(97 : Int32), (108 : Int32), (108 : Int32), (111 : Int32), (119 : Int32), (32 : Int32), c205, c206].getD 6 0))]))
        show G (T226.setTop (mkF m 269 #[oi i0, oi i1, oi i2, oi i3, oi i4, oi 1, oi 2, oi c205, oi c206, oi c207, oa a_208, oa b210, oa r_213, oi 6, oi 1] [(.int c205)]))
        refine q_iload B X226 at_269 rfl rfl ?_
        refine q_icmpYes 276 B X226 at_271 rfl (teq (rfl : c205 = c205)).1 rfl rfl (by decide) ?_
        refine q_iload B X226 at_276 rfl rfl ?_
        refine q_iconst B X226 at_278 rfl ?_
        refine q_icmpNo B X226 at_279 rfl (flt (by decide)).1 rfl ?_
        refine q_aload B X226 at_282 rfl rfl rfl ?_
        refine q_iload B X226 at_284 rfl rfl ?_
        refine q_iconst B X226 at_286 rfl ?_
        refine q_iadd B X226 at_287 rfl rfl ?_
        show G (T226.setTop (mkF m 288 #[oi i0, oi i1, oi i2, oi i3, oi i4, oi 1, oi 2, oi c205, oi c206, oi c207, oa a_208, oa b210, oa r_213, oi 6, oi 1] [(.int ((6 : Int32) + (1 : Int32))), (.ref r_213)]))
        rw [show ((6 : Int32) + (1 : Int32)) = (7 : Int32) from by decide]
        show G (T226.setTop (mkF m 288 #[oi i0, oi i1, oi i2, oi i3, oi i4, oi 1, oi 2, oi c205, oi c206, oi c207, oa a_208, oa b210, oa r_213, oi 6, oi 1] [(.int 7), (.ref r_213)]))
        refine qV B X226 hZ213 hown213 170 171 173 172 8 174 rfl rfl rfl rfl rfl rfl (own_ca hw [(97 : Int32), (108 : Int32), (108 : Int32), (111 : Int32), (119 : Int32), (32 : Int32), c205, c206] 7 O213 r213_0 r213_1 r213_2 W218 (Or.inl ⟨(own_allc (by decide) (own_allc (by decide) (own_allc (by decide) (own_allc (by decide) (own_allc (by decide) (own_allc (by decide) (own_allc (hall _ (List.mem_of_getElem? (i := 0) rfl)) (own_allc (hall _ (List.mem_of_getElem? (i := 1) rfl)) own_alln)))))))), rfl, rfl, rfl⟩) (Nat.le_of_ble_eq_true rfl) (own_allc (by decide) (own_allc (by decide) (own_allc (by decide) (own_allc (by decide) (own_allc (by decide) (own_allc (by decide) (own_allc hr_c205 (own_allc hr_c206 own_alln)))))))) g0_S g1_hcpt g2_S g3_S g4_S (Nat.le_of_ble_eq_true rfl) g5_hfmt g6_S) e226 r213_0 own_pd17 rfl rfl at_288 0 rfl rfl rfl (by decide) ?_
        rintro T227 h227 _ L227 X227 e227 ⟨rfl, M227, rfl⟩
        have N227 := Fr.app N226 M227
        show G (T227.setTop (mkF m 291 #[oi i0, oi i1, oi i2, oi i3, oi i4, oi 1, oi 2, oi c205, oi c206, oi c207, oa a_208, oa b210, oa r_213, oi 6, oi 1] [(.int ([(97 : Int32), (108 : Int32), (108 : Int32), (111 : Int32), (119 : Int32), (32 : Int32), c205, c206].getD 7 0))]))
        show G (T227.setTop (mkF m 291 #[oi i0, oi i1, oi i2, oi i3, oi i4, oi 1, oi 2, oi c205, oi c206, oi c207, oa a_208, oa b210, oa r_213, oi 6, oi 1] [(.int c206)]))
        refine q_iload B X227 at_291 rfl rfl ?_
        refine q_icmpYes 298 B X227 at_293 rfl (teq (rfl : c206 = c206)).1 rfl rfl (by decide) ?_
        refine q_iload B X227 at_298 rfl rfl ?_
        refine q_iconst B X227 at_300 rfl ?_
        refine q_icmpYes 320 B X227 at_301 rfl (tlt (by decide)).1 rfl rfl (by decide) ?_
        refine q_iconst B X227 at_320 rfl ?_
        show G (T227.setTop (mkF m 321 #[oi i0, oi i1, oi i2, oi i3, oi i4, oi 1, oi 2, oi c205, oi c206, oi c207, oa a_208, oa b210, oa r_213, oi 6, oi 1] [(.int 1)]))
        exact qRNW B hR hret (by simp) X227 at_321 e227 SI213 (Nat.le_refl _) hZ213 C213 ⟨rfl, N227, K213⟩ (by decide)
      · skip
        have hv := own_is16_list h16
        subst hv
        have W228 : Arv Z h208 t_208 kt_208 .byte (4 : Int32) [(.int (own_lo c205)), (.int (own_hi c205)), (.int (own_lo c206)), (.int (own_hi c206))] (.int 0) := r208_3
        show G (T208.setTop (mkF m 51 #[oi i0, oi i1, oi i2, oi i3, oi i4, oi 1, oi 2, oi c205, oi c206, oi c207, .unset, .unset, .unset, .unset, .unset] [(.ref a_208)]))
        refine q_astore B X208 at_51 rfl rfl rfl rfl ?_
        refine qnw B X208 hZ hown 35 36 37 rfl rfl rfl e208 at_53 (by decide) fun T229 h229 b229 z229 X229 e229 E229 A229 D229 => ?_
        have R229 := (CHr.ext E229 R208.1)
        have C229 := C208.trans R229
        have K229 := K208.ext E229
        have O229 := O208.ext E229
        refine q_dup B X229 at_56 rfl rfl rfl ?_
        refine q_iload B X229 at_57 rfl rfl ?_
        refine q_aload B X229 at_59 rfl rfl rfl ?_
        show G (T229.setTop (mkF m 61 #[oi i0, oi i1, oi i2, oi i3, oi i4, oi 1, oi 2, oi c205, oi c206, oi c207, oa a_208, .unset, .unset, .unset, .unset] [(.ref a_208), (.int 1), (.ref b229), (.ref b229)]))
        refine qI B X229 hZ hown 38 39 37 40 rfl rfl rfl rfl rfl (own_finit hw (1 : Int32) (.ref a_208) O229 rfl A229 (own_ge O208 (Nat.le_of_eq z229.symm)) (D229 (Or.inr (ow hw 48 rfl)) (ty := .boolean) (by decide)) (D229 (Or.inr (ow hw 50 rfl)) (ty := (.object "java/lang/String")) (by decide))) e229 own_pd34 rfl rfl at_61 1 rfl rfl rfl (by decide) ?_
        rintro T230 h230 _ L230 X230 e230 ⟨rfl, M230, J230, r230_0, r230_1, r230_2⟩
        have N230 := Fr.app N208 M230
        have sf231 : Safe Z consts_1 _ h229 b229 := (Safe.exa hZ.alike A229 (by decide) (by decide))
        have R230 := (CHr.keep J230 (allS sf231 all0) R229.1)
        have C230 := C229.trans R230
        have K230 := K229.trans J230 (allS (Or.inr (Nat.le_trans K208.1 (Nat.le_of_eq z229.symm))) all0)
        have O230 := O229.keep J230 (allS (own_ge O208 (Nat.le_of_eq z229.symm)) all0)
        refine q_astore B X230 at_64 rfl rfl rfl rfl ?_
        refine q_aload B X230 at_66 rfl rfl rfl ?_
        show G (T230.setTop (mkF m 68 #[oi i0, oi i1, oi i2, oi i3, oi i4, oi 1, oi 2, oi c205, oi c206, oi c207, oa a_208, oa b229, .unset, .unset, .unset] [(.ref b229)]))
        have f233 := ((r208_0.ext E229).keep J230)
        have f234 := ((r208_1.ext E229).keep J230 (ninS (own_ne r208_0.lt (Nat.le_of_eq z229.symm)) nin0))
        have f235 := ((r208_2.ext E229).keep J230 (ninS (own_ne r208_0.lt (Nat.le_of_eq z229.symm)) nin0))
        have f236 := ((W228.ext E229).keep J230 (ninS (own_ne r208_3.lt (Nat.le_of_eq z229.symm)) nin0))
        refine qVW B X230 hZ hown 51 52 54 53 37 55 rfl rfl rfl rfl rfl rfl (own_line1_1 hw hEL (2 : Int32) (8 : Int32) (16 : Int32) 12 16 O230 r230_0 r230_1 r230_2 f233 f234 f235 f236 g2_S g3_S g4_S g0_S g1_hcpt (by decide) (by decide) (by decide) ⟨by decide, by decide, rfl, by decide, by decide, Nat.le_of_ble_eq_true rfl⟩ (by decide) ⟨by decide, by decide, by decide, by decide, Nat.le_of_ble_eq_true rfl⟩ g5_hfmt g6_S) e230 SI0 (Nat.le_trans (Nat.le_trans (Nat.le_trans (Nat.le_refl _) R208.2.1) R229.2.1) R230.2.1) hEL R230.1 r230_0 own_pd31 rfl rfl at_68 0 rfl rfl rfl (by decide) ?_
        rintro T232 h232 v232 L232 X232 e232 SI232 hZ232 hown232 Y232 ⟨r_232, u_232, ku_232, rfl, M232, J232, y232_0, y232_1, r232_0, r232_1, r232_2, r232_3⟩
        have N232 := Fr.app N230 M232
        have R232 := Y232
        have C232 := C230.trans R232
        have K232 := K230.trans J232 all0
        have O232 := O230.keep J232 all0
        show G (T232.setTop (mkF m 71 #[oi i0, oi i1, oi i2, oi i3, oi i4, oi 1, oi 2, oi c205, oi c206, oi c207, oa a_208, oa b229, .unset, .unset, .unset] [(.ref r_232)]))
        have W237 : Arv Z h232 u_232 ku_232 .byte (16 : Int32) [(.int (own_lo (97 : Int32))), (.int (own_hi (97 : Int32))), (.int (own_lo (108 : Int32))), (.int (own_hi (108 : Int32))), (.int (own_lo (108 : Int32))), (.int (own_hi (108 : Int32))), (.int (own_lo (111 : Int32))), (.int (own_hi (111 : Int32))), (.int (own_lo (119 : Int32))), (.int (own_hi (119 : Int32))), (.int (own_lo (32 : Int32))), (.int (own_hi (32 : Int32))), (.int (own_lo c205)), (.int (own_hi c205)), (.int (own_lo c206)), (.int (own_hi c206))] (.int 0) := r232_3
        show G (T232.setTop (mkF m 71 #[oi i0, oi i1, oi i2, oi i3, oi i4, oi 1, oi 2, oi c205, oi c206, oi c207, oa a_208, oa b229, .unset, .unset, .unset] [(.ref r_232)]))
        refine q_astore B X232 at_71 rfl rfl rfl rfl ?_
        refine q_iload B X232 at_73 rfl rfl ?_
        refine q_ifNo B X232 at_75 rfl ((if0 _ _).trans (feq (by decide)).1) rfl ?_
        refine q_bipush B X232 at_78 rfl ?_
        refine q_goto 84 B X232 at_80 rfl rfl (by decide) ?_
        refine q_istore B X232 at_84 rfl rfl rfl ?_
        refine q_aload B X232 at_86 rfl rfl rfl ?_
        refine q_ifnullNo B X232 at_88 rfl rfl ?_
        refine q_aload B X232 at_91 rfl rfl rfl ?_
        show G (T232.setTop (mkF m 93 #[oi i0, oi i1, oi i2, oi i3, oi i4, oi 1, oi 2, oi c205, oi c206, oi c207, oa a_208, oa b229, oa r_232, oi 6, .unset] [(.ref r_232)]))
        refine qV B X232 hZ232 hown232 169 88 90 89 8 91 rfl rfl rfl rfl rfl rfl (own_len hw [(97 : Int32), (108 : Int32), (108 : Int32), (111 : Int32), (119 : Int32), (32 : Int32), c205, c206] O232 r232_0 r232_1 r232_2 W237 (Or.inr ⟨own_big_app [(97 : Int32), (108 : Int32), (108 : Int32), (111 : Int32), (119 : Int32), (32 : Int32)] hbig, rfl, rfl, own_is16_bytes [(97 : Int32), (108 : Int32), (108 : Int32), (111 : Int32), (119 : Int32), (32 : Int32), c205, c206]⟩) (Nat.le_of_ble_eq_true rfl) (own_allc (by decide) (own_allc (by decide) (own_allc (by decide) (own_allc (by decide) (own_allc (by decide) (own_allc (by decide) (own_allc hr_c205 (own_allc hr_c206 own_alln)))))))) g0_S g1_hcpt) e232 r232_0 own_pd12 rfl rfl at_93 0 rfl rfl rfl (by decide) ?_
        rintro T238 h238 _ L238 X238 e238 ⟨rfl, M238, rfl⟩
        have N238 := Fr.app N232 M238
        show G (T238.setTop (mkF m 96 #[oi i0, oi i1, oi i2, oi i3, oi i4, oi 1, oi 2, oi c205, oi c206, oi c207, oa a_208, oa b229, oa r_232, oi 6, .unset] [(.int (Int32.ofNat [(97 : Int32), (108 : Int32), (108 : Int32), (111 : Int32), (119 : Int32), (32 : Int32), c205, c206].length))]))
        show G (T238.setTop (mkF m 96 #[oi i0, oi i1, oi i2, oi i3, oi i4, oi 1, oi 2, oi c205, oi c206, oi c207, oa a_208, oa b229, oa r_232, oi 6, .unset] [(.int 8)]))
        refine q_iload B X238 at_96 rfl rfl ?_
        refine q_iload B X238 at_98 rfl rfl ?_
        refine q_iadd B X238 at_100 rfl rfl ?_
        show G (T238.setTop (mkF m 101 #[oi i0, oi i1, oi i2, oi i3, oi i4, oi 1, oi 2, oi c205, oi c206, oi c207, oa a_208, oa b229, oa r_232, oi 6, .unset] [(.int ((6 : Int32) + (2 : Int32))), (.int 8)]))
        rw [show ((6 : Int32) + (2 : Int32)) = (8 : Int32) from by decide]
        show G (T238.setTop (mkF m 101 #[oi i0, oi i1, oi i2, oi i3, oi i4, oi 1, oi 2, oi c205, oi c206, oi c207, oa a_208, oa b229, oa r_232, oi 6, .unset] [(.int 8), (.int 8)]))
        refine q_icmpYes 106 B X238 at_101 rfl (teq (by decide)).1 rfl rfl (by decide) ?_
        refine q_iload B X238 at_106 rfl rfl ?_
        refine q_ifNo B X238 at_108 rfl ((if0 _ _).trans (feq (by decide)).1) rfl ?_
        refine q_aload B X238 at_111 rfl rfl rfl ?_
        refine q_iconst B X238 at_113 rfl ?_
        show G (T238.setTop (mkF m 114 #[oi i0, oi i1, oi i2, oi i3, oi i4, oi 1, oi 2, oi c205, oi c206, oi c207, oa a_208, oa b229, oa r_232, oi 6, .unset] [(.int 0), (.ref r_232)]))
        refine qV B X238 hZ232 hown232 170 171 173 172 8 174 rfl rfl rfl rfl rfl rfl (own_ca hw [(97 : Int32), (108 : Int32), (108 : Int32), (111 : Int32), (119 : Int32), (32 : Int32), c205, c206] 0 O232 r232_0 r232_1 r232_2 W237 (Or.inr ⟨own_big_app [(97 : Int32), (108 : Int32), (108 : Int32), (111 : Int32), (119 : Int32), (32 : Int32)] hbig, rfl, rfl, own_is16_bytes [(97 : Int32), (108 : Int32), (108 : Int32), (111 : Int32), (119 : Int32), (32 : Int32), c205, c206]⟩) (Nat.le_of_ble_eq_true rfl) (own_allc (by decide) (own_allc (by decide) (own_allc (by decide) (own_allc (by decide) (own_allc (by decide) (own_allc (by decide) (own_allc hr_c205 (own_allc hr_c206 own_alln)))))))) g0_S g1_hcpt g2_S g3_S g4_S (Nat.le_of_ble_eq_true rfl) g5_hfmt g6_S) e238 r232_0 own_pd17 rfl rfl at_114 0 rfl rfl rfl (by decide) ?_
        rintro T239 h239 _ L239 X239 e239 ⟨rfl, M239, rfl⟩
        have N239 := Fr.app N238 M239
        show G (T239.setTop (mkF m 117 #[oi i0, oi i1, oi i2, oi i3, oi i4, oi 1, oi 2, oi c205, oi c206, oi c207, oa a_208, oa b229, oa r_232, oi 6, .unset] [(.int ([(97 : Int32), (108 : Int32), (108 : Int32), (111 : Int32), (119 : Int32), (32 : Int32), c205, c206].getD 0 0))]))
        show G (T239.setTop (mkF m 117 #[oi i0, oi i1, oi i2, oi i3, oi i4, oi 1, oi 2, oi c205, oi c206, oi c207, oa a_208, oa b229, oa r_232, oi 6, .unset] [(.int 97)]))
        refine q_bipush B X239 at_117 rfl ?_
        refine q_icmpNo B X239 at_119 rfl (teq (by decide)).2 rfl ?_
        refine q_aload B X239 at_122 rfl rfl rfl ?_
        refine q_iconst B X239 at_124 rfl ?_
        show G (T239.setTop (mkF m 125 #[oi i0, oi i1, oi i2, oi i3, oi i4, oi 1, oi 2, oi c205, oi c206, oi c207, oa a_208, oa b229, oa r_232, oi 6, .unset] [(.int 1), (.ref r_232)]))
        refine qV B X239 hZ232 hown232 170 171 173 172 8 174 rfl rfl rfl rfl rfl rfl (own_ca hw [(97 : Int32), (108 : Int32), (108 : Int32), (111 : Int32), (119 : Int32), (32 : Int32), c205, c206] 1 O232 r232_0 r232_1 r232_2 W237 (Or.inr ⟨own_big_app [(97 : Int32), (108 : Int32), (108 : Int32), (111 : Int32), (119 : Int32), (32 : Int32)] hbig, rfl, rfl, own_is16_bytes [(97 : Int32), (108 : Int32), (108 : Int32), (111 : Int32), (119 : Int32), (32 : Int32), c205, c206]⟩) (Nat.le_of_ble_eq_true rfl) (own_allc (by decide) (own_allc (by decide) (own_allc (by decide) (own_allc (by decide) (own_allc (by decide) (own_allc (by decide) (own_allc hr_c205 (own_allc hr_c206 own_alln)))))))) g0_S g1_hcpt g2_S g3_S g4_S (Nat.le_of_ble_eq_true rfl) g5_hfmt g6_S) e239 r232_0 own_pd17 rfl rfl at_125 0 rfl rfl rfl (by decide) ?_
        rintro T240 h240 _ L240 X240 e240 ⟨rfl, M240, rfl⟩
        have N240 := Fr.app N239 M240
        show G (T240.setTop (mkF m 128 #[oi i0, oi i1, oi i2, oi i3, oi i4, oi 1, oi 2, oi c205, oi c206, oi c207, oa a_208, oa b229, oa r_232, oi 6, .unset] [(.int ([(97 : Int32), (108 : Int32), (108 : Int32), (111 : Int32), (119 : Int32), (32 : Int32), c205, c206].getD 1 0))]))
        show G (T240.setTop (mkF m 128 #[oi i0, oi i1, oi i2, oi i3, oi i4, oi 1, oi 2, oi c205, oi c206, oi c207, oa a_208, oa b229, oa r_232, oi 6, .unset] [(.int 108)]))
        refine q_bipush B X240 at_128 rfl ?_
        refine q_icmpNo B X240 at_130 rfl (teq (by decide)).2 rfl ?_
        refine q_aload B X240 at_133 rfl rfl rfl ?_
        refine q_iconst B X240 at_135 rfl ?_
        show G (T240.setTop (mkF m 136 #[oi i0, oi i1, oi i2, oi i3, oi i4, oi 1, oi 2, oi c205, oi c206, oi c207, oa a_208, oa b229, oa r_232, oi 6, .unset] [(.int 2), (.ref r_232)]))
        refine qV B X240 hZ232 hown232 170 171 173 172 8 174 rfl rfl rfl rfl rfl rfl (own_ca hw [(97 : Int32), (108 : Int32), (108 : Int32), (111 : Int32), (119 : Int32), (32 : Int32), c205, c206] 2 O232 r232_0 r232_1 r232_2 W237 (Or.inr ⟨own_big_app [(97 : Int32), (108 : Int32), (108 : Int32), (111 : Int32), (119 : Int32), (32 : Int32)] hbig, rfl, rfl, own_is16_bytes [(97 : Int32), (108 : Int32), (108 : Int32), (111 : Int32), (119 : Int32), (32 : Int32), c205, c206]⟩) (Nat.le_of_ble_eq_true rfl) (own_allc (by decide) (own_allc (by decide) (own_allc (by decide) (own_allc (by decide) (own_allc (by decide) (own_allc (by decide) (own_allc hr_c205 (own_allc hr_c206 own_alln)))))))) g0_S g1_hcpt g2_S g3_S g4_S (Nat.le_of_ble_eq_true rfl) g5_hfmt g6_S) e240 r232_0 own_pd17 rfl rfl at_136 0 rfl rfl rfl (by decide) ?_
        rintro T241 h241 _ L241 X241 e241 ⟨rfl, M241, rfl⟩
        have N241 := Fr.app N240 M241
        show G (T241.setTop (mkF m 139 #[oi i0, oi i1, oi i2, oi i3, oi i4, oi 1, oi 2, oi c205, oi c206, oi c207, oa a_208, oa b229, oa r_232, oi 6, .unset] [(.int ([(97 : Int32), (108 : Int32), (108 : Int32), (111 : Int32), (119 : Int32), (32 : Int32), c205, c206].getD 2 0))]))
        show G (T241.setTop (mkF m 139 #[oi i0, oi i1, oi i2, oi i3, oi i4, oi 1, oi 2, oi c205, oi c206, oi c207, oa a_208, oa b229, oa r_232, oi 6, .unset] [(.int 108)]))
        refine q_bipush B X241 at_139 rfl ?_
        refine q_icmpNo B X241 at_141 rfl (teq (by decide)).2 rfl ?_
        refine q_aload B X241 at_144 rfl rfl rfl ?_
        refine q_iconst B X241 at_146 rfl ?_
        show G (T241.setTop (mkF m 147 #[oi i0, oi i1, oi i2, oi i3, oi i4, oi 1, oi 2, oi c205, oi c206, oi c207, oa a_208, oa b229, oa r_232, oi 6, .unset] [(.int 3), (.ref r_232)]))
        refine qV B X241 hZ232 hown232 170 171 173 172 8 174 rfl rfl rfl rfl rfl rfl (own_ca hw [(97 : Int32), (108 : Int32), (108 : Int32), (111 : Int32), (119 : Int32), (32 : Int32), c205, c206] 3 O232 r232_0 r232_1 r232_2 W237 (Or.inr ⟨own_big_app [(97 : Int32), (108 : Int32), (108 : Int32), (111 : Int32), (119 : Int32), (32 : Int32)] hbig, rfl, rfl, own_is16_bytes [(97 : Int32), (108 : Int32), (108 : Int32), (111 : Int32), (119 : Int32), (32 : Int32), c205, c206]⟩) (Nat.le_of_ble_eq_true rfl) (own_allc (by decide) (own_allc (by decide) (own_allc (by decide) (own_allc (by decide) (own_allc (by decide) (own_allc (by decide) (own_allc hr_c205 (own_allc hr_c206 own_alln)))))))) g0_S g1_hcpt g2_S g3_S g4_S (Nat.le_of_ble_eq_true rfl) g5_hfmt g6_S) e241 r232_0 own_pd17 rfl rfl at_147 0 rfl rfl rfl (by decide) ?_
        rintro T242 h242 _ L242 X242 e242 ⟨rfl, M242, rfl⟩
        have N242 := Fr.app N241 M242
        show G (T242.setTop (mkF m 150 #[oi i0, oi i1, oi i2, oi i3, oi i4, oi 1, oi 2, oi c205, oi c206, oi c207, oa a_208, oa b229, oa r_232, oi 6, .unset] [(.int ([(97 : Int32), (108 : Int32), (108 : Int32), (111 : Int32), (119 : Int32), (32 : Int32), c205, c206].getD 3 0))]))
        show G (T242.setTop (mkF m 150 #[oi i0, oi i1, oi i2, oi i3, oi i4, oi 1, oi 2, oi c205, oi c206, oi c207, oa a_208, oa b229, oa r_232, oi 6, .unset] [(.int 111)]))
        refine q_bipush B X242 at_150 rfl ?_
        refine q_icmpNo B X242 at_152 rfl (teq (by decide)).2 rfl ?_
        refine q_aload B X242 at_155 rfl rfl rfl ?_
        refine q_iconst B X242 at_157 rfl ?_
        show G (T242.setTop (mkF m 158 #[oi i0, oi i1, oi i2, oi i3, oi i4, oi 1, oi 2, oi c205, oi c206, oi c207, oa a_208, oa b229, oa r_232, oi 6, .unset] [(.int 4), (.ref r_232)]))
        refine qV B X242 hZ232 hown232 170 171 173 172 8 174 rfl rfl rfl rfl rfl rfl (own_ca hw [(97 : Int32), (108 : Int32), (108 : Int32), (111 : Int32), (119 : Int32), (32 : Int32), c205, c206] 4 O232 r232_0 r232_1 r232_2 W237 (Or.inr ⟨own_big_app [(97 : Int32), (108 : Int32), (108 : Int32), (111 : Int32), (119 : Int32), (32 : Int32)] hbig, rfl, rfl, own_is16_bytes [(97 : Int32), (108 : Int32), (108 : Int32), (111 : Int32), (119 : Int32), (32 : Int32), c205, c206]⟩) (Nat.le_of_ble_eq_true rfl) (own_allc (by decide) (own_allc (by decide) (own_allc (by decide) (own_allc (by decide) (own_allc (by decide) (own_allc (by decide) (own_allc hr_c205 (own_allc hr_c206 own_alln)))))))) g0_S g1_hcpt g2_S g3_S g4_S (Nat.le_of_ble_eq_true rfl) g5_hfmt g6_S) e242 r232_0 own_pd17 rfl rfl at_158 0 rfl rfl rfl (by decide) ?_
        rintro T243 h243 _ L243 X243 e243 ⟨rfl, M243, rfl⟩
        have N243 := Fr.app N242 M243
        show G (T243.setTop (mkF m 161 #[oi i0, oi i1, oi i2, oi i3, oi i4, oi 1, oi 2, oi c205, oi c206, oi c207, oa a_208, oa b229, oa r_232, oi 6, .unset] [(.int ([(97 : Int32), (108 : Int32), (108 : Int32), (111 : Int32), (119 : Int32), (32 : Int32), c205, c206].getD 4 0))]))
        show G (T243.setTop (mkF m 161 #[oi i0, oi i1, oi i2, oi i3, oi i4, oi 1, oi 2, oi c205, oi c206, oi c207, oa a_208, oa b229, oa r_232, oi 6, .unset] [(.int 119)]))
        refine q_bipush B X243 at_161 rfl ?_
        refine q_icmpNo B X243 at_163 rfl (teq (by decide)).2 rfl ?_
        refine q_aload B X243 at_166 rfl rfl rfl ?_
        refine q_iconst B X243 at_168 rfl ?_
        show G (T243.setTop (mkF m 169 #[oi i0, oi i1, oi i2, oi i3, oi i4, oi 1, oi 2, oi c205, oi c206, oi c207, oa a_208, oa b229, oa r_232, oi 6, .unset] [(.int 5), (.ref r_232)]))
        refine qV B X243 hZ232 hown232 170 171 173 172 8 174 rfl rfl rfl rfl rfl rfl (own_ca hw [(97 : Int32), (108 : Int32), (108 : Int32), (111 : Int32), (119 : Int32), (32 : Int32), c205, c206] 5 O232 r232_0 r232_1 r232_2 W237 (Or.inr ⟨own_big_app [(97 : Int32), (108 : Int32), (108 : Int32), (111 : Int32), (119 : Int32), (32 : Int32)] hbig, rfl, rfl, own_is16_bytes [(97 : Int32), (108 : Int32), (108 : Int32), (111 : Int32), (119 : Int32), (32 : Int32), c205, c206]⟩) (Nat.le_of_ble_eq_true rfl) (own_allc (by decide) (own_allc (by decide) (own_allc (by decide) (own_allc (by decide) (own_allc (by decide) (own_allc (by decide) (own_allc hr_c205 (own_allc hr_c206 own_alln)))))))) g0_S g1_hcpt g2_S g3_S g4_S (Nat.le_of_ble_eq_true rfl) g5_hfmt g6_S) e243 r232_0 own_pd17 rfl rfl at_169 0 rfl rfl rfl (by decide) ?_
        rintro T244 h244 _ L244 X244 e244 ⟨rfl, M244, rfl⟩
        have N244 := Fr.app N243 M244
        show G (T244.setTop (mkF m 172 #[oi i0, oi i1, oi i2, oi i3, oi i4, oi 1, oi 2, oi c205, oi c206, oi c207, oa a_208, oa b229, oa r_232, oi 6, .unset] [(.int ([(97 : Int32), (108 : Int32), (108 : Int32), (111 : Int32), (119 : Int32), (32 : Int32), c205, c206].getD 5 0))]))
        show G (T244.setTop (mkF m 172 #[oi i0, oi i1, oi i2, oi i3, oi i4, oi 1, oi 2, oi c205, oi c206, oi c207, oa a_208, oa b229, oa r_232, oi 6, .unset] [(.int 32)]))
        refine q_bipush B X244 at_172 rfl ?_
        refine q_icmpNo B X244 at_174 rfl (teq (by decide)).2 rfl ?_
        refine q_iconst B X244 at_177 rfl ?_
        refine q_goto 182 B X244 at_178 rfl rfl (by decide) ?_
        refine q_istore B X244 at_182 rfl rfl rfl ?_
        refine q_goto 249 B X244 at_184 rfl rfl (by decide) ?_
        refine q_iload B X244 at_249 rfl rfl ?_
        refine q_ifYes 256 B X244 at_251 rfl ((if0 _ _).trans (feq (by decide)).2) rfl rfl (by decide) ?_
        refine q_iload B X244 at_256 rfl rfl ?_
        refine q_iconst B X244 at_258 rfl ?_
        refine q_icmpNo B X244 at_259 rfl (flt (by decide)).1 rfl ?_
        refine q_aload B X244 at_262 rfl rfl rfl ?_
        refine q_iload B X244 at_264 rfl rfl ?_
        show G (T244.setTop (mkF m 266 #[oi i0, oi i1, oi i2, oi i3, oi i4, oi 1, oi 2, oi c205, oi c206, oi c207, oa a_208, oa b229, oa r_232, oi 6, oi 1] [(.int 6), (.ref r_232)]))
        refine qV B X244 hZ232 hown232 170 171 173 172 8 174 rfl rfl rfl rfl rfl rfl (own_ca hw [(97 : Int32), (108 : Int32), (108 : Int32), (111 : Int32), (119 : Int32), (32 : Int32), c205, c206] 6 O232 r232_0 r232_1 r232_2 W237 (Or.inr ⟨own_big_app [(97 : Int32), (108 : Int32), (108 : Int32), (111 : Int32), (119 : Int32), (32 : Int32)] hbig, rfl, rfl, own_is16_bytes [(97 : Int32), (108 : Int32), (108 : Int32), (111 : Int32), (119 : Int32), (32 : Int32), c205, c206]⟩) (Nat.le_of_ble_eq_true rfl) (own_allc (by decide) (own_allc (by decide) (own_allc (by decide) (own_allc (by decide) (own_allc (by decide) (own_allc (by decide) (own_allc hr_c205 (own_allc hr_c206 own_alln)))))))) g0_S g1_hcpt g2_S g3_S g4_S (Nat.le_of_ble_eq_true rfl) g5_hfmt g6_S) e244 r232_0 own_pd17 rfl rfl at_266 0 rfl rfl rfl (by decide) ?_
        rintro T245 h245 _ L245 X245 e245 ⟨rfl, M245, rfl⟩
        have N245 := Fr.app N244 M245
        show G (T245.setTop (mkF m 269 #[oi i0, oi i1, oi i2, oi i3, oi i4, oi 1, oi 2, oi c205, oi c206, oi c207, oa a_208, oa b229, oa r_232, oi 6, oi 1] [(.int ([(97 : Int32), (108 : Int32), (108 : Int32), (111 : Int32), (119 : Int32), (32 : Int32), c205, c206].getD 6 0))]))
        show G (T245.setTop (mkF m 269 #[oi i0, oi i1, oi i2, oi i3, oi i4, oi 1, oi 2, oi c205, oi c206, oi c207, oa a_208, oa b229, oa r_232, oi 6, oi 1] [(.int c205)]))
        refine q_iload B X245 at_269 rfl rfl ?_
        refine q_icmpYes 276 B X245 at_271 rfl (teq (rfl : c205 = c205)).1 rfl rfl (by decide) ?_
        refine q_iload B X245 at_276 rfl rfl ?_
        refine q_iconst B X245 at_278 rfl ?_
        refine q_icmpNo B X245 at_279 rfl (flt (by decide)).1 rfl ?_
        refine q_aload B X245 at_282 rfl rfl rfl ?_
        refine q_iload B X245 at_284 rfl rfl ?_
        refine q_iconst B X245 at_286 rfl ?_
        refine q_iadd B X245 at_287 rfl rfl ?_
        show G (T245.setTop (mkF m 288 #[oi i0, oi i1, oi i2, oi i3, oi i4, oi 1, oi 2, oi c205, oi c206, oi c207, oa a_208, oa b229, oa r_232, oi 6, oi 1] [(.int ((6 : Int32) + (1 : Int32))), (.ref r_232)]))
        rw [show ((6 : Int32) + (1 : Int32)) = (7 : Int32) from by decide]
        show G (T245.setTop (mkF m 288 #[oi i0, oi i1, oi i2, oi i3, oi i4, oi 1, oi 2, oi c205, oi c206, oi c207, oa a_208, oa b229, oa r_232, oi 6, oi 1] [(.int 7), (.ref r_232)]))
        refine qV B X245 hZ232 hown232 170 171 173 172 8 174 rfl rfl rfl rfl rfl rfl (own_ca hw [(97 : Int32), (108 : Int32), (108 : Int32), (111 : Int32), (119 : Int32), (32 : Int32), c205, c206] 7 O232 r232_0 r232_1 r232_2 W237 (Or.inr ⟨own_big_app [(97 : Int32), (108 : Int32), (108 : Int32), (111 : Int32), (119 : Int32), (32 : Int32)] hbig, rfl, rfl, own_is16_bytes [(97 : Int32), (108 : Int32), (108 : Int32), (111 : Int32), (119 : Int32), (32 : Int32), c205, c206]⟩) (Nat.le_of_ble_eq_true rfl) (own_allc (by decide) (own_allc (by decide) (own_allc (by decide) (own_allc (by decide) (own_allc (by decide) (own_allc (by decide) (own_allc hr_c205 (own_allc hr_c206 own_alln)))))))) g0_S g1_hcpt g2_S g3_S g4_S (Nat.le_of_ble_eq_true rfl) g5_hfmt g6_S) e245 r232_0 own_pd17 rfl rfl at_288 0 rfl rfl rfl (by decide) ?_
        rintro T246 h246 _ L246 X246 e246 ⟨rfl, M246, rfl⟩
        have N246 := Fr.app N245 M246
        show G (T246.setTop (mkF m 291 #[oi i0, oi i1, oi i2, oi i3, oi i4, oi 1, oi 2, oi c205, oi c206, oi c207, oa a_208, oa b229, oa r_232, oi 6, oi 1] [(.int ([(97 : Int32), (108 : Int32), (108 : Int32), (111 : Int32), (119 : Int32), (32 : Int32), c205, c206].getD 7 0))]))
        show G (T246.setTop (mkF m 291 #[oi i0, oi i1, oi i2, oi i3, oi i4, oi 1, oi 2, oi c205, oi c206, oi c207, oa a_208, oa b229, oa r_232, oi 6, oi 1] [(.int c206)]))
        refine q_iload B X246 at_291 rfl rfl ?_
        refine q_icmpYes 298 B X246 at_293 rfl (teq (rfl : c206 = c206)).1 rfl rfl (by decide) ?_
        refine q_iload B X246 at_298 rfl rfl ?_
        refine q_iconst B X246 at_300 rfl ?_
        refine q_icmpYes 320 B X246 at_301 rfl (tlt (by decide)).1 rfl rfl (by decide) ?_
        refine q_iconst B X246 at_320 rfl ?_
        show G (T246.setTop (mkF m 321 #[oi i0, oi i1, oi i2, oi i3, oi i4, oi 1, oi 2, oi c205, oi c206, oi c207, oa a_208, oa b229, oa r_232, oi 6, oi 1] [(.int 1)]))
        exact qRNW B hR hret (by simp) X246 at_321 e246 SI232 (Nat.le_refl _) hZ232 C232 ⟨rfl, N246, K232⟩ (by decide)
    · skip
      show G (s₁.setTop (mkF m 18 #[oi i0, oi i1, oi i2, oi i3, oi i4, oi 1, oi 3, .unset, .unset, .unset, .unset, .unset, .unset, .unset, .unset] []))
      refine q_iloadN B X0 at_18 rfl rfl ?_
      refine hG _ _ (X0.ldcInt hx hown (mvT hZ (ow hw 0 rfl)) (g := (mkF m 19 #[oi i0, oi i1, oi i2, oi i3, oi i4, oi 1, oi 3, .unset, .unset, .unset, .unset, .unset, .unset, .unset, .unset] [(.int i2)])) rfl (hb hby at_19)) ?_
      refine q_iand B X0 at_21 rfl rfl ?_
      refine q_i2c B X0 at_22 rfl rfl ?_
      show G (s₁.setTop (mkF m 23 #[oi i0, oi i1, oi i2, oi i3, oi i4, oi 1, oi 3, .unset, .unset, .unset, .unset, .unset, .unset, .unset, .unset] [(.int ((i2 &&& (65535 : Int32)).toUInt32.toUInt16.toUInt32.toInt32))]))
      generalize hn_c247 : ((i2 &&& (65535 : Int32)).toUInt32.toUInt16.toUInt32.toInt32) = c247
      have hr_c247 := own_i2c16 hn_c247
      show G (s₁.setTop (mkF m 23 #[oi i0, oi i1, oi i2, oi i3, oi i4, oi 1, oi 3, .unset, .unset, .unset, .unset, .unset, .unset, .unset, .unset] [(.int c247)]))
      refine q_istore B X0 at_23 rfl rfl rfl ?_
      refine q_iloadN B X0 at_25 rfl rfl ?_
      refine hG _ _ (X0.ldcInt hx hown (mvT hZ (ow hw 0 rfl)) (g := (mkF m 26 #[oi i0, oi i1, oi i2, oi i3, oi i4, oi 1, oi 3, oi c247, .unset, .unset, .unset, .unset, .unset, .unset, .unset] [(.int i3)])) rfl (hb hby at_26)) ?_
      refine q_iand B X0 at_28 rfl rfl ?_
      refine q_i2c B X0 at_29 rfl rfl ?_
      show G (s₁.setTop (mkF m 30 #[oi i0, oi i1, oi i2, oi i3, oi i4, oi 1, oi 3, oi c247, .unset, .unset, .unset, .unset, .unset, .unset, .unset] [(.int ((i3 &&& (65535 : Int32)).toUInt32.toUInt16.toUInt32.toInt32))]))
      generalize hn_c248 : ((i3 &&& (65535 : Int32)).toUInt32.toUInt16.toUInt32.toInt32) = c248
      have hr_c248 := own_i2c16 hn_c248
      show G (s₁.setTop (mkF m 30 #[oi i0, oi i1, oi i2, oi i3, oi i4, oi 1, oi 3, oi c247, .unset, .unset, .unset, .unset, .unset, .unset, .unset] [(.int c248)]))
      refine q_istore B X0 at_30 rfl rfl rfl ?_
      refine q_iload B X0 at_32 rfl rfl ?_
      refine hG _ _ (X0.ldcInt hx hown (mvT hZ (ow hw 0 rfl)) (g := (mkF m 34 #[oi i0, oi i1, oi i2, oi i3, oi i4, oi 1, oi 3, oi c247, oi c248, .unset, .unset, .unset, .unset, .unset, .unset] [(.int i4)])) rfl (hb hby at_34)) ?_
      refine q_iand B X0 at_36 rfl rfl ?_
      refine q_i2c B X0 at_37 rfl rfl ?_
      show G (s₁.setTop (mkF m 38 #[oi i0, oi i1, oi i2, oi i3, oi i4, oi 1, oi 3, oi c247, oi c248, .unset, .unset, .unset, .unset, .unset, .unset] [(.int ((i4 &&& (65535 : Int32)).toUInt32.toUInt16.toUInt32.toInt32))]))
      generalize hn_c249 : ((i4 &&& (65535 : Int32)).toUInt32.toUInt16.toUInt32.toInt32) = c249
      have hr_c249 := own_i2c16 hn_c249
      show G (s₁.setTop (mkF m 38 #[oi i0, oi i1, oi i2, oi i3, oi i4, oi 1, oi 3, oi c247, oi c248, .unset, .unset, .unset, .unset, .unset, .unset] [(.int c249)]))
      refine q_istore B X0 at_38 rfl rfl rfl ?_
      refine q_iload B X0 at_40 rfl rfl ?_
      refine q_iload B X0 at_42 rfl rfl ?_
      refine q_iload B X0 at_44 rfl rfl ?_
      refine q_iload B X0 at_46 rfl rfl ?_
      show G (s₁.setTop (mkF m 48 #[oi i0, oi i1, oi i2, oi i3, oi i4, oi 1, oi 3, oi c247, oi c248, oi c249, .unset, .unset, .unset, .unset, .unset] [(.int c249), (.int c248), (.int c247), (.int 3)]))
      refine qS B X0 hZ hown 1 2 3 4 rfl rfl rfl rfl (own_make3 hw c247 c248 c249 O0 g0_S g1_hcpt g2_S g3_S g4_S hr_c247 hr_c248 hr_c249) e0 own_pd35 rfl rfl at_48 0 rfl rfl rfl (by decide) ?_
      rintro T250 h250 _ L250 X250 e250 ⟨a_250, t_250, kt_250, cd_250, nb_250, vs_250, rfl, M250, J250, y250_0, r250_0, r250_1, r250_2, r250_3, r250_4⟩
      have N250 := Fr.app N0 M250
      have R250 := (CHr.keep J250 all0 H0)
      have C250 := (CHr.refl H0).trans R250
      have K250 := (Keep.refl h0 []).trans J250 all0
      have O250 := O0.keep J250 all0
      show G (T250.setTop (mkF m 51 #[oi i0, oi i1, oi i2, oi i3, oi i4, oi 1, oi 3, oi c247, oi c248, oi c249, .unset, .unset, .unset, .unset, .unset] [(.ref a_250)]))
      rcases r250_4 with ⟨hall, rfl, rfl, rfl⟩ | ⟨hbig, rfl, rfl, h16⟩
      · skip
        have W251 : Arv Z h250 t_250 kt_250 .byte (3 : Int32) [(.int (c247.toInt8.toInt32)), (.int (c248.toInt8.toInt32)), (.int (c249.toInt8.toInt32))] (.int 0) := r250_3
        show G (T250.setTop (mkF m 51 #[oi i0, oi i1, oi i2, oi i3, oi i4, oi 1, oi 3, oi c247, oi c248, oi c249, .unset, .unset, .unset, .unset, .unset] [(.ref a_250)]))
        refine q_astore B X250 at_51 rfl rfl rfl rfl ?_
        refine qnw B X250 hZ hown 35 36 37 rfl rfl rfl e250 at_53 (by decide) fun T252 h252 b252 z252 X252 e252 E252 A252 D252 => ?_
        have R252 := (CHr.ext E252 R250.1)
        have C252 := C250.trans R252
        have K252 := K250.ext E252
        have O252 := O250.ext E252
        refine q_dup B X252 at_56 rfl rfl rfl ?_
        refine q_iload B X252 at_57 rfl rfl ?_
        refine q_aload B X252 at_59 rfl rfl rfl ?_
        show G (T252.setTop (mkF m 61 #[oi i0, oi i1, oi i2, oi i3, oi i4, oi 1, oi 3, oi c247, oi c248, oi c249, oa a_250, .unset, .unset, .unset, .unset] [(.ref a_250), (.int 1), (.ref b252), (.ref b252)]))
        refine qI B X252 hZ hown 38 39 37 40 rfl rfl rfl rfl rfl (own_finit hw (1 : Int32) (.ref a_250) O252 rfl A252 (own_ge O250 (Nat.le_of_eq z252.symm)) (D252 (Or.inr (ow hw 48 rfl)) (ty := .boolean) (by decide)) (D252 (Or.inr (ow hw 50 rfl)) (ty := (.object "java/lang/String")) (by decide))) e252 own_pd34 rfl rfl at_61 1 rfl rfl rfl (by decide) ?_
        rintro T253 h253 _ L253 X253 e253 ⟨rfl, M253, J253, r253_0, r253_1, r253_2⟩
        have N253 := Fr.app N250 M253
        have sf254 : Safe Z consts_1 _ h252 b252 := (Safe.exa hZ.alike A252 (by decide) (by decide))
        have R253 := (CHr.keep J253 (allS sf254 all0) R252.1)
        have C253 := C252.trans R253
        have K253 := K252.trans J253 (allS (Or.inr (Nat.le_trans K250.1 (Nat.le_of_eq z252.symm))) all0)
        have O253 := O252.keep J253 (allS (own_ge O250 (Nat.le_of_eq z252.symm)) all0)
        refine q_astore B X253 at_64 rfl rfl rfl rfl ?_
        refine q_aload B X253 at_66 rfl rfl rfl ?_
        show G (T253.setTop (mkF m 68 #[oi i0, oi i1, oi i2, oi i3, oi i4, oi 1, oi 3, oi c247, oi c248, oi c249, oa a_250, oa b252, .unset, .unset, .unset] [(.ref b252)]))
        have f256 := ((r250_0.ext E252).keep J253)
        have f257 := ((r250_1.ext E252).keep J253 (ninS (own_ne r250_0.lt (Nat.le_of_eq z252.symm)) nin0))
        have f258 := ((r250_2.ext E252).keep J253 (ninS (own_ne r250_0.lt (Nat.le_of_eq z252.symm)) nin0))
        have f259 := ((W251.ext E252).keep J253 (ninS (own_ne r250_3.lt (Nat.le_of_eq z252.symm)) nin0))
        refine qVW B X253 hZ hown 51 52 54 53 37 55 rfl rfl rfl rfl rfl rfl (own_line1_0 hw hEL (3 : Int32) (9 : Int32) (9 : Int32) 6 9 O253 r253_0 r253_1 r253_2 f256 f257 f258 f259 g2_S g3_S g4_S g0_S g1_hcpt (by decide) (by decide) (by decide) ⟨by decide, by decide, rfl, by decide, by decide, Nat.le_of_ble_eq_true rfl⟩ (by decide) ⟨by decide, by decide, by decide, by decide, Nat.le_of_ble_eq_true rfl⟩ g5_hfmt g6_S) e253 SI0 (Nat.le_trans (Nat.le_trans (Nat.le_trans (Nat.le_refl _) R250.2.1) R252.2.1) R253.2.1) hEL R253.1 r253_0 own_pd31 rfl rfl at_68 0 rfl rfl rfl (by decide) ?_
        rintro T255 h255 v255 L255 X255 e255 SI255 hZ255 hown255 Y255 ⟨r_255, u_255, ku_255, rfl, M255, J255, y255_0, y255_1, r255_0, r255_1, r255_2, r255_3⟩
        have N255 := Fr.app N253 M255
        have R255 := Y255
        have C255 := C253.trans R255
        have K255 := K253.trans J255 all0
        have O255 := O253.keep J255 all0
        show G (T255.setTop (mkF m 71 #[oi i0, oi i1, oi i2, oi i3, oi i4, oi 1, oi 3, oi c247, oi c248, oi c249, oa a_250, oa b252, .unset, .unset, .unset] [(.ref r_255)]))
        have W260 : Arv Z h255 u_255 ku_255 .byte (9 : Int32) [(.int 97), (.int 108), (.int 108), (.int 111), (.int 119), (.int 32), (.int (c247.toInt8.toInt32)), (.int (c248.toInt8.toInt32)), (.int (c249.toInt8.toInt32))] (.int 0) := r255_3
        show G (T255.setTop (mkF m 71 #[oi i0, oi i1, oi i2, oi i3, oi i4, oi 1, oi 3, oi c247, oi c248, oi c249, oa a_250, oa b252, .unset, .unset, .unset] [(.ref r_255)]))
        refine q_astore B X255 at_71 rfl rfl rfl rfl ?_
        refine q_iload B X255 at_73 rfl rfl ?_
        refine q_ifNo B X255 at_75 rfl ((if0 _ _).trans (feq (by decide)).1) rfl ?_
        refine q_bipush B X255 at_78 rfl ?_
        refine q_goto 84 B X255 at_80 rfl rfl (by decide) ?_
        refine q_istore B X255 at_84 rfl rfl rfl ?_
        refine q_aload B X255 at_86 rfl rfl rfl ?_
        refine q_ifnullNo B X255 at_88 rfl rfl ?_
        refine q_aload B X255 at_91 rfl rfl rfl ?_
        show G (T255.setTop (mkF m 93 #[oi i0, oi i1, oi i2, oi i3, oi i4, oi 1, oi 3, oi c247, oi c248, oi c249, oa a_250, oa b252, oa r_255, oi 6, .unset] [(.ref r_255)]))
        refine qV B X255 hZ255 hown255 169 88 90 89 8 91 rfl rfl rfl rfl rfl rfl (own_len hw [(97 : Int32), (108 : Int32), (108 : Int32), (111 : Int32), (119 : Int32), (32 : Int32), c247, c248, c249] O255 r255_0 r255_1 r255_2 W260 (Or.inl ⟨(own_allc (by decide) (own_allc (by decide) (own_allc (by decide) (own_allc (by decide) (own_allc (by decide) (own_allc (by decide) (own_allc (hall _ (List.mem_of_getElem? (i := 0) rfl)) (own_allc (hall _ (List.mem_of_getElem? (i := 1) rfl)) (own_allc (hall _ (List.mem_of_getElem? (i := 2) rfl)) own_alln))))))))), rfl, rfl, rfl⟩) (Nat.le_of_ble_eq_true rfl) (own_allc (by decide) (own_allc (by decide) (own_allc (by decide) (own_allc (by decide) (own_allc (by decide) (own_allc (by decide) (own_allc hr_c247 (own_allc hr_c248 (own_allc hr_c249 own_alln))))))))) g0_S g1_hcpt) e255 r255_0 own_pd12 rfl rfl at_93 0 rfl rfl rfl (by decide) ?_
        rintro T261 h261 _ L261 X261 e261 ⟨rfl, M261, rfl⟩
        have N261 := Fr.app N255 M261
        show G (T261.setTop (mkF m 96 #[oi i0, oi i1, oi i2, oi i3, oi i4, oi 1, oi 3, oi c247, oi c248, oi c249, oa a_250, oa b252, oa r_255, oi 6, .unset] [(.int (Int32.ofNat [(97 : Int32), (108 : Int32), (108 : Int32), (111 : Int32), (119 : Int32), (32 : Int32), c247, c248, c249].length))]))
        show G (T261.setTop (mkF m 96 #[oi i0, oi i1, oi i2, oi i3, oi i4, oi 1, oi 3, oi c247, oi c248, oi c249, oa a_250, oa b252, oa r_255, oi 6, .unset] [(.int 9)]))
        refine q_iload B X261 at_96 rfl rfl ?_
        refine q_iload B X261 at_98 rfl rfl ?_
        refine q_iadd B X261 at_100 rfl rfl ?_
        show G (T261.setTop (mkF m 101 #[oi i0, oi i1, oi i2, oi i3, oi i4, oi 1, oi 3, oi c247, oi c248, oi c249, oa a_250, oa b252, oa r_255, oi 6, .unset] [(.int ((6 : Int32) + (3 : Int32))), (.int 9)]))
        rw [show ((6 : Int32) + (3 : Int32)) = (9 : Int32) from by decide]
        show G (T261.setTop (mkF m 101 #[oi i0, oi i1, oi i2, oi i3, oi i4, oi 1, oi 3, oi c247, oi c248, oi c249, oa a_250, oa b252, oa r_255, oi 6, .unset] [(.int 9), (.int 9)]))
        refine q_icmpYes 106 B X261 at_101 rfl (teq (by decide)).1 rfl rfl (by decide) ?_
        refine q_iload B X261 at_106 rfl rfl ?_
        refine q_ifNo B X261 at_108 rfl ((if0 _ _).trans (feq (by decide)).1) rfl ?_
        refine q_aload B X261 at_111 rfl rfl rfl ?_
        refine q_iconst B X261 at_113 rfl ?_
        show G (T261.setTop (mkF m 114 #[oi i0, oi i1, oi i2, oi i3, oi i4, oi 1, oi 3, oi c247, oi c248, oi c249, oa a_250, oa b252, oa r_255, oi 6, .unset] [(.int 0), (.ref r_255)]))
        refine qV B X261 hZ255 hown255 170 171 173 172 8 174 rfl rfl rfl rfl rfl rfl (own_ca hw [(97 : Int32), (108 : Int32), (108 : Int32), (111 : Int32), (119 : Int32), (32 : Int32), c247, c248, c249] 0 O255 r255_0 r255_1 r255_2 W260 (Or.inl ⟨(own_allc (by decide) (own_allc (by decide) (own_allc (by decide) (own_allc (by decide) (own_allc (by decide) (own_allc (by decide) (own_allc (hall _ (List.mem_of_getElem? (i := 0) rfl)) (own_allc (hall _ (List.mem_of_getElem? (i := 1) rfl)) (own_allc (hall _ (List.mem_of_getElem? (i := 2) rfl)) own_alln))))))))), rfl, rfl, rfl⟩) (Nat.le_of_ble_eq_true rfl) (own_allc (by decide) (own_allc (by decide) (own_allc (by decide) (own_allc (by decide) (own_allc (by decide) (own_allc (by decide) (own_allc hr_c247 (own_allc hr_c248 (own_allc hr_c249 own_alln))))))))) g0_S g1_hcpt g2_S g3_S g4_S (Nat.le_of_ble_eq_true rfl) g5_hfmt g6_S) e261 r255_0 own_pd17 rfl rfl at_114 0 rfl rfl rfl (by decide) ?_
        rintro T262 h262 _ L262 X262 e262 ⟨rfl, M262, rfl⟩
        have N262 := Fr.app N261 M262
        show G (T262.setTop (mkF m 117 #[oi i0, oi i1, oi i2, oi i3, oi i4, oi 1, oi 3, oi c247, oi c248, oi c249, oa a_250, oa b252, oa r_255, oi 6, .unset] [(.int ([(97 : Int32), (108 : Int32), (108 : Int32), (111 : Int32), (119 : Int32), (32 : Int32), c247, c248, c249].getD 0 0))]))
        show G (T262.setTop (mkF m 117 #[oi i0, oi i1, oi i2, oi i3, oi i4, oi 1, oi 3, oi c247, oi c248, oi c249, oa a_250, oa b252, oa r_255, oi 6, .unset] [(.int 97)]))
        refine q_bipush B X262 at_117 rfl ?_
        refine q_icmpNo B X262 at_119 rfl (teq (by decide)).2 rfl ?_
        refine q_aload B X262 at_122 rfl rfl rfl ?_
        refine q_iconst B X262 at_124 rfl ?_
        show G (T262.setTop (mkF m 125 #[oi i0, oi i1, oi i2, oi i3, oi i4, oi 1, oi 3, oi c247, oi c248, oi c249, oa a_250, oa b252, oa r_255, oi 6, .unset] [(.int 1), (.ref r_255)]))
        refine qV B X262 hZ255 hown255 170 171 173 172 8 174 rfl rfl rfl rfl rfl rfl (own_ca hw [(97 : Int32), (108 : Int32), (108 : Int32), (111 : Int32), (119 : Int32), (32 : Int32), c247, c248, c249] 1 O255 r255_0 r255_1 r255_2 W260 (Or.inl ⟨(own_allc (by decide) (own_allc (by decide) (own_allc (by decide) (own_allc (by decide) (own_allc (by decide) (own_allc (by decide) (own_allc (hall _ (List.mem_of_getElem? (i := 0) rfl)) (own_allc (hall _ (List.mem_of_getElem? (i := 1) rfl)) (own_allc (hall _ (List.mem_of_getElem? (i := 2) rfl)) own_alln))))))))), rfl, rfl, rfl⟩) (Nat.le_of_ble_eq_true rfl) (own_allc (by decide) (own_allc (by decide) (own_allc (by decide) (own_allc (by decide) (own_allc (by decide) (own_allc (by decide) (own_allc hr_c247 (own_allc hr_c248 (own_allc hr_c249 own_alln))))))))) g0_S g1_hcpt g2_S g3_S g4_S (Nat.le_of_ble_eq_true rfl) g5_hfmt g6_S) e262 r255_0 own_pd17 rfl rfl at_125 0 rfl rfl rfl (by decide) ?_
        rintro T263 h263 _ L263 X263 e263 ⟨rfl, M263, rfl⟩
        have N263 := Fr.app N262 M263
        show G (T263.setTop (mkF m 128 #[oi i0, oi i1, oi i2, oi i3, oi i4, oi 1, oi 3, oi c247, oi c248, oi c249, oa a_250, oa b252, oa r_255, oi 6, .unset] [(.int ([(97 : Int32), (108 : Int32), (108 : Int32), (111 : Int32), (119 : Int32), (32 : Int32), c247, c248, c249].getD 1 0))]))
        show G (T263.setTop (mkF m 128 #[oi i0, oi i1, oi i2, oi i3, oi i4, oi 1, oi 3, oi c247, oi c248, oi c249, oa a_250, oa b252, oa r_255, oi 6, .unset] [(.int 108)]))
        refine q_bipush B X263 at_128 rfl ?_
        refine q_icmpNo B X263 at_130 rfl (teq (by decide)).2 rfl ?_
        refine q_aload B X263 at_133 rfl rfl rfl ?_
        refine q_iconst B X263 at_135 rfl ?_
        show G (T263.setTop (mkF m 136 #[oi i0, oi i1, oi i2, oi i3, oi i4, oi 1, oi 3, oi c247, oi c248, oi c249, oa a_250, oa b252, oa r_255, oi 6, .unset] [(.int 2), (.ref r_255)]))
        refine qV B X263 hZ255 hown255 170 171 173 172 8 174 rfl rfl rfl rfl rfl rfl (own_ca hw [(97 : Int32), (108 : Int32), (108 : Int32), (111 : Int32), (119 : Int32), (32 : Int32), c247, c248, c249] 2 O255 r255_0 r255_1 r255_2 W260 (Or.inl ⟨(own_allc (by decide) (own_allc (by decide) (own_allc (by decide) (own_allc (by decide) (own_allc (by decide) (own_allc (by decide) (own_allc (hall _ (List.mem_of_getElem? (i := 0) rfl)) (own_allc (hall _ (List.mem_of_getElem? (i := 1) rfl)) (own_allc (hall _ (List.mem_of_getElem? (i := 2) rfl)) own_alln))))))))), rfl, rfl, rfl⟩) (Nat.le_of_ble_eq_true rfl) (own_allc (by decide) (own_allc (by decide) (own_allc (by decide) (own_allc (by decide) (own_allc (by decide) (own_allc (by decide) (own_allc hr_c247 (own_allc hr_c248 (own_allc hr_c249 own_alln))))))))) g0_S g1_hcpt g2_S g3_S g4_S (Nat.le_of_ble_eq_true rfl) g5_hfmt g6_S) e263 r255_0 own_pd17 rfl rfl at_136 0 rfl rfl rfl (by decide) ?_
        rintro T264 h264 _ L264 X264 e264 ⟨rfl, M264, rfl⟩
        have N264 := Fr.app N263 M264
        show G (T264.setTop (mkF m 139 #[oi i0, oi i1, oi i2, oi i3, oi i4, oi 1, oi 3, oi c247, oi c248, oi c249, oa a_250, oa b252, oa r_255, oi 6, .unset] [(.int ([(97 : Int32), (108 : Int32), (108 : Int32), (111 : Int32), (119 : Int32), (32 : Int32), c247, c248, c249].getD 2 0))]))
        show G (T264.setTop (mkF m 139 #[oi i0, oi i1, oi i2, oi i3, oi i4, oi 1, oi 3, oi c247, oi c248, oi c249, oa a_250, oa b252, oa r_255, oi 6, .unset] [(.int 108)]))
        refine q_bipush B X264 at_139 rfl ?_
        refine q_icmpNo B X264 at_141 rfl (teq (by decide)).2 rfl ?_
        refine q_aload B X264 at_144 rfl rfl rfl ?_
        refine q_iconst B X264 at_146 rfl ?_
        show G (T264.setTop (mkF m 147 #[oi i0, oi i1, oi i2, oi i3, oi i4, oi 1, oi 3, oi c247, oi c248, oi c249, oa a_250, oa b252, oa r_255, oi 6, .unset] [(.int 3), (.ref r_255)]))
        refine qV B X264 hZ255 hown255 170 171 173 172 8 174 rfl rfl rfl rfl rfl rfl (own_ca hw [(97 : Int32), (108 : Int32), (108 : Int32), (111 : Int32), (119 : Int32), (32 : Int32), c247, c248, c249] 3 O255 r255_0 r255_1 r255_2 W260 (Or.inl ⟨(own_allc (by decide) (own_allc (by decide) (own_allc (by decide) (own_allc (by decide) (own_allc (by decide) (own_allc (by decide) (own_allc (hall _ (List.mem_of_getElem? (i := 0) rfl)) (own_allc (hall _ (List.mem_of_getElem? (i := 1) rfl)) (own_allc (hall _ (List.mem_of_getElem? (i := 2) rfl)) own_alln))))))))), rfl, rfl, rfl⟩) (Nat.le_of_ble_eq_true rfl) (own_allc (by decide) (own_allc (by decide) (own_allc (by decide) (own_allc (by decide) (own_allc (by decide) (own_allc (by decide) (own_allc hr_c247 (own_allc hr_c248 (own_allc hr_c249 own_alln))))))))) g0_S g1_hcpt g2_S g3_S g4_S (Nat.le_of_ble_eq_true rfl) g5_hfmt g6_S) e264 r255_0 own_pd17 rfl rfl at_147 0 rfl rfl rfl (by decide) ?_
        rintro T265 h265 _ L265 X265 e265 ⟨rfl, M265, rfl⟩
        have N265 := Fr.app N264 M265
        show G (T265.setTop (mkF m 150 #[oi i0, oi i1, oi i2, oi i3, oi i4, oi 1, oi 3, oi c247, oi c248, oi c249, oa a_250, oa b252, oa r_255, oi 6, .unset] [(.int ([(97 : Int32), (108 : Int32), (108 : Int32), (111 : Int32), (119 : Int32), (32 : Int32), c247, c248, c249].getD 3 0))]))
        show G (T265.setTop (mkF m 150 #[oi i0, oi i1, oi i2, oi i3, oi i4, oi 1, oi 3, oi c247, oi c248, oi c249, oa a_250, oa b252, oa r_255, oi 6, .unset] [(.int 111)]))
        refine q_bipush B X265 at_150 rfl ?_
        refine q_icmpNo B X265 at_152 rfl (teq (by decide)).2 rfl ?_
        refine q_aload B X265 at_155 rfl rfl rfl ?_
        refine q_iconst B X265 at_157 rfl ?_
        show G (T265.setTop (mkF m 158 #[oi i0, oi i1, oi i2, oi i3, oi i4, oi 1, oi 3, oi c247, oi c248, oi c249, oa a_250, oa b252, oa r_255, oi 6, .unset] [(.int 4), (.ref r_255)]))
        refine qV B X265 hZ255 hown255 170 171 173 172 8 174 rfl rfl rfl rfl rfl rfl (own_ca hw [(97 : Int32), (108 : Int32), (108 : Int32), (111 : Int32), (119 : Int32), (32 : Int32), c247, c248, c249] 4 O255 r255_0 r255_1 r255_2 W260 (Or.inl ⟨(own_allc (by decide) (own_allc (by decide) (own_allc (by decide) (own_allc (by decide) (own_allc (by decide) (own_allc (by decide) (own_allc (hall _ (List.mem_of_getElem? (i := 0) rfl)) (own_allc (hall _ (List.mem_of_getElem? (i := 1) rfl)) (own_allc (hall _ (List.mem_of_getElem? (i := 2) rfl)) own_alln))))))))), rfl, rfl, rfl⟩) (Nat.le_of_ble_eq_true rfl) (own_allc (by decide) (own_allc (by decide) (own_allc (by decide) (own_allc (by decide) (own_allc (by decide) (own_allc (by decide) (own_allc hr_c247 (own_allc hr_c248 (own_allc hr_c249 own_alln))))))))) g0_S g1_hcpt g2_S g3_S g4_S (Nat.le_of_ble_eq_true rfl) g5_hfmt g6_S) e265 r255_0 own_pd17 rfl rfl at_158 0 rfl rfl rfl (by decide) ?_
        rintro T266 h266 _ L266 X266 e266 ⟨rfl, M266, rfl⟩
        have N266 := Fr.app N265 M266
        show G (T266.setTop (mkF m 161 #[oi i0, oi i1, oi i2, oi i3, oi i4, oi 1, oi 3, oi c247, oi c248, oi c249, oa a_250, oa b252, oa r_255, oi 6, .unset] [(.int ([(97 : Int32), (108 : Int32), (108 : Int32), (111 : Int32), (119 : Int32), (32 : Int32), c247, c248, c249].getD 4 0))]))
        show G (T266.setTop (mkF m 161 #[oi i0, oi i1, oi i2, oi i3, oi i4, oi 1, oi 3, oi c247, oi c248, oi c249, oa a_250, oa b252, oa r_255, oi 6, .unset] [(.int 119)]))
        refine q_bipush B X266 at_161 rfl ?_
        refine q_icmpNo B X266 at_163 rfl (teq (by decide)).2 rfl ?_
        refine q_aload B X266 at_166 rfl rfl rfl ?_
        refine q_iconst B X266 at_168 rfl ?_
        show G (T266.setTop (mkF m 169 #[oi i0, oi i1, oi i2, oi i3, oi i4, oi 1, oi 3, oi c247, oi c248, oi c249, oa a_250, oa b252, oa r_255, oi 6, .unset] [(.int 5), (.ref r_255)]))
        refine qV B X266 hZ255 hown255 170 171 173 172 8 174 rfl rfl rfl rfl rfl rfl (own_ca hw [(97 : Int32), (108 : Int32), (108 : Int32), (111 : Int32), (119 : Int32), (32 : Int32), c247, c248, c249] 5 O255 r255_0 r255_1 r255_2 W260 (Or.inl ⟨(own_allc (by decide) (own_allc (by decide) (own_allc (by decide) (own_allc (by decide) (own_allc (by decide) (own_allc (by decide) (own_allc (hall _ (List.mem_of_getElem? (i := 0) rfl)) (own_allc (hall _ (List.mem_of_getElem? (i := 1) rfl)) (own_allc (hall _ (List.mem_of_getElem? (i := 2) rfl)) own_alln))))))))), rfl, rfl, rfl⟩) (Nat.le_of_ble_eq_true rfl) (own_allc (by decide) (own_allc (by decide) (own_allc (by decide) (own_allc (by decide) (own_allc (by decide) (own_allc (by decide) (own_allc hr_c247 (own_allc hr_c248 (own_allc hr_c249 own_alln))))))))) g0_S g1_hcpt g2_S g3_S g4_S (Nat.le_of_ble_eq_true rfl) g5_hfmt g6_S) e266 r255_0 own_pd17 rfl rfl at_169 0 rfl rfl rfl (by decide) ?_
        rintro T267 h267 _ L267 X267 e267 ⟨rfl, M267, rfl⟩
        have N267 := Fr.app N266 M267
        show G (T267.setTop (mkF m 172 #[oi i0, oi i1, oi i2, oi i3, oi i4, oi 1, oi 3, oi c247, oi c248, oi c249, oa a_250, oa b252, oa r_255, oi 6, .unset] [(.int ([(97 : Int32), (108 : Int32), (108 : Int32), (111 : Int32), (119 : Int32), (32 : Int32), c247, c248, c249].getD 5 0))]))
        show G (T267.setTop (mkF m 172 #[oi i0, oi i1, oi i2, oi i3, oi i4, oi 1, oi 3, oi c247, oi c248, oi c249, oa a_250, oa b252, oa r_255, oi 6, .unset] [(.int 32)]))
        refine q_bipush B X267 at_172 rfl ?_
        refine q_icmpNo B X267 at_174 rfl (teq (by decide)).2 rfl ?_
        refine q_iconst B X267 at_177 rfl ?_
        refine q_goto 182 B X267 at_178 rfl rfl (by decide) ?_
        refine q_istore B X267 at_182 rfl rfl rfl ?_
        refine q_goto 249 B X267 at_184 rfl rfl (by decide) ?_
        refine q_iload B X267 at_249 rfl rfl ?_
        refine q_ifYes 256 B X267 at_251 rfl ((if0 _ _).trans (feq (by decide)).2) rfl rfl (by decide) ?_
        refine q_iload B X267 at_256 rfl rfl ?_
        refine q_iconst B X267 at_258 rfl ?_
        refine q_icmpNo B X267 at_259 rfl (flt (by decide)).1 rfl ?_
        refine q_aload B X267 at_262 rfl rfl rfl ?_
        refine q_iload B X267 at_264 rfl rfl ?_
        show G (T267.setTop (mkF m 266 #[oi i0, oi i1, oi i2, oi i3, oi i4, oi 1, oi 3, oi c247, oi c248, oi c249, oa a_250, oa b252, oa r_255, oi 6, oi 1] [(.int 6), (.ref r_255)]))
        refine qV B X267 hZ255 hown255 170 171 173 172 8 174 rfl rfl rfl rfl rfl rfl (own_ca hw [(97 : Int32), (108 : Int32), (108 : Int32), (111 : Int32), (119 : Int32), (32 : Int32), c247, c248, c249] 6 O255 r255_0 r255_1 r255_2 W260 (Or.inl ⟨(own_allc (by decide) (own_allc (by decide) (own_allc (by decide) (own_allc (by decide) (own_allc (by decide) (own_allc (by decide) (own_allc (hall _ (List.mem_of_getElem? (i := 0) rfl)) (own_allc (hall _ (List.mem_of_getElem? (i := 1) rfl)) (own_allc (hall _ (List.mem_of_getElem? (i := 2) rfl)) own_alln))))))))), rfl, rfl, rfl⟩) (Nat.le_of_ble_eq_true rfl) (own_allc (by decide) (own_allc (by decide) (own_allc (by decide) (own_allc (by decide) (own_allc (by decide) (own_allc (by decide) (own_allc hr_c247 (own_allc hr_c248 (own_allc hr_c249 own_alln))))))))) g0_S g1_hcpt g2_S g3_S g4_S (Nat.le_of_ble_eq_true rfl) g5_hfmt g6_S) e267 r255_0 own_pd17 rfl rfl at_266 0 rfl rfl rfl (by decide) ?_
        rintro T268 h268 _ L268 X268 e268 ⟨rfl, M268, rfl⟩
        have N268 := Fr.app N267 M268
        show G (T268.setTop (mkF m 269 #[oi i0, oi i1, oi i2, oi i3, oi i4, oi 1, oi 3, oi c247, oi c248, oi c249, oa a_250, oa b252, oa r_255, oi 6, oi 1] [(.int ([(97 : Int32), (108 : Int32), (108 : Int32), (111 : Int32), (119 : Int32), (32 : Int32), c247, c248, c249].getD 6 0))]))
        show G (T268.setTop (mkF m 269 #[oi i0, oi i1, oi i2, oi i3, oi i4, oi 1, oi 3, oi c247, oi c248, oi c249, oa a_250, oa b252, oa r_255, oi 6, oi 1] [(.int c247)]))
        refine q_iload B X268 at_269 rfl rfl ?_
        refine q_icmpYes 276 B X268 at_271 rfl (teq (rfl : c247 = c247)).1 rfl rfl (by decide) ?_
        refine q_iload B X268 at_276 rfl rfl ?_
        refine q_iconst B X268 at_278 rfl ?_
        refine q_icmpNo B X268 at_279 rfl (flt (by decide)).1 rfl ?_
        refine q_aload B X268 at_282 rfl rfl rfl ?_
        refine q_iload B X268 at_284 rfl rfl ?_
        refine q_iconst B X268 at_286 rfl ?_
        refine q_iadd B X268 at_287 rfl rfl ?_
        show G (T268.setTop (mkF m 288 #[oi i0, oi i1, oi i2, oi i3, oi i4, oi 1, oi 3, oi c247, oi c248, oi c249, oa a_250, oa b252, oa r_255, oi 6, oi 1] [(.int ((6 : Int32) + (1 : Int32))), (.ref r_255)]))
        rw [show ((6 : Int32) + (1 : Int32)) = (7 : Int32) from by decide]
        show G (T268.setTop (mkF m 288 #[oi i0, oi i1, oi i2, oi i3, oi i4, oi 1, oi 3, oi c247, oi c248, oi c249, oa a_250, oa b252, oa r_255, oi 6, oi 1] [(.int 7), (.ref r_255)]))
        refine qV B X268 hZ255 hown255 170 171 173 172 8 174 rfl rfl rfl rfl rfl rfl (own_ca hw [(97 : Int32), (108 : Int32), (108 : Int32), (111 : Int32), (119 : Int32), (32 : Int32), c247, c248, c249] 7 O255 r255_0 r255_1 r255_2 W260 (Or.inl ⟨(own_allc (by decide) (own_allc (by decide) (own_allc (by decide) (own_allc (by decide) (own_allc (by decide) (own_allc (by decide) (own_allc (hall _ (List.mem_of_getElem? (i := 0) rfl)) (own_allc (hall _ (List.mem_of_getElem? (i := 1) rfl)) (own_allc (hall _ (List.mem_of_getElem? (i := 2) rfl)) own_alln))))))))), rfl, rfl, rfl⟩) (Nat.le_of_ble_eq_true rfl) (own_allc (by decide) (own_allc (by decide) (own_allc (by decide) (own_allc (by decide) (own_allc (by decide) (own_allc (by decide) (own_allc hr_c247 (own_allc hr_c248 (own_allc hr_c249 own_alln))))))))) g0_S g1_hcpt g2_S g3_S g4_S (Nat.le_of_ble_eq_true rfl) g5_hfmt g6_S) e268 r255_0 own_pd17 rfl rfl at_288 0 rfl rfl rfl (by decide) ?_
        rintro T269 h269 _ L269 X269 e269 ⟨rfl, M269, rfl⟩
        have N269 := Fr.app N268 M269
        show G (T269.setTop (mkF m 291 #[oi i0, oi i1, oi i2, oi i3, oi i4, oi 1, oi 3, oi c247, oi c248, oi c249, oa a_250, oa b252, oa r_255, oi 6, oi 1] [(.int ([(97 : Int32), (108 : Int32), (108 : Int32), (111 : Int32), (119 : Int32), (32 : Int32), c247, c248, c249].getD 7 0))]))
        show G (T269.setTop (mkF m 291 #[oi i0, oi i1, oi i2, oi i3, oi i4, oi 1, oi 3, oi c247, oi c248, oi c249, oa a_250, oa b252, oa r_255, oi 6, oi 1] [(.int c248)]))
        refine q_iload B X269 at_291 rfl rfl ?_
        refine q_icmpYes 298 B X269 at_293 rfl (teq (rfl : c248 = c248)).1 rfl rfl (by decide) ?_
        refine q_iload B X269 at_298 rfl rfl ?_
        refine q_iconst B X269 at_300 rfl ?_
        refine q_icmpNo B X269 at_301 rfl (flt (by decide)).1 rfl ?_
        refine q_aload B X269 at_304 rfl rfl rfl ?_
        refine q_iload B X269 at_306 rfl rfl ?_
        refine q_iconst B X269 at_308 rfl ?_
        refine q_iadd B X269 at_309 rfl rfl ?_
        show G (T269.setTop (mkF m 310 #[oi i0, oi i1, oi i2, oi i3, oi i4, oi 1, oi 3, oi c247, oi c248, oi c249, oa a_250, oa b252, oa r_255, oi 6, oi 1] [(.int ((6 : Int32) + (2 : Int32))), (.ref r_255)]))
        rw [show ((6 : Int32) + (2 : Int32)) = (8 : Int32) from by decide]
        show G (T269.setTop (mkF m 310 #[oi i0, oi i1, oi i2, oi i3, oi i4, oi 1, oi 3, oi c247, oi c248, oi c249, oa a_250, oa b252, oa r_255, oi 6, oi 1] [(.int 8), (.ref r_255)]))
        refine qV B X269 hZ255 hown255 170 171 173 172 8 174 rfl rfl rfl rfl rfl rfl (own_ca hw [(97 : Int32), (108 : Int32), (108 : Int32), (111 : Int32), (119 : Int32), (32 : Int32), c247, c248, c249] 8 O255 r255_0 r255_1 r255_2 W260 (Or.inl ⟨(own_allc (by decide) (own_allc (by decide) (own_allc (by decide) (own_allc (by decide) (own_allc (by decide) (own_allc (by decide) (own_allc (hall _ (List.mem_of_getElem? (i := 0) rfl)) (own_allc (hall _ (List.mem_of_getElem? (i := 1) rfl)) (own_allc (hall _ (List.mem_of_getElem? (i := 2) rfl)) own_alln))))))))), rfl, rfl, rfl⟩) (Nat.le_of_ble_eq_true rfl) (own_allc (by decide) (own_allc (by decide) (own_allc (by decide) (own_allc (by decide) (own_allc (by decide) (own_allc (by decide) (own_allc hr_c247 (own_allc hr_c248 (own_allc hr_c249 own_alln))))))))) g0_S g1_hcpt g2_S g3_S g4_S (Nat.le_of_ble_eq_true rfl) g5_hfmt g6_S) e269 r255_0 own_pd17 rfl rfl at_310 0 rfl rfl rfl (by decide) ?_
        rintro T270 h270 _ L270 X270 e270 ⟨rfl, M270, rfl⟩
        have N270 := Fr.app N269 M270
        show G (T270.setTop (mkF m 313 #[oi i0, oi i1, oi i2, oi i3, oi i4, oi 1, oi 3, oi c247, oi c248, oi c249, oa a_250, oa b252, oa r_255, oi 6, oi 1] [(.int ([(97 : Int32), (108 : Int32), (108 : Int32), (111 : Int32), (119 : Int32), (32 : Int32), c247, c248, c249].getD 8 0))]))
        show G (T270.setTop (mkF m 313 #[oi i0, oi i1, oi i2, oi i3, oi i4, oi 1, oi 3, oi c247, oi c248, oi c249, oa a_250, oa b252, oa r_255, oi 6, oi 1] [(.int c249)]))
        refine q_iload B X270 at_313 rfl rfl ?_
        refine q_icmpYes 320 B X270 at_315 rfl (teq (rfl : c249 = c249)).1 rfl rfl (by decide) ?_
        refine q_iconst B X270 at_320 rfl ?_
        show G (T270.setTop (mkF m 321 #[oi i0, oi i1, oi i2, oi i3, oi i4, oi 1, oi 3, oi c247, oi c248, oi c249, oa a_250, oa b252, oa r_255, oi 6, oi 1] [(.int 1)]))
        exact qRNW B hR hret (by simp) X270 at_321 e270 SI255 (Nat.le_refl _) hZ255 C255 ⟨rfl, N270, K255⟩ (by decide)
      · skip
        have hv := own_is16_list h16
        subst hv
        have W271 : Arv Z h250 t_250 kt_250 .byte (6 : Int32) [(.int (own_lo c247)), (.int (own_hi c247)), (.int (own_lo c248)), (.int (own_hi c248)), (.int (own_lo c249)), (.int (own_hi c249))] (.int 0) := r250_3
        show G (T250.setTop (mkF m 51 #[oi i0, oi i1, oi i2, oi i3, oi i4, oi 1, oi 3, oi c247, oi c248, oi c249, .unset, .unset, .unset, .unset, .unset] [(.ref a_250)]))
        refine q_astore B X250 at_51 rfl rfl rfl rfl ?_
        refine qnw B X250 hZ hown 35 36 37 rfl rfl rfl e250 at_53 (by decide) fun T272 h272 b272 z272 X272 e272 E272 A272 D272 => ?_
        have R272 := (CHr.ext E272 R250.1)
        have C272 := C250.trans R272
        have K272 := K250.ext E272
        have O272 := O250.ext E272
        refine q_dup B X272 at_56 rfl rfl rfl ?_
        refine q_iload B X272 at_57 rfl rfl ?_
        refine q_aload B X272 at_59 rfl rfl rfl ?_
        show G (T272.setTop (mkF m 61 #[oi i0, oi i1, oi i2, oi i3, oi i4, oi 1, oi 3, oi c247, oi c248, oi c249, oa a_250, .unset, .unset, .unset, .unset] [(.ref a_250), (.int 1), (.ref b272), (.ref b272)]))
        refine qI B X272 hZ hown 38 39 37 40 rfl rfl rfl rfl rfl (own_finit hw (1 : Int32) (.ref a_250) O272 rfl A272 (own_ge O250 (Nat.le_of_eq z272.symm)) (D272 (Or.inr (ow hw 48 rfl)) (ty := .boolean) (by decide)) (D272 (Or.inr (ow hw 50 rfl)) (ty := (.object "java/lang/String")) (by decide))) e272 own_pd34 rfl rfl at_61 1 rfl rfl rfl (by decide) ?_
        rintro T273 h273 _ L273 X273 e273 ⟨rfl, M273, J273, r273_0, r273_1, r273_2⟩
        have N273 := Fr.app N250 M273
        have sf274 : Safe Z consts_1 _ h272 b272 := (Safe.exa hZ.alike A272 (by decide) (by decide))
        have R273 := (CHr.keep J273 (allS sf274 all0) R272.1)
        have C273 := C272.trans R273
        have K273 := K272.trans J273 (allS (Or.inr (Nat.le_trans K250.1 (Nat.le_of_eq z272.symm))) all0)
        have O273 := O272.keep J273 (allS (own_ge O250 (Nat.le_of_eq z272.symm)) all0)
        refine q_astore B X273 at_64 rfl rfl rfl rfl ?_
        refine q_aload B X273 at_66 rfl rfl rfl ?_
        show G (T273.setTop (mkF m 68 #[oi i0, oi i1, oi i2, oi i3, oi i4, oi 1, oi 3, oi c247, oi c248, oi c249, oa a_250, oa b272, .unset, .unset, .unset] [(.ref b272)]))
        have f276 := ((r250_0.ext E272).keep J273)
        have f277 := ((r250_1.ext E272).keep J273 (ninS (own_ne r250_0.lt (Nat.le_of_eq z272.symm)) nin0))
        have f278 := ((r250_2.ext E272).keep J273 (ninS (own_ne r250_0.lt (Nat.le_of_eq z272.symm)) nin0))
        have f279 := ((W271.ext E272).keep J273 (ninS (own_ne r250_3.lt (Nat.le_of_eq z272.symm)) nin0))
        refine qVW B X273 hZ hown 51 52 54 53 37 55 rfl rfl rfl rfl rfl rfl (own_line1_1 hw hEL (3 : Int32) (9 : Int32) (18 : Int32) 12 18 O273 r273_0 r273_1 r273_2 f276 f277 f278 f279 g2_S g3_S g4_S g0_S g1_hcpt (by decide) (by decide) (by decide) ⟨by decide, by decide, rfl, by decide, by decide, Nat.le_of_ble_eq_true rfl⟩ (by decide) ⟨by decide, by decide, by decide, by decide, Nat.le_of_ble_eq_true rfl⟩ g5_hfmt g6_S) e273 SI0 (Nat.le_trans (Nat.le_trans (Nat.le_trans (Nat.le_refl _) R250.2.1) R272.2.1) R273.2.1) hEL R273.1 r273_0 own_pd31 rfl rfl at_68 0 rfl rfl rfl (by decide) ?_
        rintro T275 h275 v275 L275 X275 e275 SI275 hZ275 hown275 Y275 ⟨r_275, u_275, ku_275, rfl, M275, J275, y275_0, y275_1, r275_0, r275_1, r275_2, r275_3⟩
        have N275 := Fr.app N273 M275
        have R275 := Y275
        have C275 := C273.trans R275
        have K275 := K273.trans J275 all0
        have O275 := O273.keep J275 all0
        show G (T275.setTop (mkF m 71 #[oi i0, oi i1, oi i2, oi i3, oi i4, oi 1, oi 3, oi c247, oi c248, oi c249, oa a_250, oa b272, .unset, .unset, .unset] [(.ref r_275)]))
        have W280 : Arv Z h275 u_275 ku_275 .byte (18 : Int32) [(.int (own_lo (97 : Int32))), (.int (own_hi (97 : Int32))), (.int (own_lo (108 : Int32))), (.int (own_hi (108 : Int32))), (.int (own_lo (108 : Int32))), (.int (own_hi (108 : Int32))), (.int (own_lo (111 : Int32))), (.int (own_hi (111 : Int32))), (.int (own_lo (119 : Int32))), (.int (own_hi (119 : Int32))), (.int (own_lo (32 : Int32))), (.int (own_hi (32 : Int32))), (.int (own_lo c247)), (.int (own_hi c247)), (.int (own_lo c248)), (.int (own_hi c248)), (.int (own_lo c249)), (.int (own_hi c249))] (.int 0) := r275_3
        show G (T275.setTop (mkF m 71 #[oi i0, oi i1, oi i2, oi i3, oi i4, oi 1, oi 3, oi c247, oi c248, oi c249, oa a_250, oa b272, .unset, .unset, .unset] [(.ref r_275)]))
        refine q_astore B X275 at_71 rfl rfl rfl rfl ?_
        refine q_iload B X275 at_73 rfl rfl ?_
        refine q_ifNo B X275 at_75 rfl ((if0 _ _).trans (feq (by decide)).1) rfl ?_
        refine q_bipush B X275 at_78 rfl ?_
        refine q_goto 84 B X275 at_80 rfl rfl (by decide) ?_
        refine q_istore B X275 at_84 rfl rfl rfl ?_
        refine q_aload B X275 at_86 rfl rfl rfl ?_
        refine q_ifnullNo B X275 at_88 rfl rfl ?_
        refine q_aload B X275 at_91 rfl rfl rfl ?_
        show G (T275.setTop (mkF m 93 #[oi i0, oi i1, oi i2, oi i3, oi i4, oi 1, oi 3, oi c247, oi c248, oi c249, oa a_250, oa b272, oa r_275, oi 6, .unset] [(.ref r_275)]))
        refine qV B X275 hZ275 hown275 169 88 90 89 8 91 rfl rfl rfl rfl rfl rfl (own_len hw [(97 : Int32), (108 : Int32), (108 : Int32), (111 : Int32), (119 : Int32), (32 : Int32), c247, c248, c249] O275 r275_0 r275_1 r275_2 W280 (Or.inr ⟨own_big_app [(97 : Int32), (108 : Int32), (108 : Int32), (111 : Int32), (119 : Int32), (32 : Int32)] hbig, rfl, rfl, own_is16_bytes [(97 : Int32), (108 : Int32), (108 : Int32), (111 : Int32), (119 : Int32), (32 : Int32), c247, c248, c249]⟩) (Nat.le_of_ble_eq_true rfl) (own_allc (by decide) (own_allc (by decide) (own_allc (by decide) (own_allc (by decide) (own_allc (by decide) (own_allc (by decide) (own_allc hr_c247 (own_allc hr_c248 (own_allc hr_c249 own_alln))))))))) g0_S g1_hcpt) e275 r275_0 own_pd12 rfl rfl at_93 0 rfl rfl rfl (by decide) ?_
        rintro T281 h281 _ L281 X281 e281 ⟨rfl, M281, rfl⟩
        have N281 := Fr.app N275 M281
        show G (T281.setTop (mkF m 96 #[oi i0, oi i1, oi i2, oi i3, oi i4, oi 1, oi 3, oi c247, oi c248, oi c249, oa a_250, oa b272, oa r_275, oi 6, .unset] [(.int (Int32.ofNat [(97 : Int32), (108 : Int32), (108 : Int32), (111 : Int32), (119 : Int32), (32 : Int32), c247, c248, c249].length))]))
        show G (T281.setTop (mkF m 96 #[oi i0, oi i1, oi i2, oi i3, oi i4, oi 1, oi 3, oi c247, oi c248, oi c249, oa a_250, oa b272, oa r_275, oi 6, .unset] [(.int 9)]))
        refine q_iload B X281 at_96 rfl rfl ?_
        refine q_iload B X281 at_98 rfl rfl ?_
        refine q_iadd B X281 at_100 rfl rfl ?_
        show G (T281.setTop (mkF m 101 #[oi i0, oi i1, oi i2, oi i3, oi i4, oi 1, oi 3, oi c247, oi c248, oi c249, oa a_250, oa b272, oa r_275, oi 6, .unset] [(.int ((6 : Int32) + (3 : Int32))), (.int 9)]))
        rw [show ((6 : Int32) + (3 : Int32)) = (9 : Int32) from by decide]
        show G (T281.setTop (mkF m 101 #[oi i0, oi i1, oi i2, oi i3, oi i4, oi 1, oi 3, oi c247, oi c248, oi c249, oa a_250, oa b272, oa r_275, oi 6, .unset] [(.int 9), (.int 9)]))
        refine q_icmpYes 106 B X281 at_101 rfl (teq (by decide)).1 rfl rfl (by decide) ?_
        refine q_iload B X281 at_106 rfl rfl ?_
        refine q_ifNo B X281 at_108 rfl ((if0 _ _).trans (feq (by decide)).1) rfl ?_
        refine q_aload B X281 at_111 rfl rfl rfl ?_
        refine q_iconst B X281 at_113 rfl ?_
        show G (T281.setTop (mkF m 114 #[oi i0, oi i1, oi i2, oi i3, oi i4, oi 1, oi 3, oi c247, oi c248, oi c249, oa a_250, oa b272, oa r_275, oi 6, .unset] [(.int 0), (.ref r_275)]))
        refine qV B X281 hZ275 hown275 170 171 173 172 8 174 rfl rfl rfl rfl rfl rfl (own_ca hw [(97 : Int32), (108 : Int32), (108 : Int32), (111 : Int32), (119 : Int32), (32 : Int32), c247, c248, c249] 0 O275 r275_0 r275_1 r275_2 W280 (Or.inr ⟨own_big_app [(97 : Int32), (108 : Int32), (108 : Int32), (111 : Int32), (119 : Int32), (32 : Int32)] hbig, rfl, rfl, own_is16_bytes [(97 : Int32), (108 : Int32), (108 : Int32), (111 : Int32), (119 : Int32), (32 : Int32), c247, c248, c249]⟩) (Nat.le_of_ble_eq_true rfl) (own_allc (by decide) (own_allc (by decide) (own_allc (by decide) (own_allc (by decide) (own_allc (by decide) (own_allc (by decide) (own_allc hr_c247 (own_allc hr_c248 (own_allc hr_c249 own_alln))))))))) g0_S g1_hcpt g2_S g3_S g4_S (Nat.le_of_ble_eq_true rfl) g5_hfmt g6_S) e281 r275_0 own_pd17 rfl rfl at_114 0 rfl rfl rfl (by decide) ?_
        rintro T282 h282 _ L282 X282 e282 ⟨rfl, M282, rfl⟩
        have N282 := Fr.app N281 M282
        show G (T282.setTop (mkF m 117 #[oi i0, oi i1, oi i2, oi i3, oi i4, oi 1, oi 3, oi c247, oi c248, oi c249, oa a_250, oa b272, oa r_275, oi 6, .unset] [(.int ([(97 : Int32), (108 : Int32), (108 : Int32), (111 : Int32), (119 : Int32), (32 : Int32), c247, c248, c249].getD 0 0))]))
        show G (T282.setTop (mkF m 117 #[oi i0, oi i1, oi i2, oi i3, oi i4, oi 1, oi 3, oi c247, oi c248, oi c249, oa a_250, oa b272, oa r_275, oi 6, .unset] [(.int 97)]))
        refine q_bipush B X282 at_117 rfl ?_
        refine q_icmpNo B X282 at_119 rfl (teq (by decide)).2 rfl ?_
        refine q_aload B X282 at_122 rfl rfl rfl ?_
        refine q_iconst B X282 at_124 rfl ?_
        show G (T282.setTop (mkF m 125 #[oi i0, oi i1, oi i2, oi i3, oi i4, oi 1, oi 3, oi c247, oi c248, oi c249, oa a_250, oa b272, oa r_275, oi 6, .unset] [(.int 1), (.ref r_275)]))
        refine qV B X282 hZ275 hown275 170 171 173 172 8 174 rfl rfl rfl rfl rfl rfl (own_ca hw [(97 : Int32), (108 : Int32), (108 : Int32), (111 : Int32), (119 : Int32), (32 : Int32), c247, c248, c249] 1 O275 r275_0 r275_1 r275_2 W280 (Or.inr ⟨own_big_app [(97 : Int32), (108 : Int32), (108 : Int32), (111 : Int32), (119 : Int32), (32 : Int32)] hbig, rfl, rfl, own_is16_bytes [(97 : Int32), (108 : Int32), (108 : Int32), (111 : Int32), (119 : Int32), (32 : Int32), c247, c248, c249]⟩) (Nat.le_of_ble_eq_true rfl) (own_allc (by decide) (own_allc (by decide) (own_allc (by decide) (own_allc (by decide) (own_allc (by decide) (own_allc (by decide) (own_allc hr_c247 (own_allc hr_c248 (own_allc hr_c249 own_alln))))))))) g0_S g1_hcpt g2_S g3_S g4_S (Nat.le_of_ble_eq_true rfl) g5_hfmt g6_S) e282 r275_0 own_pd17 rfl rfl at_125 0 rfl rfl rfl (by decide) ?_
        rintro T283 h283 _ L283 X283 e283 ⟨rfl, M283, rfl⟩
        have N283 := Fr.app N282 M283
        show G (T283.setTop (mkF m 128 #[oi i0, oi i1, oi i2, oi i3, oi i4, oi 1, oi 3, oi c247, oi c248, oi c249, oa a_250, oa b272, oa r_275, oi 6, .unset] [(.int ([(97 : Int32), (108 : Int32), (108 : Int32), (111 : Int32), (119 : Int32), (32 : Int32), c247, c248, c249].getD 1 0))]))
        show G (T283.setTop (mkF m 128 #[oi i0, oi i1, oi i2, oi i3, oi i4, oi 1, oi 3, oi c247, oi c248, oi c249, oa a_250, oa b272, oa r_275, oi 6, .unset] [(.int 108)]))
        refine q_bipush B X283 at_128 rfl ?_
        refine q_icmpNo B X283 at_130 rfl (teq (by decide)).2 rfl ?_
        refine q_aload B X283 at_133 rfl rfl rfl ?_
        refine q_iconst B X283 at_135 rfl ?_
        show G (T283.setTop (mkF m 136 #[oi i0, oi i1, oi i2, oi i3, oi i4, oi 1, oi 3, oi c247, oi c248, oi c249, oa a_250, oa b272, oa r_275, oi 6, .unset] [(.int 2), (.ref r_275)]))
        refine qV B X283 hZ275 hown275 170 171 173 172 8 174 rfl rfl rfl rfl rfl rfl (own_ca hw [(97 : Int32), (108 : Int32), (108 : Int32), (111 : Int32), (119 : Int32), (32 : Int32), c247, c248, c249] 2 O275 r275_0 r275_1 r275_2 W280 (Or.inr ⟨own_big_app [(97 : Int32), (108 : Int32), (108 : Int32), (111 : Int32), (119 : Int32), (32 : Int32)] hbig, rfl, rfl, own_is16_bytes [(97 : Int32), (108 : Int32), (108 : Int32), (111 : Int32), (119 : Int32), (32 : Int32), c247, c248, c249]⟩) (Nat.le_of_ble_eq_true rfl) (own_allc (by decide) (own_allc (by decide) (own_allc (by decide) (own_allc (by decide) (own_allc (by decide) (own_allc (by decide) (own_allc hr_c247 (own_allc hr_c248 (own_allc hr_c249 own_alln))))))))) g0_S g1_hcpt g2_S g3_S g4_S (Nat.le_of_ble_eq_true rfl) g5_hfmt g6_S) e283 r275_0 own_pd17 rfl rfl at_136 0 rfl rfl rfl (by decide) ?_
        rintro T284 h284 _ L284 X284 e284 ⟨rfl, M284, rfl⟩
        have N284 := Fr.app N283 M284
        show G (T284.setTop (mkF m 139 #[oi i0, oi i1, oi i2, oi i3, oi i4, oi 1, oi 3, oi c247, oi c248, oi c249, oa a_250, oa b272, oa r_275, oi 6, .unset] [(.int ([(97 : Int32), (108 : Int32), (108 : Int32), (111 : Int32), (119 : Int32), (32 : Int32), c247, c248, c249].getD 2 0))]))
        show G (T284.setTop (mkF m 139 #[oi i0, oi i1, oi i2, oi i3, oi i4, oi 1, oi 3, oi c247, oi c248, oi c249, oa a_250, oa b272, oa r_275, oi 6, .unset] [(.int 108)]))
        refine q_bipush B X284 at_139 rfl ?_
        refine q_icmpNo B X284 at_141 rfl (teq (by decide)).2 rfl ?_
        refine q_aload B X284 at_144 rfl rfl rfl ?_
        refine q_iconst B X284 at_146 rfl ?_
        show G (T284.setTop (mkF m 147 #[oi i0, oi i1, oi i2, oi i3, oi i4, oi 1, oi 3, oi c247, oi c248, oi c249, oa a_250, oa b272, oa r_275, oi 6, .unset] [(.int 3), (.ref r_275)]))
        refine qV B X284 hZ275 hown275 170 171 173 172 8 174 rfl rfl rfl rfl rfl rfl (own_ca hw [(97 : Int32), (108 : Int32), (108 : Int32), (111 : Int32), (119 : Int32), (32 : Int32), c247, c248, c249] 3 O275 r275_0 r275_1 r275_2 W280 (Or.inr ⟨own_big_app [(97 : Int32), (108 : Int32), (108 : Int32), (111 : Int32), (119 : Int32), (32 : Int32)] hbig, rfl, rfl, own_is16_bytes [(97 : Int32), (108 : Int32), (108 : Int32), (111 : Int32), (119 : Int32), (32 : Int32), c247, c248, c249]⟩) (Nat.le_of_ble_eq_true rfl) (own_allc (by decide) (own_allc (by decide) (own_allc (by decide) (own_allc (by decide) (own_allc (by decide) (own_allc (by decide) (own_allc hr_c247 (own_allc hr_c248 (own_allc hr_c249 own_alln))))))))) g0_S g1_hcpt g2_S g3_S g4_S (Nat.le_of_ble_eq_true rfl) g5_hfmt g6_S) e284 r275_0 own_pd17 rfl rfl at_147 0 rfl rfl rfl (by decide) ?_
        rintro T285 h285 _ L285 X285 e285 ⟨rfl, M285, rfl⟩
        have N285 := Fr.app N284 M285
        show G (T285.setTop (mkF m 150 #[oi i0, oi i1, oi i2, oi i3, oi i4, oi 1, oi 3, oi c247, oi c248, oi c249, oa a_250, oa b272, oa r_275, oi 6, .unset] [(.int ([(97 : Int32), (108 : Int32), (108 : Int32), (111 : Int32), (119 : Int32), (32 : Int32), c247, c248, c249].getD 3 0))]))
        show G (T285.setTop (mkF m 150 #[oi i0, oi i1, oi i2, oi i3, oi i4, oi 1, oi 3, oi c247, oi c248, oi c249, oa a_250, oa b272, oa r_275, oi 6, .unset] [(.int 111)]))
        refine q_bipush B X285 at_150 rfl ?_
        refine q_icmpNo B X285 at_152 rfl (teq (by decide)).2 rfl ?_
        refine q_aload B X285 at_155 rfl rfl rfl ?_
        refine q_iconst B X285 at_157 rfl ?_
        show G (T285.setTop (mkF m 158 #[oi i0, oi i1, oi i2, oi i3, oi i4, oi 1, oi 3, oi c247, oi c248, oi c249, oa a_250, oa b272, oa r_275, oi 6, .unset] [(.int 4), (.ref r_275)]))
        refine qV B X285 hZ275 hown275 170 171 173 172 8 174 rfl rfl rfl rfl rfl rfl (own_ca hw [(97 : Int32), (108 : Int32), (108 : Int32), (111 : Int32), (119 : Int32), (32 : Int32), c247, c248, c249] 4 O275 r275_0 r275_1 r275_2 W280 (Or.inr ⟨own_big_app [(97 : Int32), (108 : Int32), (108 : Int32), (111 : Int32), (119 : Int32), (32 : Int32)] hbig, rfl, rfl, own_is16_bytes [(97 : Int32), (108 : Int32), (108 : Int32), (111 : Int32), (119 : Int32), (32 : Int32), c247, c248, c249]⟩) (Nat.le_of_ble_eq_true rfl) (own_allc (by decide) (own_allc (by decide) (own_allc (by decide) (own_allc (by decide) (own_allc (by decide) (own_allc (by decide) (own_allc hr_c247 (own_allc hr_c248 (own_allc hr_c249 own_alln))))))))) g0_S g1_hcpt g2_S g3_S g4_S (Nat.le_of_ble_eq_true rfl) g5_hfmt g6_S) e285 r275_0 own_pd17 rfl rfl at_158 0 rfl rfl rfl (by decide) ?_
        rintro T286 h286 _ L286 X286 e286 ⟨rfl, M286, rfl⟩
        have N286 := Fr.app N285 M286
        show G (T286.setTop (mkF m 161 #[oi i0, oi i1, oi i2, oi i3, oi i4, oi 1, oi 3, oi c247, oi c248, oi c249, oa a_250, oa b272, oa r_275, oi 6, .unset] [(.int ([(97 : Int32), (108 : Int32), (108 : Int32), (111 : Int32), (119 : Int32), (32 : Int32), c247, c248, c249].getD 4 0))]))
        show G (T286.setTop (mkF m 161 #[oi i0, oi i1, oi i2, oi i3, oi i4, oi 1, oi 3, oi c247, oi c248, oi c249, oa a_250, oa b272, oa r_275, oi 6, .unset] [(.int 119)]))
        refine q_bipush B X286 at_161 rfl ?_
        refine q_icmpNo B X286 at_163 rfl (teq (by decide)).2 rfl ?_
        refine q_aload B X286 at_166 rfl rfl rfl ?_
        refine q_iconst B X286 at_168 rfl ?_
        show G (T286.setTop (mkF m 169 #[oi i0, oi i1, oi i2, oi i3, oi i4, oi 1, oi 3, oi c247, oi c248, oi c249, oa a_250, oa b272, oa r_275, oi 6, .unset] [(.int 5), (.ref r_275)]))
        refine qV B X286 hZ275 hown275 170 171 173 172 8 174 rfl rfl rfl rfl rfl rfl (own_ca hw [(97 : Int32), (108 : Int32), (108 : Int32), (111 : Int32), (119 : Int32), (32 : Int32), c247, c248, c249] 5 O275 r275_0 r275_1 r275_2 W280 (Or.inr ⟨own_big_app [(97 : Int32), (108 : Int32), (108 : Int32), (111 : Int32), (119 : Int32), (32 : Int32)] hbig, rfl, rfl, own_is16_bytes [(97 : Int32), (108 : Int32), (108 : Int32), (111 : Int32), (119 : Int32), (32 : Int32), c247, c248, c249]⟩) (Nat.le_of_ble_eq_true rfl) (own_allc (by decide) (own_allc (by decide) (own_allc (by decide) (own_allc (by decide) (own_allc (by decide) (own_allc (by decide) (own_allc hr_c247 (own_allc hr_c248 (own_allc hr_c249 own_alln))))))))) g0_S g1_hcpt g2_S g3_S g4_S (Nat.le_of_ble_eq_true rfl) g5_hfmt g6_S) e286 r275_0 own_pd17 rfl rfl at_169 0 rfl rfl rfl (by decide) ?_
        rintro T287 h287 _ L287 X287 e287 ⟨rfl, M287, rfl⟩
        have N287 := Fr.app N286 M287
        show G (T287.setTop (mkF m 172 #[oi i0, oi i1, oi i2, oi i3, oi i4, oi 1, oi 3, oi c247, oi c248, oi c249, oa a_250, oa b272, oa r_275, oi 6, .unset] [(.int ([(97 : Int32), (108 : Int32), (108 : Int32), (111 : Int32), (119 : Int32), (32 : Int32), c247, c248, c249].getD 5 0))]))
        show G (T287.setTop (mkF m 172 #[oi i0, oi i1, oi i2, oi i3, oi i4, oi 1, oi 3, oi c247, oi c248, oi c249, oa a_250, oa b272, oa r_275, oi 6, .unset] [(.int 32)]))
        refine q_bipush B X287 at_172 rfl ?_
        refine q_icmpNo B X287 at_174 rfl (teq (by decide)).2 rfl ?_
        refine q_iconst B X287 at_177 rfl ?_
        refine q_goto 182 B X287 at_178 rfl rfl (by decide) ?_
        refine q_istore B X287 at_182 rfl rfl rfl ?_
        refine q_goto 249 B X287 at_184 rfl rfl (by decide) ?_
        refine q_iload B X287 at_249 rfl rfl ?_
        refine q_ifYes 256 B X287 at_251 rfl ((if0 _ _).trans (feq (by decide)).2) rfl rfl (by decide) ?_
        refine q_iload B X287 at_256 rfl rfl ?_
        refine q_iconst B X287 at_258 rfl ?_
        refine q_icmpNo B X287 at_259 rfl (flt (by decide)).1 rfl ?_
        refine q_aload B X287 at_262 rfl rfl rfl ?_
        refine q_iload B X287 at_264 rfl rfl ?_
        show G (T287.setTop (mkF m 266 #[oi i0, oi i1, oi i2, oi i3, oi i4, oi 1, oi 3, oi c247, oi c248, oi c249, oa a_250, oa b272, oa r_275, oi 6, oi 1] [(.int 6), (.ref r_275)]))
        refine qV B X287 hZ275 hown275 170 171 173 172 8 174 rfl rfl rfl rfl rfl rfl (own_ca hw [(97 : Int32), (108 : Int32), (108 : Int32), (111 : Int32), (119 : Int32), (32 : Int32), c247, c248, c249] 6 O275 r275_0 r275_1 r275_2 W280 (Or.inr ⟨own_big_app [(97 : Int32), (108 : Int32), (108 : Int32), (111 : Int32), (119 : Int32), (32 : Int32)] hbig, rfl, rfl, own_is16_bytes [(97 : Int32), (108 : Int32), (108 : Int32), (111 : Int32), (119 : Int32), (32 : Int32), c247, c248, c249]⟩) (Nat.le_of_ble_eq_true rfl) (own_allc (by decide) (own_allc (by decide) (own_allc (by decide) (own_allc (by decide) (own_allc (by decide) (own_allc (by decide) (own_allc hr_c247 (own_allc hr_c248 (own_allc hr_c249 own_alln))))))))) g0_S g1_hcpt g2_S g3_S g4_S (Nat.le_of_ble_eq_true rfl) g5_hfmt g6_S) e287 r275_0 own_pd17 rfl rfl at_266 0 rfl rfl rfl (by decide) ?_
        rintro T288 h288 _ L288 X288 e288 ⟨rfl, M288, rfl⟩
        have N288 := Fr.app N287 M288
        show G (T288.setTop (mkF m 269 #[oi i0, oi i1, oi i2, oi i3, oi i4, oi 1, oi 3, oi c247, oi c248, oi c249, oa a_250, oa b272, oa r_275, oi 6, oi 1] [(.int ([(97 : Int32), (108 : Int32), (108 : Int32), (111 : Int32), (119 : Int32), (32 : Int32), c247, c248, c249].getD 6 0))]))
        show G (T288.setTop (mkF m 269 #[oi i0, oi i1, oi i2, oi i3, oi i4, oi 1, oi 3, oi c247, oi c248, oi c249, oa a_250, oa b272, oa r_275, oi 6, oi 1] [(.int c247)]))
        refine q_iload B X288 at_269 rfl rfl ?_
        refine q_icmpYes 276 B X288 at_271 rfl (teq (rfl : c247 = c247)).1 rfl rfl (by decide) ?_
        refine q_iload B X288 at_276 rfl rfl ?_
        refine q_iconst B X288 at_278 rfl ?_
        refine q_icmpNo B X288 at_279 rfl (flt (by decide)).1 rfl ?_
        refine q_aload B X288 at_282 rfl rfl rfl ?_
        refine q_iload B X288 at_284 rfl rfl ?_
        refine q_iconst B X288 at_286 rfl ?_
        refine q_iadd B X288 at_287 rfl rfl ?_
        show G (T288.setTop (mkF m 288 #[oi i0, oi i1, oi i2, oi i3, oi i4, oi 1, oi 3, oi c247, oi c248, oi c249, oa a_250, oa b272, oa r_275, oi 6, oi 1] [(.int ((6 : Int32) + (1 : Int32))), (.ref r_275)]))
        rw [show ((6 : Int32) + (1 : Int32)) = (7 : Int32) from by decide]
        show G (T288.setTop (mkF m 288 #[oi i0, oi i1, oi i2, oi i3, oi i4, oi 1, oi 3, oi c247, oi c248, oi c249, oa a_250, oa b272, oa r_275, oi 6, oi 1] [(.int 7), (.ref r_275)]))
        refine qV B X288 hZ275 hown275 170 171 173 172 8 174 rfl rfl rfl rfl rfl rfl (own_ca hw [(97 : Int32), (108 : Int32), (108 : Int32), (111 : Int32), (119 : Int32), (32 : Int32), c247, c248, c249] 7 O275 r275_0 r275_1 r275_2 W280 (Or.inr ⟨own_big_app [(97 : Int32), (108 : Int32), (108 : Int32), (111 : Int32), (119 : Int32), (32 : Int32)] hbig, rfl, rfl, own_is16_bytes [(97 : Int32), (108 : Int32), (108 : Int32), (111 : Int32), (119 : Int32), (32 : Int32), c247, c248, c249]⟩) (Nat.le_of_ble_eq_true rfl) (own_allc (by decide) (own_allc (by decide) (own_allc (by decide) (own_allc (by decide) (own_allc (by decide) (own_allc (by decide) (own_allc hr_c247 (own_allc hr_c248 (own_allc hr_c249 own_alln))))))))) g0_S g1_hcpt g2_S g3_S g4_S (Nat.le_of_ble_eq_true rfl) g5_hfmt g6_S) e288 r275_0 own_pd17 rfl rfl at_288 0 rfl rfl rfl (by decide) ?_
        rintro T289 h289 _ L289 X289 e289 ⟨rfl, M289, rfl⟩
        have N289 := Fr.app N288 M289
        show G (T289.setTop (mkF m 291 #[oi i0, oi i1, oi i2, oi i3, oi i4, oi 1, oi 3, oi c247, oi c248, oi c249, oa a_250, oa b272, oa r_275, oi 6, oi 1] [(.int ([(97 : Int32), (108 : Int32), (108 : Int32), (111 : Int32), (119 : Int32), (32 : Int32), c247, c248, c249].getD 7 0))]))
        show G (T289.setTop (mkF m 291 #[oi i0, oi i1, oi i2, oi i3, oi i4, oi 1, oi 3, oi c247, oi c248, oi c249, oa a_250, oa b272, oa r_275, oi 6, oi 1] [(.int c248)]))
        refine q_iload B X289 at_291 rfl rfl ?_
        refine q_icmpYes 298 B X289 at_293 rfl (teq (rfl : c248 = c248)).1 rfl rfl (by decide) ?_
        refine q_iload B X289 at_298 rfl rfl ?_
        refine q_iconst B X289 at_300 rfl ?_
        refine q_icmpNo B X289 at_301 rfl (flt (by decide)).1 rfl ?_
        refine q_aload B X289 at_304 rfl rfl rfl ?_
        refine q_iload B X289 at_306 rfl rfl ?_
        refine q_iconst B X289 at_308 rfl ?_
        refine q_iadd B X289 at_309 rfl rfl ?_
        show G (T289.setTop (mkF m 310 #[oi i0, oi i1, oi i2, oi i3, oi i4, oi 1, oi 3, oi c247, oi c248, oi c249, oa a_250, oa b272, oa r_275, oi 6, oi 1] [(.int ((6 : Int32) + (2 : Int32))), (.ref r_275)]))
        rw [show ((6 : Int32) + (2 : Int32)) = (8 : Int32) from by decide]
        show G (T289.setTop (mkF m 310 #[oi i0, oi i1, oi i2, oi i3, oi i4, oi 1, oi 3, oi c247, oi c248, oi c249, oa a_250, oa b272, oa r_275, oi 6, oi 1] [(.int 8), (.ref r_275)]))
        refine qV B X289 hZ275 hown275 170 171 173 172 8 174 rfl rfl rfl rfl rfl rfl (own_ca hw [(97 : Int32), (108 : Int32), (108 : Int32), (111 : Int32), (119 : Int32), (32 : Int32), c247, c248, c249] 8 O275 r275_0 r275_1 r275_2 W280 (Or.inr ⟨own_big_app [(97 : Int32), (108 : Int32), (108 : Int32), (111 : Int32), (119 : Int32), (32 : Int32)] hbig, rfl, rfl, own_is16_bytes [(97 : Int32), (108 : Int32), (108 : Int32), (111 : Int32), (119 : Int32), (32 : Int32), c247, c248, c249]⟩) (Nat.le_of_ble_eq_true rfl) (own_allc (by decide) (own_allc (by decide) (own_allc (by decide) (own_allc (by decide) (own_allc (by decide) (own_allc (by decide) (own_allc hr_c247 (own_allc hr_c248 (own_allc hr_c249 own_alln))))))))) g0_S g1_hcpt g2_S g3_S g4_S (Nat.le_of_ble_eq_true rfl) g5_hfmt g6_S) e289 r275_0 own_pd17 rfl rfl at_310 0 rfl rfl rfl (by decide) ?_
        rintro T290 h290 _ L290 X290 e290 ⟨rfl, M290, rfl⟩
        have N290 := Fr.app N289 M290
        show G (T290.setTop (mkF m 313 #[oi i0, oi i1, oi i2, oi i3, oi i4, oi 1, oi 3, oi c247, oi c248, oi c249, oa a_250, oa b272, oa r_275, oi 6, oi 1] [(.int ([(97 : Int32), (108 : Int32), (108 : Int32), (111 : Int32), (119 : Int32), (32 : Int32), c247, c248, c249].getD 8 0))]))
        show G (T290.setTop (mkF m 313 #[oi i0, oi i1, oi i2, oi i3, oi i4, oi 1, oi 3, oi c247, oi c248, oi c249, oa a_250, oa b272, oa r_275, oi 6, oi 1] [(.int c249)]))
        refine q_iload B X290 at_313 rfl rfl ?_
        refine q_icmpYes 320 B X290 at_315 rfl (teq (rfl : c249 = c249)).1 rfl rfl (by decide) ?_
        refine q_iconst B X290 at_320 rfl ?_
        show G (T290.setTop (mkF m 321 #[oi i0, oi i1, oi i2, oi i3, oi i4, oi 1, oi 3, oi c247, oi c248, oi c249, oa a_250, oa b272, oa r_275, oi 6, oi 1] [(.int 1)]))
        exact qRNW B hR hret (by simp) X290 at_321 e290 SI275 (Nat.le_refl _) hZ275 C275 ⟨rfl, N290, K275⟩ (by decide)
theorem own_comes {Post : Tables → Env → Array Value → State → Outcome → State → Prop} (hpost : ∀ tb e args s v u, (limb_1_1.after args s (.returned v) u = true ∧ limb_1_2.after args s (.returned v) u = true ∧ True) → ReturnedEndW s (.returned v) u (Jvm.fieldLocs frame_1_writes args s ++ Jvm.arrayLocs frame_1_arrays args s ++ Jvm.staticLocs frame_1_statics s) 40 3392 → Post tb e args s (.returned v) u) :
    ArmFor flags0 classFile x code maxLocals ret World_1 tables_1 room_1 Calls_1 rest_1 Pre_1 Post := by
  intro l hfl _ _ p e ha hc hk s m args below hf hA hF happ hP
  obtain ⟨hcalls, hrest, hpre⟩ := hP
  obtain ⟨-, -, -, hnamed, -, -, -, hat⟩ := (Spec.applies_iff hf).mp happ
  obtain ⟨hg, hn⟩ := and_e (Cond.before_iff.mp (show (Jvm.Cond.and given_1 narrow_1).before args s = true from hpre))
  obtain ⟨hcnt, hg⟩ := and_e hg
  obtain ⟨g0, hg⟩ := and_e hg
  obtain ⟨g1, hg⟩ := and_e hg
  obtain ⟨g2, hg⟩ := and_e hg
  obtain ⟨g3, hg⟩ := and_e hg
  have g4 := hg
  obtain ⟨w0, w1, w2, w3, w4, rfl⟩ : ∃ w0 w1 w2 w3 w4 : Value, args = #[w0, w1, w2, w3, w4] := by
    have hs : args.size = 5 := by simpa [Cond.value, given_1] using hcnt
    obtain ⟨L⟩ := args
    match L, hs with
    | [w0, w1, w2, w3, w4], _ => exact ⟨w0, w1, w2, w3, w4, rfl⟩
  have hw := fun d (hd : d ∈ tables_1) => atoms_spec (ws := Jvm.Cond.code x code maxLocals ret :: tables_1) hat d (List.mem_cons_of_mem _ hd)
  have hfit : Fit s := fun {y c} hc i hi => by
    obtain ⟨ha, rfl⟩ := Array.getElem?_eq_some_iff.mp hc
    have q := List.all_eq_true.mp ((Array.all_eq_true_iff_forall_mem.mp hF) _ (Array.getElem_mem ha)) i (List.mem_range.mpr hi)
    simpa [Array.getElem?_eq_getElem hi] using q
  obtain ⟨hsets, hown0⟩ := atoms_of _ (rest_1_c_eq ▸ (show rest_1_c.before _ s = true from hrest))
  have hr0 := Cond.before_iff.mp hown0
  obtain ⟨i0, ei0⟩ := is_v g0
  obtain rfl : w0 = (.int i0) := Option.some.inj ei0
  obtain ⟨i1, ei1⟩ := is_v g1
  obtain rfl : w1 = (.int i1) := Option.some.inj ei1
  obtain ⟨i2, ei2⟩ := is_v g2
  obtain rfl : w2 = (.int i2) := Option.some.inj ei2
  obtain ⟨i3, ei3⟩ := is_v g3
  obtain rfl : w3 = (.int i3) := Option.some.inj ei3
  obtain ⟨i4, ei4⟩ := is_v g4
  obtain rfl : w4 = (.int i4) := Option.some.inj ei4
  obtain ⟨cpt, ecpt⟩ := is_v (Cond.before_iff.mp (hsets _ (List.mem_of_getElem? (i := 1) rfl)))
  have S_cpt : Sta s s.heap "java/lang/String" "COMPACT_STRINGS" "Z" (.int cpt) := Sta.start ecpt (Or.inl (hsets _ (List.mem_of_getElem? (i := 0) rfl)))
  have h_cpt : ¬ (cpt = (0 : Int32)) := gotF (Cond.eq_ints ecpt (Term.int_eval (0))) (not_v (Cond.before_iff.mp (hsets _ (List.mem_of_getElem? (i := 2) rfl))))
  have S_ad : Sta s s.heap "java/lang/StringUTF16" "$assertionsDisabled" "Z" (.int 1) := Sta.start (Cond.eq_int (hsets _ (List.mem_of_getElem? (i := 12) rfl)) rfl) (Or.inl (hsets _ (List.mem_of_getElem? (i := 11) rfl)))
  have S_hs : Sta s s.heap "java/lang/StringUTF16" "HI_BYTE_SHIFT" "I" (.int 0) := Sta.start (Cond.eq_int (hsets _ (List.mem_of_getElem? (i := 15) rfl)) rfl) (Or.inl (hsets _ (List.mem_of_getElem? (i := 14) rfl)))
  have S_ls : Sta s s.heap "java/lang/StringUTF16" "LO_BYTE_SHIFT" "I" (.int 8) := Sta.start (Cond.eq_int (hsets _ (List.mem_of_getElem? (i := 18) rfl)) rfl) (Or.inl (hsets _ (List.mem_of_getElem? (i := 17) rfl)))
  obtain ⟨fmt, efmt, h_fmt⟩ := isR_v (Cond.before_iff.mp (hsets _ (List.mem_of_getElem? (i := 8) rfl)))
  have S_fmt : Sta s s.heap "jdk/internal/util/Preconditions" "SIOOBE_FORMATTER" "Ljava/util/function/BiFunction;" fmt := Sta.start efmt (Or.inl (hsets _ (List.mem_of_getElem? (i := 7) rfl)))
  have hEL : EW s _ consts_1 := (EW.cons (ow hw 193 rfl) (by decide) (EW.cons (ow hw 74 rfl) (by decide) (EW.cons (ow hw 192 rfl) (by decide) EW.nil)))
  have H0 : CHv s consts_1 s.vm s.heap := CHv.start hEL (show ∀ p ∈ consts_1, Jvm.Lit.constHeld s p.1 p.2 from hcalls.1) (hsets _ (List.mem_of_getElem? (i := 2) rfl)) (ow hw 24 rfl) (ow hw 7 rfl)
  obtain ⟨n, o, h1, h2, h3, _, L, rfl, ⟨rfl, N, K⟩, hC, hq⟩ := own_law l s _ hw tables_1 hEL i0 i1 i2 i3 i4 cpt fmt s.heap (Old.start s) S_cpt h_cpt S_ad S_hs S_ls h_fmt S_fmt p e ha hc hk s m _ below hf ((Spec.applies_iff_loose hf).mp happ).1 ⟨rfl, State.Warmed39.refl s, rfl, H0⟩ trivial
  refine ⟨n, _, h1, h2, h3, hpost _ _ _ _ _ _ ⟨Cond.after_iff.mpr rfl, Cond.after_iff.mpr (eq_i res_at (Term.int_eval (1)) rfl), trivial⟩ ⟨hq.1, hq.2.1, hq.2.2.1, (hq.2.2.2.sift fun y hy => Or.inr (N y hy)).mono (by decide) (by decide)⟩⟩
theorem main_1_1 : Claimed_1_1 := own_comes fun _ _ _ _ _ _ h hF => ⟨h.1, hF⟩
theorem main_1_2 : Claimed_1_2 := own_comes fun _ _ _ _ _ _ h hF => ⟨h.2.1, hF⟩
end Jvm.Pilot.@@N@@
namespace Jvm.Pilot.@@N@@
open Jvm Jvm.ClassFile Sem Op Lib Jvm.Free Jvm.Stand Jvm.Pilot.@@N@@.Jvm.D
/-! MADE BY PROGRAM (witnessworld.py) out of the Statement's table words and the real class files: 27 classes; the members and pool entries that the words name. The judged class is class 1, her method 2. -/
namespace start1
open Jvm.ClassFile
def u (s : String) : CpInfo := .utf8 (stringToUtf16 s)
/-- a pool by its gaps: so many unusable entries, then the entry; so many at the end -/
def gap : Nat → List CpInfo → List CpInfo
  | 0, r => r
  | n + 1, r => .unusable :: gap n r
def poolList (es : List (Nat × CpInfo)) (last : Nat) : List CpInfo := es.foldr (fun e r => gap e.1 (e.2 :: r)) (gap last [])
def pool (es : List (Nat × CpInfo)) (last : Nat) : Array CpInfo := ⟨poolList es last⟩
def fileOf (pool : Array CpInfo) (this : Nat) (attrs : Array Attribute := #[]) (ms : Array MethodInfo := #[]) (fl : Nat := 33) (sup : Nat := 0) (ifs : Array Nat := #[]) (fds : Array FieldInfo := #[]) : ClassFile where
  minorVersion := 0
  majorVersion := 65
  constantPool := pool
  accessFlags := fl
  thisClass := this
  superClass := sup
  interfaces := ifs
  fields := fds
  methods := ms
  attributes := attrs
def plain (name : String) (sup : Option ClassId) : Class where
  name := name
  kind := .ordinary
  loader := none
  accessFlags := 33
  super := sup
  interfaces := #[]
  cf := none
  fields := #[]
  methods := #[]
  instanceTypes := #[]
  staticTypes := #[]
  resolved := #[]
  callSites := []
  init := .initialized
  statics := none
  mirror := none

def pool0 : Array CpInfo := pool [(5, u "<init>"), (0, u "()V"), (1, .class_ 10), (1, u "java/lang/Object")] 113

def k0c0 : Code := { maxStack := 0, maxLocals := 1, code := object_method_1_code, exceptionTable := #[], attributes := #[] }
def k0m0 : Method := { name := "<init>", desc := "()V", sig := { parameters := [], returnType := none }, accessFlags := 1, code := some k0c0 }
/-- java/lang/Object -/
def k0 : Class := { plain "java/lang/Object" none with
  accessFlags := 33
  interfaces := #[]
  cf := some (fileOf pool0 8 #[] #[{ accessFlags := 1, nameIndex := 5, descriptorIndex := 6, attributes := #[] }] 33 0 #[] #[])
  fields := #[]
  methods := #[k0m0]
  instanceTypes := #[]
  staticTypes := #[]
  resolved := Array.replicate 124 none
  statics := none }

def pool1 : Array CpInfo := pool [(2, .class_ 4), (1, u "java/lang/Object"), (0, u "<init>"), (0, u "()V"), (0, .class_ 8), (0, u "java/lang/String"), (0, .methodref 7 10), (0, .nameAndType 5 11), (0, u "([C)V"), (0, .integer 65535), (0, .methodref 14 15), (0, .class_ 16), (0, .nameAndType 17 18), (0, u "com/example/research_access_policy/researchaccesspolicy/rules/DecisionLinePinLaw"), (0, u "make"), (0, u "(ICCC)Ljava/lang/String;"), (0, .class_ 20), (0, u "com/example/research_access_policy/researchaccesspolicy/rules/Decision"), (0, .methodref 19 22), (0, .nameAndType 5 23), (0, u "(ZLjava/lang/String;)V"), (0, .methodref 19 25), (0, .nameAndType 26 27), (0, u "line"), (0, u "()Ljava/lang/String;"), (0, .methodref 7 29), (0, .nameAndType 30 31), (0, u "length"), (0, u "()I"), (0, .methodref 7 33), (0, .nameAndType 34 35), (0, u "charAt"), (0, u "(I)C"), (3, u "law"), (0, u "(IIIII)Z")] 2

def k1m0 : Method := { name := "<init>", desc := "()V", sig := { parameters := [], returnType := none }, accessFlags := 1, code := none }
def k1c1 : Code := { maxStack := 3, maxLocals := 5, code := method_2_code, exceptionTable := #[], attributes := #[] }
def k1m1 : Method := { name := "make", desc := "(ICCC)Ljava/lang/String;", sig := { parameters := [.int, .char, .char, .char], returnType := some (.object "java/lang/String") }, accessFlags := 10, code := some k1c1 }
def k1c2 : Code := { maxStack := 4, maxLocals := 15, code := code, exceptionTable := #[], attributes := #[] }
def k1m2 : Method := { name := "law", desc := "(IIIII)Z", sig := { parameters := [.int, .int, .int, .int, .int], returnType := some .boolean }, accessFlags := 9, code := some k1c2 }
/-- com/example/research_access_policy/researchaccesspolicy/rules/DecisionLinePinLaw -/
def k1 : Class := { plain "com/example/research_access_policy/researchaccesspolicy/rules/DecisionLinePinLaw" (some 0) with
  accessFlags := 49
  interfaces := #[]
  cf := some (fileOf pool1 14 #[] #[{ accessFlags := 1, nameIndex := 5, descriptorIndex := 6, attributes := #[] }, { accessFlags := 10, nameIndex := 17, descriptorIndex := 18, attributes := #[] }, { accessFlags := 9, nameIndex := 39, descriptorIndex := 40, attributes := #[] }] 49 2 #[] #[])
  fields := #[]
  methods := #[k1m0, k1m1, k1m2]
  instanceTypes := #[]
  staticTypes := #[]
  resolved := Array.replicate 43 none
  statics := none }

def pool2 : Array CpInfo := pool [(1, .class_ 2), (0, u "java/io/Serializable"), (0, .class_ 4), (0, u "java/lang/Object")] 2

/-- java/io/Serializable -/
def k2 : Class := { plain "java/io/Serializable" (some 0) with
  accessFlags := 1537
  interfaces := #[]
  cf := some (fileOf pool2 1 #[] #[] 1537 3 #[] #[])
  fields := #[]
  methods := #[]
  instanceTypes := #[]
  staticTypes := #[]
  resolved := Array.replicate 7 none
  statics := none }

def pool3 : Array CpInfo := pool [(1, .class_ 2), (0, u "java/lang/Comparable"), (0, .class_ 4), (0, u "java/lang/Object")] 7

/-- java/lang/Comparable -/
def k3 : Class := { plain "java/lang/Comparable" (some 0) with
  accessFlags := 1537
  interfaces := #[]
  cf := some (fileOf pool3 1 #[] #[] 1537 3 #[] #[])
  fields := #[]
  methods := #[]
  instanceTypes := #[]
  staticTypes := #[]
  resolved := Array.replicate 12 none
  statics := none }

def pool4 : Array CpInfo := pool [(2, .class_ 4), (1, u "java/lang/CharSequence"), (42, .class_ 48), (0, u "java/lang/CharSequence$1CodePointIterator"), (10, .class_ 60), (0, u "java/lang/CharSequence$1CharIterator"), (5, .class_ 67), (0, u "java/lang/Object")] 63

/-- java/lang/CharSequence -/
def k4 : Class := { plain "java/lang/CharSequence" (some 0) with
  accessFlags := 1537
  interfaces := #[]
  cf := some (fileOf pool4 2 #[.nestMembers #[47, 59]] #[] 1537 66 #[] #[])
  fields := #[]
  methods := #[]
  instanceTypes := #[]
  staticTypes := #[]
  resolved := Array.replicate 131 none
  statics := none }

def pool5 : Array CpInfo := pool [(1, .class_ 2), (0, u "java/lang/constant/Constable"), (0, .class_ 4), (0, u "java/lang/Object")] 6

/-- java/lang/constant/Constable -/
def k5 : Class := { plain "java/lang/constant/Constable" (some 0) with
  accessFlags := 1537
  interfaces := #[]
  cf := some (fileOf pool5 1 #[] #[] 1537 3 #[] #[])
  fields := #[]
  methods := #[]
  instanceTypes := #[]
  staticTypes := #[]
  resolved := Array.replicate 11 none
  statics := none }

def pool6 : Array CpInfo := pool [(1, .class_ 2), (0, u "java/lang/constant/ConstantDesc"), (0, .class_ 4), (0, u "java/lang/Object")] 32

/-- java/lang/constant/ConstantDesc -/
def k6 : Class := { plain "java/lang/constant/ConstantDesc" (some 0) with
  accessFlags := 1537
  interfaces := #[]
  cf := some (fileOf pool6 1 #[] #[] 1537 3 #[] #[])
  fields := #[]
  methods := #[]
  instanceTypes := #[]
  staticTypes := #[]
  resolved := Array.replicate 37 none
  statics := none }

def pool7 : Array CpInfo := pool [(1, .methodref 2 3), (0, .class_ 4), (0, .nameAndType 5 6), (0, u "java/lang/Object"), (0, u "<init>"), (0, u "()V"), (0, .string 8), (0, u ""), (0, .fieldref 10 11), (0, .class_ 12), (0, .nameAndType 13 14), (0, u "java/lang/String"), (0, u "value"), (0, u "[B"), (0, .fieldref 10 16), (0, .nameAndType 17 18), (0, u "coder"), (0, u "B"), (2, u "hash"), (0, u "I"), (2, u "hashIsZero"), (0, u "Z"), (0, .methodref 10 28), (0, .nameAndType 5 29), (0, u "([CIILjava/lang/Void;)V"), (6, u "checkBoundsOffCount"), (0, u "(III)I"), (0, .fieldref 10 39), (0, .nameAndType 40 26), (0, u "COMPACT_STRINGS"), (1, .class_ 44), (1, u "java/lang/StringUTF16"), (0, u "compress"), (1, .methodref 42 48), (0, .nameAndType 49 50), (0, u "coderFromArrayLen"), (0, u "([BI)B"), (3, .methodref 55 56), (0, .class_ 57), (0, .nameAndType 58 59), (0, u "java/util/Arrays"), (0, u "copyOfRange"), (0, u "([BII)[B"), (47, .class_ 109), (1, u "java/lang/StringLatin1"), (32, u "()Z"), (34, .methodref 42 178), (0, .nameAndType 45 179), (0, u "([CII)[B"), (13, .class_ 195), (1, u "java/lang/System"), (16, .methodref 193 213), (0, .nameAndType 214 215), (0, u "arraycopy"), (0, u "(Ljava/lang/Object;ILjava/lang/Object;II)V"), (118, u "()I"), (0, .methodref 10 336), (0, .nameAndType 17 337), (0, u "()B"), (2, u "()[B"), (22, u "([BI)C"), (27, u "(II)V"), (35, u "(I)C"), (61, .methodref 10 490), (0, .nameAndType 5 491), (0, u "(Ljava/lang/AbstractStringBuilder;Ljava/lang/Void;)V"), (0, .methodref 10 493), (0, .nameAndType 494 142), (0, u "isLatin1"), (0, .methodref 107 496), (0, .nameAndType 497 363), (0, u "charAt"), (0, .methodref 42 496), (2, u "checkIndex"), (4, .nameAndType 507 334), (0, u "length"), (24, u "getBytes"), (16, .methodref 550 506), (0, .class_ 551), (0, u "java/lang/AbstractStringBuilder"), (0, .methodref 550 553), (0, .nameAndType 554 340), (0, u "getValue"), (20, .class_ 576), (0, u "java/lang/CharSequence"), (22, u "CASE_INSENSITIVE_ORDER"), (0, u "Ljava/util/Comparator;"), (220, u "([BIB)V"), (188, u "([C)V"), (36, .methodref 550 493), (0, .fieldref 550 1049), (0, .nameAndType 1050 26), (0, u "maybeLatin1"), (2, .fieldref 1054 1055), (0, .class_ 1056), (0, .nameAndType 1057 1058), (0, u "jdk/internal/util/Preconditions"), (0, u "SIOOBE_FORMATTER"), (0, u "Ljava/util/function/BiFunction;"), (0, .methodref 1054 1060), (0, .nameAndType 501 1061), (0, u "(IILjava/util/function/BiFunction;)I"), (2, u "(IIILjava/util/function/BiFunction;)I"), (0, .methodref 1054 1066), (0, .nameAndType 1067 1064), (0, u "checkFromIndexSize"), (33, u "serialPersistentFields"), (0, u "[Ljava/io/ObjectStreamField;"), (0, .class_ 1104), (0, u "java/lang/String$CaseInsensitiveComparator"), (1, .class_ 1107), (0, u "java/io/Serializable"), (0, .class_ 1109), (0, u "java/lang/Comparable"), (0, .class_ 1111), (0, u "java/lang/constant/Constable"), (0, .class_ 1113), (0, u "java/lang/constant/ConstantDesc"), (2, u "serialVersionUID"), (0, u "J"), (3, u "REPL"), (0, u "C"), (2, u "LATIN1"), (1, u "UTF16"), (105, u "(Ljava/lang/StringBuilder;)V")] 217

def k7m0 : Method := { name := "<init>", desc := "()V", sig := { parameters := [], returnType := none }, accessFlags := 1, code := none }
def k7c1 : Code := { maxStack := 5, maxLocals := 2, code := jdk_42_method_3_code, exceptionTable := #[], attributes := #[] }
def k7m1 : Method := { name := "<init>", desc := "([C)V", sig := { parameters := [(.array .char)], returnType := none }, accessFlags := 1, code := some k7c1 }
def k7c2 : Code := { maxStack := 3, maxLocals := 2, code := jdk_42_method_53_code, exceptionTable := #[], attributes := #[] }
def k7m2 : Method := { name := "<init>", desc := "(Ljava/lang/StringBuilder;)V", sig := { parameters := [(.object "java/lang/StringBuilder")], returnType := none }, accessFlags := 1, code := some k7c2 }
def k7c3 : Code := { maxStack := 2, maxLocals := 1, code := jdk_42_method_54_code, exceptionTable := #[], attributes := #[] }
def k7m3 : Method := { name := "length", desc := "()I", sig := { parameters := [], returnType := some .int }, accessFlags := 1, code := some k7c3 }
def k7c4 : Code := { maxStack := 2, maxLocals := 2, code := jdk_42_method_56_code, exceptionTable := #[], attributes := #[] }
def k7m4 : Method := { name := "charAt", desc := "(I)C", sig := { parameters := [.int], returnType := some .char }, accessFlags := 1, code := some k7c4 }
def k7c5 : Code := { maxStack := 5, maxLocals := 4, code := jdk_42_method_147_code, exceptionTable := #[], attributes := #[] }
def k7m5 : Method := { name := "getBytes", desc := "([BIB)V", sig := { parameters := [(.array .byte), .int, .byte], returnType := none }, accessFlags := 0, code := some k7c5 }
def k7c6 : Code := { maxStack := 4, maxLocals := 6, code := jdk_42_method_149_code, exceptionTable := #[], attributes := #[] }
def k7m6 : Method := { name := "<init>", desc := "([CIILjava/lang/Void;)V", sig := { parameters := [(.array .char), .int, .int, (.object "java/lang/Void")], returnType := none }, accessFlags := 2, code := some k7c6 }
def k7c7 : Code := { maxStack := 5, maxLocals := 5, code := jdk_42_method_150_code, exceptionTable := #[], attributes := #[] }
def k7m7 : Method := { name := "<init>", desc := "(Ljava/lang/AbstractStringBuilder;Ljava/lang/Void;)V", sig := { parameters := [(.object "java/lang/AbstractStringBuilder"), (.object "java/lang/Void")], returnType := none }, accessFlags := 0, code := some k7c7 }
def k7c8 : Code := { maxStack := 1, maxLocals := 1, code := jdk_42_method_152_code, exceptionTable := #[], attributes := #[] }
def k7m8 : Method := { name := "coder", desc := "()B", sig := { parameters := [], returnType := some .byte }, accessFlags := 0, code := some k7c8 }
def k7c9 : Code := { maxStack := 1, maxLocals := 1, code := jdk_42_method_154_code, exceptionTable := #[], attributes := #[] }
def k7m9 : Method := { name := "isLatin1", desc := "()Z", sig := { parameters := [], returnType := some .boolean }, accessFlags := 0, code := some k7c9 }
def k7c10 : Code := { maxStack := 3, maxLocals := 2, code := jdk_42_method_155_code, exceptionTable := #[], attributes := #[] }
def k7m10 : Method := { name := "checkIndex", desc := "(II)V", sig := { parameters := [.int, .int], returnType := none }, accessFlags := 8, code := some k7c10 }
def k7c11 : Code := { maxStack := 4, maxLocals := 3, code := jdk_42_method_157_code, exceptionTable := #[], attributes := #[] }
def k7m11 : Method := { name := "checkBoundsOffCount", desc := "(III)I", sig := { parameters := [.int, .int, .int], returnType := some .int }, accessFlags := 8, code := some k7c11 }
/-- java/lang/String -/
def k7 : Class := { plain "java/lang/String" (some 0) with
  accessFlags := 49
  interfaces := #[2, 3, 4, 5, 6]
  cf := some (fileOf pool7 10 #[.nestMembers #[1103]] #[{ accessFlags := 1, nameIndex := 5, descriptorIndex := 6, attributes := #[] }, { accessFlags := 1, nameIndex := 5, descriptorIndex := 1010, attributes := #[] }, { accessFlags := 1, nameIndex := 5, descriptorIndex := 1233, attributes := #[] }, { accessFlags := 1, nameIndex := 507, descriptorIndex := 334, attributes := #[] }, { accessFlags := 1, nameIndex := 497, descriptorIndex := 427, attributes := #[] }, { accessFlags := 0, nameIndex := 532, descriptorIndex := 821, attributes := #[] }, { accessFlags := 2, nameIndex := 5, descriptorIndex := 29, attributes := #[] }, { accessFlags := 0, nameIndex := 5, descriptorIndex := 491, attributes := #[] }, { accessFlags := 0, nameIndex := 17, descriptorIndex := 337, attributes := #[] }, { accessFlags := 0, nameIndex := 494, descriptorIndex := 142, attributes := #[] }, { accessFlags := 8, nameIndex := 501, descriptorIndex := 391, attributes := #[] }, { accessFlags := 8, nameIndex := 36, descriptorIndex := 37, attributes := #[] }] 49 2 #[1106, 1108, 575, 1110, 1112] #[{ accessFlags := 18, nameIndex := 13, descriptorIndex := 14, attributes := #[] }, { accessFlags := 18, nameIndex := 17, descriptorIndex := 18, attributes := #[] }, { accessFlags := 2, nameIndex := 21, descriptorIndex := 22, attributes := #[] }, { accessFlags := 2, nameIndex := 25, descriptorIndex := 26, attributes := #[] }, { accessFlags := 26, nameIndex := 1116, descriptorIndex := 1117, attributes := #[] }, { accessFlags := 24, nameIndex := 40, descriptorIndex := 26, attributes := #[] }, { accessFlags := 26, nameIndex := 1101, descriptorIndex := 1102, attributes := #[] }, { accessFlags := 26, nameIndex := 1121, descriptorIndex := 1122, attributes := #[] }, { accessFlags := 25, nameIndex := 599, descriptorIndex := 600, attributes := #[] }, { accessFlags := 24, nameIndex := 1125, descriptorIndex := 18, attributes := #[] }, { accessFlags := 24, nameIndex := 1127, descriptorIndex := 18, attributes := #[] }])
  fields := #[{ name := "value", type := (.array .byte), accessFlags := 18, slot := 0, constantValue := 0 }, { name := "coder", type := .byte, accessFlags := 18, slot := 1, constantValue := 0 }, { name := "hash", type := .int, accessFlags := 2, slot := 2, constantValue := 0 }, { name := "hashIsZero", type := .boolean, accessFlags := 2, slot := 3, constantValue := 0 }, { name := "serialVersionUID", type := .long, accessFlags := 26, slot := 0, constantValue := 0 }, { name := "COMPACT_STRINGS", type := .boolean, accessFlags := 24, slot := 1, constantValue := 0 }, { name := "serialPersistentFields", type := (.array (.object "java/io/ObjectStreamField")), accessFlags := 26, slot := 2, constantValue := 0 }, { name := "REPL", type := .char, accessFlags := 26, slot := 3, constantValue := 0 }, { name := "CASE_INSENSITIVE_ORDER", type := (.object "java/util/Comparator"), accessFlags := 25, slot := 4, constantValue := 0 }, { name := "LATIN1", type := .byte, accessFlags := 24, slot := 5, constantValue := 0 }, { name := "UTF16", type := .byte, accessFlags := 24, slot := 6, constantValue := 0 }]
  methods := #[k7m0, k7m1, k7m2, k7m3, k7m4, k7m5, k7m6, k7m7, k7m8, k7m9, k7m10, k7m11]
  instanceTypes := #[(.array .byte), .byte, .int, .boolean]
  staticTypes := #[.long, .boolean, (.array (.object "java/io/ObjectStreamField")), .char, (.object "java/util/Comparator"), .byte, .byte]
  resolved := Array.replicate 1451 none
  statics := some 0 }

def pool8 : Array CpInfo := pool [(3, .class_ 4), (0, u "java/lang/String"), (1, .class_ 8), (1, u "java/lang/Object"), (0, u "<init>"), (0, u "()V"), (0, .methodref 12 13), (0, .class_ 14), (0, .nameAndType 15 16), (0, u "java/lang/StringUTF16"), (0, u "newBytesLength"), (0, u "(I)I"), (3, .integer 1073741823), (23, .fieldref 12 45), (0, .nameAndType 46 47), (0, u "$assertionsDisabled"), (0, u "Z"), (0, .methodref 12 49), (0, .nameAndType 50 51), (0, u "length"), (0, u "([B)I"), (7, .fieldref 12 60), (0, .nameAndType 61 62), (0, u "HI_BYTE_SHIFT"), (0, u "I"), (0, .fieldref 12 64), (0, .nameAndType 65 62), (0, u "LO_BYTE_SHIFT"), (1, .methodref 12 68), (0, .nameAndType 69 70), (0, u "checkIndex"), (0, u "(I[B)V"), (0, .methodref 12 72), (0, .nameAndType 73 74), (0, u "getChar"), (0, u "([BI)C"), (24, u "(II[B)V"), (7, .methodref 12 108), (0, .nameAndType 109 110), (0, u "newBytesFor"), (0, u "(I)[B"), (0, .methodref 12 112), (0, .nameAndType 113 114), (0, u "putChar"), (0, u "([BII)V"), (0, .methodref 12 116), (0, .nameAndType 117 118), (0, u "compress"), (0, u "([CI[BII)I"), (0, .methodref 12 120), (0, .nameAndType 121 122), (0, u "toBytes"), (0, u "([CII)[B"), (17, u "inflate"), (0, u "([BI[BII)V"), (31, .methodref 12 174), (0, .nameAndType 175 99), (0, u "checkBoundsOffCount"), (85, u "coderFromArrayLen"), (0, u "([BI)B"), (18, u "(III)I"), (87, .class_ 371), (1, u "java/lang/StringUTF16$LinesSpliterator"), (20, u "charAt"), (21, .methodref 3 415), (0, .nameAndType 69 416), (0, u "(II)V"), (2, .methodref 3 420), (0, .nameAndType 175 281), (9, u "MAX_LENGTH"), (196, .class_ 628), (0, u "java/lang/StringUTF16$CodePointsSpliterator"), (0, .class_ 630), (0, u "java/lang/StringUTF16$CharsSpliterator")] 4

def k8m0 : Method := { name := "<init>", desc := "()V", sig := { parameters := [], returnType := none }, accessFlags := 0, code := none }
def k8c1 : Code := { maxStack := 1, maxLocals := 1, code := jdk_52_method_2_code, exceptionTable := #[], attributes := #[] }
def k8m1 : Method := { name := "newBytesFor", desc := "(I)[B", sig := { parameters := [.int], returnType := some (.array .byte) }, accessFlags := 9, code := some k8c1 }
def k8c2 : Code := { maxStack := 4, maxLocals := 1, code := jdk_52_method_3_code, exceptionTable := #[], attributes := #[] }
def k8m2 : Method := { name := "newBytesLength", desc := "(I)I", sig := { parameters := [.int], returnType := some .int }, accessFlags := 9, code := some k8c2 }
def k8c3 : Code := { maxStack := 4, maxLocals := 3, code := jdk_52_method_4_code, exceptionTable := #[], attributes := #[] }
def k8m3 : Method := { name := "putChar", desc := "([BII)V", sig := { parameters := [(.array .byte), .int, .int], returnType := none }, accessFlags := 8, code := some k8c3 }
def k8c4 : Code := { maxStack := 3, maxLocals := 2, code := jdk_52_method_5_code, exceptionTable := #[], attributes := #[] }
def k8m4 : Method := { name := "getChar", desc := "([BI)C", sig := { parameters := [(.array .byte), .int], returnType := some .char }, accessFlags := 8, code := some k8c4 }
def k8c5 : Code := { maxStack := 2, maxLocals := 1, code := jdk_52_method_6_code, exceptionTable := #[], attributes := #[] }
def k8m5 : Method := { name := "length", desc := "([B)I", sig := { parameters := [(.array .byte)], returnType := some .int }, accessFlags := 9, code := some k8c5 }
def k8c6 : Code := { maxStack := 4, maxLocals := 5, code := jdk_52_method_14_code, exceptionTable := #[], attributes := #[] }
def k8m6 : Method := { name := "toBytes", desc := "([CII)[B", sig := { parameters := [(.array .char), .int, .int], returnType := some (.array .byte) }, accessFlags := 9, code := some k8c6 }
def k8c7 : Code := { maxStack := 2, maxLocals := 2, code := jdk_52_method_15_code, exceptionTable := #[], attributes := #[] }
def k8m7 : Method := { name := "coderFromArrayLen", desc := "([BI)B", sig := { parameters := [(.array .byte), .int], returnType := some .byte }, accessFlags := 8, code := some k8c7 }
def k8c8 : Code := { maxStack := 5, maxLocals := 6, code := jdk_52_method_16_code, exceptionTable := #[], attributes := #[] }
def k8m8 : Method := { name := "compress", desc := "([CII)[B", sig := { parameters := [(.array .char), .int, .int], returnType := some (.array .byte) }, accessFlags := 9, code := some k8c8 }
def k8c9 : Code := { maxStack := 3, maxLocals := 7, code := jdk_52_method_21_code, exceptionTable := #[], attributes := #[] }
def k8m9 : Method := { name := "compress", desc := "([CI[BII)I", sig := { parameters := [(.array .char), .int, (.array .byte), .int, .int], returnType := some .int }, accessFlags := 9, code := some k8c9 }
def k8c10 : Code := { maxStack := 2, maxLocals := 2, code := jdk_52_method_83_code, exceptionTable := #[], attributes := #[] }
def k8m10 : Method := { name := "charAt", desc := "([BI)C", sig := { parameters := [(.array .byte), .int], returnType := some .char }, accessFlags := 9, code := some k8c10 }
def k8c11 : Code := { maxStack := 4, maxLocals := 6, code := jdk_52_method_86_code, exceptionTable := #[], attributes := #[] }
def k8m11 : Method := { name := "inflate", desc := "([BI[BII)V", sig := { parameters := [(.array .byte), .int, (.array .byte), .int, .int], returnType := none }, accessFlags := 9, code := some k8c11 }
def k8c12 : Code := { maxStack := 2, maxLocals := 2, code := jdk_52_method_91_code, exceptionTable := #[], attributes := #[] }
def k8m12 : Method := { name := "checkIndex", desc := "(I[B)V", sig := { parameters := [.int, (.array .byte)], returnType := none }, accessFlags := 9, code := some k8c12 }
def k8c13 : Code := { maxStack := 3, maxLocals := 3, code := jdk_52_method_94_code, exceptionTable := #[], attributes := #[] }
def k8m13 : Method := { name := "checkBoundsOffCount", desc := "(II[B)V", sig := { parameters := [.int, .int, (.array .byte)], returnType := none }, accessFlags := 9, code := some k8c13 }
/-- java/lang/StringUTF16 -/
def k8 : Class := { plain "java/lang/StringUTF16" (some 0) with
  accessFlags := 48
  interfaces := #[]
  cf := some (fileOf pool8 12 #[.nestMembers #[627, 629, 369]] #[{ accessFlags := 0, nameIndex := 9, descriptorIndex := 10, attributes := #[] }, { accessFlags := 9, nameIndex := 109, descriptorIndex := 110, attributes := #[] }, { accessFlags := 9, nameIndex := 15, descriptorIndex := 16, attributes := #[] }, { accessFlags := 8, nameIndex := 113, descriptorIndex := 114, attributes := #[] }, { accessFlags := 8, nameIndex := 73, descriptorIndex := 74, attributes := #[] }, { accessFlags := 9, nameIndex := 50, descriptorIndex := 51, attributes := #[] }, { accessFlags := 9, nameIndex := 121, descriptorIndex := 122, attributes := #[] }, { accessFlags := 8, nameIndex := 261, descriptorIndex := 262, attributes := #[] }, { accessFlags := 9, nameIndex := 117, descriptorIndex := 122, attributes := #[] }, { accessFlags := 9, nameIndex := 117, descriptorIndex := 118, attributes := #[] }, { accessFlags := 9, nameIndex := 392, descriptorIndex := 74, attributes := #[] }, { accessFlags := 9, nameIndex := 140, descriptorIndex := 141, attributes := #[] }, { accessFlags := 9, nameIndex := 69, descriptorIndex := 70, attributes := #[] }, { accessFlags := 9, nameIndex := 175, descriptorIndex := 99, attributes := #[] }] 48 6 #[] #[{ accessFlags := 26, nameIndex := 61, descriptorIndex := 62, attributes := #[] }, { accessFlags := 26, nameIndex := 65, descriptorIndex := 62, attributes := #[] }, { accessFlags := 24, nameIndex := 430, descriptorIndex := 62, attributes := #[] }, { accessFlags := 4120, nameIndex := 46, descriptorIndex := 47, attributes := #[] }])
  fields := #[{ name := "HI_BYTE_SHIFT", type := .int, accessFlags := 26, slot := 0, constantValue := 0 }, { name := "LO_BYTE_SHIFT", type := .int, accessFlags := 26, slot := 1, constantValue := 0 }, { name := "MAX_LENGTH", type := .int, accessFlags := 24, slot := 2, constantValue := 0 }, { name := "$assertionsDisabled", type := .boolean, accessFlags := 4120, slot := 3, constantValue := 0 }]
  methods := #[k8m0, k8m1, k8m2, k8m3, k8m4, k8m5, k8m6, k8m7, k8m8, k8m9, k8m10, k8m11, k8m12, k8m13]
  instanceTypes := #[]
  staticTypes := #[.int, .int, .int, .boolean]
  resolved := Array.replicate 635 none
  statics := some 1 }

def pool9 : Array CpInfo := pool [(1, .methodref 2 3), (0, .class_ 4), (0, .nameAndType 5 6), (0, u "java/lang/Object"), (0, u "<init>"), (0, u "()V"), (0, .class_ 8), (0, u "java/lang/Record")] 13

def k9c0 : Code := { maxStack := 1, maxLocals := 1, code := jdk_30_method_1_code, exceptionTable := #[], attributes := #[] }
def k9m0 : Method := { name := "<init>", desc := "()V", sig := { parameters := [], returnType := none }, accessFlags := 4, code := some k9c0 }
/-- java/lang/Record -/
def k9 : Class := { plain "java/lang/Record" (some 0) with
  accessFlags := 1057
  interfaces := #[]
  cf := some (fileOf pool9 7 #[] #[{ accessFlags := 4, nameIndex := 5, descriptorIndex := 6, attributes := #[] }] 1057 2 #[] #[])
  fields := #[]
  methods := #[k9m0]
  instanceTypes := #[]
  staticTypes := #[]
  resolved := Array.replicate 22 none
  statics := none }

def pool10 : Array CpInfo := pool [(1, .methodref 2 3), (0, .class_ 4), (0, .nameAndType 5 6), (0, u "java/lang/Record"), (0, u "<init>"), (0, u "()V"), (0, .fieldref 8 9), (0, .class_ 10), (0, .nameAndType 11 12), (0, u "com/example/research_access_policy/researchaccesspolicy/rules/Decision"), (0, u "allowed"), (0, u "Z"), (0, .fieldref 8 14), (0, .nameAndType 15 16), (0, u "reason"), (0, u "Ljava/lang/String;"), (0, .class_ 18), (0, u "java/lang/StringBuilder"), (0, .methodref 17 3), (2, .methodref 17 23), (0, .nameAndType 24 25), (0, u "append"), (0, u "(Ljava/lang/String;)Ljava/lang/StringBuilder;"), (0, .methodref 17 27), (0, .nameAndType 28 29), (0, u "toString"), (0, u "()Ljava/lang/String;"), (2, u "(ZLjava/lang/String;)V"), (0, .string 34), (0, u "allow "), (0, .string 36), (0, u "deny "), (15, u "SUPER_ADMIN"), (0, u "Lcom/example/research_access_policy/researchaccesspolicy/rules/Decision;"), (4, u "PROPOSAL_MEMBER"), (4, u "SESSION_MEMBER"), (4, u "UNKNOWN_SESSION"), (4, u "UNKNOWN_SUBJECT"), (4, u "WRONG_BEAMLINE"), (4, u "NOT_PERMITTED"), (5, u "line")] 28

def k10c0 : Code := { maxStack := 2, maxLocals := 3, code := prog_12_method_1_code, exceptionTable := #[], attributes := #[] }
def k10m0 : Method := { name := "<init>", desc := "(ZLjava/lang/String;)V", sig := { parameters := [.boolean, (.object "java/lang/String")], returnType := none }, accessFlags := 1, code := some k10c0 }
def k10c1 : Code := { maxStack := 2, maxLocals := 1, code := prog_12_method_3_code, exceptionTable := #[], attributes := #[] }
def k10m1 : Method := { name := "line", desc := "()Ljava/lang/String;", sig := { parameters := [], returnType := some (.object "java/lang/String") }, accessFlags := 1, code := some k10c1 }
/-- com/example/research_access_policy/researchaccesspolicy/rules/Decision -/
def k10 : Class := { plain "com/example/research_access_policy/researchaccesspolicy/rules/Decision" (some 9) with
  accessFlags := 49
  interfaces := #[]
  cf := some (fileOf pool10 8 #[] #[{ accessFlags := 1, nameIndex := 5, descriptorIndex := 32, attributes := #[] }, { accessFlags := 1, nameIndex := 89, descriptorIndex := 29, attributes := #[] }] 49 2 #[] #[{ accessFlags := 18, nameIndex := 11, descriptorIndex := 12, attributes := #[] }, { accessFlags := 18, nameIndex := 15, descriptorIndex := 16, attributes := #[] }, { accessFlags := 25, nameIndex := 52, descriptorIndex := 53, attributes := #[] }, { accessFlags := 25, nameIndex := 58, descriptorIndex := 53, attributes := #[] }, { accessFlags := 25, nameIndex := 63, descriptorIndex := 53, attributes := #[] }, { accessFlags := 25, nameIndex := 68, descriptorIndex := 53, attributes := #[] }, { accessFlags := 25, nameIndex := 73, descriptorIndex := 53, attributes := #[] }, { accessFlags := 25, nameIndex := 78, descriptorIndex := 53, attributes := #[] }, { accessFlags := 25, nameIndex := 83, descriptorIndex := 53, attributes := #[] }])
  fields := #[{ name := "allowed", type := .boolean, accessFlags := 18, slot := 0, constantValue := 0 }, { name := "reason", type := (.object "java/lang/String"), accessFlags := 18, slot := 1, constantValue := 0 }, { name := "SUPER_ADMIN", type := (.object "com/example/research_access_policy/researchaccesspolicy/rules/Decision"), accessFlags := 25, slot := 0, constantValue := 0 }, { name := "PROPOSAL_MEMBER", type := (.object "com/example/research_access_policy/researchaccesspolicy/rules/Decision"), accessFlags := 25, slot := 1, constantValue := 0 }, { name := "SESSION_MEMBER", type := (.object "com/example/research_access_policy/researchaccesspolicy/rules/Decision"), accessFlags := 25, slot := 2, constantValue := 0 }, { name := "UNKNOWN_SESSION", type := (.object "com/example/research_access_policy/researchaccesspolicy/rules/Decision"), accessFlags := 25, slot := 3, constantValue := 0 }, { name := "UNKNOWN_SUBJECT", type := (.object "com/example/research_access_policy/researchaccesspolicy/rules/Decision"), accessFlags := 25, slot := 4, constantValue := 0 }, { name := "WRONG_BEAMLINE", type := (.object "com/example/research_access_policy/researchaccesspolicy/rules/Decision"), accessFlags := 25, slot := 5, constantValue := 0 }, { name := "NOT_PERMITTED", type := (.object "com/example/research_access_policy/researchaccesspolicy/rules/Decision"), accessFlags := 25, slot := 6, constantValue := 0 }]
  methods := #[k10m0, k10m1]
  instanceTypes := #[.boolean, (.object "java/lang/String")]
  staticTypes := #[(.object "com/example/research_access_policy/researchaccesspolicy/rules/Decision"), (.object "com/example/research_access_policy/researchaccesspolicy/rules/Decision"), (.object "com/example/research_access_policy/researchaccesspolicy/rules/Decision"), (.object "com/example/research_access_policy/researchaccesspolicy/rules/Decision"), (.object "com/example/research_access_policy/researchaccesspolicy/rules/Decision"), (.object "com/example/research_access_policy/researchaccesspolicy/rules/Decision"), (.object "com/example/research_access_policy/researchaccesspolicy/rules/Decision")]
  resolved := Array.replicate 118 none
  statics := none }

def pool11 : Array CpInfo := pool [(1, .class_ 2), (0, u "java/lang/Appendable"), (0, .class_ 4), (0, u "java/lang/Object")] 9

/-- java/lang/Appendable -/
def k11 : Class := { plain "java/lang/Appendable" (some 0) with
  accessFlags := 1537
  interfaces := #[]
  cf := some (fileOf pool11 1 #[] #[] 1537 3 #[] #[])
  fields := #[]
  methods := #[]
  instanceTypes := #[]
  staticTypes := #[]
  resolved := Array.replicate 14 none
  statics := none }

def pool12 : Array CpInfo := pool [(1, .class_ 2), (0, u "java/lang/String"), (0, .methodref 4 5), (0, .class_ 6), (0, .nameAndType 7 8), (0, u "java/lang/Object"), (0, u "<init>"), (0, u "()V"), (1, .class_ 12), (1, u "java/lang/AbstractStringBuilder"), (0, u "EMPTYVALUE"), (0, u "[B"), (0, .fieldref 10 16), (0, .nameAndType 17 14), (0, u "value"), (0, .fieldref 1 19), (0, .nameAndType 20 21), (0, u "COMPACT_STRINGS"), (0, u "Z"), (0, .fieldref 10 23), (0, .nameAndType 24 25), (0, u "coder"), (0, u "B"), (0, .methodref 27 28), (0, .class_ 29), (0, .nameAndType 30 31), (0, u "java/lang/StringUTF16"), (0, u "newBytesFor"), (0, u "(I)[B"), (0, .methodref 1 33), (0, .nameAndType 34 35), (0, u "length"), (0, u "()I"), (4, .methodref 1 41), (0, .nameAndType 24 42), (0, u "()B"), (2, u "append"), (0, u "(Ljava/lang/String;)Ljava/lang/AbstractStringBuilder;"), (1, .class_ 49), (0, u "java/lang/CharSequence"), (19, u "(Ljava/lang/String;)V"), (5, u "maybeLatin1"), (3, .fieldref 10 80), (0, .nameAndType 81 82), (0, u "count"), (0, u "I"), (0, .methodref 10 84), (0, .nameAndType 85 86), (0, u "isLatin1"), (0, u "()Z"), (1, .class_ 90), (1, u "java/lang/StringLatin1"), (9, .methodref 10 101), (0, .nameAndType 102 103), (0, u "ensureCapacityInternal"), (0, u "(I)V"), (21, .methodref 88 126), (0, .nameAndType 127 128), (0, u "inflate"), (0, u "([BI[BII)V"), (66, .methodref 10 196), (0, .nameAndType 127 8), (11, .methodref 10 209), (0, .nameAndType 210 211), (0, u "putStringAt"), (0, u "(ILjava/lang/String;)V"), (5, u "inflateIfNeededFor"), (2, .nameAndType 221 222), (0, u "getBytes"), (0, u "([BIB)V"), (174, .methodref 10 398), (0, .nameAndType 217 69), (0, .methodref 1 220), (3, u "()[B"), (40, .class_ 445), (0, u "java/lang/Appendable"), (106, u "getValue")] 56

def k12m0 : Method := { name := "<init>", desc := "()V", sig := { parameters := [], returnType := none }, accessFlags := 0, code := none }
def k12c1 : Code := { maxStack := 2, maxLocals := 2, code := jdk_68_method_2_code, exceptionTable := #[], attributes := #[] }
def k12m1 : Method := { name := "<init>", desc := "(I)V", sig := { parameters := [.int], returnType := none }, accessFlags := 0, code := some k12c1 }
def k12c2 : Code := { maxStack := 1, maxLocals := 1, code := jdk_68_method_6_code, exceptionTable := #[], attributes := #[] }
def k12m2 : Method := { name := "length", desc := "()I", sig := { parameters := [], returnType := some .int }, accessFlags := 1, code := some k12c2 }
def k12c3 : Code := { maxStack := 4, maxLocals := 3, code := jdk_68_method_9_code, exceptionTable := #[], attributes := #[] }
def k12m3 : Method := { name := "ensureCapacityInternal", desc := "(I)V", sig := { parameters := [.int], returnType := none }, accessFlags := 2, code := some k12c3 }
def k12c4 : Code := { maxStack := 5, maxLocals := 2, code := jdk_68_method_11_code, exceptionTable := #[], attributes := #[] }
def k12m4 : Method := { name := "inflate", desc := "()V", sig := { parameters := [], returnType := none }, accessFlags := 2, code := some k12c4 }
def k12c5 : Code := { maxStack := 3, maxLocals := 3, code := jdk_68_method_22_code, exceptionTable := #[], attributes := #[] }
def k12m5 : Method := { name := "append", desc := "(Ljava/lang/String;)Ljava/lang/AbstractStringBuilder;", sig := { parameters := [(.object "java/lang/String")], returnType := some (.object "java/lang/AbstractStringBuilder") }, accessFlags := 1, code := some k12c5 }
def k12c6 : Code := { maxStack := 1, maxLocals := 1, code := jdk_68_method_64_code, exceptionTable := #[], attributes := #[] }
def k12m6 : Method := { name := "getValue", desc := "()[B", sig := { parameters := [], returnType := some (.array .byte) }, accessFlags := 16, code := some k12c6 }
def k12c7 : Code := { maxStack := 1, maxLocals := 1, code := jdk_68_method_68_code, exceptionTable := #[], attributes := #[] }
def k12m7 : Method := { name := "isLatin1", desc := "()Z", sig := { parameters := [], returnType := some .boolean }, accessFlags := 16, code := some k12c7 }
def k12c8 : Code := { maxStack := 2, maxLocals := 2, code := jdk_68_method_71_code, exceptionTable := #[], attributes := #[] }
def k12m8 : Method := { name := "inflateIfNeededFor", desc := "(Ljava/lang/String;)V", sig := { parameters := [(.object "java/lang/String")], returnType := none }, accessFlags := 2, code := some k12c8 }
def k12c9 : Code := { maxStack := 4, maxLocals := 3, code := jdk_68_method_73_code, exceptionTable := #[], attributes := #[] }
def k12m9 : Method := { name := "putStringAt", desc := "(ILjava/lang/String;)V", sig := { parameters := [.int, (.object "java/lang/String")], returnType := none }, accessFlags := 2, code := some k12c9 }
/-- java/lang/AbstractStringBuilder -/
def k12 : Class := { plain "java/lang/AbstractStringBuilder" (some 0) with
  accessFlags := 1056
  interfaces := #[11, 4]
  cf := some (fileOf pool12 10 #[] #[{ accessFlags := 0, nameIndex := 7, descriptorIndex := 8, attributes := #[] }, { accessFlags := 0, nameIndex := 7, descriptorIndex := 103, attributes := #[] }, { accessFlags := 1, nameIndex := 34, descriptorIndex := 35, attributes := #[] }, { accessFlags := 2, nameIndex := 102, descriptorIndex := 103, attributes := #[] }, { accessFlags := 2, nameIndex := 127, descriptorIndex := 8, attributes := #[] }, { accessFlags := 1, nameIndex := 45, descriptorIndex := 46, attributes := #[] }, { accessFlags := 16, nameIndex := 552, descriptorIndex := 403, attributes := #[] }, { accessFlags := 16, nameIndex := 85, descriptorIndex := 86, attributes := #[] }, { accessFlags := 2, nameIndex := 217, descriptorIndex := 69, attributes := #[] }, { accessFlags := 2, nameIndex := 210, descriptorIndex := 211, attributes := #[] }] 1056 4 #[444, 48] #[{ accessFlags := 0, nameIndex := 17, descriptorIndex := 14, attributes := #[] }, { accessFlags := 0, nameIndex := 24, descriptorIndex := 25, attributes := #[] }, { accessFlags := 0, nameIndex := 75, descriptorIndex := 21, attributes := #[] }, { accessFlags := 0, nameIndex := 81, descriptorIndex := 82, attributes := #[] }, { accessFlags := 26, nameIndex := 13, descriptorIndex := 14, attributes := #[] }])
  fields := #[{ name := "value", type := (.array .byte), accessFlags := 0, slot := 0, constantValue := 0 }, { name := "coder", type := .byte, accessFlags := 0, slot := 1, constantValue := 0 }, { name := "maybeLatin1", type := .boolean, accessFlags := 0, slot := 2, constantValue := 0 }, { name := "count", type := .int, accessFlags := 0, slot := 3, constantValue := 0 }, { name := "EMPTYVALUE", type := (.array .byte), accessFlags := 26, slot := 0, constantValue := 0 }]
  methods := #[k12m0, k12m1, k12m2, k12m3, k12m4, k12m5, k12m6, k12m7, k12m8, k12m9]
  instanceTypes := #[(.array .byte), .byte, .boolean, .int]
  staticTypes := #[(.array .byte)]
  resolved := Array.replicate 609 none
  statics := none }

def pool13 : Array CpInfo := pool [(1, .methodref 2 3), (0, .class_ 4), (0, .nameAndType 5 6), (0, u "java/lang/AbstractStringBuilder"), (0, u "<init>"), (0, u "(I)V"), (11, .class_ 20), (1, u "java/lang/String"), (3, .class_ 26), (1, u "java/lang/StringBuilder"), (0, u "append"), (0, u "(Ljava/lang/String;)Ljava/lang/StringBuilder;"), (0, .methodref 2 30), (0, .nameAndType 27 31), (0, u "(Ljava/lang/String;)Ljava/lang/AbstractStringBuilder;"), (105, .methodref 18 138), (0, .nameAndType 5 139), (0, u "(Ljava/lang/StringBuilder;)V"), (5, u "()V"), (10, u "()I"), (186, .methodref 2 344), (0, .nameAndType 345 156), (0, u "length"), (3, .class_ 350), (0, u "java/lang/Appendable"), (0, .class_ 352), (0, u "java/io/Serializable"), (0, .class_ 354), (0, u "java/lang/Comparable"), (0, .class_ 356), (0, u "java/lang/CharSequence"), (0, u "serialVersionUID"), (0, u "J"), (40, u "toString"), (0, u "()Ljava/lang/String;")] 21

def k13c0 : Code := { maxStack := 2, maxLocals := 1, code := jdk_67_method_1_code, exceptionTable := #[], attributes := #[] }
def k13m0 : Method := { name := "<init>", desc := "()V", sig := { parameters := [], returnType := none }, accessFlags := 1, code := some k13c0 }
def k13c1 : Code := { maxStack := 2, maxLocals := 2, code := jdk_67_method_7_code, exceptionTable := #[], attributes := #[] }
def k13m1 : Method := { name := "append", desc := "(Ljava/lang/String;)Ljava/lang/StringBuilder;", sig := { parameters := [(.object "java/lang/String")], returnType := some (.object "java/lang/StringBuilder") }, accessFlags := 1, code := some k13c1 }
def k13c2 : Code := { maxStack := 3, maxLocals := 1, code := jdk_67_method_42_code, exceptionTable := #[], attributes := #[] }
def k13m2 : Method := { name := "toString", desc := "()Ljava/lang/String;", sig := { parameters := [], returnType := some (.object "java/lang/String") }, accessFlags := 1, code := some k13c2 }
def k13c3 : Code := { maxStack := 1, maxLocals := 1, code := jdk_67_method_93_code, exceptionTable := #[], attributes := #[] }
def k13m3 : Method := { name := "length", desc := "()I", sig := { parameters := [], returnType := some .int }, accessFlags := 4161, code := some k13c3 }
/-- java/lang/StringBuilder -/
def k13 : Class := { plain "java/lang/StringBuilder" (some 12) with
  accessFlags := 49
  interfaces := #[11, 2, 3, 4]
  cf := some (fileOf pool13 24 #[] #[{ accessFlags := 1, nameIndex := 5, descriptorIndex := 145, attributes := #[] }, { accessFlags := 1, nameIndex := 27, descriptorIndex := 28, attributes := #[] }, { accessFlags := 1, nameIndex := 399, descriptorIndex := 400, attributes := #[] }, { accessFlags := 4161, nameIndex := 345, descriptorIndex := 156, attributes := #[] }] 49 2 #[349, 351, 353, 355] #[{ accessFlags := 24, nameIndex := 357, descriptorIndex := 358, attributes := #[] }])
  fields := #[{ name := "serialVersionUID", type := .long, accessFlags := 24, slot := 0, constantValue := 0 }]
  methods := #[k13m0, k13m1, k13m2, k13m3]
  instanceTypes := #[(.array .byte), .byte, .boolean, .int]
  staticTypes := #[.long]
  resolved := Array.replicate 422 none
  statics := none }

def pool14 : Array CpInfo := pool [(2, .class_ 4), (1, u "java/lang/Object"), (0, u "<init>"), (0, u "()V"), (1, .class_ 10), (1, u "java/lang/System"), (0, u "allowSecurityManager"), (0, u "I"), (16, u "cons"), (0, u "Ljava/io/Console;"), (77, .class_ 110), (1, u "java/lang/System$CallersHolder"), (43, u "initialErrStream"), (0, u "Ljava/io/PrintStream;"), (19, u "security"), (0, u "Ljava/lang/SecurityManager;"), (31, .class_ 209), (0, u "java/lang/System$1"), (7, u "props"), (0, u "Ljava/util/Properties;"), (2, u "lineSeparator"), (0, u "Ljava/lang/String;"), (96, .class_ 321), (1, u "java/lang/System$LoggerFinder"), (5, .class_ 328), (0, u "java/lang/System$Logger"), (67, u "err"), (2, u "out"), (91, u "notSupportedJnuEncoding"), (15, u "in"), (17, u "initialIn"), (0, u "Ljava/io/InputStream;"), (35, u "bootLayer"), (0, u "Ljava/lang/ModuleLayer;"), (99, .class_ 664), (0, u "java/lang/System$2"), (9, u "NEVER"), (2, u "MAYBE"), (49, u "arraycopy"), (0, u "(Ljava/lang/Object;ILjava/lang/Object;II)V"), (72, .class_ 802), (0, u "java/lang/System$Logger$Level")] 31

def k14m0 : Method := { name := "<init>", desc := "()V", sig := { parameters := [], returnType := none }, accessFlags := 2, code := none }
def k14m1 : Method := { name := "arraycopy", desc := "(Ljava/lang/Object;ILjava/lang/Object;II)V", sig := { parameters := [(.object "java/lang/Object"), .int, (.object "java/lang/Object"), .int, .int], returnType := none }, accessFlags := 265, code := none }
/-- java/lang/System -/
def k14 : Class := { plain "java/lang/System" (some 0) with
  accessFlags := 49
  interfaces := #[]
  cf := some (fileOf pool14 8 #[.nestMembers #[319, 327, 801, 108, 663, 208]] #[{ accessFlags := 2, nameIndex := 5, descriptorIndex := 6, attributes := #[] }, { accessFlags := 265, nameIndex := 727, descriptorIndex := 728, attributes := #[] }] 49 2 #[] #[{ accessFlags := 25, nameIndex := 507, descriptorIndex := 526, attributes := #[] }, { accessFlags := 25, nameIndex := 399, descriptorIndex := 155, attributes := #[] }, { accessFlags := 25, nameIndex := 396, descriptorIndex := 155, attributes := #[] }, { accessFlags := 10, nameIndex := 525, descriptorIndex := 526, attributes := #[] }, { accessFlags := 26, nameIndex := 674, descriptorIndex := 12, attributes := #[] }, { accessFlags := 26, nameIndex := 677, descriptorIndex := 12, attributes := #[] }, { accessFlags := 10, nameIndex := 11, descriptorIndex := 12, attributes := #[] }, { accessFlags := 74, nameIndex := 175, descriptorIndex := 176, attributes := #[] }, { accessFlags := 10, nameIndex := 491, descriptorIndex := 222, attributes := #[] }, { accessFlags := 74, nameIndex := 29, descriptorIndex := 30, attributes := #[] }, { accessFlags := 74, nameIndex := 154, descriptorIndex := 155, attributes := #[] }, { accessFlags := 10, nameIndex := 217, descriptorIndex := 218, attributes := #[] }, { accessFlags := 10, nameIndex := 221, descriptorIndex := 222, attributes := #[] }, { accessFlags := 8, nameIndex := 562, descriptorIndex := 563, attributes := #[] }])
  fields := #[{ name := "in", type := (.object "java/io/InputStream"), accessFlags := 25, slot := 0, constantValue := 0 }, { name := "out", type := (.object "java/io/PrintStream"), accessFlags := 25, slot := 1, constantValue := 0 }, { name := "err", type := (.object "java/io/PrintStream"), accessFlags := 25, slot := 2, constantValue := 0 }, { name := "initialIn", type := (.object "java/io/InputStream"), accessFlags := 10, slot := 3, constantValue := 0 }, { name := "NEVER", type := .int, accessFlags := 26, slot := 4, constantValue := 0 }, { name := "MAYBE", type := .int, accessFlags := 26, slot := 5, constantValue := 0 }, { name := "allowSecurityManager", type := .int, accessFlags := 10, slot := 6, constantValue := 0 }, { name := "security", type := (.object "java/lang/SecurityManager"), accessFlags := 74, slot := 7, constantValue := 0 }, { name := "notSupportedJnuEncoding", type := (.object "java/lang/String"), accessFlags := 10, slot := 8, constantValue := 0 }, { name := "cons", type := (.object "java/io/Console"), accessFlags := 74, slot := 9, constantValue := 0 }, { name := "initialErrStream", type := (.object "java/io/PrintStream"), accessFlags := 74, slot := 10, constantValue := 0 }, { name := "props", type := (.object "java/util/Properties"), accessFlags := 10, slot := 11, constantValue := 0 }, { name := "lineSeparator", type := (.object "java/lang/String"), accessFlags := 10, slot := 12, constantValue := 0 }, { name := "bootLayer", type := (.object "java/lang/ModuleLayer"), accessFlags := 8, slot := 13, constantValue := 0 }]
  methods := #[k14m0, k14m1]
  instanceTypes := #[]
  staticTypes := #[(.object "java/io/InputStream"), (.object "java/io/PrintStream"), (.object "java/io/PrintStream"), (.object "java/io/InputStream"), .int, .int, .int, (.object "java/lang/SecurityManager"), (.object "java/lang/String"), (.object "java/io/Console"), (.object "java/io/PrintStream"), (.object "java/util/Properties"), (.object "java/lang/String"), (.object "java/lang/ModuleLayer")]
  resolved := Array.replicate 834 none
  statics := none }

def pool15 : Array CpInfo := pool [(2, .class_ 4), (1, u "java/lang/Object"), (0, u "<init>"), (0, u "()V"), (7, .class_ 16), (1, u "java/util/Arrays"), (57, .class_ 76), (1, u "java/util/Arrays$NaturalOrder"), (36, .class_ 115), (1, u "java/util/Arrays$LegacyMergeSort"), (1, u "Z"), (21, u "copyOfRange"), (10, .methodref 151 152), (0, .class_ 153), (0, .nameAndType 154 155), (0, u "java/lang/System"), (0, u "arraycopy"), (0, u "(Ljava/lang/Object;ILjava/lang/Object;II)V"), (148, .methodref 305 306), (0, .class_ 307), (0, .nameAndType 308 309), (0, u "java/lang/Math"), (0, u "min"), (0, u "(II)I"), (29, .methodref 14 340), (0, .nameAndType 341 342), (0, u "copyOfRangeByte"), (0, u "([BII)[B"), (0, .methodref 14 344), (0, .nameAndType 345 346), (0, u "checkLength"), (0, u "(II)V"), (28, .class_ 376), (0, u "java/util/Arrays$ArrayList"), (68, u "$assertionsDisabled"), (269, u "MIN_ARRAY_SORT_GRAN"), (0, u "I"), (2, u "INSERTIONSORT_THRESHOLD"), (255, .class_ 976), (0, u "java/util/Arrays$ArrayItr")] 52

def k15m0 : Method := { name := "<init>", desc := "()V", sig := { parameters := [], returnType := none }, accessFlags := 2, code := none }
def k15c1 : Code := { maxStack := 4, maxLocals := 2, code := jdk_65_method_131_code, exceptionTable := #[], attributes := #[] }
def k15m1 : Method := { name := "checkLength", desc := "(II)V", sig := { parameters := [.int, .int], returnType := none }, accessFlags := 10, code := some k15c1 }
def k15c2 : Code := { maxStack := 3, maxLocals := 3, code := jdk_65_method_132_code, exceptionTable := #[], attributes := #[] }
def k15m2 : Method := { name := "copyOfRange", desc := "([BII)[B", sig := { parameters := [(.array .byte), .int, .int], returnType := some (.array .byte) }, accessFlags := 9, code := some k15c2 }
def k15c3 : Code := { maxStack := 6, maxLocals := 5, code := jdk_65_method_133_code, exceptionTable := #[], attributes := #[] }
def k15m3 : Method := { name := "copyOfRangeByte", desc := "([BII)[B", sig := { parameters := [(.array .byte), .int, .int], returnType := some (.array .byte) }, accessFlags := 10, code := some k15c3 }
/-- java/util/Arrays -/
def k15 : Class := { plain "java/util/Arrays" (some 0) with
  accessFlags := 49
  interfaces := #[]
  cf := some (fileOf pool15 14 #[.nestMembers #[975, 375, 113, 74]] #[{ accessFlags := 2, nameIndex := 5, descriptorIndex := 6, attributes := #[] }, { accessFlags := 10, nameIndex := 345, descriptorIndex := 346, attributes := #[] }, { accessFlags := 9, nameIndex := 139, descriptorIndex := 342, attributes := #[] }, { accessFlags := 10, nameIndex := 341, descriptorIndex := 342, attributes := #[] }] 49 2 #[] #[{ accessFlags := 26, nameIndex := 715, descriptorIndex := 716, attributes := #[] }, { accessFlags := 26, nameIndex := 719, descriptorIndex := 716, attributes := #[] }, { accessFlags := 4120, nameIndex := 445, descriptorIndex := 117, attributes := #[] }])
  fields := #[{ name := "MIN_ARRAY_SORT_GRAN", type := .int, accessFlags := 26, slot := 0, constantValue := 0 }, { name := "INSERTIONSORT_THRESHOLD", type := .int, accessFlags := 26, slot := 1, constantValue := 0 }, { name := "$assertionsDisabled", type := .boolean, accessFlags := 4120, slot := 2, constantValue := 0 }]
  methods := #[k15m0, k15m1, k15m2, k15m3]
  instanceTypes := #[]
  staticTypes := #[.int, .int, .boolean]
  resolved := Array.replicate 1029 none
  statics := none }

def pool16 : Array CpInfo := pool [(1, .class_ 2), (0, u "java/lang/Math"), (1, .class_ 6), (1, u "java/lang/Object"), (0, u "<init>"), (0, u "()V"), (89, .class_ 100), (1, u "java/lang/Math$RandomNumberGeneratorHolder"), (71, u "negativeZeroFloatBits"), (0, u "J"), (2, u "negativeZeroDoubleBits"), (24, u "min"), (43, u "$assertionsDisabled"), (0, u "Z"), (88, u "(II)I"), (2, u "twoToTheDoubleScaleDown"), (0, u "D"), (4, u "twoToTheDoubleScaleUp"), (9, u "E"), (3, u "PI"), (2, u "TAU"), (2, u "DEGREES_TO_RADIANS"), (0, u "RADIANS_TO_DEGREES")] 94

def k16m0 : Method := { name := "<init>", desc := "()V", sig := { parameters := [], returnType := none }, accessFlags := 2, code := none }
def k16c1 : Code := { maxStack := 2, maxLocals := 2, code := jdk_29_method_69_code, exceptionTable := #[], attributes := #[] }
def k16m1 : Method := { name := "min", desc := "(II)I", sig := { parameters := [.int, .int], returnType := some .int }, accessFlags := 9, code := some k16c1 }
/-- java/lang/Math -/
def k16 : Class := { plain "java/lang/Math" (some 0) with
  accessFlags := 49
  interfaces := #[]
  cf := some (fileOf pool16 1 #[.nestMembers #[98]] #[{ accessFlags := 2, nameIndex := 7, descriptorIndex := 8, attributes := #[] }, { accessFlags := 9, nameIndex := 201, descriptorIndex := 335, attributes := #[] }] 49 4 #[] #[{ accessFlags := 25, nameIndex := 354, descriptorIndex := 339, attributes := #[] }, { accessFlags := 25, nameIndex := 358, descriptorIndex := 339, attributes := #[] }, { accessFlags := 25, nameIndex := 361, descriptorIndex := 339, attributes := #[] }, { accessFlags := 26, nameIndex := 364, descriptorIndex := 339, attributes := #[] }, { accessFlags := 26, nameIndex := 365, descriptorIndex := 339, attributes := #[] }, { accessFlags := 26, nameIndex := 172, descriptorIndex := 173, attributes := #[] }, { accessFlags := 26, nameIndex := 176, descriptorIndex := 173, attributes := #[] }, { accessFlags := 8, nameIndex := 344, descriptorIndex := 339, attributes := #[] }, { accessFlags := 8, nameIndex := 338, descriptorIndex := 339, attributes := #[] }, { accessFlags := 4120, nameIndex := 245, descriptorIndex := 246, attributes := #[] }])
  fields := #[{ name := "E", type := .double, accessFlags := 25, slot := 0, constantValue := 0 }, { name := "PI", type := .double, accessFlags := 25, slot := 1, constantValue := 0 }, { name := "TAU", type := .double, accessFlags := 25, slot := 2, constantValue := 0 }, { name := "DEGREES_TO_RADIANS", type := .double, accessFlags := 26, slot := 3, constantValue := 0 }, { name := "RADIANS_TO_DEGREES", type := .double, accessFlags := 26, slot := 4, constantValue := 0 }, { name := "negativeZeroFloatBits", type := .long, accessFlags := 26, slot := 5, constantValue := 0 }, { name := "negativeZeroDoubleBits", type := .long, accessFlags := 26, slot := 6, constantValue := 0 }, { name := "twoToTheDoubleScaleUp", type := .double, accessFlags := 8, slot := 7, constantValue := 0 }, { name := "twoToTheDoubleScaleDown", type := .double, accessFlags := 8, slot := 8, constantValue := 0 }, { name := "$assertionsDisabled", type := .boolean, accessFlags := 4120, slot := 9, constantValue := 0 }]
  methods := #[k16m0, k16m1]
  instanceTypes := #[]
  staticTypes := #[.double, .double, .double, .double, .double, .long, .long, .double, .double, .boolean]
  resolved := Array.replicate 460 none
  statics := none }

def pool17 : Array CpInfo := pool [(1, .class_ 2), (0, u "java/lang/String"), (1, .class_ 6), (1, u "java/lang/Object"), (0, u "<init>"), (0, u "()V"), (0, .methodref 1 10), (0, .nameAndType 11 12), (0, u "checkIndex"), (0, u "(II)V"), (1, .class_ 16), (1, u "java/lang/StringLatin1"), (0, u "inflate"), (2, .class_ 22), (1, u "java/lang/StringUTF16"), (3, .nameAndType 17 27), (0, u "([BI[BII)V"), (25, u "([BI)C"), (67, u "$assertionsDisabled"), (0, u "Z"), (98, .class_ 223), (1, u "java/lang/StringLatin1$LinesSpliterator"), (16, .methodref 20 26), (11, u "charAt"), (137, .class_ 391), (0, u "java/lang/StringLatin1$CharsSpliterator")] 3

def k17m0 : Method := { name := "<init>", desc := "()V", sig := { parameters := [], returnType := none }, accessFlags := 0, code := none }
def k17c1 : Code := { maxStack := 2, maxLocals := 2, code := jdk_43_method_2_code, exceptionTable := #[], attributes := #[] }
def k17m1 : Method := { name := "charAt", desc := "([BI)C", sig := { parameters := [(.array .byte), .int], returnType := some .char }, accessFlags := 9, code := some k17c1 }
def k17c2 : Code := { maxStack := 5, maxLocals := 5, code := jdk_43_method_50_code, exceptionTable := #[], attributes := #[] }
def k17m2 : Method := { name := "inflate", desc := "([BI[BII)V", sig := { parameters := [(.array .byte), .int, (.array .byte), .int, .int], returnType := none }, accessFlags := 9, code := some k17c2 }
/-- java/lang/StringLatin1 -/
def k17 : Class := { plain "java/lang/StringLatin1" (some 0) with
  accessFlags := 48
  interfaces := #[]
  cf := some (fileOf pool17 14 #[.nestMembers #[390, 221]] #[{ accessFlags := 0, nameIndex := 7, descriptorIndex := 8, attributes := #[] }, { accessFlags := 9, nameIndex := 252, descriptorIndex := 53, attributes := #[] }, { accessFlags := 9, nameIndex := 17, descriptorIndex := 27, attributes := #[] }] 48 4 #[] #[{ accessFlags := 4120, nameIndex := 121, descriptorIndex := 122, attributes := #[] }])
  fields := #[{ name := "$assertionsDisabled", type := .boolean, accessFlags := 4120, slot := 0, constantValue := 0 }]
  methods := #[k17m0, k17m1, k17m2]
  instanceTypes := #[]
  staticTypes := #[.boolean]
  resolved := Array.replicate 395 none
  statics := none }

def pool18 : Array CpInfo := pool [(2, .class_ 4), (1, u "java/lang/Object"), (0, u "<init>"), (0, u "()V"), (17, .class_ 26), (1, u "jdk/internal/util/Preconditions"), (6, u "checkIndex"), (15, u "checkFromIndexSize"), (5, .class_ 56), (0, u "jdk/internal/util/Preconditions$4"), (57, .class_ 115), (0, u "jdk/internal/util/Preconditions$1"), (7, u "SIOOBE_FORMATTER"), (0, u "Ljava/util/function/BiFunction;"), (0, .class_ 126), (0, u "jdk/internal/util/Preconditions$2"), (3, u "AIOOBE_FORMATTER"), (0, .class_ 132), (0, u "jdk/internal/util/Preconditions$3"), (3, u "IOOBE_FORMATTER"), (41, u "(IILjava/util/function/BiFunction;)I"), (4, u "(IIILjava/util/function/BiFunction;)I")] 10

def k18m0 : Method := { name := "<init>", desc := "()V", sig := { parameters := [], returnType := none }, accessFlags := 1, code := none }
def k18c1 : Code := { maxStack := 3, maxLocals := 3, code := jdk_41_method_11_code, exceptionTable := #[], attributes := #[] }
def k18m1 : Method := { name := "checkIndex", desc := "(IILjava/util/function/BiFunction;)I", sig := { parameters := [.int, .int, (.object "java/util/function/BiFunction")], returnType := some .int }, accessFlags := 9, code := some k18c1 }
def k18c2 : Code := { maxStack := 4, maxLocals := 4, code := jdk_41_method_13_code, exceptionTable := #[], attributes := #[] }
def k18m2 : Method := { name := "checkFromIndexSize", desc := "(IIILjava/util/function/BiFunction;)I", sig := { parameters := [.int, .int, .int, (.object "java/util/function/BiFunction")], returnType := some .int }, accessFlags := 9, code := some k18c2 }
/-- jdk/internal/util/Preconditions -/
def k18 : Class := { plain "jdk/internal/util/Preconditions" (some 0) with
  accessFlags := 33
  interfaces := #[]
  cf := some (fileOf pool18 24 #[.nestMembers #[55, 131, 125, 114]] #[{ accessFlags := 1, nameIndex := 5, descriptorIndex := 6, attributes := #[] }, { accessFlags := 9, nameIndex := 33, descriptorIndex := 178, attributes := #[] }, { accessFlags := 9, nameIndex := 49, descriptorIndex := 183, attributes := #[] }] 33 2 #[] #[{ accessFlags := 25, nameIndex := 123, descriptorIndex := 124, attributes := #[] }, { accessFlags := 25, nameIndex := 130, descriptorIndex := 124, attributes := #[] }, { accessFlags := 25, nameIndex := 136, descriptorIndex := 124, attributes := #[] }])
  fields := #[{ name := "SIOOBE_FORMATTER", type := (.object "java/util/function/BiFunction"), accessFlags := 25, slot := 0, constantValue := 0 }, { name := "AIOOBE_FORMATTER", type := (.object "java/util/function/BiFunction"), accessFlags := 25, slot := 1, constantValue := 0 }, { name := "IOOBE_FORMATTER", type := (.object "java/util/function/BiFunction"), accessFlags := 25, slot := 2, constantValue := 0 }]
  methods := #[k18m0, k18m1, k18m2]
  instanceTypes := #[]
  staticTypes := #[(.object "java/util/function/BiFunction"), (.object "java/util/function/BiFunction"), (.object "java/util/function/BiFunction")]
  resolved := Array.replicate 194 none
  statics := some 2 }

def pool19 : Array CpInfo := pool [(9, u "<init>"), (6, .class_ 18), (1, u "java/lang/Object"), (0, u "()V"), (1, .class_ 23), (1, u "jdk/internal/util/ArraysSupport"), (0, u "LOG2_ARRAY_LONG_INDEX_SCALE"), (0, u "I"), (2, u "U"), (0, u "Ljdk/internal/misc/Unsafe;"), (8, u "BIG_ENDIAN"), (0, u "Z"), (8, u "LOG2_BYTE_BIT_SIZE"), (4, u "LOG2_ARRAY_INT_INDEX_SCALE"), (54, u "JLA"), (0, u "Ljdk/internal/access/JavaLangAccess;"), (11, u "LOG2_ARRAY_BOOLEAN_INDEX_SCALE"), (9, u "LOG2_ARRAY_BYTE_INDEX_SCALE"), (5, u "LOG2_ARRAY_CHAR_INDEX_SCALE"), (5, u "LOG2_ARRAY_SHORT_INDEX_SCALE"), (18, u "LOG2_ARRAY_FLOAT_INDEX_SCALE"), (24, u "LOG2_ARRAY_DOUBLE_INDEX_SCALE"), (89, u "T_BOOLEAN"), (2, u "T_CHAR"), (1, u "T_FLOAT"), (1, u "T_DOUBLE"), (1, u "T_BYTE"), (1, u "T_SHORT"), (1, u "T_INT"), (1, u "T_LONG"), (1, u "SOFT_MAX_ARRAY_LENGTH")] 83

def k19m0 : Method := { name := "<init>", desc := "()V", sig := { parameters := [], returnType := none }, accessFlags := 2, code := none }
/-- jdk/internal/util/ArraysSupport -/
def k19 : Class := { plain "jdk/internal/util/ArraysSupport" (some 0) with
  accessFlags := 33
  interfaces := #[]
  cf := some (fileOf pool19 21 #[] #[{ accessFlags := 2, nameIndex := 9, descriptorIndex := 19, attributes := #[] }] 33 16 #[] #[{ accessFlags := 24, nameIndex := 28, descriptorIndex := 29, attributes := #[] }, { accessFlags := 26, nameIndex := 38, descriptorIndex := 39, attributes := #[] }, { accessFlags := 25, nameIndex := 121, descriptorIndex := 25, attributes := #[] }, { accessFlags := 25, nameIndex := 131, descriptorIndex := 25, attributes := #[] }, { accessFlags := 25, nameIndex := 137, descriptorIndex := 25, attributes := #[] }, { accessFlags := 25, nameIndex := 143, descriptorIndex := 25, attributes := #[] }, { accessFlags := 25, nameIndex := 53, descriptorIndex := 25, attributes := #[] }, { accessFlags := 25, nameIndex := 24, descriptorIndex := 25, attributes := #[] }, { accessFlags := 25, nameIndex := 162, descriptorIndex := 25, attributes := #[] }, { accessFlags := 25, nameIndex := 187, descriptorIndex := 25, attributes := #[] }, { accessFlags := 26, nameIndex := 48, descriptorIndex := 25, attributes := #[] }, { accessFlags := 25, nameIndex := 277, descriptorIndex := 25, attributes := #[] }, { accessFlags := 25, nameIndex := 280, descriptorIndex := 25, attributes := #[] }, { accessFlags := 25, nameIndex := 282, descriptorIndex := 25, attributes := #[] }, { accessFlags := 25, nameIndex := 284, descriptorIndex := 25, attributes := #[] }, { accessFlags := 25, nameIndex := 286, descriptorIndex := 25, attributes := #[] }, { accessFlags := 25, nameIndex := 288, descriptorIndex := 25, attributes := #[] }, { accessFlags := 25, nameIndex := 290, descriptorIndex := 25, attributes := #[] }, { accessFlags := 25, nameIndex := 292, descriptorIndex := 25, attributes := #[] }, { accessFlags := 26, nameIndex := 108, descriptorIndex := 109, attributes := #[] }, { accessFlags := 25, nameIndex := 294, descriptorIndex := 25, attributes := #[] }])
  fields := #[{ name := "U", type := (.object "jdk/internal/misc/Unsafe"), accessFlags := 24, slot := 0, constantValue := 0 }, { name := "BIG_ENDIAN", type := .boolean, accessFlags := 26, slot := 1, constantValue := 0 }, { name := "LOG2_ARRAY_BOOLEAN_INDEX_SCALE", type := .int, accessFlags := 25, slot := 2, constantValue := 0 }, { name := "LOG2_ARRAY_BYTE_INDEX_SCALE", type := .int, accessFlags := 25, slot := 3, constantValue := 0 }, { name := "LOG2_ARRAY_CHAR_INDEX_SCALE", type := .int, accessFlags := 25, slot := 4, constantValue := 0 }, { name := "LOG2_ARRAY_SHORT_INDEX_SCALE", type := .int, accessFlags := 25, slot := 5, constantValue := 0 }, { name := "LOG2_ARRAY_INT_INDEX_SCALE", type := .int, accessFlags := 25, slot := 6, constantValue := 0 }, { name := "LOG2_ARRAY_LONG_INDEX_SCALE", type := .int, accessFlags := 25, slot := 7, constantValue := 0 }, { name := "LOG2_ARRAY_FLOAT_INDEX_SCALE", type := .int, accessFlags := 25, slot := 8, constantValue := 0 }, { name := "LOG2_ARRAY_DOUBLE_INDEX_SCALE", type := .int, accessFlags := 25, slot := 9, constantValue := 0 }, { name := "LOG2_BYTE_BIT_SIZE", type := .int, accessFlags := 26, slot := 10, constantValue := 0 }, { name := "T_BOOLEAN", type := .int, accessFlags := 25, slot := 11, constantValue := 0 }, { name := "T_CHAR", type := .int, accessFlags := 25, slot := 12, constantValue := 0 }, { name := "T_FLOAT", type := .int, accessFlags := 25, slot := 13, constantValue := 0 }, { name := "T_DOUBLE", type := .int, accessFlags := 25, slot := 14, constantValue := 0 }, { name := "T_BYTE", type := .int, accessFlags := 25, slot := 15, constantValue := 0 }, { name := "T_SHORT", type := .int, accessFlags := 25, slot := 16, constantValue := 0 }, { name := "T_INT", type := .int, accessFlags := 25, slot := 17, constantValue := 0 }, { name := "T_LONG", type := .int, accessFlags := 25, slot := 18, constantValue := 0 }, { name := "JLA", type := (.object "jdk/internal/access/JavaLangAccess"), accessFlags := 26, slot := 19, constantValue := 0 }, { name := "SOFT_MAX_ARRAY_LENGTH", type := .int, accessFlags := 25, slot := 20, constantValue := 0 }]
  methods := #[k19m0]
  instanceTypes := #[]
  staticTypes := #[(.object "jdk/internal/misc/Unsafe"), .boolean, .int, .int, .int, .int, .int, .int, .int, .int, .int, .int, .int, .int, .int, .int, .int, .int, .int, (.object "jdk/internal/access/JavaLangAccess"), .int]
  resolved := Array.replicate 378 none
  statics := none }

def pool20 : Array CpInfo := pool [(1, u "java/lang/Cloneable"), (0, .class_ 1), (0, u "java/lang/Object"), (0, .class_ 3)] 3

/-- java/lang/Cloneable -/
def k20 : Class := { plain "java/lang/Cloneable" (some 0) with
  accessFlags := 1537
  interfaces := #[]
  cf := some (fileOf pool20 2 #[] #[] 1537 4 #[] #[])
  fields := #[]
  methods := #[]
  instanceTypes := #[]
  staticTypes := #[]
  resolved := Array.replicate 8 none
  statics := none }

/-- the primitive byte -/
def k21 : Class := { plain "byte" none with kind := .primitive 'B', accessFlags := 0x411 }
/-- [B -/
def k22 : Class := { plain "[B" (some 0) with kind := .array 21 .byte, interfaces := #[20, 2], accessFlags := 1041 }

/-- the primitive char -/
def k23 : Class := { plain "char" none with kind := .primitive 'C', accessFlags := 0x411 }
/-- [C -/
def k24 : Class := { plain "[C" (some 0) with kind := .array 23 .char, interfaces := #[20, 2], accessFlags := 1041 }

/-- the primitive int -/
def k25 : Class := { plain "int" none with kind := .primitive 'I', accessFlags := 0x411 }
/-- [I -/
def k26 : Class := { plain "[I" (some 0) with kind := .array 25 .int, interfaces := #[20, 2], accessFlags := 1041 }

def heap : Heap := #[{ cls := 7, slots := #[.long 0, .int 1, .null, .int 0, .null, .int 0, .int 0], vm := .statics 7 },
  { cls := 8, slots := #[.int 0, .int 8, .int 0, .int 1], vm := .statics 8 },
  { cls := 18, slots := #[.null, .null, .null], vm := .statics 18 }]
def classes : Array Class := #[k0, k1, k2, k3, k4, k5, k6, k7, k8, k9, k10, k11, k12, k13, k14, k15, k16, k17, k18, k19, k20, k21, k22, k23, k24, k25, k26]
def interned : List (Array UInt16 × Addr) := []
def slotsUsed : Nat := 14
def theMethod : MethodId := ⟨1, 2⟩
def args0 : Array Value := #[.int 5, .int 5, .int 5, .int 5, .int 5]
def aboutOver (below : List Frame) : State where
  vm := { classes := classes, interned := interned.toArray }
  heap := heap
  slotsUsed := slotsUsed
  threads := #[{ frames := .invoking theMethod args0 :: below }]
def below0 : List Frame := [.native { method := ⟨0, 0⟩, args := #[] }]
def about1 : State := aboutOver below0
def p0 : Program := .bare "" "" ""
def e0 : Env := launch0.env 0 0 0
theorem w_frames : about1.frames = Frame.invoking theMethod args0 :: below0 := rfl
set_option maxRecDepth 65536 in
theorem w_args : argsFit about1.vm theMethod args0 = true := by decide +kernel
set_option maxRecDepth 65536 in
theorem w_heap : heapFits about1 = true := by decide +kernel
set_option maxRecDepth 65536 in
theorem w_runnable : about1.curStatus? = some .runnable := by decide +kernel
set_option maxRecDepth 65536 in
theorem w_alone : about1.alone = true := by decide +kernel
set_option maxRecDepth 65536 in
theorem w_named : about1.methodNamed? x = some theMethod := by decide +kernel
set_option maxRecDepth 65536 in
theorem w_hears : about1.hears theMethod below0 = true := by decide +kernel
set_option maxRecDepth 65536 in
theorem w_ripe : about1.ripe theMethod args0 below0 = true := by decide +kernel
theorem w_running : about1.status = .running := rfl
set_option maxRecDepth 65536 in
theorem w_room : about1.hasRoom e0.platform room_1 = true :=
  launch0.hasRoom_least _ room_1 (by decide +kernel) (by decide +kernel) (by decide +kernel) (by decide +kernel) (by decide +kernel) (by decide +kernel)
theorem allAtoms_all (ts : List Jvm.Cond) (a : Array Jvm.Value) (st : Jvm.State) : (allAtoms ts).before a st = ts.all (fun c => c.before a st) := by
  induction ts with
  | nil => rfl
  | cons c t ih =>
    show (Jvm.Cond.and c (allAtoms t)).before a st = _
    rw [Jvm.Cond.before_and, ih, List.all_cons]
def words1 : List Jvm.Cond := Jvm.Cond.code x code maxLocals ret :: tables_1
/-- a 'code' word, met by the world's own term for the bytes: nothing is compared byte by byte -/
theorem code_word {y : MethodName} {bytes : ByteArray} {mx : Nat} {rt : Option FieldType} {a : Array Value} {s : State} {m : MethodId} {meth : Method} {c : Code} (h1 : s.methodNamed? y = some m) (h2 : s.vm.method? m = some meth) (h3 : meth.code = some c) (h4 : c.code = bytes)
    (h5 : (c.maxLocals == mx && c.exceptionTable.isEmpty && decide (c.maxStack ≤ mostOperands) && decide (meth.sig.returnType = rt) && !meth.locks && decide (parseMethodDescriptor y.desc = some meth.sig)) = true) : (Jvm.Cond.code y bytes mx rt).before a s = true := by
  simp only [Bool.and_eq_true, beq_iff_eq, Bool.not_eq_true', decide_eq_true_eq] at h5
  obtain ⟨⟨⟨⟨⟨g1, g2⟩, g3⟩, g4⟩, g5⟩, g6⟩ := h5
  simp [Cond.before, Cond.holds, Cond.value, h1, h2, h3, h4, g1, g2, g3, g4, g5, g6]
def isCode : Jvm.Cond → Bool
  | .code _ _ _ _ => true
  | _ => false
theorem all_split {L : List Jvm.Cond} {P : Jvm.Cond → Bool} (h1 : L.all (fun c => isCode c || P c) = true) (h2 : ∀ c ∈ L.filter isCode, P c = true) : L.all P = true := by
  refine List.all_eq_true.mpr fun c hc => ?_
  have h := List.all_eq_true.mp h1 c hc
  rcases Bool.eq_false_or_eq_true (isCode c) with hi | hi
  · exact h2 c (List.mem_filter.mpr ⟨hc, hi⟩)
  · simpa [hi] using h
set_option maxRecDepth 65536 in
theorem w_c0 : (Jvm.Cond.code x code maxLocals ret).before args0 about1 = true := code_word (m := ⟨1, 2⟩) (meth := k1m2) (c := k1c2) (by decide +kernel) rfl rfl rfl (by decide +kernel)
set_option maxRecDepth 65536 in
theorem w_c1 : (Jvm.Cond.code ({ cls := "com/example/research_access_policy/researchaccesspolicy/rules/DecisionLinePinLaw", name := "make", desc := "(ICCC)Ljava/lang/String;" } : Jvm.MethodName) method_2_code (5 : Nat) (Option.some (Jvm.ClassFile.FieldType.object "java/lang/String"))).before args0 about1 = true := code_word (m := ⟨1, 1⟩) (meth := k1m1) (c := k1c1) (by decide +kernel) rfl rfl rfl (by decide +kernel)
set_option maxRecDepth 65536 in
theorem w_c2 : (Jvm.Cond.code ({ cls := "java/lang/String", name := "<init>", desc := "([C)V" } : Jvm.MethodName) jdk_42_method_3_code (2 : Nat) (Option.none : Option Jvm.ClassFile.FieldType)).before args0 about1 = true := code_word (m := ⟨7, 1⟩) (meth := k7m1) (c := k7c1) (by decide +kernel) rfl rfl rfl (by decide +kernel)
set_option maxRecDepth 65536 in
theorem w_c3 : (Jvm.Cond.code ({ cls := "java/lang/String", name := "<init>", desc := "([CIILjava/lang/Void;)V" } : Jvm.MethodName) jdk_42_method_149_code (6 : Nat) (Option.none : Option Jvm.ClassFile.FieldType)).before args0 about1 = true := code_word (m := ⟨7, 6⟩) (meth := k7m6) (c := k7c6) (by decide +kernel) rfl rfl rfl (by decide +kernel)
set_option maxRecDepth 65536 in
theorem w_c4 : (Jvm.Cond.code ({ cls := "java/lang/Object", name := "<init>", desc := "()V" } : Jvm.MethodName) object_method_1_code (1 : Nat) (Option.none : Option Jvm.ClassFile.FieldType)).before args0 about1 = true := code_word (m := ⟨0, 0⟩) (meth := k0m0) (c := k0c0) (by decide +kernel) rfl rfl rfl (by decide +kernel)
set_option maxRecDepth 65536 in
theorem w_c5 : (Jvm.Cond.code ({ cls := "java/lang/StringUTF16", name := "compress", desc := "([CII)[B" } : Jvm.MethodName) jdk_52_method_16_code (6 : Nat) (Option.some (Jvm.ClassFile.FieldType.array Jvm.ClassFile.FieldType.byte))).before args0 about1 = true := code_word (m := ⟨8, 8⟩) (meth := k8m8) (c := k8c8) (by decide +kernel) rfl rfl rfl (by decide +kernel)
set_option maxRecDepth 65536 in
theorem w_c6 : (Jvm.Cond.code ({ cls := "java/lang/StringUTF16", name := "compress", desc := "([CI[BII)I" } : Jvm.MethodName) jdk_52_method_21_code (7 : Nat) (Option.some Jvm.ClassFile.FieldType.int)).before args0 about1 = true := code_word (m := ⟨8, 9⟩) (meth := k8m9) (c := k8c9) (by decide +kernel) rfl rfl rfl (by decide +kernel)
set_option maxRecDepth 65536 in
theorem w_c7 : (Jvm.Cond.code ({ cls := "java/lang/StringUTF16", name := "coderFromArrayLen", desc := "([BI)B" } : Jvm.MethodName) jdk_52_method_15_code (2 : Nat) (Option.some Jvm.ClassFile.FieldType.byte)).before args0 about1 = true := code_word (m := ⟨8, 7⟩) (meth := k8m7) (c := k8c7) (by decide +kernel) rfl rfl rfl (by decide +kernel)
set_option maxRecDepth 65536 in
theorem w_c8 : (Jvm.Cond.code ({ cls := "com/example/research_access_policy/researchaccesspolicy/rules/Decision", name := "<init>", desc := "(ZLjava/lang/String;)V" } : Jvm.MethodName) prog_12_method_1_code (3 : Nat) (Option.none : Option Jvm.ClassFile.FieldType)).before args0 about1 = true := code_word (m := ⟨10, 0⟩) (meth := k10m0) (c := k10c0) (by decide +kernel) rfl rfl rfl (by decide +kernel)
set_option maxRecDepth 65536 in
theorem w_c9 : (Jvm.Cond.code ({ cls := "java/lang/Record", name := "<init>", desc := "()V" } : Jvm.MethodName) jdk_30_method_1_code (1 : Nat) (Option.none : Option Jvm.ClassFile.FieldType)).before args0 about1 = true := code_word (m := ⟨9, 0⟩) (meth := k9m0) (c := k9c0) (by decide +kernel) rfl rfl rfl (by decide +kernel)
set_option maxRecDepth 65536 in
theorem w_c10 : (Jvm.Cond.code ({ cls := "com/example/research_access_policy/researchaccesspolicy/rules/Decision", name := "line", desc := "()Ljava/lang/String;" } : Jvm.MethodName) prog_12_method_3_code (1 : Nat) (Option.some (Jvm.ClassFile.FieldType.object "java/lang/String"))).before args0 about1 = true := code_word (m := ⟨10, 1⟩) (meth := k10m1) (c := k10c1) (by decide +kernel) rfl rfl rfl (by decide +kernel)
set_option maxRecDepth 65536 in
theorem w_c11 : (Jvm.Cond.code ({ cls := "java/lang/StringBuilder", name := "<init>", desc := "()V" } : Jvm.MethodName) jdk_67_method_1_code (1 : Nat) (Option.none : Option Jvm.ClassFile.FieldType)).before args0 about1 = true := code_word (m := ⟨13, 0⟩) (meth := k13m0) (c := k13c0) (by decide +kernel) rfl rfl rfl (by decide +kernel)
set_option maxRecDepth 65536 in
theorem w_c12 : (Jvm.Cond.code ({ cls := "java/lang/AbstractStringBuilder", name := "<init>", desc := "(I)V" } : Jvm.MethodName) jdk_68_method_2_code (2 : Nat) (Option.none : Option Jvm.ClassFile.FieldType)).before args0 about1 = true := code_word (m := ⟨12, 1⟩) (meth := k12m1) (c := k12c1) (by decide +kernel) rfl rfl rfl (by decide +kernel)
set_option maxRecDepth 65536 in
theorem w_c13 : (Jvm.Cond.code ({ cls := "java/lang/StringBuilder", name := "append", desc := "(Ljava/lang/String;)Ljava/lang/StringBuilder;" } : Jvm.MethodName) jdk_67_method_7_code (2 : Nat) (Option.some (Jvm.ClassFile.FieldType.object "java/lang/StringBuilder"))).before args0 about1 = true := code_word (m := ⟨13, 1⟩) (meth := k13m1) (c := k13c1) (by decide +kernel) rfl rfl rfl (by decide +kernel)
set_option maxRecDepth 65536 in
theorem w_c14 : (Jvm.Cond.code ({ cls := "java/lang/AbstractStringBuilder", name := "append", desc := "(Ljava/lang/String;)Ljava/lang/AbstractStringBuilder;" } : Jvm.MethodName) jdk_68_method_22_code (3 : Nat) (Option.some (Jvm.ClassFile.FieldType.object "java/lang/AbstractStringBuilder"))).before args0 about1 = true := code_word (m := ⟨12, 5⟩) (meth := k12m5) (c := k12c5) (by decide +kernel) rfl rfl rfl (by decide +kernel)
set_option maxRecDepth 65536 in
theorem w_c15 : (Jvm.Cond.code ({ cls := "java/lang/String", name := "length", desc := "()I" } : Jvm.MethodName) jdk_42_method_54_code (1 : Nat) (Option.some Jvm.ClassFile.FieldType.int)).before args0 about1 = true := code_word (m := ⟨7, 3⟩) (meth := k7m3) (c := k7c3) (by decide +kernel) rfl rfl rfl (by decide +kernel)
set_option maxRecDepth 65536 in
theorem w_c16 : (Jvm.Cond.code ({ cls := "java/lang/String", name := "coder", desc := "()B" } : Jvm.MethodName) jdk_42_method_152_code (1 : Nat) (Option.some Jvm.ClassFile.FieldType.byte)).before args0 about1 = true := code_word (m := ⟨7, 8⟩) (meth := k7m8) (c := k7c8) (by decide +kernel) rfl rfl rfl (by decide +kernel)
set_option maxRecDepth 65536 in
theorem w_c17 : (Jvm.Cond.code ({ cls := "java/lang/AbstractStringBuilder", name := "ensureCapacityInternal", desc := "(I)V" } : Jvm.MethodName) jdk_68_method_9_code (3 : Nat) (Option.none : Option Jvm.ClassFile.FieldType)).before args0 about1 = true := code_word (m := ⟨12, 3⟩) (meth := k12m3) (c := k12c3) (by decide +kernel) rfl rfl rfl (by decide +kernel)
set_option maxRecDepth 65536 in
theorem w_c18 : (Jvm.Cond.code ({ cls := "java/lang/AbstractStringBuilder", name := "putStringAt", desc := "(ILjava/lang/String;)V" } : Jvm.MethodName) jdk_68_method_73_code (3 : Nat) (Option.none : Option Jvm.ClassFile.FieldType)).before args0 about1 = true := code_word (m := ⟨12, 9⟩) (meth := k12m9) (c := k12c9) (by decide +kernel) rfl rfl rfl (by decide +kernel)
set_option maxRecDepth 65536 in
theorem w_c19 : (Jvm.Cond.code ({ cls := "java/lang/AbstractStringBuilder", name := "inflateIfNeededFor", desc := "(Ljava/lang/String;)V" } : Jvm.MethodName) jdk_68_method_71_code (2 : Nat) (Option.none : Option Jvm.ClassFile.FieldType)).before args0 about1 = true := code_word (m := ⟨12, 8⟩) (meth := k12m8) (c := k12c8) (by decide +kernel) rfl rfl rfl (by decide +kernel)
set_option maxRecDepth 65536 in
theorem w_c20 : (Jvm.Cond.code ({ cls := "java/lang/String", name := "getBytes", desc := "([BIB)V" } : Jvm.MethodName) jdk_42_method_147_code (4 : Nat) (Option.none : Option Jvm.ClassFile.FieldType)).before args0 about1 = true := code_word (m := ⟨7, 5⟩) (meth := k7m5) (c := k7c5) (by decide +kernel) rfl rfl rfl (by decide +kernel)
set_option maxRecDepth 65536 in
theorem w_c21 : (Jvm.Cond.code ({ cls := "java/lang/StringBuilder", name := "toString", desc := "()Ljava/lang/String;" } : Jvm.MethodName) jdk_67_method_42_code (1 : Nat) (Option.some (Jvm.ClassFile.FieldType.object "java/lang/String"))).before args0 about1 = true := code_word (m := ⟨13, 2⟩) (meth := k13m2) (c := k13c2) (by decide +kernel) rfl rfl rfl (by decide +kernel)
set_option maxRecDepth 65536 in
theorem w_c22 : (Jvm.Cond.code ({ cls := "java/lang/String", name := "<init>", desc := "(Ljava/lang/StringBuilder;)V" } : Jvm.MethodName) jdk_42_method_53_code (2 : Nat) (Option.none : Option Jvm.ClassFile.FieldType)).before args0 about1 = true := code_word (m := ⟨7, 2⟩) (meth := k7m2) (c := k7c2) (by decide +kernel) rfl rfl rfl (by decide +kernel)
set_option maxRecDepth 65536 in
theorem w_c23 : (Jvm.Cond.code ({ cls := "java/lang/String", name := "<init>", desc := "(Ljava/lang/AbstractStringBuilder;Ljava/lang/Void;)V" } : Jvm.MethodName) jdk_42_method_150_code (5 : Nat) (Option.none : Option Jvm.ClassFile.FieldType)).before args0 about1 = true := code_word (m := ⟨7, 7⟩) (meth := k7m7) (c := k7c7) (by decide +kernel) rfl rfl rfl (by decide +kernel)
set_option maxRecDepth 65536 in
theorem w_c24 : (Jvm.Cond.code ({ cls := "java/lang/AbstractStringBuilder", name := "getValue", desc := "()[B" } : Jvm.MethodName) jdk_68_method_64_code (1 : Nat) (Option.some (Jvm.ClassFile.FieldType.array Jvm.ClassFile.FieldType.byte))).before args0 about1 = true := code_word (m := ⟨12, 6⟩) (meth := k12m6) (c := k12c6) (by decide +kernel) rfl rfl rfl (by decide +kernel)
set_option maxRecDepth 65536 in
theorem w_c25 : (Jvm.Cond.code ({ cls := "java/lang/StringBuilder", name := "length", desc := "()I" } : Jvm.MethodName) jdk_67_method_93_code (1 : Nat) (Option.some Jvm.ClassFile.FieldType.int)).before args0 about1 = true := code_word (m := ⟨13, 3⟩) (meth := k13m3) (c := k13c3) (by decide +kernel) rfl rfl rfl (by decide +kernel)
set_option maxRecDepth 65536 in
theorem w_c26 : (Jvm.Cond.code ({ cls := "java/lang/AbstractStringBuilder", name := "length", desc := "()I" } : Jvm.MethodName) jdk_68_method_6_code (1 : Nat) (Option.some Jvm.ClassFile.FieldType.int)).before args0 about1 = true := code_word (m := ⟨12, 2⟩) (meth := k12m2) (c := k12c2) (by decide +kernel) rfl rfl rfl (by decide +kernel)
set_option maxRecDepth 65536 in
theorem w_c27 : (Jvm.Cond.code ({ cls := "java/lang/AbstractStringBuilder", name := "isLatin1", desc := "()Z" } : Jvm.MethodName) jdk_68_method_68_code (1 : Nat) (Option.some Jvm.ClassFile.FieldType.boolean)).before args0 about1 = true := code_word (m := ⟨12, 7⟩) (meth := k12m7) (c := k12c7) (by decide +kernel) rfl rfl rfl (by decide +kernel)
set_option maxRecDepth 65536 in
theorem w_c28 : (Jvm.Cond.code ({ cls := "java/util/Arrays", name := "copyOfRange", desc := "([BII)[B" } : Jvm.MethodName) jdk_65_method_132_code (3 : Nat) (Option.some (Jvm.ClassFile.FieldType.array Jvm.ClassFile.FieldType.byte))).before args0 about1 = true := code_word (m := ⟨15, 2⟩) (meth := k15m2) (c := k15c2) (by decide +kernel) rfl rfl rfl (by decide +kernel)
set_option maxRecDepth 65536 in
theorem w_c29 : (Jvm.Cond.code ({ cls := "java/util/Arrays", name := "copyOfRangeByte", desc := "([BII)[B" } : Jvm.MethodName) jdk_65_method_133_code (5 : Nat) (Option.some (Jvm.ClassFile.FieldType.array Jvm.ClassFile.FieldType.byte))).before args0 about1 = true := code_word (m := ⟨15, 3⟩) (meth := k15m3) (c := k15c3) (by decide +kernel) rfl rfl rfl (by decide +kernel)
set_option maxRecDepth 65536 in
theorem w_c30 : (Jvm.Cond.code ({ cls := "java/util/Arrays", name := "checkLength", desc := "(II)V" } : Jvm.MethodName) jdk_65_method_131_code (2 : Nat) (Option.none : Option Jvm.ClassFile.FieldType)).before args0 about1 = true := code_word (m := ⟨15, 1⟩) (meth := k15m1) (c := k15c1) (by decide +kernel) rfl rfl rfl (by decide +kernel)
set_option maxRecDepth 65536 in
theorem w_c31 : (Jvm.Cond.code ({ cls := "java/lang/Math", name := "min", desc := "(II)I" } : Jvm.MethodName) jdk_29_method_69_code (2 : Nat) (Option.some Jvm.ClassFile.FieldType.int)).before args0 about1 = true := code_word (m := ⟨16, 1⟩) (meth := k16m1) (c := k16c1) (by decide +kernel) rfl rfl rfl (by decide +kernel)
set_option maxRecDepth 65536 in
theorem w_c32 : (Jvm.Cond.code ({ cls := "java/lang/String", name := "charAt", desc := "(I)C" } : Jvm.MethodName) jdk_42_method_56_code (2 : Nat) (Option.some Jvm.ClassFile.FieldType.char)).before args0 about1 = true := code_word (m := ⟨7, 4⟩) (meth := k7m4) (c := k7c4) (by decide +kernel) rfl rfl rfl (by decide +kernel)
set_option maxRecDepth 65536 in
theorem w_c33 : (Jvm.Cond.code ({ cls := "java/lang/String", name := "isLatin1", desc := "()Z" } : Jvm.MethodName) jdk_42_method_154_code (1 : Nat) (Option.some Jvm.ClassFile.FieldType.boolean)).before args0 about1 = true := code_word (m := ⟨7, 9⟩) (meth := k7m9) (c := k7c9) (by decide +kernel) rfl rfl rfl (by decide +kernel)
set_option maxRecDepth 65536 in
theorem w_c34 : (Jvm.Cond.code ({ cls := "java/lang/StringLatin1", name := "charAt", desc := "([BI)C" } : Jvm.MethodName) jdk_43_method_2_code (2 : Nat) (Option.some Jvm.ClassFile.FieldType.char)).before args0 about1 = true := code_word (m := ⟨17, 1⟩) (meth := k17m1) (c := k17c1) (by decide +kernel) rfl rfl rfl (by decide +kernel)
set_option maxRecDepth 65536 in
theorem w_c35 : (Jvm.Cond.code ({ cls := "java/lang/String", name := "checkIndex", desc := "(II)V" } : Jvm.MethodName) jdk_42_method_155_code (2 : Nat) (Option.none : Option Jvm.ClassFile.FieldType)).before args0 about1 = true := code_word (m := ⟨7, 10⟩) (meth := k7m10) (c := k7c10) (by decide +kernel) rfl rfl rfl (by decide +kernel)
set_option maxRecDepth 65536 in
theorem w_c36 : (Jvm.Cond.code ({ cls := "jdk/internal/util/Preconditions", name := "checkIndex", desc := "(IILjava/util/function/BiFunction;)I" } : Jvm.MethodName) jdk_41_method_11_code (3 : Nat) (Option.some Jvm.ClassFile.FieldType.int)).before args0 about1 = true := code_word (m := ⟨18, 1⟩) (meth := k18m1) (c := k18c1) (by decide +kernel) rfl rfl rfl (by decide +kernel)
set_option maxRecDepth 65536 in
theorem w_c37 : (Jvm.Cond.code ({ cls := "java/lang/StringUTF16", name := "toBytes", desc := "([CII)[B" } : Jvm.MethodName) jdk_52_method_14_code (5 : Nat) (Option.some (Jvm.ClassFile.FieldType.array Jvm.ClassFile.FieldType.byte))).before args0 about1 = true := code_word (m := ⟨8, 6⟩) (meth := k8m6) (c := k8c6) (by decide +kernel) rfl rfl rfl (by decide +kernel)
set_option maxRecDepth 65536 in
theorem w_c38 : (Jvm.Cond.code ({ cls := "java/lang/StringUTF16", name := "newBytesFor", desc := "(I)[B" } : Jvm.MethodName) jdk_52_method_2_code (1 : Nat) (Option.some (Jvm.ClassFile.FieldType.array Jvm.ClassFile.FieldType.byte))).before args0 about1 = true := code_word (m := ⟨8, 1⟩) (meth := k8m1) (c := k8c1) (by decide +kernel) rfl rfl rfl (by decide +kernel)
set_option maxRecDepth 65536 in
theorem w_c39 : (Jvm.Cond.code ({ cls := "java/lang/StringUTF16", name := "newBytesLength", desc := "(I)I" } : Jvm.MethodName) jdk_52_method_3_code (1 : Nat) (Option.some Jvm.ClassFile.FieldType.int)).before args0 about1 = true := code_word (m := ⟨8, 2⟩) (meth := k8m2) (c := k8c2) (by decide +kernel) rfl rfl rfl (by decide +kernel)
set_option maxRecDepth 65536 in
theorem w_c40 : (Jvm.Cond.code ({ cls := "java/lang/StringUTF16", name := "putChar", desc := "([BII)V" } : Jvm.MethodName) jdk_52_method_4_code (3 : Nat) (Option.none : Option Jvm.ClassFile.FieldType)).before args0 about1 = true := code_word (m := ⟨8, 3⟩) (meth := k8m3) (c := k8c3) (by decide +kernel) rfl rfl rfl (by decide +kernel)
set_option maxRecDepth 65536 in
theorem w_c41 : (Jvm.Cond.code ({ cls := "java/lang/StringUTF16", name := "getChar", desc := "([BI)C" } : Jvm.MethodName) jdk_52_method_5_code (2 : Nat) (Option.some Jvm.ClassFile.FieldType.char)).before args0 about1 = true := code_word (m := ⟨8, 4⟩) (meth := k8m4) (c := k8c4) (by decide +kernel) rfl rfl rfl (by decide +kernel)
set_option maxRecDepth 65536 in
theorem w_c42 : (Jvm.Cond.code ({ cls := "java/lang/AbstractStringBuilder", name := "inflate", desc := "()V" } : Jvm.MethodName) jdk_68_method_11_code (2 : Nat) (Option.none : Option Jvm.ClassFile.FieldType)).before args0 about1 = true := code_word (m := ⟨12, 4⟩) (meth := k12m4) (c := k12c4) (by decide +kernel) rfl rfl rfl (by decide +kernel)
set_option maxRecDepth 65536 in
theorem w_c43 : (Jvm.Cond.code ({ cls := "java/lang/StringLatin1", name := "inflate", desc := "([BI[BII)V" } : Jvm.MethodName) jdk_43_method_50_code (5 : Nat) (Option.none : Option Jvm.ClassFile.FieldType)).before args0 about1 = true := code_word (m := ⟨17, 2⟩) (meth := k17m2) (c := k17c2) (by decide +kernel) rfl rfl rfl (by decide +kernel)
set_option maxRecDepth 65536 in
theorem w_c44 : (Jvm.Cond.code ({ cls := "java/lang/StringUTF16", name := "inflate", desc := "([BI[BII)V" } : Jvm.MethodName) jdk_52_method_86_code (6 : Nat) (Option.none : Option Jvm.ClassFile.FieldType)).before args0 about1 = true := code_word (m := ⟨8, 11⟩) (meth := k8m11) (c := k8c11) (by decide +kernel) rfl rfl rfl (by decide +kernel)
set_option maxRecDepth 65536 in
theorem w_c45 : (Jvm.Cond.code ({ cls := "java/lang/StringUTF16", name := "checkBoundsOffCount", desc := "(II[B)V" } : Jvm.MethodName) jdk_52_method_94_code (3 : Nat) (Option.none : Option Jvm.ClassFile.FieldType)).before args0 about1 = true := code_word (m := ⟨8, 13⟩) (meth := k8m13) (c := k8c13) (by decide +kernel) rfl rfl rfl (by decide +kernel)
set_option maxRecDepth 65536 in
theorem w_c46 : (Jvm.Cond.code ({ cls := "java/lang/StringUTF16", name := "length", desc := "([B)I" } : Jvm.MethodName) jdk_52_method_6_code (1 : Nat) (Option.some Jvm.ClassFile.FieldType.int)).before args0 about1 = true := code_word (m := ⟨8, 5⟩) (meth := k8m5) (c := k8c5) (by decide +kernel) rfl rfl rfl (by decide +kernel)
set_option maxRecDepth 65536 in
theorem w_c47 : (Jvm.Cond.code ({ cls := "java/lang/String", name := "checkBoundsOffCount", desc := "(III)I" } : Jvm.MethodName) jdk_42_method_157_code (3 : Nat) (Option.some Jvm.ClassFile.FieldType.int)).before args0 about1 = true := code_word (m := ⟨7, 11⟩) (meth := k7m11) (c := k7c11) (by decide +kernel) rfl rfl rfl (by decide +kernel)
set_option maxRecDepth 65536 in
theorem w_c48 : (Jvm.Cond.code ({ cls := "jdk/internal/util/Preconditions", name := "checkFromIndexSize", desc := "(IIILjava/util/function/BiFunction;)I" } : Jvm.MethodName) jdk_41_method_13_code (4 : Nat) (Option.some Jvm.ClassFile.FieldType.int)).before args0 about1 = true := code_word (m := ⟨18, 2⟩) (meth := k18m2) (c := k18c2) (by decide +kernel) rfl rfl rfl (by decide +kernel)
set_option maxRecDepth 65536 in
theorem w_c49 : (Jvm.Cond.code ({ cls := "java/lang/StringUTF16", name := "charAt", desc := "([BI)C" } : Jvm.MethodName) jdk_52_method_83_code (2 : Nat) (Option.some Jvm.ClassFile.FieldType.char)).before args0 about1 = true := code_word (m := ⟨8, 10⟩) (meth := k8m10) (c := k8c10) (by decide +kernel) rfl rfl rfl (by decide +kernel)
set_option maxRecDepth 65536 in
theorem w_c50 : (Jvm.Cond.code ({ cls := "java/lang/StringUTF16", name := "checkIndex", desc := "(I[B)V" } : Jvm.MethodName) jdk_52_method_91_code (2 : Nat) (Option.none : Option Jvm.ClassFile.FieldType)).before args0 about1 = true := code_word (m := ⟨8, 12⟩) (meth := k8m12) (c := k8c12) (by decide +kernel) rfl rfl rfl (by decide +kernel)
def codes1 : List Jvm.Cond := [Jvm.Cond.code x code maxLocals ret, Jvm.Cond.code ({ cls := "com/example/research_access_policy/researchaccesspolicy/rules/DecisionLinePinLaw", name := "make", desc := "(ICCC)Ljava/lang/String;" } : Jvm.MethodName) method_2_code (5 : Nat) (Option.some (Jvm.ClassFile.FieldType.object "java/lang/String")), Jvm.Cond.code ({ cls := "java/lang/String", name := "<init>", desc := "([C)V" } : Jvm.MethodName) jdk_42_method_3_code (2 : Nat) (Option.none : Option Jvm.ClassFile.FieldType), Jvm.Cond.code ({ cls := "java/lang/String", name := "<init>", desc := "([CIILjava/lang/Void;)V" } : Jvm.MethodName) jdk_42_method_149_code (6 : Nat) (Option.none : Option Jvm.ClassFile.FieldType), Jvm.Cond.code ({ cls := "java/lang/Object", name := "<init>", desc := "()V" } : Jvm.MethodName) object_method_1_code (1 : Nat) (Option.none : Option Jvm.ClassFile.FieldType), Jvm.Cond.code ({ cls := "java/lang/StringUTF16", name := "compress", desc := "([CII)[B" } : Jvm.MethodName) jdk_52_method_16_code (6 : Nat) (Option.some (Jvm.ClassFile.FieldType.array Jvm.ClassFile.FieldType.byte)), Jvm.Cond.code ({ cls := "java/lang/StringUTF16", name := "compress", desc := "([CI[BII)I" } : Jvm.MethodName) jdk_52_method_21_code (7 : Nat) (Option.some Jvm.ClassFile.FieldType.int), Jvm.Cond.code ({ cls := "java/lang/StringUTF16", name := "coderFromArrayLen", desc := "([BI)B" } : Jvm.MethodName) jdk_52_method_15_code (2 : Nat) (Option.some Jvm.ClassFile.FieldType.byte), Jvm.Cond.code ({ cls := "com/example/research_access_policy/researchaccesspolicy/rules/Decision", name := "<init>", desc := "(ZLjava/lang/String;)V" } : Jvm.MethodName) prog_12_method_1_code (3 : Nat) (Option.none : Option Jvm.ClassFile.FieldType), Jvm.Cond.code ({ cls := "java/lang/Record", name := "<init>", desc := "()V" } : Jvm.MethodName) jdk_30_method_1_code (1 : Nat) (Option.none : Option Jvm.ClassFile.FieldType), Jvm.Cond.code ({ cls := "com/example/research_access_policy/researchaccesspolicy/rules/Decision", name := "line", desc := "()Ljava/lang/String;" } : Jvm.MethodName) prog_12_method_3_code (1 : Nat) (Option.some (Jvm.ClassFile.FieldType.object "java/lang/String")), Jvm.Cond.code ({ cls := "java/lang/StringBuilder", name := "<init>", desc := "()V" } : Jvm.MethodName) jdk_67_method_1_code (1 : Nat) (Option.none : Option Jvm.ClassFile.FieldType), Jvm.Cond.code ({ cls := "java/lang/AbstractStringBuilder", name := "<init>", desc := "(I)V" } : Jvm.MethodName) jdk_68_method_2_code (2 : Nat) (Option.none : Option Jvm.ClassFile.FieldType), Jvm.Cond.code ({ cls := "java/lang/StringBuilder", name := "append", desc := "(Ljava/lang/String;)Ljava/lang/StringBuilder;" } : Jvm.MethodName) jdk_67_method_7_code (2 : Nat) (Option.some (Jvm.ClassFile.FieldType.object "java/lang/StringBuilder")), Jvm.Cond.code ({ cls := "java/lang/AbstractStringBuilder", name := "append", desc := "(Ljava/lang/String;)Ljava/lang/AbstractStringBuilder;" } : Jvm.MethodName) jdk_68_method_22_code (3 : Nat) (Option.some (Jvm.ClassFile.FieldType.object "java/lang/AbstractStringBuilder")), Jvm.Cond.code ({ cls := "java/lang/String", name := "length", desc := "()I" } : Jvm.MethodName) jdk_42_method_54_code (1 : Nat) (Option.some Jvm.ClassFile.FieldType.int), Jvm.Cond.code ({ cls := "java/lang/String", name := "coder", desc := "()B" } : Jvm.MethodName) jdk_42_method_152_code (1 : Nat) (Option.some Jvm.ClassFile.FieldType.byte), Jvm.Cond.code ({ cls := "java/lang/AbstractStringBuilder", name := "ensureCapacityInternal", desc := "(I)V" } : Jvm.MethodName) jdk_68_method_9_code (3 : Nat) (Option.none : Option Jvm.ClassFile.FieldType), Jvm.Cond.code ({ cls := "java/lang/AbstractStringBuilder", name := "putStringAt", desc := "(ILjava/lang/String;)V" } : Jvm.MethodName) jdk_68_method_73_code (3 : Nat) (Option.none : Option Jvm.ClassFile.FieldType), Jvm.Cond.code ({ cls := "java/lang/AbstractStringBuilder", name := "inflateIfNeededFor", desc := "(Ljava/lang/String;)V" } : Jvm.MethodName) jdk_68_method_71_code (2 : Nat) (Option.none : Option Jvm.ClassFile.FieldType), Jvm.Cond.code ({ cls := "java/lang/String", name := "getBytes", desc := "([BIB)V" } : Jvm.MethodName) jdk_42_method_147_code (4 : Nat) (Option.none : Option Jvm.ClassFile.FieldType), Jvm.Cond.code ({ cls := "java/lang/StringBuilder", name := "toString", desc := "()Ljava/lang/String;" } : Jvm.MethodName) jdk_67_method_42_code (1 : Nat) (Option.some (Jvm.ClassFile.FieldType.object "java/lang/String")), Jvm.Cond.code ({ cls := "java/lang/String", name := "<init>", desc := "(Ljava/lang/StringBuilder;)V" } : Jvm.MethodName) jdk_42_method_53_code (2 : Nat) (Option.none : Option Jvm.ClassFile.FieldType), Jvm.Cond.code ({ cls := "java/lang/String", name := "<init>", desc := "(Ljava/lang/AbstractStringBuilder;Ljava/lang/Void;)V" } : Jvm.MethodName) jdk_42_method_150_code (5 : Nat) (Option.none : Option Jvm.ClassFile.FieldType), Jvm.Cond.code ({ cls := "java/lang/AbstractStringBuilder", name := "getValue", desc := "()[B" } : Jvm.MethodName) jdk_68_method_64_code (1 : Nat) (Option.some (Jvm.ClassFile.FieldType.array Jvm.ClassFile.FieldType.byte)), Jvm.Cond.code ({ cls := "java/lang/StringBuilder", name := "length", desc := "()I" } : Jvm.MethodName) jdk_67_method_93_code (1 : Nat) (Option.some Jvm.ClassFile.FieldType.int), Jvm.Cond.code ({ cls := "java/lang/AbstractStringBuilder", name := "length", desc := "()I" } : Jvm.MethodName) jdk_68_method_6_code (1 : Nat) (Option.some Jvm.ClassFile.FieldType.int), Jvm.Cond.code ({ cls := "java/lang/AbstractStringBuilder", name := "isLatin1", desc := "()Z" } : Jvm.MethodName) jdk_68_method_68_code (1 : Nat) (Option.some Jvm.ClassFile.FieldType.boolean), Jvm.Cond.code ({ cls := "java/util/Arrays", name := "copyOfRange", desc := "([BII)[B" } : Jvm.MethodName) jdk_65_method_132_code (3 : Nat) (Option.some (Jvm.ClassFile.FieldType.array Jvm.ClassFile.FieldType.byte)), Jvm.Cond.code ({ cls := "java/util/Arrays", name := "copyOfRangeByte", desc := "([BII)[B" } : Jvm.MethodName) jdk_65_method_133_code (5 : Nat) (Option.some (Jvm.ClassFile.FieldType.array Jvm.ClassFile.FieldType.byte)), Jvm.Cond.code ({ cls := "java/util/Arrays", name := "checkLength", desc := "(II)V" } : Jvm.MethodName) jdk_65_method_131_code (2 : Nat) (Option.none : Option Jvm.ClassFile.FieldType), Jvm.Cond.code ({ cls := "java/lang/Math", name := "min", desc := "(II)I" } : Jvm.MethodName) jdk_29_method_69_code (2 : Nat) (Option.some Jvm.ClassFile.FieldType.int), Jvm.Cond.code ({ cls := "java/lang/String", name := "charAt", desc := "(I)C" } : Jvm.MethodName) jdk_42_method_56_code (2 : Nat) (Option.some Jvm.ClassFile.FieldType.char), Jvm.Cond.code ({ cls := "java/lang/String", name := "isLatin1", desc := "()Z" } : Jvm.MethodName) jdk_42_method_154_code (1 : Nat) (Option.some Jvm.ClassFile.FieldType.boolean), Jvm.Cond.code ({ cls := "java/lang/StringLatin1", name := "charAt", desc := "([BI)C" } : Jvm.MethodName) jdk_43_method_2_code (2 : Nat) (Option.some Jvm.ClassFile.FieldType.char), Jvm.Cond.code ({ cls := "java/lang/String", name := "checkIndex", desc := "(II)V" } : Jvm.MethodName) jdk_42_method_155_code (2 : Nat) (Option.none : Option Jvm.ClassFile.FieldType), Jvm.Cond.code ({ cls := "jdk/internal/util/Preconditions", name := "checkIndex", desc := "(IILjava/util/function/BiFunction;)I" } : Jvm.MethodName) jdk_41_method_11_code (3 : Nat) (Option.some Jvm.ClassFile.FieldType.int), Jvm.Cond.code ({ cls := "java/lang/StringUTF16", name := "toBytes", desc := "([CII)[B" } : Jvm.MethodName) jdk_52_method_14_code (5 : Nat) (Option.some (Jvm.ClassFile.FieldType.array Jvm.ClassFile.FieldType.byte)), Jvm.Cond.code ({ cls := "java/lang/StringUTF16", name := "newBytesFor", desc := "(I)[B" } : Jvm.MethodName) jdk_52_method_2_code (1 : Nat) (Option.some (Jvm.ClassFile.FieldType.array Jvm.ClassFile.FieldType.byte)), Jvm.Cond.code ({ cls := "java/lang/StringUTF16", name := "newBytesLength", desc := "(I)I" } : Jvm.MethodName) jdk_52_method_3_code (1 : Nat) (Option.some Jvm.ClassFile.FieldType.int), Jvm.Cond.code ({ cls := "java/lang/StringUTF16", name := "putChar", desc := "([BII)V" } : Jvm.MethodName) jdk_52_method_4_code (3 : Nat) (Option.none : Option Jvm.ClassFile.FieldType), Jvm.Cond.code ({ cls := "java/lang/StringUTF16", name := "getChar", desc := "([BI)C" } : Jvm.MethodName) jdk_52_method_5_code (2 : Nat) (Option.some Jvm.ClassFile.FieldType.char), Jvm.Cond.code ({ cls := "java/lang/AbstractStringBuilder", name := "inflate", desc := "()V" } : Jvm.MethodName) jdk_68_method_11_code (2 : Nat) (Option.none : Option Jvm.ClassFile.FieldType), Jvm.Cond.code ({ cls := "java/lang/StringLatin1", name := "inflate", desc := "([BI[BII)V" } : Jvm.MethodName) jdk_43_method_50_code (5 : Nat) (Option.none : Option Jvm.ClassFile.FieldType), Jvm.Cond.code ({ cls := "java/lang/StringUTF16", name := "inflate", desc := "([BI[BII)V" } : Jvm.MethodName) jdk_52_method_86_code (6 : Nat) (Option.none : Option Jvm.ClassFile.FieldType), Jvm.Cond.code ({ cls := "java/lang/StringUTF16", name := "checkBoundsOffCount", desc := "(II[B)V" } : Jvm.MethodName) jdk_52_method_94_code (3 : Nat) (Option.none : Option Jvm.ClassFile.FieldType), Jvm.Cond.code ({ cls := "java/lang/StringUTF16", name := "length", desc := "([B)I" } : Jvm.MethodName) jdk_52_method_6_code (1 : Nat) (Option.some Jvm.ClassFile.FieldType.int), Jvm.Cond.code ({ cls := "java/lang/String", name := "checkBoundsOffCount", desc := "(III)I" } : Jvm.MethodName) jdk_42_method_157_code (3 : Nat) (Option.some Jvm.ClassFile.FieldType.int), Jvm.Cond.code ({ cls := "jdk/internal/util/Preconditions", name := "checkFromIndexSize", desc := "(IIILjava/util/function/BiFunction;)I" } : Jvm.MethodName) jdk_41_method_13_code (4 : Nat) (Option.some Jvm.ClassFile.FieldType.int), Jvm.Cond.code ({ cls := "java/lang/StringUTF16", name := "charAt", desc := "([BI)C" } : Jvm.MethodName) jdk_52_method_83_code (2 : Nat) (Option.some Jvm.ClassFile.FieldType.char), Jvm.Cond.code ({ cls := "java/lang/StringUTF16", name := "checkIndex", desc := "(I[B)V" } : Jvm.MethodName) jdk_52_method_91_code (2 : Nat) (Option.none : Option Jvm.ClassFile.FieldType)]
set_option maxRecDepth 65536 in
theorem codes_eq : words1.filter isCode = codes1 := rfl
theorem w_codes : ∀ c ∈ words1.filter isCode, c.before args0 about1 = true := by
  rw [codes_eq]
  intro c hc
  simp only [codes1, List.mem_cons, List.not_mem_nil, or_false] at hc
  rcases hc with rfl | rfl | rfl | rfl | rfl | rfl | rfl | rfl | rfl | rfl | rfl | rfl | rfl | rfl | rfl | rfl | rfl | rfl | rfl | rfl | rfl | rfl | rfl | rfl | rfl | rfl | rfl | rfl | rfl | rfl | rfl | rfl | rfl | rfl | rfl | rfl | rfl | rfl | rfl | rfl | rfl | rfl | rfl | rfl | rfl | rfl | rfl | rfl | rfl | rfl | rfl
  · exact w_c0
  · exact w_c1
  · exact w_c2
  · exact w_c3
  · exact w_c4
  · exact w_c5
  · exact w_c6
  · exact w_c7
  · exact w_c8
  · exact w_c9
  · exact w_c10
  · exact w_c11
  · exact w_c12
  · exact w_c13
  · exact w_c14
  · exact w_c15
  · exact w_c16
  · exact w_c17
  · exact w_c18
  · exact w_c19
  · exact w_c20
  · exact w_c21
  · exact w_c22
  · exact w_c23
  · exact w_c24
  · exact w_c25
  · exact w_c26
  · exact w_c27
  · exact w_c28
  · exact w_c29
  · exact w_c30
  · exact w_c31
  · exact w_c32
  · exact w_c33
  · exact w_c34
  · exact w_c35
  · exact w_c36
  · exact w_c37
  · exact w_c38
  · exact w_c39
  · exact w_c40
  · exact w_c41
  · exact w_c42
  · exact w_c43
  · exact w_c44
  · exact w_c45
  · exact w_c46
  · exact w_c47
  · exact w_c48
  · exact w_c49
  · exact w_c50
set_option maxRecDepth 65536 in
theorem w_t1 : (words1.take 24).all (fun c => isCode c || c.before args0 about1) = true := by decide +kernel
set_option maxRecDepth 65536 in
theorem w_t2 : ((words1.drop 24).take 24).all (fun c => isCode c || c.before args0 about1) = true := by decide +kernel
set_option maxRecDepth 65536 in
theorem w_t3 : (((words1.drop 24).drop 24).take 24).all (fun c => isCode c || c.before args0 about1) = true := by decide +kernel
set_option maxRecDepth 65536 in
theorem w_t4 : ((((words1.drop 24).drop 24).drop 24).take 24).all (fun c => isCode c || c.before args0 about1) = true := by decide +kernel
set_option maxRecDepth 65536 in
theorem w_t5 : (((((words1.drop 24).drop 24).drop 24).drop 24).take 24).all (fun c => isCode c || c.before args0 about1) = true := by decide +kernel
set_option maxRecDepth 65536 in
theorem w_t6 : ((((((words1.drop 24).drop 24).drop 24).drop 24).drop 24).take 24).all (fun c => isCode c || c.before args0 about1) = true := by decide +kernel
set_option maxRecDepth 65536 in
theorem w_t7 : (((((((words1.drop 24).drop 24).drop 24).drop 24).drop 24).drop 24).take 24).all (fun c => isCode c || c.before args0 about1) = true := by decide +kernel
set_option maxRecDepth 65536 in
theorem w_t8 : ((((((((words1.drop 24).drop 24).drop 24).drop 24).drop 24).drop 24).drop 24).take 24).all (fun c => isCode c || c.before args0 about1) = true := by decide +kernel
set_option maxRecDepth 65536 in
theorem w_t9 : (((((((((words1.drop 24).drop 24).drop 24).drop 24).drop 24).drop 24).drop 24).drop 24).take 24).all (fun c => isCode c || c.before args0 about1) = true := by decide +kernel
set_option maxRecDepth 65536 in
theorem w_t10 : ((((((((((words1.drop 24).drop 24).drop 24).drop 24).drop 24).drop 24).drop 24).drop 24).drop 24).take 24).all (fun c => isCode c || c.before args0 about1) = true := by decide +kernel
set_option maxRecDepth 65536 in
theorem w_t11 : ((((((((((words1.drop 24).drop 24).drop 24).drop 24).drop 24).drop 24).drop 24).drop 24).drop 24).drop 24).all (fun c => isCode c || c.before args0 about1) = true := by decide +kernel
theorem w_tables : (allAtoms (Jvm.Cond.code x code maxLocals ret :: tables_1)).before args0 about1 = true := by
  rw [allAtoms_all]
  show words1.all (fun c => c.before args0 about1) = true
  refine all_split ?_ w_codes
  rw [← List.take_append_drop 24 words1, List.all_append, w_t1, ← List.take_append_drop 24 (words1.drop 24), List.all_append, w_t2, ← List.take_append_drop 24 ((words1.drop 24).drop 24), List.all_append, w_t3, ← List.take_append_drop 24 (((words1.drop 24).drop 24).drop 24), List.all_append, w_t4, ← List.take_append_drop 24 ((((words1.drop 24).drop 24).drop 24).drop 24), List.all_append, w_t5, ← List.take_append_drop 24 (((((words1.drop 24).drop 24).drop 24).drop 24).drop 24), List.all_append, w_t6, ← List.take_append_drop 24 ((((((words1.drop 24).drop 24).drop 24).drop 24).drop 24).drop 24), List.all_append, w_t7, ← List.take_append_drop 24 (((((((words1.drop 24).drop 24).drop 24).drop 24).drop 24).drop 24).drop 24), List.all_append, w_t8, ← List.take_append_drop 24 ((((((((words1.drop 24).drop 24).drop 24).drop 24).drop 24).drop 24).drop 24).drop 24), List.all_append, w_t9, ← List.take_append_drop 24 (((((((((words1.drop 24).drop 24).drop 24).drop 24).drop 24).drop 24).drop 24).drop 24).drop 24), List.all_append, w_t10, w_t11]
  rfl
set_option maxRecDepth 65536 in
theorem w_rest : rest_1_c.before args0 about1 = true := by decide +kernel
set_option maxRecDepth 65536 in
theorem w_case : (Jvm.Cond.and given_1 narrow_1).before args0 about1 = true := by decide +kernel
set_option maxRecDepth 65536 in
theorem w_consts : constsHeld consts_1 about1 := Jvm.Lit.constsHeldB_iff.mp (by decide +kernel)
theorem w_applies : (headSpec (Jvm.Cond.code x code maxLocals ret :: tables_1) room_1).applies x e0.platform about1 = true :=
  (Spec.applies_iff w_frames).mpr ⟨w_running, w_runnable, w_alone, w_named, w_hears, w_ripe, w_room, w_tables⟩
theorem atStart : AtStart classFile x code maxLocals ret World_1 tables_1 room_1 Calls_1 rest_1 Pre_1 launch0 p0 e0 about1 theMethod args0 below0 :=
  ⟨lists_1, trivial, launch0.admits_env _ _ _, launch0.least_env, fairChoices_fair.cas, fairChoices_fair.clock, w_frames, w_args, w_heap, w_applies, ⟨w_consts, trivial⟩, w_rest, w_case⟩
end start1
theorem witness_1 : WitnessClaimed_1 := ⟨start1.p0, start1.e0, start1.about1, start1.theMethod, start1.args0, start1.below0, start1.atStart⟩
end Jvm.Pilot.@@N@@
