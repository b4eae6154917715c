import JvmDerived
import JvmDerived.Pilot.@@N@@Statement
import JvmDerived.Pilot.@@N@@Code
set_option linter.unusedVariables false
set_option linter.unusedSimpArgs false
namespace Jvm.Pilot.@@N@@
open Jvm Jvm.ClassFile Sem Op Lib Jvm.Free Jvm.Stand Jvm.LawKit Jvm.RoadKit Bundle Jvm.Pilot.@@N@@.Jvm.D
section OwnKit
variable {p : Program} {l : Launch} {e : Env} {R : Room} {s : State} {m : MethodId} {args : Array Value} {below : List Frame} {meth : Method} {c : Code} {T : State} {locs : List Loc} {cells slots : Nat}
/-- the contract of a body at given arguments and a given heap -/
def own_Con (l : Launch) (Z : State) (y : MethodName) (bytes : ByteArray) (maxL : Nat) (ret : Option FieldType) (ws : List Jvm.Cond) (rm : Room) (as' : Array Value) (h0 : Heap) (Q : Option Value → Heap → List Loc → Prop) : Prop :=
  MetFree l y (head1 (Jvm.Cond.code y bytes maxL ret :: ws) rm) (fun a U => a = as' ∧ Z.Warmed39 U.vm ∧ U.heap = h0) (fun _ _ _ _ _ => True) (fun _ U o U' => ∃ v L, o = .returned v ∧ Q v U'.heap L ∧ FrameEnd U o U' L rm.cells rm.slots)
/-- G holds of a state where the walk is owed; it goes backwards over steps -/
def own_Bk (p : Program) (e : Env) (below : List Frame) (G : State → Prop) : Prop := ∀ S S', (∀ t, Steps p.tables e below S' t → Steps p.tables e below S t) → G S' → G S
/-- a walk may end where its body returns -/
def own_Rt (p : Program) (l : Launch) (e : Env) (rm : Room) (s : State) (m : MethodId) (as' : Array Value) (below : List Frame) (meth : Method) (c : Code) (ret : Option FieldType) (Q : Option Value → Heap → List Loc → Prop) (G : State → Prop) : Prop :=
  ∀ T locs cells slots v S, Stand p l e rm s m as' below meth c T locs cells slots → cells ≤ rm.cells → slots ≤ rm.slots → (ret = none → v = none) → Q v T.heap locs →
    (∀ fs, (∀ (f : JFrame) (acts : List Action), f.method = m → f.locked = none → f.entered = [] → (doReturn e (T.setTop f) acts v).1 = T.setFrames fs) → Steps p.tables e below S (T.setFrames fs)) → G S
theorem own_intro {Z : State} {y : MethodName} {bytes : ByteArray} {maxL : Nat} {ret : Option FieldType} {ws : List Jvm.Cond} {rm : Room} {as' : Array Value} {h0 : Heap} {Q : Option Value → Heap → List Loc → Prop} (hpn : plainFor y = true)
    (H : ∀ (p : Program) (e : Env) (s : State) (m : MethodId) (below : List Frame) (meth : Method) (c : Code) (s₁ : State) (G : State → Prop), p.tables.exec = Jvm.exec → c.code = bytes → c.maxLocals = maxL → s.vm.findClass y.cls = some m.cls → meth.name = y.name → meth.sig.returnType = ret → Z.Warmed39 s.vm →
      Stand p l e rm s m as' below meth c s₁ [] 0 0 → s₁.heap = h0 → own_Bk p e below G → own_Rt p l e rm s m as' below meth c ret Q G → G (s₁.setTop (entryFrame m as' maxL))) : own_Con l Z y bytes maxL ret ws rm as' h0 Q := by
  refine MetFree.of_bodySF hpn hisR ?_
  intro p e s m args below meth c s₁ Bd hml hP hK
  obtain ⟨rfl, hZ, hh⟩ := hP
  refine H p e s m below meth c s₁ (fun S => ∃ s₂ o, Steps p.tables e below S s₂ ∧ s₂.status = .running ∧ Ended s₂ below o ∧ ∃ v L, o = .returned v ∧ Q v s₂.heap L ∧ FrameEnd s o s₂ L rm.cells rm.slots) Bd.exec Bd.bytes hml (findClass_of_methodNamed Bd.named) (name_of_methodNamed Bd.named Bd.method).1 Bd.returns hZ (Stand.of_body Bd) (by rw [← hh, Bd.state]; rfl) ?_ ?_
  · rintro S S' st ⟨s₂, o, h1, h2⟩
    exact ⟨s₂, o, st _ h1, h2⟩
  · intro T locs cells slots v S X hc hs hv hQ hst
    obtain ⟨fs, hr, hrun, hended, hW, hsame⟩ := X.leave (v := v) (fun h => hv (Bd.returns ▸ h))
    exact ⟨_, _, hst fs hr, hrun, hended, v, locs, rfl, hQ, ⟨_, rfl⟩, hW, hsame.mono hc hs⟩
section Rets
variable {Q : Option Value → Heap → List Loc → Prop} {G : State → Prop} {ret : Option FieldType} {pc : Nat} {Ls : Array Slot} {rest : List Value}
theorem own_retV (hR : own_Rt p l e R s m args below meth c none Q G) (hret : meth.sig.returnType = none) (X : Stand p l e R s m args below meth c T locs cells slots) (hx : p.tables.exec = Jvm.exec) (hd : decode c.code pc = .ok (.return_, 1)) (hc : cells ≤ R.cells) (hs : slots ≤ R.slots) (hQ : Q none T.heap locs) : G (T.setTop (mkF m pc Ls [])) :=
  hR T locs cells slots none _ X hc hs (fun _ => rfl) hQ fun fs hr => X.returnOut hx hret hd hr
theorem own_retA {t : FieldType} {v : Value} (hR : own_Rt p l e R s m args below meth c (some t) Q G) (hret : meth.sig.returnType = some t) (ht : t.isReference = true) (hv : v.isRef = true) (X : Stand p l e R s m args below meth c T locs cells slots) (hx : p.tables.exec = Jvm.exec) (hd : decode c.code pc = .ok (.areturn, 1)) (hc : cells ≤ R.cells) (hs : slots ≤ R.slots) (hQ : Q (some v) T.heap locs) : G (T.setTop (mkF m pc Ls (v :: rest))) :=
  hR T locs cells slots (some v) _ X hc hs (fun h => nomatch h) hQ fun fs hr => retOut X hx hret (by cases t <;> simp_all [FieldType.isReference, narrow]) (Or.inr (Or.inr (Or.inr (Or.inr ⟨rfl, ht, hv⟩)))) hd hr
theorem own_retI {z : Int32} (hR : own_Rt p l e R s m args below meth c (some .int) Q G) (hret : meth.sig.returnType = some .int) (X : Stand p l e R s m args below meth c T locs cells slots) (hx : p.tables.exec = Jvm.exec) (hd : decode c.code pc = .ok (.ireturn, 1)) (hc : cells ≤ R.cells) (hs : slots ≤ R.slots) (hQ : Q (some (.int z)) T.heap locs) : G (T.setTop (mkF m pc Ls (.int z :: rest))) :=
  hR T locs cells slots (some (.int z)) _ X hc hs (fun h => nomatch h) hQ fun fs hr => retOut X hx hret rfl (Or.inl ⟨rfl, Or.inl rfl, z, rfl⟩) hd hr
theorem own_retL {z : Int64} (hR : own_Rt p l e R s m args below meth c (some .long) Q G) (hret : meth.sig.returnType = some .long) (X : Stand p l e R s m args below meth c T locs cells slots) (hx : p.tables.exec = Jvm.exec) (hd : decode c.code pc = .ok (.lreturn, 1)) (hc : cells ≤ R.cells) (hs : slots ≤ R.slots) (hQ : Q (some (.long z)) T.heap locs) : G (T.setTop (mkF m pc Ls (.long z :: rest))) :=
  hR T locs cells slots (some (.long z)) _ X hc hs (fun h => nomatch h) hQ fun fs hr => retOut X hx hret rfl (Or.inr (Or.inl ⟨rfl, rfl, z, rfl⟩)) hd hr
theorem own_retN {z : Int32} {t : FieldType} (hR : own_Rt p l e R s m args below meth c (some t) Q G) (hret : meth.sig.returnType = some t) (ht : t = .boolean ∨ t = .byte ∨ t = .char ∨ t = .short) (X : Stand p l e R s m args below meth c T locs cells slots) (hx : p.tables.exec = Jvm.exec) (hd : decode c.code pc = .ok (.ireturn, 1)) (hc : cells ≤ R.cells) (hs : slots ≤ R.slots) (hQ : Q (some (.int (nar t z))) T.heap locs) : G (T.setTop (mkF m pc Ls (.int z :: rest))) :=
  hR T locs cells slots (some (.int (nar t z))) _ X hc hs (fun h => nomatch h) hQ fun fs hr => retN X hx hret ht hd hr
end Rets
section Calls
variable {Z : State} {a0 : Array Value} {own : String} {index : Nat} {y z : MethodName} {bytes : ByteArray} {maxL : Nat} {ret : Option FieldType} {rm : Room} {as' : Array Value} {h : Heap} {Q : Option Value → Heap → List Loc → Prop} {G : State → Prop} {pc : Nat} {Ls : Array Slot} {stk argsL rest : List Value}
theorem own_callS (X : Stand p l e R s m args below meth c T locs cells slots) (hx : p.tables.exec = Jvm.exec) (hZ : Z.Warmed39 s.vm) (hG : own_Bk p e below G) (hown : s.vm.findClass own = some m.cls)
    (w1 : (Jvm.Cond.methodLink own index y).before a0 Z = true) (w2 : (Jvm.Cond.static y).before a0 Z = true) (w3 : (Jvm.Cond.initialized y.cls).before a0 Z = true) (w4 : (Jvm.Cond.code y bytes maxL ret).before a0 Z = true)
    (hy : y.cls ≠ "java/lang/invoke/MethodHandle" ∧ y.cls ≠ "java/lang/invoke/VarHandle") (W : Nat) (hM : own_Con l Z y bytes maxL ret [] rm as' h Q) (hf : rm.frames + 1 ≤ R.frames) (hlo : W + (maxL + 11) + rm.locals ≤ R.locals) (eT : T.heap = h)
    (hsize : Ls.size = c.maxLocals) (hlen : ∀ sig, parseMethodDescriptor y.desc = some sig → argsL.length = sig.parameters.length) (has : argsL.toArray = as') (hst : stk = argsL.reverse ++ rest) (hW : (rest.map fun v => v.category).sum ≤ W)
    (hd : decode c.code pc = .ok (.invokestatic index, 3)) (hc : cells + rm.cells ≤ R.cells) (hs : slots + rm.slots ≤ R.slots)
    (k : ∀ T' h' v L, Stand p l e R s m args below meth c T' (locs ++ L) (cells + rm.cells) (slots + rm.slots) → T'.heap = h' → Q v h' L → G (T'.setTop (mkF m (pc + 3) Ls (v.toList ++ rest)))) : G (T.setTop (mkF m pc Ls stk)) := by
  obtain ⟨v, _, ⟨T1, L1, k1, n1⟩, -, X1, ⟨L, hQ, rfl, rfl, rfl⟩, st⟩ := Jvm.LawKit.callS X hx (y := y) hown (mvT hZ w1) (mvT hZ w2) (mvT hZ w3) (mvT hZ w4) hy (backOf (W := W) hM hZ w4 w3 hf hlo) (g := mkF m pc Ls stk) rfl hsize (argsL := argsL) (rest := rest) hlen hst (by show 2 * 0 + _ ≤ _; rw [Nat.mul_zero, Nat.zero_add]; exact hW) hd (fun _ _ => ⟨has, eT, hc, hs⟩)
  exact hG _ _ st (k T1 _ v L X1 rfl hQ)
theorem own_callI (X : Stand p l e R s m args below meth c T locs cells slots) (hx : p.tables.exec = Jvm.exec) (hZ : Z.Warmed39 s.vm) (hG : own_Bk p e below G) (hown : s.vm.findClass own = some m.cls) (hy1 : y.name = "<init>")
    (w1 : (Jvm.Cond.methodLink own index y).before a0 Z = true) (w2 : (Jvm.Cond.instanceMethod y).before a0 Z = true) (w3 : (Jvm.Cond.initialized y.cls).before a0 Z = true) (w4 : (Jvm.Cond.code y bytes maxL none).before a0 Z = true)
    (hy : y.cls ≠ "java/lang/invoke/MethodHandle" ∧ y.cls ≠ "java/lang/invoke/VarHandle") (W : Nat) (hM : own_Con l Z y bytes maxL none [] rm as' h Q) (hf : rm.frames + 1 ≤ R.frames) (hlo : W + (maxL + 11) + rm.locals ≤ R.locals) (eT : T.heap = h)
    (hsize : Ls.size = c.maxLocals) (hlen : ∀ sig, parseMethodDescriptor y.desc = some sig → argsL.length = sig.parameters.length) {a : Addr} (has : (.ref a :: argsL).toArray = as') (hst : stk = argsL.reverse ++ .ref a :: rest) (hW : (rest.map fun v => v.category).sum ≤ W)
    (hd : decode c.code pc = .ok (.invokespecial index, 3)) (hc : cells + rm.cells ≤ R.cells) (hs : slots + rm.slots ≤ R.slots)
    (k : ∀ T' h' v L, Stand p l e R s m args below meth c T' (locs ++ L) (cells + rm.cells) (slots + rm.slots) → T'.heap = h' → Q v h' L → G (T'.setTop (mkF m (pc + 3) Ls (v.toList ++ rest)))) : G (T.setTop (mkF m pc Ls stk)) := by
  obtain ⟨v, _, ⟨T1, L1, k1, n1⟩, -, X1, ⟨L, hQ, rfl, rfl, rfl⟩, st⟩ := X.specialBack hx (y := y) hy1 hown (mvT hZ w1) (mvT hZ w2) (mvT hZ w4) hy (backOf (W := W) hM hZ w4 w3 hf hlo) (g := mkF m pc Ls stk) rfl hsize (Steps.refl _) (a := a) (argsL := argsL) (rest := rest) hlen hst (by show 2 * 0 + _ ≤ _; rw [Nat.mul_zero, Nat.zero_add]; exact hW) hd (fun _ _ => ⟨has, eT, hc, hs⟩)
  exact hG _ _ (fun t kk => st.trans kk) (k T1 _ v L X1 rfl hQ)
theorem own_callV {C : String} (X : Stand p l e R s m args below meth c T locs cells slots) (hx : p.tables.exec = Jvm.exec) (hZ : Z.Warmed39 s.vm) (hG : own_Bk p e below G) (hown : s.vm.findClass own = some m.cls)
    (w1 : (Jvm.Cond.methodLink own index y).before a0 Z = true) (w2 : (Jvm.Cond.declares y).before a0 Z = true) (w3 : (Jvm.Cond.selects C y y).before a0 Z = true) (w4 : (Jvm.Cond.instanceMethod y).before a0 Z = true) (w5 : (Jvm.Cond.initialized y.cls).before a0 Z = true) (w6 : (Jvm.Cond.code y bytes maxL ret).before a0 Z = true)
    (hy : y.cls ≠ "java/lang/invoke/MethodHandle" ∧ y.cls ≠ "java/lang/invoke/VarHandle") (W : Nat) (hM : own_Con l Z y bytes maxL ret [] rm as' h Q) (hf : rm.frames + 1 ≤ R.frames) (hlo : W + (maxL + 11) + rm.locals ≤ R.locals) (eT : T.heap = h) {b : Addr} (E : Exa Z h b C)
    (hsize : Ls.size = c.maxLocals) (hlen : ∀ sig, parseMethodDescriptor y.desc = some sig → argsL.length = sig.parameters.length) (has : (.ref b :: argsL).toArray = as') (hst : stk = argsL.reverse ++ .ref b :: rest) (hW : (rest.map fun v => v.category).sum ≤ W)
    (hd : decode c.code pc = .ok (.invokevirtual index, 3)) (hc : cells + rm.cells ≤ R.cells) (hs : slots + rm.slots ≤ R.slots)
    (k : ∀ T' h' v L, Stand p l e R s m args below meth c T' (locs ++ L) (cells + rm.cells) (slots + rm.slots) → T'.heap = h' → Q v h' L → G (T'.setTop (mkF m (pc + 3) Ls (v.toList ++ rest)))) : G (T.setTop (mkF m pc Ls stk)) := by
  obtain ⟨cq, kq, qa, qb, qc⟩ := isOf hZ eT E
  obtain ⟨v, _, ⟨T1, L1, k1, n1⟩, -, X1, ⟨L, hQ, rfl, rfl, rfl⟩, st⟩ := X.virtualBack hx (y := y) (z := y) hown (mvT hZ w1) (mvT hZ w2) (notFace_of_selects (args := #[]) (mvT hZ w3)) (mvT hZ w3) (mvT hZ w4) hy (backOf (W := W) hM hZ w6 w5 hf hlo) qa qc (g := mkF m pc Ls stk) rfl hsize (Steps.refl _) (argsL := argsL) (rest := rest) hlen hst (by show 2 * 0 + _ ≤ _; rw [Nat.mul_zero, Nat.zero_add]; exact hW) hd (fun _ _ => ⟨has, eT, hc, hs⟩)
  exact hG _ _ (fun t kk => st.trans kk) (k T1 _ v L X1 rfl hQ)
theorem own_callP (X : Stand p l e R s m args below meth c T locs cells slots) (hx : p.tables.exec = Jvm.exec) (hZ : Z.Warmed39 s.vm) (hG : own_Bk p e below G) (hown : s.vm.findClass own = some m.cls)
    (w1 : (Jvm.Cond.methodLink own index y).before a0 Z = true) (w2 : (Jvm.Cond.instanceMethod y).before a0 Z = true) (w3 : (Jvm.Cond.selects y.cls y y).before a0 Z = true) (wp : (Jvm.Cond.privateMethod y).before a0 Z = true) (w5 : (Jvm.Cond.initialized y.cls).before a0 Z = true) (w6 : (Jvm.Cond.code y bytes maxL ret).before a0 Z = true)
    (hy : y.cls ≠ "java/lang/invoke/MethodHandle" ∧ y.cls ≠ "java/lang/invoke/VarHandle") (W : Nat) (hM : own_Con l Z y bytes maxL ret [] rm as' h Q) (hf : rm.frames + 1 ≤ R.frames) (hlo : W + (maxL + 11) + rm.locals ≤ R.locals) (eT : T.heap = h) {b : Addr} {C : String} (E : Exa Z h b C)
    (hsize : Ls.size = c.maxLocals) (hlen : ∀ sig, parseMethodDescriptor y.desc = some sig → argsL.length = sig.parameters.length) (has : (.ref b :: argsL).toArray = as') (hst : stk = argsL.reverse ++ .ref b :: rest) (hW : (rest.map fun v => v.category).sum ≤ W)
    (hd : decode c.code pc = .ok (.invokevirtual index, 3)) (hc : cells + rm.cells ≤ R.cells) (hs : slots + rm.slots ≤ R.slots)
    (k : ∀ T' h' v L, Stand p l e R s m args below meth c T' (locs ++ L) (cells + rm.cells) (slots + rm.slots) → T'.heap = h' → Q v h' L → G (T'.setTop (mkF m (pc + 3) Ls (v.toList ++ rest)))) : G (T.setTop (mkF m pc Ls stk)) := by
  obtain ⟨cell, hc1, hc2⟩ := (Ins.self E).cell
  obtain ⟨v, _, ⟨T1, L1, k1, n1⟩, -, X1, ⟨L, hQ, rfl, rfl, rfl⟩, st⟩ := X.privateBack hx (y := y) hown (mvT hZ w1) (mvT hZ w2) (mvT hZ w3) (Cond.privateMethod_at (mvP hZ wp (args := #[]))) (mvT hZ w6) hy (backOf (W := W) hM hZ w6 w5 hf hlo) (g := mkF m pc Ls stk) rfl hsize (Steps.refl _) (a := b) (by rw [eT]; exact hc1) hc2 (argsL := argsL) (rest := rest) hlen hst (by show 2 * 0 + _ ≤ _; rw [Nat.mul_zero, Nat.zero_add]; exact hW) hd (fun _ _ => ⟨has, eT, hc, hs⟩)
  exact hG _ _ (fun t kk => st.trans kk) (k T1 _ v L X1 rfl hQ)
theorem own_callF {C : String} {count : Nat} (X : Stand p l e R s m args below meth c T locs cells slots) (hx : p.tables.exec = Jvm.exec) (hZ : Z.Warmed39 s.vm) (hG : own_Bk p e below G) (hown : s.vm.findClass own = some m.cls)
    (w1 : (Jvm.Cond.methodLink own index z).before a0 Z = true) (w2 : (Jvm.Cond.declares z).before a0 Z = true) (wf : ∀ s' : State, Z.Warmed39 s'.vm → (Jvm.Cond.interfaceMethod z.cls z.cls z.name z.desc).before args s' = true) (w3 : (Jvm.Cond.selects C z y).before a0 Z = true) (w4 : (Jvm.Cond.instanceMethod y).before a0 Z = true) (wp : (Jvm.Cond.publicMethod y).before a0 Z = true) (wu : (Jvm.Cond.unhidden C z.name z.desc).before a0 Z = true) (wc : (Jvm.Cond.castable C z.cls).before a0 Z = true) (w5 : (Jvm.Cond.initialized y.cls).before a0 Z = true) (w6 : (Jvm.Cond.code y bytes maxL ret).before a0 Z = true)
    (hy : z.cls ≠ "java/lang/invoke/MethodHandle" ∧ z.cls ≠ "java/lang/invoke/VarHandle") (W : Nat) (hM : own_Con l Z y bytes maxL ret [] rm as' h Q) (hf : rm.frames + 1 ≤ R.frames) (hlo : W + (maxL + 11) + rm.locals ≤ R.locals) (eT : T.heap = h) {b : Addr} (E : Exa Z h b C)
    (hsize : Ls.size = c.maxLocals) (hlen : ∀ sig, parseMethodDescriptor z.desc = some sig → argsL.length = sig.parameters.length) (has : (.ref b :: argsL).toArray = as') (hst : stk = argsL.reverse ++ .ref b :: rest) (hW : (rest.map fun v => v.category).sum ≤ W)
    (hd : decode c.code pc = .ok (.invokeinterface index count, 5)) (hc : cells + rm.cells ≤ R.cells) (hs : slots + rm.slots ≤ R.slots)
    (k : ∀ T' h' v L, Stand p l e R s m args below meth c T' (locs ++ L) (cells + rm.cells) (slots + rm.slots) → T'.heap = h' → Q v h' L → G (T'.setTop (mkF m (pc + 5) Ls (v.toList ++ rest)))) : G (T.setTop (mkF m pc Ls stk)) := by
  obtain ⟨cq, kq, qa, qb, qc⟩ := isOf hZ eT E
  obtain ⟨v, _, ⟨T1, L1, k1, n1⟩, -, X1, ⟨L, hQ, rfl, rfl, rfl⟩, st⟩ := X.interfaceBack hx (xi := z) (y := y) hown (mvT hZ w1) (mvT hZ w2) (wf s hZ) (mvT hZ w3) (mvT hZ w4) (mvT hZ wp) (mvT hZ wu) (mvT hZ wc) hy (backOf (W := W) hM hZ w6 w5 hf hlo) qa qb qc (g := mkF m pc Ls stk) rfl hsize (Steps.refl _) (argsL := argsL) (rest := rest) hlen hst (by show 2 * 0 + _ ≤ _; rw [Nat.mul_zero, Nat.zero_add]; exact hW) hd (fun _ _ => ⟨has, eT, hc, hs⟩)
  exact hG _ _ (fun t kk => st.trans kk) (k T1 _ v L X1 rfl hQ)
end Calls
theorem own_entry {G : State → Prop} {n : Nat} {Ls : Array Slot} (q : entryFrame m args n = mkF m 0 Ls []) (k : G (T.setTop (mkF m 0 Ls []))) : G (T.setTop (entryFrame m args n)) := q ▸ k
abbrev own_Old (Z : State) (h : Heap) : Prop := Old Z Z.heap.size h
abbrev own_Fr (Z : State) (L : List Loc) : Prop := Fr Z.heap.size L
theorem own_ge {Z : State} {h : Heap} (O : own_Old Z h) {b : Addr} (q : h.size ≤ b) : Z.heap.size ≤ b := Nat.le_trans O.2.1 q
theorem own_sta {Z : State} {h : Heap} {C n d : String} {v : Value} (S : Sta Z Z.heap C n d v) (O : own_Old Z h) : Sta Z h C n d v := S.ext O.2
theorem own_ne {h : Heap} {a b : Addr} (q : a < h.size) (r : h.size ≤ b) : a ≠ b := Nat.ne_of_lt (Nat.lt_of_lt_of_le q r)
end OwnKit
theorem own_toInt {i : Nat} (h : i < 2147483648) : (Int32.ofNat i).toInt = i := Int32.toInt_ofNat_of_lt (by omega)
theorem own_clamp {i : Nat} (h : i < 2147483648) : (Int32.ofNat i).toNatClampNeg = i := by
  show ((Int32.ofNat i).toInt).toNat = i
  rw [own_toInt h]; rfl
theorem own_inc (i : Nat) : Int32.ofNat i + 1 = Int32.ofNat (i + 1) := (Int32.ofNat_add i 1).symm
theorem own_nn {i : Nat} (h : i < 2147483648) : ¬ Int32.ofNat i < 0 := by
  rw [Int32.lt_iff_toInt_lt, own_toInt h]; simp
theorem own_lt {i n : Nat} (h : i < n) (hn : n < 2147483648) : Int32.ofNat i < Int32.ofNat n := by
  rw [Int32.lt_iff_toInt_lt, own_toInt (by omega), own_toInt hn]; omega
theorem own_nlt {i n : Nat} (h : n ≤ i) (hi : i < 2147483648) : ¬ Int32.ofNat i < Int32.ofNat n := by
  rw [Int32.lt_iff_toInt_lt, own_toInt hi, own_toInt (by omega)]; omega
theorem own_ofNat_inj {i n : Nat} (hi : i < 2147483648) (hn : n < 2147483648) (h : Int32.ofNat i = Int32.ofNat n) : i = n := by
  have := congrArg Int32.toInt h
  rw [own_toInt hi, own_toInt hn] at this; omega
theorem own_getD_set {α : Type} (vs : List α) (i j : Nat) (x d : α) (h : i < vs.length) : (vs.set i x).getD j d = if j = i then x else vs.getD j d := by
  simp only [List.getD_eq_getElem?_getD, List.getElem?_set]
  by_cases e : i = j
  · subst e; simp [h]
  · simp [e, Ne.symm e]
theorem own_getD_map {α β : Type} (f : α → β) (cs : List α) (j : Nat) (d : β) (e : α) (h : j < cs.length) : (cs.map f).getD j d = f (cs.getD j e) := by
  simp [List.getD_eq_getElem?_getD, List.getElem?_map, h]
theorem own_mapEq {α β : Type} (f : α → β) (cs : List α) (vs : List β) (d : β) (e : α) (hl : vs.length = cs.length) (h : ∀ j, j < cs.length → vs.getD j d = f (cs.getD j e)) : vs = cs.map f := by
  apply List.ext_getElem (by simpa using hl)
  intro j h1 h2
  have q := h j (by simpa using h2)
  have h3 : j < cs.length := by simpa using h2
  simp [List.getD_eq_getElem?_getD, h1, h3] at q
  simpa using q
theorem own_narR {t : FieldType} {v : Value} (ht : t.isReference = true) (hv : v.isRef = true) : narrow t v = v := by cases t <;> simp_all [FieldType.isReference, narrow]
theorem own_nb (x : Int32) : nar .byte x.toInt8.toInt32 = x.toInt8.toInt32 := by
  show x.toInt8.toInt32.toInt8.toInt32 = _
  rw [Int8.toInt8_toInt32]
theorem own_nc (x : Int32) : nar .char x.toUInt32.toUInt16.toUInt32.toInt32 = x.toUInt32.toUInt16.toUInt32.toInt32 := by
  simp only [nar, UInt32.toUInt32_toInt32, UInt16.toUInt16_toUInt32]
theorem own_getD_mem {α : Type} (cs : List α) (i : Nat) (d : α) (h : i < cs.length) : cs.getD i d ∈ cs := by
  rw [List.getD_eq_getElem?_getD, List.getElem?_eq_getElem h]; exact List.getElem_mem h
theorem own_alln {α : Type} {P : α → Prop} : ∀ c ∈ ([] : List α), P c := fun _ q => nomatch q
theorem own_allc {α : Type} {P : α → Prop} {x : α} {L : List α} (q : P x) (r : ∀ c ∈ L, P c) : ∀ c ∈ x :: L, P c := fun c z => (List.mem_cons.mp z).elim (fun u => u ▸ q) (r c)
theorem own_and255 (x : Int32) : 0 ≤ (x &&& 255).toInt ∧ (x &&& 255).toInt ≤ 255 := by
  rw [c_mask x 255 8 (by decide) (by decide)]
  have h1 := Int.emod_nonneg x.toInt (show ((2 ^ 8 : Nat) : Int) ≠ 0 by decide)
  have h2 := Int.emod_lt_of_pos x.toInt (show (0 : Int) < ((2 ^ 8 : Nat) : Int) by decide)
  omega
theorem own_mask8 {x c : Int32} (h : (x &&& 255).toUInt32.toUInt16.toUInt32.toInt32 = c) : 0 ≤ c.toInt ∧ c.toInt ≤ 255 := by
  rw [i2c_mask] at h; subst h; exact own_and255 x
theorem own_narC {c : Int32} (h : 0 ≤ c.toInt ∧ c.toInt ≤ 65535) : nar .char c = c := by
  apply Int32.toInt_inj.mp
  have q := c_i2c c
  show c.toUInt32.toUInt16.toUInt32.toInt32.toInt = c.toInt
  omega
theorem own_le255 {c : Int32} (h : 0 ≤ c.toInt ∧ c.toInt ≤ 255) : ¬ ((255 : Int32) < c) := by
  rw [Int32.lt_iff_toInt_lt]
  have : (255 : Int32).toInt = 255 := by decide
  omega
theorem own_nar8 {c : Int32} (h : 0 ≤ c.toInt ∧ c.toInt ≤ 255) : ¬ ((255 : Int32) < nar .char c) := by
  rw [own_narC ⟨h.1, by omega⟩]; exact own_le255 h
theorem own_setNext {vs : List Value} {cs : List Int32} {i : Nat} (f : Int32 → Value) (d x : Value) (hi : i < vs.length) (hx : x = f (cs.getD i 0)) (hv : ∀ j, j < i → vs.getD j d = f (cs.getD j 0)) : ∀ j, j < i + 1 → (vs.set i x).getD j d = f (cs.getD j 0) := by
  intro j hj
  rw [own_getD_set _ _ _ _ _ hi]
  by_cases e : j = i
  · subst e; rw [if_pos rfl]; exact hx
  · rw [if_neg e]; exact hv j (by omega)
theorem own_fitR {t : FieldType} {v : Value} (ht : t.isReference = true) (hv : v.isRef = true) : fits t v = true := by
  rcases ref_cases hv with rfl | ⟨a, rfl⟩ <;> cases t <;> simp_all [FieldType.isReference, fits]
theorem own_fitC {c : Int32} (h : 0 ≤ c.toInt ∧ c.toInt ≤ 65535) : fits .char (.int c) = true := by
  have q := fits_nar_char c
  rw [own_narC h] at q; exact q
theorem own_zero1 : (0 : Int32) + (1 : Int32) = (1 : Int32) := by decide
theorem own_emptyArv {s : State} {args : Array Value} {t : Term} {a : Addr} {cl : Cell} {ty : FieldType} {dv : Value} (hf : Fit s) (ev : t.eval args s none [] s = some (.ref a)) (A : Arr s s.heap a cl ty) (hl : (Term.length t).eval args s none [] s = some (.int (0 : Int32))) : Arv s s.heap a cl.cls ty (0 : Int32) [] dv := by
  obtain ⟨x, cl', e1, e2, -⟩ := Term.length_spec hl
  cases ev.symm.trans e1
  have hc : s.arrayAt? a = some cl := A.fin (Vm.Alike.refl _)
  cases e2.symm.trans hc
  have h31 := Jvm.Free.SBG.length_lt e1 hc hl
  have e : (Term.length t).eval args s none [] s = some (.int (Int32.ofNat cl.slots.size)) := by simp [Term.eval, e1, hc, h31]
  have q : Int32.ofNat cl.slots.size = (0 : Int32) := by simpa using Option.some.inj (e.symm.trans hl)
  exact Arv.start hf A h31 q (by decide) rfl trivial
theorem own_sz {x n : Int32} (h : ((1 : Int32) + (x &&& (3 : Int32))) = n) : 1 ≤ n.toInt ∧ n.toInt ≤ 4 := by
  have q : (x &&& (3 : Int32)).toInt = x.toInt % (2 ^ 2 : Nat) := c_mask x 3 2 (by decide) (by decide)
  have e := c_iadd 1 (x &&& (3 : Int32)); rw [h] at e
  have e1 : (1 : Int32).toInt = 1 := by decide
  have r := rng32 n
  omega
theorem own_sz0 {n : Int32} (h : 1 ≤ n.toInt ∧ n.toInt ≤ 4) : n ≠ 0 := fun e => by rw [e] at h; exact absurd h.1 (by decide)
theorem own_ixr {x n r : Int32} (h : 1 ≤ n.toInt ∧ n.toInt ≤ 4) (hr : ((x &&& (2147483647 : Int32)) % n) = r) : 0 ≤ r.toInt ∧ r.toInt < n.toInt := by
  have q := c_and x 2147483647 (by decide)
  have c := (c_iremV (x &&& 2147483647) n).1 q.1 (by omega)
  rw [hr] at c
  exact ⟨c.1, c.2.1⟩
theorem own_szb {n k : Int32} {m : Int} (h : ¬ (k < n)) (hk : k.toInt = m) : n.toInt ≤ m := by
  rw [Int32.lt_iff_toInt_lt] at h; omega
theorem own_ix1 {i n : Int32} (h0 : 0 ≤ i.toInt) (h1 : i.toInt < n.toInt) (h2 : n.toInt ≤ 1) : i = (0 : Int32) := Int32.toInt_inj.mp (by have : (0 : Int32).toInt = 0 := (by decide); omega)
theorem own_ix2 {i n : Int32} (h0 : 0 ≤ i.toInt) (h1 : i.toInt < n.toInt) (h2 : n.toInt ≤ 2) : i = (0 : Int32) ∨ i = (1 : Int32) := by
  have e0 : (0 : Int32).toInt = 0 := by decide
  have e1 : (1 : Int32).toInt = 1 := by decide
  simp only [← Int32.toInt_inj]; omega
theorem own_ix3 {i n : Int32} (h0 : 0 ≤ i.toInt) (h1 : i.toInt < n.toInt) (h2 : n.toInt ≤ 3) : i = (0 : Int32) ∨ i = (1 : Int32) ∨ i = (2 : Int32) := by
  have e0 : (0 : Int32).toInt = 0 := by decide
  have e1 : (1 : Int32).toInt = 1 := by decide
  have e2 : (2 : Int32).toInt = 2 := by decide
  simp only [← Int32.toInt_inj]; omega
theorem own_ix4 {i n : Int32} (h0 : 0 ≤ i.toInt) (h1 : i.toInt < n.toInt) (h2 : n.toInt ≤ 4) : i = (0 : Int32) ∨ i = (1 : Int32) ∨ i = (2 : Int32) ∨ i = (3 : Int32) := by
  have e0 : (0 : Int32).toInt = 0 := by decide
  have e1 : (1 : Int32).toInt = 1 := by decide
  have e2 : (2 : Int32).toInt = 2 := by decide
  have e3 : (3 : Int32).toInt = 3 := by decide
  simp only [← Int32.toInt_inj]; omega
theorem ow {Z : State} {a0 : Array Value} (hw : ∀ d ∈ tables_1, d.before a0 Z = true) (i : Nat) {d : Jvm.Cond} (h : tables_1[i]? = some d) : d.before a0 Z = true := hw d (List.mem_of_getElem? h)
section OwnKitW
variable {p : Program} {l : Launch} {e : Env} {R : Room} {s : State} {m : MethodId} {args : Array Value} {below : List Frame} {meth : Method} {c : Code} {T : State} {locs : List Loc} {cells slots : Nat} {EL : List (String × Nat)} {Z : State} {a0 : Array Value}
/-- the contract of a body that may load String constants -/
def own_ConW (l : Launch) (Z : State) (EL : List (String × Nat)) (y : MethodName) (bytes : ByteArray) (maxL : Nat) (ret : Option FieldType) (ws : List Jvm.Cond) (rm : Room) (as' : Array Value) (h0 : Heap) (Q : Option Value → Heap → List Loc → Prop) : Prop :=
  MetFree l y (head1 (Jvm.Cond.code y bytes maxL ret :: ws) rm) (fun a U => a = as' ∧ Z.Warmed39 U.vm ∧ U.heap = h0 ∧ CHv Z EL U.vm h0) (fun _ _ _ _ _ => True) (fun _ U o U' => ∃ v L, o = .returned v ∧ Q v U'.heap L ∧ CHr Z EL U.vm U.heap U'.vm U'.heap ∧ ReturnedEndW U o U' L rm.cells rm.slots)
def own_RtW (p : Program) (l : Launch) (e : Env) (Z : State) (EL : List (String × Nat)) (rm : Room) (s : State) (m : MethodId) (as' : Array Value) (below : List Frame) (meth : Method) (c : Code) (ret : Option FieldType) (h0 : Heap) (Q : Option Value → Heap → List Loc → Prop) (G : State → Prop) : Prop :=
  ∀ T locs cells slots v S vm0 k0, Stand p l e rm (s.setVm vm0) m as' below meth c T locs cells slots → s.Since vm0 k0 → k0 ≤ T.heap.size → Z.Warmed39 vm0 → CHr Z EL s.vm h0 vm0 T.heap → cells ≤ rm.cells → slots ≤ rm.slots → (ret = none → v = none) → Q v T.heap locs →
    (∀ fs, (∀ (f : JFrame) (acts : List Action), f.method = m → f.locked = none → f.entered = [] → (doReturn e (T.setTop f) acts v).1 = T.setFrames fs) → Steps p.tables e below S (T.setFrames fs)) → G S
theorem own_introW {y : MethodName} {bytes : ByteArray} {maxL : Nat} {ret : Option FieldType} {ws : List Jvm.Cond} {rm : Room} {as' : Array Value} {h0 : Heap} {Q : Option Value → Heap → List Loc → Prop} (hEL : EW Z a0 EL) (hpn : plainFor y = true)
    (H : ∀ (p : Program) (e : Env) (s : State) (m : MethodId) (below : List Frame) (meth : Method) (c : Code) (s₁ : State) (G : State → Prop), p.tables.exec = Jvm.exec → c.code = bytes → c.maxLocals = maxL → (s.setVm s.vm).vm.findClass y.cls = some m.cls → meth.name = y.name → meth.sig.returnType = ret → Z.Warmed39 (s.setVm s.vm).vm →
      Stand p l e rm (s.setVm s.vm) m as' below meth c s₁ [] 0 0 → s₁.heap = h0 → CHv Z EL s.vm h0 → s.Since s.vm h0.size → own_Bk p e below G → own_RtW p l e Z EL rm s m as' below meth c ret h0 Q G → G (s₁.setTop (entryFrame m as' maxL))) : own_ConW l Z EL y bytes maxL ret ws rm as' h0 Q := by
  refine MetFree.of_bodySF hpn hisR ?_
  intro p e s m args below meth c s₁ Bd hml hP hK
  obtain ⟨rfl, hZ, hh, hC⟩ := hP
  refine H p e s m below meth c s₁ (fun S => ∃ s₂ o, Steps p.tables e below S s₂ ∧ s₂.status = .running ∧ Ended s₂ below o ∧ ∃ v L, o = .returned v ∧ Q v s₂.heap L ∧ CHr Z EL s.vm s.heap s₂.vm s₂.heap ∧ ReturnedEndW s o s₂ L rm.cells rm.slots) Bd.exec Bd.bytes hml (findClass_of_methodNamed Bd.named) (name_of_methodNamed Bd.named Bd.method).1 Bd.returns hZ (Stand.of_body Bd) (by rw [← hh, Bd.state]; rfl) hC ((State.WarmedH.refl s).since _) ?_ ?_
  · rintro S S' st ⟨s₂, o, h1, h2⟩
    exact ⟨s₂, o, st _ h1, h2⟩
  · intro T locs cells slots v S vm0 k0 X hS hk hZ0 hC0 hc hs hv hQ hst
    obtain ⟨fs, hr, hrun, hended, hW, hsame⟩ := X.leave (v := v) (fun h => hv (Bd.returns ▸ h)) Bd.notSynchronized
    obtain ⟨q1, q2, q3⟩ := hS.ended (U := T.setFrames fs) hW hk hsame
    have hA : CHr Z EL vm0 T.heap T.vm T.heap := CHv.at X hZ0 hEL hC0.1
    refine ⟨_, _, hst fs hr, hrun, hended, v, locs, rfl, hQ, ?_, ⟨_, rfl⟩, q1, q2, q3.mono hc hs⟩
    rw [hh]
    exact hC0.trans hA
section Rets
variable {Q : Option Value → Heap → List Loc → Prop} {G : State → Prop} {pc : Nat} {Ls : Array Slot} {rest : List Value} {h0 h : Heap} {vm0 : Vm} {k0 : Nat}
theorem own_retVW (hR : own_RtW p l e Z EL R s m args below meth c none h0 Q G) (hret : meth.sig.returnType = none) (X : Stand p l e R (s.setVm vm0) m args below meth c T locs cells slots) (hx : p.tables.exec = Jvm.exec) (hd : decode c.code pc = .ok (.return_, 1)) (eT : T.heap = h) (hS : s.Since vm0 k0) (hk : k0 ≤ h.size) (hZ : Z.Warmed39 (s.setVm vm0).vm) (hC : CHr Z EL s.vm h0 vm0 h) (hc : cells ≤ R.cells) (hs : slots ≤ R.slots) (hQ : Q none h locs) : G (T.setTop (mkF m pc Ls [])) :=
  hR T locs cells slots none _ vm0 k0 X hS (by rw [eT]; exact hk) hZ (by rw [eT]; exact hC) hc hs (fun _ => rfl) (by rw [eT]; exact hQ) fun fs hr => X.returnOut hx hret hd hr
theorem own_retAW {t : FieldType} {v : Value} (hR : own_RtW p l e Z EL R s m args below meth c (some t) h0 Q G) (hret : meth.sig.returnType = some t) (ht : t.isReference = true) (hv : v.isRef = true) (X : Stand p l e R (s.setVm vm0) m args below meth c T locs cells slots) (hx : p.tables.exec = Jvm.exec) (hd : decode c.code pc = .ok (.areturn, 1)) (eT : T.heap = h) (hS : s.Since vm0 k0) (hk : k0 ≤ h.size) (hZ : Z.Warmed39 (s.setVm vm0).vm) (hC : CHr Z EL s.vm h0 vm0 h) (hc : cells ≤ R.cells) (hs : slots ≤ R.slots) (hQ : Q (some v) h locs) : G (T.setTop (mkF m pc Ls (v :: rest))) :=
  hR T locs cells slots (some v) _ vm0 k0 X hS (by rw [eT]; exact hk) hZ (by rw [eT]; exact hC) hc hs (fun h => nomatch h) (by rw [eT]; exact hQ) fun fs hr => retOut X hx hret (by cases t <;> simp_all [FieldType.isReference, narrow]) (Or.inr (Or.inr (Or.inr (Or.inr ⟨rfl, ht, hv⟩)))) hd hr
theorem own_retNW {z : Int32} {t : FieldType} (hR : own_RtW p l e Z EL R s m args below meth c (some t) h0 Q G) (hret : meth.sig.returnType = some t) (ht : t = .boolean ∨ t = .byte ∨ t = .char ∨ t = .short) (X : Stand p l e R (s.setVm vm0) m args below meth c T locs cells slots) (hx : p.tables.exec = Jvm.exec) (hd : decode c.code pc = .ok (.ireturn, 1)) (eT : T.heap = h) (hS : s.Since vm0 k0) (hk : k0 ≤ h.size) (hZ : Z.Warmed39 (s.setVm vm0).vm) (hC : CHr Z EL s.vm h0 vm0 h) (hc : cells ≤ R.cells) (hs : slots ≤ R.slots) (hQ : Q (some (.int (nar t z))) h locs) : G (T.setTop (mkF m pc Ls (.int z :: rest))) :=
  hR T locs cells slots (some (.int (nar t z))) _ vm0 k0 X hS (by rw [eT]; exact hk) hZ (by rw [eT]; exact hC) hc hs (fun h => nomatch h) (by rw [eT]; exact hQ) fun fs hr => retN X hx hret ht hd hr
end Rets
section Calls
variable {own : String} {index : Nat} {y : MethodName} {bytes : ByteArray} {maxL : Nat} {ret : Option FieldType} {rm : Room} {as' : Array Value} {h : Heap} {Q : Option Value → Heap → List Loc → Prop} {G : State → Prop} {pc : Nat} {Ls : Array Slot} {stk argsL rest : List Value} {vm0 : Vm} {k0 : Nat}
theorem own_callSW (X : Stand p l e R (s.setVm vm0) m args below meth c T locs cells slots) (hx : p.tables.exec = Jvm.exec) (hZ : Z.Warmed39 (s.setVm vm0).vm) (hG : own_Bk p e below G) (hown : (s.setVm vm0).vm.findClass own = some m.cls)
    (w1 : (Jvm.Cond.methodLink own index y).before a0 Z = true) (w2 : (Jvm.Cond.static y).before a0 Z = true) (w3 : (Jvm.Cond.initialized y.cls).before a0 Z = true) (w4 : (Jvm.Cond.code y bytes maxL ret).before a0 Z = true)
    (hy : y.cls ≠ "java/lang/invoke/MethodHandle" ∧ y.cls ≠ "java/lang/invoke/VarHandle") (W : Nat) (hM : own_ConW l Z EL y bytes maxL ret [] rm as' h Q) (hf : rm.frames + 1 ≤ R.frames) (hlo : W + (maxL + 11) + rm.locals ≤ R.locals) (eT : T.heap = h)
    (hS : s.Since vm0 k0) (hk : k0 ≤ h.size) (hEL : EW Z a0 EL) (H : CHv Z EL vm0 h)
    (hsize : Ls.size = c.maxLocals) (hlen : ∀ sig, parseMethodDescriptor y.desc = some sig → argsL.length = sig.parameters.length) (has : argsL.toArray = as') (hst : stk = argsL.reverse ++ rest) (hW : (rest.map fun v => v.category).sum ≤ W)
    (hd : decode c.code pc = .ok (.invokestatic index, 3)) (hc : cells + rm.cells ≤ R.cells) (hs : slots + rm.slots ≤ R.slots)
    (k : ∀ T' h' v L, Stand p l e R (s.setVm T'.vm) m args below meth c T' (locs ++ L) (cells + rm.cells) (slots + rm.slots) → T'.heap = h' → s.Since T'.vm h'.size → Z.Warmed39 (s.setVm T'.vm).vm → (s.setVm T'.vm).vm.findClass own = some m.cls → CHr Z EL vm0 h T'.vm h' → Q v h' L → G (T'.setTop (mkF m (pc + 3) Ls (v.toList ++ rest)))) : G (T.setTop (mkF m pc Ls stk)) := by
  obtain ⟨v, _, ⟨T1, L1, k1, n1⟩, -, X1, hS1, hg1, ⟨L, hQ, rfl, rfl, rfl, hC⟩, st⟩ := callSS X hx (y := y) hown (mvT hZ w1) (mvT hZ w2) (mvT hZ w3) (mvT hZ w4) hy (backOfSH (W := W) hM hZ w4 w3 hf hlo hEL H) (g := mkF m pc Ls stk) rfl hsize (argsL := argsL) (rest := rest) hlen hst (by show 2 * 0 + _ ≤ _; rw [Nat.mul_zero, Nat.zero_add]; exact hW) hd (fun _ _ => ⟨has, eT, hc, hs⟩)
  obtain ⟨X2, hS2, hZ2, hown2⟩ := rebS hS (by rw [eT]; exact hk) X1 hS1 hg1 hZ hown
  exact hG _ _ (fun t kk => st.trans kk) (k T1 _ v L X2 rfl hS2 hZ2 hown2 hC hQ)
theorem own_callIW (X : Stand p l e R (s.setVm vm0) m args below meth c T locs cells slots) (hx : p.tables.exec = Jvm.exec) (hZ : Z.Warmed39 (s.setVm vm0).vm) (hG : own_Bk p e below G) (hown : (s.setVm vm0).vm.findClass own = some m.cls) (hy1 : y.name = "<init>")
    (w1 : (Jvm.Cond.methodLink own index y).before a0 Z = true) (w2 : (Jvm.Cond.instanceMethod y).before a0 Z = true) (w3 : (Jvm.Cond.initialized y.cls).before a0 Z = true) (w4 : (Jvm.Cond.code y bytes maxL none).before a0 Z = true)
    (hy : y.cls ≠ "java/lang/invoke/MethodHandle" ∧ y.cls ≠ "java/lang/invoke/VarHandle") (W : Nat) (hM : own_ConW l Z EL y bytes maxL none [] rm as' h Q) (hf : rm.frames + 1 ≤ R.frames) (hlo : W + (maxL + 11) + rm.locals ≤ R.locals) (eT : T.heap = h)
    (hS : s.Since vm0 k0) (hk : k0 ≤ h.size) (hEL : EW Z a0 EL) (H : CHv Z EL vm0 h)
    (hsize : Ls.size = c.maxLocals) (hlen : ∀ sig, parseMethodDescriptor y.desc = some sig → argsL.length = sig.parameters.length) {a : Addr} (has : (.ref a :: argsL).toArray = as') (hst : stk = argsL.reverse ++ .ref a :: rest) (hW : (rest.map fun v => v.category).sum ≤ W)
    (hd : decode c.code pc = .ok (.invokespecial index, 3)) (hc : cells + rm.cells ≤ R.cells) (hs : slots + rm.slots ≤ R.slots)
    (k : ∀ T' h' v L, Stand p l e R (s.setVm T'.vm) m args below meth c T' (locs ++ L) (cells + rm.cells) (slots + rm.slots) → T'.heap = h' → s.Since T'.vm h'.size → Z.Warmed39 (s.setVm T'.vm).vm → (s.setVm T'.vm).vm.findClass own = some m.cls → CHr Z EL vm0 h T'.vm h' → Q v h' L → G (T'.setTop (mkF m (pc + 3) Ls (v.toList ++ rest)))) : G (T.setTop (mkF m pc Ls stk)) := by
  obtain ⟨v, _, ⟨T1, L1, k1, n1⟩, -, X1, hS1, hg1, ⟨L, hQ, rfl, rfl, rfl, hC⟩, st⟩ := X.specialBackS hx (y := y) hy1 hown (mvT hZ w1) (mvT hZ w2) (mvT hZ w4) hy (backOfSH (W := W) hM hZ w4 w3 hf hlo hEL H) (g := mkF m pc Ls stk) rfl hsize (Steps.refl _) (a := a) (argsL := argsL) (rest := rest) hlen hst (by show 2 * 0 + _ ≤ _; rw [Nat.mul_zero, Nat.zero_add]; exact hW) hd (fun _ _ => ⟨has, eT, hc, hs⟩)
  obtain ⟨X2, hS2, hZ2, hown2⟩ := rebS hS (by rw [eT]; exact hk) X1 hS1 hg1 hZ hown
  exact hG _ _ (fun t kk => st.trans kk) (k T1 _ v L X2 rfl hS2 hZ2 hown2 hC hQ)
theorem own_callVW {C : String} (X : Stand p l e R (s.setVm vm0) m args below meth c T locs cells slots) (hx : p.tables.exec = Jvm.exec) (hZ : Z.Warmed39 (s.setVm vm0).vm) (hG : own_Bk p e below G) (hown : (s.setVm vm0).vm.findClass own = some m.cls)
    (w1 : (Jvm.Cond.methodLink own index y).before a0 Z = true) (w2 : (Jvm.Cond.declares y).before a0 Z = true) (w3 : (Jvm.Cond.selects C y y).before a0 Z = true) (w4 : (Jvm.Cond.instanceMethod y).before a0 Z = true) (w5 : (Jvm.Cond.initialized y.cls).before a0 Z = true) (w6 : (Jvm.Cond.code y bytes maxL ret).before a0 Z = true)
    (hy : y.cls ≠ "java/lang/invoke/MethodHandle" ∧ y.cls ≠ "java/lang/invoke/VarHandle") (W : Nat) (hM : own_ConW l Z EL y bytes maxL ret [] rm as' h Q) (hf : rm.frames + 1 ≤ R.frames) (hlo : W + (maxL + 11) + rm.locals ≤ R.locals) (eT : T.heap = h)
    (hS : s.Since vm0 k0) (hk : k0 ≤ h.size) (hEL : EW Z a0 EL) (H : CHv Z EL vm0 h) {b : Addr} (E : Exa Z h b C)
    (hsize : Ls.size = c.maxLocals) (hlen : ∀ sig, parseMethodDescriptor y.desc = some sig → argsL.length = sig.parameters.length) (has : (.ref b :: argsL).toArray = as') (hst : stk = argsL.reverse ++ .ref b :: rest) (hW : (rest.map fun v => v.category).sum ≤ W)
    (hd : decode c.code pc = .ok (.invokevirtual index, 3)) (hc : cells + rm.cells ≤ R.cells) (hs : slots + rm.slots ≤ R.slots)
    (k : ∀ T' h' v L, Stand p l e R (s.setVm T'.vm) m args below meth c T' (locs ++ L) (cells + rm.cells) (slots + rm.slots) → T'.heap = h' → s.Since T'.vm h'.size → Z.Warmed39 (s.setVm T'.vm).vm → (s.setVm T'.vm).vm.findClass own = some m.cls → CHr Z EL vm0 h T'.vm h' → Q v h' L → G (T'.setTop (mkF m (pc + 3) Ls (v.toList ++ rest)))) : G (T.setTop (mkF m pc Ls stk)) := by
  obtain ⟨cq, kq, qa, qb, qc⟩ := isOf hZ eT E
  obtain ⟨v, _, ⟨T1, L1, k1, n1⟩, -, X1, hS1, hg1, ⟨L, hQ, rfl, rfl, rfl, hC⟩, st⟩ := X.virtualBackS hx (y := y) (z := y) hown (mvT hZ w1) (mvT hZ w2) (notFace_of_selects (args := #[]) (mvT hZ w3)) (mvT hZ w3) (mvT hZ w4) hy (backOfSH (W := W) hM hZ w6 w5 hf hlo hEL H) qa qc (g := mkF m pc Ls stk) rfl hsize (Steps.refl _) (argsL := argsL) (rest := rest) hlen hst (by show 2 * 0 + _ ≤ _; rw [Nat.mul_zero, Nat.zero_add]; exact hW) hd (fun _ _ => ⟨has, eT, hc, hs⟩)
  obtain ⟨X2, hS2, hZ2, hown2⟩ := rebS hS (by rw [eT]; exact hk) X1 hS1 hg1 hZ hown
  exact hG _ _ (fun t kk => st.trans kk) (k T1 _ v L X2 rfl hS2 hZ2 hown2 hC hQ)
end Calls
/-- a String whose value is still null is none that the JVM holds for a constant -/
theorem own_safeStr {vm : Vm} {h : Heap} {a : Addr} (hal : Z.vm.Alike vm) (E : Exa Z h a "java/lang/String") (F : Fld Z h a "java/lang/String" "value" "[B" .null) : Safe Z EL vm h a := fun B => by
  obtain ⟨p0, hp0, u, a', hb, q, hqa, S, hy⟩ := B
  obtain ⟨cS, ⟨⟨s1, s2, s3, ⟨cv, kv, iv, s4, s4'⟩, ⟨cc, kc, ic, s5, s5'⟩, s6, s7, s8, s9, s10, -⟩, hfS, hcS⟩, -, hB, -⟩ := S
  obtain ⟨kv', z4⟩ := ff_back (U := Wst Z vm h) hal s4
  rcases hy with rfl | rfl
  · have G : Fld Z h q.sa "java/lang/String" "value" "[B" (.ref q.sd) := ⟨q.sC, cv, kv', iv, q.fSV, s1, z4, s6, s2, s3, by rw [← hal.assignable]; exact s4', s8⟩
    exact Fld.ne F G (by simp) rfl
  · obtain ⟨cell, k, e1, e2, -⟩ := E
    have s10' : h[q.sd]? = some q.SA := s10
    cases s10'.symm.trans e1
    have hB' : vm.findClass "[B" = some q.SA.cls := hB
    have hBZ : Z.vm.findClass "[B" = some q.SA.cls := by rw [← hal.findClass]; exact hB'
    obtain ⟨k1, x1, x2⟩ := Vm.findClass_spec e2
    obtain ⟨k2, y1, y2⟩ := Vm.findClass_spec hBZ
    cases x1.symm.trans y1
    exact absurd (x2.symm.trans y2) (by decide)
theorem own_safeArv {vm : Vm} {h : Heap} {a : Addr} {k : ClassId} {ty : FieldType} {z : Int32} {vs : List Value} {d : Value} (hal : Z.vm.Alike vm) (A : Arv Z h a k ty z vs d) (ht : ty ≠ .byte) : Safe Z EL vm h a := by
  obtain ⟨cl, Ar, -⟩ := A
  exact Safe.arr hal Ar ht
end OwnKitW

def own_lo (ch : Int32) : Int32 := nar .byte ((ch >>> ((0 : Int32) &&& 31)).toInt8.toInt32)
def own_hi (ch : Int32) : Int32 := nar .byte ((ch >>> ((8 : Int32) &&& 31)).toInt8.toInt32)
def own_join (x y : Int32) : Int32 := nar .char ((((x &&& (255 : Int32)) <<< ((0 : Int32) &&& 31)) ||| ((y &&& (255 : Int32)) <<< ((8 : Int32) &&& 31))).toUInt32.toUInt16.toUInt32.toInt32)
def own_is16 (cs : List Int32) (vs : List Value) : Prop := vs.length = 2 * cs.length ∧ ∀ j, j < cs.length → vs.getD (2 * j) (.int 0) = .int (own_lo (cs.getD j 0)) ∧ vs.getD (2 * j + 1) (.int 0) = .int (own_hi (cs.getD j 0))
/-- the bytes of a String of these chars -/
def own_enc (cs : List Int32) (cd nb : Int32) (vs : List Value) : Prop :=
  ((∀ c ∈ cs, ¬ ((255 : Int32) < c)) ∧ cd = 0 ∧ nb = Int32.ofNat cs.length ∧ vs = (cs.map fun c => Value.int c.toInt8.toInt32)) ∨
    ((∃ k, k < cs.length ∧ (255 : Int32) < cs.getD k 0) ∧ cd = 1 ∧ nb = Int32.ofNat (2 * cs.length) ∧ own_is16 cs vs)
theorem own_shl1 (i : Nat) : Int32.ofNat i <<< ((1 : Int32) &&& 31) = Int32.ofNat (2 * i) := by
  rw [shlm (x := Int32.ofNat i) (k := 1) (m := 2) (by decide), Nat.mul_comm, Int32.ofNat_mul]; rfl
theorem own_lo_rng (ch : Int32) : (own_lo ch).toInt % 256 = ch.toInt % 256 := by
  have h0 : (ch >>> ((0 : Int32) &&& 31)).toInt = ch.toInt / (2 ^ 0 : Nat) := c_ishr ch 0 0 (by decide)
  have h1 := c_i2b (ch >>> ((0 : Int32) &&& 31))
  show (nar .byte _).toInt % 256 = _
  rw [own_nb]
  omega
theorem own_hi_rng (ch : Int32) : (own_hi ch).toInt % 256 = (ch.toInt / 256) % 256 := by
  have h0 : (ch >>> ((8 : Int32) &&& 31)).toInt = ch.toInt / (2 ^ 8 : Nat) := c_ishr ch 8 8 (by decide)
  have h1 := c_i2b (ch >>> ((8 : Int32) &&& 31))
  show (nar .byte _).toInt % 256 = _
  rw [own_nb]
  omega
theorem own_join_eq {ch : Int32} (h : 0 ≤ ch.toInt ∧ ch.toInt ≤ 65535) : own_join (own_lo ch) (own_hi ch) = ch := by
  have l := own_lo_rng ch; have g := own_hi_rng ch
  unfold own_join
  rw [own_nc]
  generalize own_lo ch = x at *
  generalize own_hi ch = y at *
  have m1 : (x &&& (255 : Int32)).toInt = x.toInt % 256 := c_mask x 255 8 (by decide) (by decide)
  have m2 : (y &&& (255 : Int32)).toInt = y.toInt % 256 := c_mask y 255 8 (by decide) (by decide)
  have s1 : ((x &&& (255 : Int32)) <<< ((0 : Int32) &&& 31)) = (x &&& (255 : Int32)) := by
    rw [shlm (m := 1) (by decide)]; simp
  have s2 := c_ishl (y &&& (255 : Int32)) 8 8 (by decide)
  rw [s1]
  generalize (x &&& (255 : Int32)) = X at *
  generalize ((y &&& (255 : Int32)) <<< ((8 : Int32) &&& 31)) = Y at *
  have rY := rng32 Y
  have eY : Y.toInt = (y.toInt % 256) * 256 := by omega
  have o := c_or' X Y 8 (by decide) 256 rfl (by omega) (by omega) (by omega)
  have rO := rng32 (X ||| Y)
  have c2 := c_i2c (X ||| Y)
  apply Int32.toInt_inj.mp
  omega
theorem own_coder0 (n : Int32) : nar .byte ((((n - n).toUInt32 >>> ((31 : Int32) &&& 31).toUInt32).toInt32).toInt8.toInt32) = 0 := by rw [Int32.sub_self]; rfl
theorem own_coder1 {n : Nat} (h0 : 0 < n) (h : n < 536870912) : nar .byte ((((Int32.ofNat n - Int32.ofNat (2 * n)).toUInt32 >>> ((31 : Int32) &&& 31).toUInt32).toInt32).toInt8.toInt32) = 1 := by
  have e := c_isub (Int32.ofNat n) (Int32.ofNat (2 * n))
  rw [own_toInt (by omega), own_toInt (by omega)] at e
  have r := rng32 (Int32.ofNat n - Int32.ofNat (2 * n))
  have s := c_iushr (Int32.ofNat n - Int32.ofNat (2 * n)) 31 31 (by decide) (by decide)
  generalize Int32.ofNat n - Int32.ofNat (2 * n) = D at *
  generalize ((D.toUInt32 >>> ((31 : Int32) &&& 31).toUInt32).toInt32) = S at *
  have hS : S.toInt = 1 := by rw [s]; omega
  have : S = 1 := Int32.toInt_inj.mp (by rw [hS]; rfl)
  rw [this]; rfl
theorem own_mask16 {x c : Int32} (h : (x &&& 65535).toUInt32.toUInt16.toUInt32.toInt32 = c) : 0 ≤ c.toInt ∧ c.toInt ≤ 65535 := by
  have q := c_i2c (x &&& 65535); rw [h] at q; omega
theorem own_i2c16 {x c : Int32} (h : x.toUInt32.toUInt16.toUInt32.toInt32 = c) : 0 ≤ c.toInt ∧ c.toInt ≤ 65535 := by
  have q := c_i2c x; rw [h] at q; omega
theorem own_nar16 {c : Int32} (h : 0 ≤ c.toInt ∧ c.toInt ≤ 65535) : 0 ≤ (nar .char c).toInt ∧ (nar .char c).toInt ≤ 65535 := by rw [own_narC h]; exact h
theorem own_ltK {n : Nat} (h : n < 1073741823) : Int32.ofNat n < (1073741823 : Int32) := by
  rw [Int32.lt_iff_toInt_lt, own_toInt (by omega)]
  have : (1073741823 : Int32).toInt = 1073741823 := by decide
  omega
theorem own_ofNat_ne {i n : Nat} (h : i < n) (hn : n < 2147483648) : ¬ (Int32.ofNat i = Int32.ofNat n) := fun e => by
  have := own_ofNat_inj (by omega) hn e; omega
theorem own_set16 {cs : List Int32} {vs : List Value} {i : Nat} (hl : vs.length = 2 * cs.length) (hi : i < cs.length)
    (hv : ∀ j, j < i → vs.getD (2 * j) (.int 0) = .int (own_lo (cs.getD j 0)) ∧ vs.getD (2 * j + 1) (.int 0) = .int (own_hi (cs.getD j 0))) :
    ∀ j, j < i + 1 → ((vs.set (2 * i) (.int (own_lo (cs.getD i 0)))).set (2 * i + 1) (.int (own_hi (cs.getD i 0)))).getD (2 * j) (.int 0) = .int (own_lo (cs.getD j 0)) ∧ ((vs.set (2 * i) (.int (own_lo (cs.getD i 0)))).set (2 * i + 1) (.int (own_hi (cs.getD i 0)))).getD (2 * j + 1) (.int 0) = .int (own_hi (cs.getD j 0)) := by
  intro j hj
  have h1 : 2 * i + 1 < (vs.set (2 * i) (Value.int (own_lo (cs.getD i 0)))).length := by rw [List.length_set]; omega
  have h2 : 2 * i < vs.length := by omega
  rw [own_getD_set _ _ _ _ _ h1, own_getD_set _ _ _ _ _ h2, own_getD_set _ _ _ _ _ h1, own_getD_set _ _ _ _ _ h2]
  by_cases e : j = i
  · subst e
    rw [if_neg (by omega), if_pos rfl, if_pos rfl]; exact ⟨rfl, rfl⟩
  · rw [if_neg (by omega), if_neg (by omega), if_neg (by omega), if_neg (by omega)]; exact hv j (by omega)
theorem own_allD {α : Type} {P : α → Prop} (cs : List α) (d : α) (h : ∀ j, j < cs.length → P (cs.getD j d)) : ∀ c ∈ cs, P c := by
  intro c hc
  obtain ⟨j, hj, rfl⟩ := List.getElem_of_mem hc
  have q := h j hj
  rw [List.getD_eq_getElem?_getD, List.getElem?_eq_getElem hj] at q
  exact q
theorem own_nextD {P : Int32 → Prop} {cs : List Int32} {i : Nat} (h : ∀ j, j < i → P (cs.getD j 0)) (q : P (cs.getD i 0)) : ∀ j, j < i + 1 → P (cs.getD j 0) := by
  intro j hj
  by_cases e : j = i
  · subst e; exact q
  · exact h j (by omega)
theorem own_is16_1 (ch : Int32) : own_is16 [ch] [.int (own_lo ch), .int (own_hi ch)] := ⟨rfl, fun j hj => by
  have e : j = 0 := by simpa using hj
  subst e; exact ⟨rfl, rfl⟩⟩
theorem own_enc_lat1 {ch : Int32} (h : ¬ ((255 : Int32) < ch)) : own_enc [ch] 0 (1 : Int32) [.int (nar .byte (ch.toInt8.toInt32))] :=
  Or.inl ⟨own_allc h own_alln, rfl, rfl, by rw [own_nb]; rfl⟩
theorem own_enc_u1 {ch : Int32} (h : (255 : Int32) < ch) : own_enc [ch] 1 (2 : Int32) [.int (own_lo ch), .int (own_hi ch)] :=
  Or.inr ⟨⟨0, Nat.zero_lt_one, h⟩, rfl, rfl, own_is16_1 ch⟩
theorem own_enc_nil : own_enc [] 0 (0 : Int32) [] := Or.inl ⟨own_alln, rfl, rfl, rfl⟩
theorem own_8to16 {c : Int32} (h : 0 ≤ c.toInt ∧ c.toInt ≤ 255) : 0 ≤ c.toInt ∧ c.toInt ≤ 65535 := ⟨h.1, by omega⟩
theorem own_narrng (x : Int32) : 0 ≤ (nar .char x).toInt ∧ (nar .char x).toInt ≤ 65535 := by
  have q := c_i2c x
  show 0 ≤ x.toUInt32.toUInt16.toUInt32.toInt32.toInt ∧ x.toUInt32.toUInt16.toUInt32.toInt32.toInt ≤ 65535
  omega
theorem own_shr0 (x : Int32) : x >>> ((0 : Int32) &&& 31) = x := Int32.toInt_inj.mp (by rw [c_ishr x 0 0 (by decide)]; simp)
theorem own_shr1 {n : Nat} (h : n < 1073741824) : Int32.ofNat (2 * n) >>> ((1 : Int32) &&& 31) = Int32.ofNat n := by
  apply Int32.toInt_inj.mp
  rw [c_ishr _ 1 1 (by decide), own_toInt (by omega), own_toInt (by omega)]
  omega
theorem own_byteEq {c d : Int32} (hc : 0 ≤ c.toInt ∧ c.toInt ≤ 255) (hd : 0 ≤ d.toInt ∧ d.toInt ≤ 255) : c.toInt8.toInt32 = d.toInt8.toInt32 ↔ c = d := by
  constructor
  · intro h
    have h1 := c_i2b c; have h2 := c_i2b d
    rw [h] at h1
    exact Int32.toInt_inj.mp (by omega)
  · intro h; rw [h]
theorem own_lat_rng {cs : List Int32} (hall : ∀ c ∈ cs, ¬ ((255 : Int32) < c)) (h16 : ∀ c ∈ cs, 0 ≤ c.toInt ∧ c.toInt ≤ 65535) : ∀ c ∈ cs, 0 ≤ c.toInt ∧ c.toInt ≤ 255 := fun c hc => by
  have q := hall c hc; have r := h16 c hc
  rw [Int32.lt_iff_toInt_lt] at q
  have : (255 : Int32).toInt = 255 := by decide
  omega
theorem own_m1 {P : Int32 → Prop} {cs : List Int32} (h : cs.length = 0) : (-1 : Int32) < (0 : Int32) ↔ ∀ c ∈ cs, P c :=
  ⟨fun _ => by rw [List.eq_nil_of_length_eq_zero h]; exact own_alln, fun _ => by decide⟩
theorem own_pos0 {n : Nat} (h : ¬ (0 : Int32) < Int32.ofNat n) (hn : n < 2147483648) : n = 0 := by
  rcases Nat.eq_zero_or_pos n with e | e
  · exact e
  · exact absurd (own_lt (i := 0) e hn) h
theorem own_n3 {x n : Int32} (h : (x &&& (3 : Int32)) = n) (h0 : ¬ (n = (0 : Int32))) (h1 : ¬ (n = (1 : Int32))) (h2 : ¬ (n = (2 : Int32))) : n = (3 : Int32) := by
  have q : (x &&& (3 : Int32)).toInt = x.toInt % (2 ^ 2 : Nat) := c_mask x 3 2 (by decide) (by decide)
  rw [h] at q
  have a0 := mt Int32.toInt_inj.mp h0; have a1 := mt Int32.toInt_inj.mp h1; have a2 := mt Int32.toInt_inj.mp h2
  have e0 : (0 : Int32).toInt = 0 := by decide
  have e1 : (1 : Int32).toInt = 1 := by decide
  have e2 : (2 : Int32).toInt = 2 := by decide
  have e3 : (3 : Int32).toInt = 3 := by decide
  apply Int32.toInt_inj.mp
  omega

section OwnKitSB
variable {p : Program} {l : Launch} {e : Env} {R : Room} {s : State} {m : MethodId} {args : Array Value} {below : List Frame} {meth : Method} {c : Code} {T : State} {locs : List Loc} {cells slots : Nat}
theorem own_selfSel {C : String} {y : MethodName} (h : (Jvm.Cond.selects C y y).before args s = true) (hp : s.PrivateAt y) (hi : (Jvm.Cond.instanceMethod y).before args s = true) (hy : y.cls ≠ "java/lang/invoke/MethodHandle" ∧ y.cls ≠ "java/lang/invoke/VarHandle") : (Jvm.Cond.selects y.cls y y).before args s = true := by
  obtain ⟨mk, methM, hnamed, -, -, -⟩ := Cond.instanceMethod_spec hi
  obtain ⟨c2, r2, m2, -, -, q3, -, kP, hkP, hkPi⟩ := Cond.selects_spec h
  cases hnamed.symm.trans q3
  exact selects_self_of_private (findClass_of_methodNamed hnamed) hkP hkPi hp hi hy
theorem own_face {C : String} {w : MethodName} (h : (Jvm.Cond.selects C w w).before args s = true) : ∃ c k, s.vm.findClass w.cls = some c ∧ s.vm.classes[c]? = some k ∧ k.isInterface = false := by
  obtain ⟨c2, r2, m2, -, -, q3, -, kP, hkP, hkPi⟩ := Cond.selects_spec h
  exact ⟨_, kP, findClass_of_methodNamed q3, hkP, hkPi⟩
theorem own_sameSelf {C : String} {y w : MethodName} (hi : (Jvm.Cond.instanceMethod y).before args s = true) (hw : (Jvm.Cond.selects C w w).before args s = true) (hc : w.cls = y.cls) (hy : y.cls ≠ "java/lang/invoke/MethodHandle" ∧ y.cls ≠ "java/lang/invoke/VarHandle") : (Jvm.Cond.sameMethod y.cls y.cls y.name y.desc).before args s = true := by
  obtain ⟨mk, methM, hnamed, -, -, -⟩ := Cond.instanceMethod_spec hi
  obtain ⟨c, k, h1, h2, h3⟩ := own_face hw
  rw [hc] at h1
  have hfound : s.methodFound? y.cls y.name y.desc = some mk := State.methodFound?_of_named hnamed hy
  have hn : s.methodNamed? ⟨y.cls, y.name, y.desc⟩ = some mk := hnamed
  simp only [Cond.before, Cond.holds, Cond.value, hfound, hn, h1]
  simp [h2, h3]
theorem own_notFace {C : String} {y w : MethodName} (hw : (Jvm.Cond.selects C w w).before args s = true) (hc : w.cls = y.cls) : NotFace s y := fun r0 h0 => by
  obtain ⟨c, k, h1, h2, h3⟩ := own_face hw
  rw [hc] at h1
  cases (findClass_of_methodNamed h0).symm.trans h1
  exact ⟨k, h2, h3⟩
variable {Z : State} {a0 : Array Value} {own : String} {index : Nat} {y z : MethodName} {bytes : ByteArray} {maxL : Nat} {ret : Option FieldType} {rm : Room} {as' : Array Value} {h : Heap} {Q : Option Value → Heap → List Loc → Prop} {G : State → Prop} {pc : Nat} {Ls : Array Slot} {stk argsL rest : List Value}
theorem own_callP2 {C : String} (X : Stand p l e R s m args below meth c T locs cells slots) (hx : p.tables.exec = Jvm.exec) (hZ : Z.Warmed39 s.vm) (hG : own_Bk p e below G) (hown : s.vm.findClass own = some m.cls)
    (w1 : (Jvm.Cond.methodLink own index y).before a0 Z = true) (w2 : (Jvm.Cond.instanceMethod y).before a0 Z = true) (w3 : (Jvm.Cond.selects C y y).before a0 Z = true) (wp : (Jvm.Cond.privateMethod y).before a0 Z = true) (w5 : (Jvm.Cond.initialized y.cls).before a0 Z = true) (w6 : (Jvm.Cond.code y bytes maxL ret).before a0 Z = true)
    (hy : y.cls ≠ "java/lang/invoke/MethodHandle" ∧ y.cls ≠ "java/lang/invoke/VarHandle") (W : Nat) (hM : own_Con l Z y bytes maxL ret [] rm as' h Q) (hf : rm.frames + 1 ≤ R.frames) (hlo : W + (maxL + 11) + rm.locals ≤ R.locals) (eT : T.heap = h) {b : Addr} {D : String} (E : Exa Z h b D)
    (hsize : Ls.size = c.maxLocals) (hlen : ∀ sig, parseMethodDescriptor y.desc = some sig → argsL.length = sig.parameters.length) (has : (.ref b :: argsL).toArray = as') (hst : stk = argsL.reverse ++ .ref b :: rest) (hW : (rest.map fun v => v.category).sum ≤ W)
    (hd : decode c.code pc = .ok (.invokevirtual index, 3)) (hc : cells + rm.cells ≤ R.cells) (hs : slots + rm.slots ≤ R.slots)
    (k : ∀ T' h' v L, Stand p l e R s m args below meth c T' (locs ++ L) (cells + rm.cells) (slots + rm.slots) → T'.heap = h' → Q v h' L → G (T'.setTop (mkF m (pc + 3) Ls (v.toList ++ rest)))) : G (T.setTop (mkF m pc Ls stk)) := by
  have hp : Z.PrivateAt y := Cond.privateMethod_at wp
  exact own_callP X hx hZ hG hown w1 w2 (own_selfSel w3 hp w2 hy) wp w5 w6 hy W hM hf hlo eT E hsize hlen has hst hW hd hc hs k
theorem own_callVZ {C D : String} {w : MethodName} (X : Stand p l e R s m args below meth c T locs cells slots) (hx : p.tables.exec = Jvm.exec) (hZ : Z.Warmed39 s.vm) (hG : own_Bk p e below G) (hown : s.vm.findClass own = some m.cls)
    (w1 : (Jvm.Cond.methodLink own index z).before a0 Z = true) (w2 : (Jvm.Cond.declares z).before a0 Z = true) (w3 : (Jvm.Cond.selects C z y).before a0 Z = true) (wq : (Jvm.Cond.selects D w w).before a0 Z = true) (hq : w.cls = z.cls) (w4 : (Jvm.Cond.instanceMethod y).before a0 Z = true) (w5 : (Jvm.Cond.initialized y.cls).before a0 Z = true) (w6 : (Jvm.Cond.code y bytes maxL ret).before a0 Z = true)
    (hy : z.cls ≠ "java/lang/invoke/MethodHandle" ∧ z.cls ≠ "java/lang/invoke/VarHandle") (W : Nat) (hM : own_Con l Z y bytes maxL ret [] rm as' h Q) (hf : rm.frames + 1 ≤ R.frames) (hlo : W + (maxL + 11) + rm.locals ≤ R.locals) (eT : T.heap = h) {b : Addr} (E : Exa Z h b C)
    (hsize : Ls.size = c.maxLocals) (hlen : ∀ sig, parseMethodDescriptor z.desc = some sig → argsL.length = sig.parameters.length) (has : (.ref b :: argsL).toArray = as') (hst : stk = argsL.reverse ++ .ref b :: rest) (hW : (rest.map fun v => v.category).sum ≤ W)
    (hd : decode c.code pc = .ok (.invokevirtual index, 3)) (hc : cells + rm.cells ≤ R.cells) (hs : slots + rm.slots ≤ R.slots)
    (k : ∀ T' h' v L, Stand p l e R s m args below meth c T' (locs ++ L) (cells + rm.cells) (slots + rm.slots) → T'.heap = h' → Q v h' L → G (T'.setTop (mkF m (pc + 3) Ls (v.toList ++ rest)))) : G (T.setTop (mkF m pc Ls stk)) := by
  obtain ⟨cq, kq, qa, qb, qc⟩ := isOf hZ eT E
  obtain ⟨v, _, ⟨T1, L1, k1, n1⟩, -, X1, ⟨L, hQ, rfl, rfl, rfl⟩, st⟩ := X.virtualBack hx (y := z) (z := y) hown (mvT hZ w1) (mvT hZ w2) (own_notFace (args := #[]) (mvT hZ wq) hq) (mvT hZ w3) (mvT hZ w4) hy (backOf (W := W) hM hZ w6 w5 hf hlo) qa qc (g := mkF m pc Ls stk) rfl hsize (Steps.refl _) (argsL := argsL) (rest := rest) hlen hst (by show 2 * 0 + _ ≤ _; rw [Nat.mul_zero, Nat.zero_add]; exact hW) hd (fun _ _ => ⟨has, eT, hc, hs⟩)
  exact hG _ _ (fun t kk => st.trans kk) (k T1 _ v L X1 rfl hQ)
theorem own_callU {B : String} {w : MethodName} (X : Stand p l e R s m args below meth c T locs cells slots) (hx : p.tables.exec = Jvm.exec) (hZ : Z.Warmed39 s.vm) (hG : own_Bk p e below G) (hown : s.vm.findClass own = some m.cls)
    (w1 : (Jvm.Cond.methodLink own index y).before a0 Z = true) (w2 : (Jvm.Cond.instanceMethod y).before a0 Z = true) (w4 : (Jvm.Cond.superclass own y.cls).before a0 Z = true) (wq : (Jvm.Cond.selects B w w).before a0 Z = true) (hq : w.cls = y.cls) (w5 : (Jvm.Cond.initialized y.cls).before a0 Z = true) (w6 : (Jvm.Cond.code y bytes maxL ret).before a0 Z = true)
    (hn : y.name ≠ "<init>") (hy : y.cls ≠ "java/lang/invoke/MethodHandle" ∧ y.cls ≠ "java/lang/invoke/VarHandle") (W : Nat) (hM : own_Con l Z y bytes maxL ret [] rm as' h Q) (hf : rm.frames + 1 ≤ R.frames) (hlo : W + (maxL + 11) + rm.locals ≤ R.locals) (eT : T.heap = h) {b : Addr} {D : String} (E : Exa Z h b D)
    (hsize : Ls.size = c.maxLocals) (hlen : ∀ sig, parseMethodDescriptor y.desc = some sig → argsL.length = sig.parameters.length) (has : (.ref b :: argsL).toArray = as') (hst : stk = argsL.reverse ++ .ref b :: rest) (hW : (rest.map fun v => v.category).sum ≤ W)
    (hd : decode c.code pc = .ok (.invokespecial index, 3)) (hc : cells + rm.cells ≤ R.cells) (hs : slots + rm.slots ≤ R.slots)
    (k : ∀ T' h' v L, Stand p l e R s m args below meth c T' (locs ++ L) (cells + rm.cells) (slots + rm.slots) → T'.heap = h' → Q v h' L → G (T'.setTop (mkF m (pc + 3) Ls (v.toList ++ rest)))) : G (T.setTop (mkF m pc Ls stk)) := by
  obtain ⟨v, _, ⟨T1, L1, k1, n1⟩, -, X1, ⟨L, hQ, rfl, rfl, rfl⟩, st⟩ := superBack X hx hZ hown w1 (own_sameSelf w2 wq hq hy) w2 w4 hn (backOf (W := W) hM hZ w6 w5 hf hlo) eT (Ins.self E) (g := mkF m pc Ls stk) rfl hsize w6 (argsL := argsL) (rest := rest) hlen hst (by show 2 * 0 + _ ≤ _; rw [Nat.mul_zero, Nat.zero_add]; exact hW) hd (fun _ _ => ⟨has, eT, hc, hs⟩)
  exact hG _ _ (fun t kk => st.trans kk) (k T1 _ v L X1 rfl hQ)
end OwnKitSB

theorem own_enc_lat {cs ks : List Int32} (hb : ∃ k, k < cs.length ∧ (255 : Int32) < cs.getD k 0) (hk : ∀ c ∈ ks, ¬ ((255 : Int32) < c)) : cs ≠ ks := fun e => by
  subst e
  obtain ⟨k, h1, h2⟩ := hb
  exact hk _ (own_getD_mem cs k 0 h1) h2
theorem own_eq_of {cs ks : List Int32} (hl : ks.length = cs.length) (h : ∀ j, j < ks.length → ks.getD j 0 = cs.getD j 0) : cs = ks := by
  apply List.ext_getElem? ; intro j
  by_cases hj : j < ks.length
  · have q := h j hj
    rw [List.getD_eq_getElem?_getD, List.getD_eq_getElem?_getD, List.getElem?_eq_getElem hj, List.getElem?_eq_getElem (hl ▸ hj)] at q
    rw [List.getElem?_eq_getElem hj, List.getElem?_eq_getElem (hl ▸ hj)]
    exact congrArg some q.symm
  · rw [List.getElem?_eq_none (by omega), List.getElem?_eq_none (by omega)]
theorem own_ne_of {cs ks : List Int32} {j : Nat} (h : ¬ (ks.getD j 0 = cs.getD j 0)) : cs ≠ ks := fun e => h (by rw [e])
theorem own_ne_len {cs ks : List Int32} (h : ¬ (ks.length = cs.length)) : cs ≠ ks := fun e => h (by rw [e])
theorem own_hasL {cl : Cell} : ∀ (vs : List Value) (k : Nat), (∀ i, i < vs.length → cl.slots[k + i]? = some (vs.getD i .null)) → HasL cl k vs
  | [], _, _ => trivial
  | v :: r, k, h => ⟨by have q := h 0 (Nat.zero_lt_succ _); exact q, own_hasL r (k + 1) fun i hi => by
      have q := h (i + 1) (Nat.succ_lt_succ hi)
      rw [show k + 1 + i = k + (i + 1) by omega]; exact q⟩
theorem own_listArv {s : State} {args : Array Value} {t : Term} {a : Addr} {cl : Cell} {ty : FieldType} {dv : Value} {n : Int32} {vs : List Value} (hf : Fit s) (ev : t.eval args s none [] s = some (.ref a)) (A : Arr s s.heap a cl ty) (hl : (Term.length t).eval args s none [] s = some (.int n)) (hn : ¬ n < 0) (hv : n.toNatClampNeg = vs.length) (h31 : vs.length < 2147483648)
    (he : ∀ i, i < vs.length → (Term.elem t (Term.int (Int32.ofNat i))).eval args s none [] s = some (vs.getD i .null)) : Arv s s.heap a cl.cls ty n vs dv := by
  obtain ⟨x, cl', e1, e2, -⟩ := Term.length_spec hl
  cases ev.symm.trans e1
  have hc : s.arrayAt? a = some cl := A.fin (Vm.Alike.refl _)
  cases e2.symm.trans hc
  have h31' := Jvm.Free.SBG.length_lt e1 hc hl
  have e : (Term.length t).eval args s none [] s = some (.int (Int32.ofNat cl.slots.size)) := by simp [Term.eval, e1, hc, h31']
  have q : Int32.ofNat cl.slots.size = n := by simpa using Option.some.inj (e.symm.trans hl)
  refine Arv.start hf A h31' q hn hv (own_hasL vs 0 fun i hi => ?_)
  have g := he i hi
  rw [elem_f (j := Int32.ofNat i) e1 (Term.int_eval _) hc (own_nn (by omega)), own_clamp (by omega)] at g
  rw [Nat.zero_add]; exact g
theorem own_eqI {args : Array Value} {s : State} {a b : Term} {n : Int32} (h : (Cond.eq a b).value args s none s [] = some true) (hb : b.eval args s none [] s = some (.int n)) : a.eval args s none [] s = some (.int n) := Cond.eq_int (by simp [Cond.holds, h]) hb
theorem own_eqR {args : Array Value} {s : State} {a b : Term} {y : Addr} (h : (Cond.eq a b).value args s none s [] = some true) (hb : b.eval args s none [] s = some (.ref y)) : a.eval args s none [] s = some (.ref y) := Cond.eq_refs (by simp [Cond.holds, h]) hb rfl
theorem own_neR {args : Array Value} {s : State} {a b : Term} {x y : Addr} (h : (Cond.not (Cond.eq a b)).value args s none s [] = some true) (ha : a.eval args s none [] s = some (.ref x)) (hb : b.eval args s none [] s = some (.ref y)) : x ≠ y := fun e => by
  subst e
  have q := not_v h
  simp [Cond.value, ha, hb] at q
theorem own_fldS {args : Array Value} {s : State} {t : Term} {C n d : String} {a : Addr} {v : Value} (ht : t.eval args s none [] s = some (.ref a)) (h : (Term.field t C n d).eval args s none [] s = some v) : Fld s s.heap a C n d v := Fld.start (by simpa [Term.eval, ht] using h)
theorem own_set_same {ks : List Int32} {i : Nat} (hi : i < ks.length) : ks.set i (ks.getD i 0) = ks := by
  apply List.ext_getElem? ; intro j
  by_cases e : i = j
  · subst e
    rw [List.getElem?_set_self hi, List.getD_eq_getElem?_getD, List.getElem?_eq_getElem hi]; rfl
  · rw [List.getElem?_set_ne e]
theorem own_set_ne {ks : List Int32} {i : Nat} {c : Int32} (hi : i < ks.length) (h : ¬ (c = ks.getD i 0)) : ks.set i c ≠ ks := fun e => h (by
  have q := congrArg (fun l => l.getD i 0) e
  simp only [List.getD_eq_getElem?_getD, List.getElem?_set_self hi] at q
  rw [List.getD_eq_getElem?_getD]; exact q)
theorem own_ixl {x n r : Int32} (hn : 0 < n.toInt) (hr : ((x &&& (2147483647 : Int32)) % n) = r) : 0 ≤ r.toInt ∧ r.toInt < n.toInt := by
  have q := c_and x 2147483647 (by decide)
  have c := (c_iremV (x &&& 2147483647) n).1 q.1 (by omega)
  rw [hr] at c
  exact ⟨c.1, c.2.1⟩
theorem own_ixb {n r : Int32} {k : Nat} (h : 0 ≤ r.toInt ∧ r.toInt < n.toInt) (hn : n.toInt = k) : ¬ (r < (0 : Int32)) ∧ r < n ∧ r.toNatClampNeg < k := by
  have hc : r.toNatClampNeg = r.toInt.toNat := rfl
  rw [Int32.lt_iff_toInt_lt, Int32.lt_iff_toInt_lt, hc]
  have e0 : (0 : Int32).toInt = 0 := by decide
  omega
theorem own_r3 {x r : Int32} (h : ((x &&& (2147483647 : Int32)) % (3 : Int32)) = r) : r = (0 : Int32) ∨ r = (1 : Int32) ∨ r = (2 : Int32) := by
  have q := own_ixl (n := 3) (by decide) h
  have e0 : (0 : Int32).toInt = 0 := by decide
  have e1 : (1 : Int32).toInt = 1 := by decide
  have e2 : (2 : Int32).toInt = 2 := by decide
  have e3 : (3 : Int32).toInt = 3 := by decide
  simp only [← Int32.toInt_inj]; omega
theorem own_r7 {x r : Int32} (h : ((x &&& (2147483647 : Int32)) % (7 : Int32)) = r) : r = (0 : Int32) ∨ r = (1 : Int32) ∨ r = (2 : Int32) ∨ r = (3 : Int32) ∨ r = (4 : Int32) ∨ r = (5 : Int32) ∨ r = (6 : Int32) := by
  have q := own_ixl (n := 7) (by decide) h
  have e0 : (0 : Int32).toInt = 0 := by decide
  have e1 : (1 : Int32).toInt = 1 := by decide
  have e2 : (2 : Int32).toInt = 2 := by decide
  have e3 : (3 : Int32).toInt = 3 := by decide
  have e4 : (4 : Int32).toInt = 4 := by decide
  have e5 : (5 : Int32).toInt = 5 := by decide
  have e6 : (6 : Int32).toInt = 6 := by decide
  have e7 : (7 : Int32).toInt = 7 := by decide
  simp only [← Int32.toInt_inj]; omega
theorem own_m3 {x r : Int32} (h : (x &&& (3 : Int32)) = r) : r = (0 : Int32) ∨ r = (1 : Int32) ∨ r = (2 : Int32) ∨ r = (3 : Int32) := by
  have q : (x &&& (3 : Int32)).toInt = x.toInt % (2 ^ 2 : Nat) := c_mask x 3 2 (by decide) (by decide)
  rw [h] at q
  have e0 : (0 : Int32).toInt = 0 := by decide
  have e1 : (1 : Int32).toInt = 1 := by decide
  have e2 : (2 : Int32).toInt = 2 := by decide
  have e3 : (3 : Int32).toInt = 3 := by decide
  simp only [← Int32.toInt_inj]; omega
theorem own_r4 {x r : Int32} (h : ((x &&& (2147483647 : Int32)) % (4 : Int32)) = r) : r = (0 : Int32) ∨ r = (1 : Int32) ∨ r = (2 : Int32) ∨ r = (3 : Int32) := by
  have q := own_ixl (n := 4) (by decide) h
  have e0 : (0 : Int32).toInt = 0 := by decide
  have e1 : (1 : Int32).toInt = 1 := by decide
  have e2 : (2 : Int32).toInt = 2 := by decide
  have e3 : (3 : Int32).toInt = 3 := by decide
  have e4 : (4 : Int32).toInt = 4 := by decide
  simp only [← Int32.toInt_inj]; omega

theorem d1_0 : decode jdk_42_method_139_code 0 = .ok (.getstatic 38, 3) := by decide +kernel
theorem d1_3 : decode jdk_42_method_139_code 3 = .ok (.ifCond .eq 23, 3) := by decide +kernel
theorem d1_6 : decode jdk_42_method_139_code 6 = .ok (.iload_n 0, 1) := by decide +kernel
theorem d1_7 : decode jdk_42_method_139_code 7 = .ok (.invokestatic 1015, 3) := by decide +kernel
theorem d1_10 : decode jdk_42_method_139_code 10 = .ok (.ifCond .eq 16, 3) := by decide +kernel
theorem d1_13 : decode jdk_42_method_139_code 13 = .ok (.new 10, 3) := by decide +kernel
theorem d1_16 : decode jdk_42_method_139_code 16 = .ok (.dup, 1) := by decide +kernel
theorem d1_17 : decode jdk_42_method_139_code 17 = .ok (.iload_n 0, 1) := by decide +kernel
theorem d1_18 : decode jdk_42_method_139_code 18 = .ok (.invokestatic 1018, 3) := by decide +kernel
theorem d1_21 : decode jdk_42_method_139_code 21 = .ok (.iconst 0, 1) := by decide +kernel
theorem d1_22 : decode jdk_42_method_139_code 22 = .ok (.invokespecial 209, 3) := by decide +kernel
theorem d1_25 : decode jdk_42_method_139_code 25 = .ok (.areturn, 1) := by decide +kernel
theorem d2_0 : decode jdk_43_method_3_code 0 = .ok (.iload_n 0, 1) := by decide +kernel
theorem d2_1 : decode jdk_43_method_3_code 1 = .ok (.sipush 255, 3) := by decide +kernel
theorem d2_4 : decode jdk_43_method_3_code 4 = .ok (.if_icmp .gt 7, 3) := by decide +kernel
theorem d2_7 : decode jdk_43_method_3_code 7 = .ok (.iconst 1, 1) := by decide +kernel
theorem d2_8 : decode jdk_43_method_3_code 8 = .ok (.goto 4, 3) := by decide +kernel
theorem d2_12 : decode jdk_43_method_3_code 12 = .ok (.ireturn, 1) := by decide +kernel
theorem d3_0 : decode jdk_43_method_46_code 0 = .ok (.iconst 1, 1) := by decide +kernel
theorem d3_1 : decode jdk_43_method_46_code 1 = .ok (.newarray .byte, 2) := by decide +kernel
theorem d3_3 : decode jdk_43_method_46_code 3 = .ok (.dup, 1) := by decide +kernel
theorem d3_4 : decode jdk_43_method_46_code 4 = .ok (.iconst 0, 1) := by decide +kernel
theorem d3_5 : decode jdk_43_method_46_code 5 = .ok (.iload_n 0, 1) := by decide +kernel
theorem d3_6 : decode jdk_43_method_46_code 6 = .ok (.i2b, 1) := by decide +kernel
theorem d3_7 : decode jdk_43_method_46_code 7 = .ok (.bastore, 1) := by decide +kernel
theorem d3_8 : decode jdk_43_method_46_code 8 = .ok (.areturn, 1) := by decide +kernel
theorem d4_0 : decode jdk_42_method_151_code 0 = .ok (.aload_n 0, 1) := by decide +kernel
theorem d4_1 : decode jdk_42_method_151_code 1 = .ok (.invokespecial 1, 3) := by decide +kernel
theorem d4_4 : decode jdk_42_method_151_code 4 = .ok (.aload_n 0, 1) := by decide +kernel
theorem d4_5 : decode jdk_42_method_151_code 5 = .ok (.aload_n 1, 1) := by decide +kernel
theorem d4_6 : decode jdk_42_method_151_code 6 = .ok (.putfield 9, 3) := by decide +kernel
theorem d4_9 : decode jdk_42_method_151_code 9 = .ok (.aload_n 0, 1) := by decide +kernel
theorem d4_10 : decode jdk_42_method_151_code 10 = .ok (.iload_n 2, 1) := by decide +kernel
theorem d4_11 : decode jdk_42_method_151_code 11 = .ok (.putfield 15, 3) := by decide +kernel
theorem d4_14 : decode jdk_42_method_151_code 14 = .ok (.return_, 1) := by decide +kernel
theorem d6_0 : decode jdk_42_method_3_code 0 = .ok (.aload_n 0, 1) := by decide +kernel
theorem d6_1 : decode jdk_42_method_3_code 1 = .ok (.aload_n 1, 1) := by decide +kernel
theorem d6_2 : decode jdk_42_method_3_code 2 = .ok (.iconst 0, 1) := by decide +kernel
theorem d6_3 : decode jdk_42_method_3_code 3 = .ok (.aload_n 1, 1) := by decide +kernel
theorem d6_4 : decode jdk_42_method_3_code 4 = .ok (.arraylength, 1) := by decide +kernel
theorem d6_5 : decode jdk_42_method_3_code 5 = .ok (.aconst_null, 1) := by decide +kernel
theorem d6_6 : decode jdk_42_method_3_code 6 = .ok (.invokespecial 27, 3) := by decide +kernel
theorem d6_9 : decode jdk_42_method_3_code 9 = .ok (.return_, 1) := by decide +kernel
theorem d7_0 : decode jdk_42_method_149_code 0 = .ok (.aload_n 0, 1) := by decide +kernel
theorem d7_1 : decode jdk_42_method_149_code 1 = .ok (.invokespecial 1, 3) := by decide +kernel
theorem d7_4 : decode jdk_42_method_149_code 4 = .ok (.iload_n 3, 1) := by decide +kernel
theorem d7_5 : decode jdk_42_method_149_code 5 = .ok (.ifCond .ne 22, 3) := by decide +kernel
theorem d7_27 : decode jdk_42_method_149_code 27 = .ok (.getstatic 38, 3) := by decide +kernel
theorem d7_30 : decode jdk_42_method_149_code 30 = .ok (.ifCond .eq 28, 3) := by decide +kernel
theorem d7_33 : decode jdk_42_method_149_code 33 = .ok (.aload_n 1, 1) := by decide +kernel
theorem d7_34 : decode jdk_42_method_149_code 34 = .ok (.iload_n 2, 1) := by decide +kernel
theorem d7_35 : decode jdk_42_method_149_code 35 = .ok (.iload_n 3, 1) := by decide +kernel
theorem d7_36 : decode jdk_42_method_149_code 36 = .ok (.invokestatic 177, 3) := by decide +kernel
theorem d7_39 : decode jdk_42_method_149_code 39 = .ok (.astore 5, 2) := by decide +kernel
theorem d7_41 : decode jdk_42_method_149_code 41 = .ok (.aload_n 0, 1) := by decide +kernel
theorem d7_42 : decode jdk_42_method_149_code 42 = .ok (.aload 5, 2) := by decide +kernel
theorem d7_44 : decode jdk_42_method_149_code 44 = .ok (.iload_n 3, 1) := by decide +kernel
theorem d7_45 : decode jdk_42_method_149_code 45 = .ok (.invokestatic 47, 3) := by decide +kernel
theorem d7_48 : decode jdk_42_method_149_code 48 = .ok (.putfield 15, 3) := by decide +kernel
theorem d7_51 : decode jdk_42_method_149_code 51 = .ok (.aload_n 0, 1) := by decide +kernel
theorem d7_52 : decode jdk_42_method_149_code 52 = .ok (.aload 5, 2) := by decide +kernel
theorem d7_54 : decode jdk_42_method_149_code 54 = .ok (.putfield 9, 3) := by decide +kernel
theorem d7_57 : decode jdk_42_method_149_code 57 = .ok (.return_, 1) := by decide +kernel
theorem d8_0 : decode jdk_52_method_16_code 0 = .ok (.iload_n 2, 1) := by decide +kernel
theorem d8_1 : decode jdk_52_method_16_code 1 = .ok (.newarray .byte, 2) := by decide +kernel
theorem d8_3 : decode jdk_52_method_16_code 3 = .ok (.astore_n 3, 1) := by decide +kernel
theorem d8_4 : decode jdk_52_method_16_code 4 = .ok (.aload_n 0, 1) := by decide +kernel
theorem d8_5 : decode jdk_52_method_16_code 5 = .ok (.iload_n 1, 1) := by decide +kernel
theorem d8_6 : decode jdk_52_method_16_code 6 = .ok (.aload_n 3, 1) := by decide +kernel
theorem d8_7 : decode jdk_52_method_16_code 7 = .ok (.iconst 0, 1) := by decide +kernel
theorem d8_8 : decode jdk_52_method_16_code 8 = .ok (.iload_n 2, 1) := by decide +kernel
theorem d8_9 : decode jdk_52_method_16_code 9 = .ok (.invokestatic 115, 3) := by decide +kernel
theorem d8_12 : decode jdk_52_method_16_code 12 = .ok (.istore 4, 2) := by decide +kernel
theorem d8_14 : decode jdk_52_method_16_code 14 = .ok (.iload 4, 2) := by decide +kernel
theorem d8_16 : decode jdk_52_method_16_code 16 = .ok (.iload_n 2, 1) := by decide +kernel
theorem d8_17 : decode jdk_52_method_16_code 17 = .ok (.if_icmp .eq 40, 3) := by decide +kernel
theorem d8_57 : decode jdk_52_method_16_code 57 = .ok (.aload_n 3, 1) := by decide +kernel
theorem d8_58 : decode jdk_52_method_16_code 58 = .ok (.areturn, 1) := by decide +kernel
theorem d9_0 : decode jdk_52_method_21_code 0 = .ok (.iconst 0, 1) := by decide +kernel
theorem d9_1 : decode jdk_52_method_21_code 1 = .ok (.istore 5, 2) := by decide +kernel
theorem d9_3 : decode jdk_52_method_21_code 3 = .ok (.iload 5, 2) := by decide +kernel
theorem d9_5 : decode jdk_52_method_21_code 5 = .ok (.iload 4, 2) := by decide +kernel
theorem d9_7 : decode jdk_52_method_21_code 7 = .ok (.if_icmp .ge 37, 3) := by decide +kernel
theorem d9_10 : decode jdk_52_method_21_code 10 = .ok (.aload_n 0, 1) := by decide +kernel
theorem d9_11 : decode jdk_52_method_21_code 11 = .ok (.iload_n 1, 1) := by decide +kernel
theorem d9_12 : decode jdk_52_method_21_code 12 = .ok (.caload, 1) := by decide +kernel
theorem d9_13 : decode jdk_52_method_21_code 13 = .ok (.istore 6, 2) := by decide +kernel
theorem d9_15 : decode jdk_52_method_21_code 15 = .ok (.iload 6, 2) := by decide +kernel
theorem d9_17 : decode jdk_52_method_21_code 17 = .ok (.sipush 255, 3) := by decide +kernel
theorem d9_20 : decode jdk_52_method_21_code 20 = .ok (.if_icmp .le 6, 3) := by decide +kernel
theorem d9_26 : decode jdk_52_method_21_code 26 = .ok (.aload_n 2, 1) := by decide +kernel
theorem d9_27 : decode jdk_52_method_21_code 27 = .ok (.iload_n 3, 1) := by decide +kernel
theorem d9_28 : decode jdk_52_method_21_code 28 = .ok (.iload 6, 2) := by decide +kernel
theorem d9_30 : decode jdk_52_method_21_code 30 = .ok (.i2b, 1) := by decide +kernel
theorem d9_31 : decode jdk_52_method_21_code 31 = .ok (.bastore, 1) := by decide +kernel
theorem d9_32 : decode jdk_52_method_21_code 32 = .ok (.iinc 1 1, 3) := by decide +kernel
theorem d9_35 : decode jdk_52_method_21_code 35 = .ok (.iinc 3 1, 3) := by decide +kernel
theorem d9_38 : decode jdk_52_method_21_code 38 = .ok (.iinc 5 1, 3) := by decide +kernel
theorem d9_41 : decode jdk_52_method_21_code 41 = .ok (.goto (-38), 3) := by decide +kernel
theorem d9_44 : decode jdk_52_method_21_code 44 = .ok (.iload 4, 2) := by decide +kernel
theorem d9_46 : decode jdk_52_method_21_code 46 = .ok (.ireturn, 1) := by decide +kernel
theorem d10_0 : decode jdk_52_method_15_code 0 = .ok (.iload_n 1, 1) := by decide +kernel
theorem d10_1 : decode jdk_52_method_15_code 1 = .ok (.aload_n 0, 1) := by decide +kernel
theorem d10_2 : decode jdk_52_method_15_code 2 = .ok (.arraylength, 1) := by decide +kernel
theorem d10_3 : decode jdk_52_method_15_code 3 = .ok (.isub, 1) := by decide +kernel
theorem d10_4 : decode jdk_52_method_15_code 4 = .ok (.bipush 31, 2) := by decide +kernel
theorem d10_6 : decode jdk_52_method_15_code 6 = .ok (.iushr, 1) := by decide +kernel
theorem d10_7 : decode jdk_52_method_15_code 7 = .ok (.i2b, 1) := by decide +kernel
theorem d10_8 : decode jdk_52_method_15_code 8 = .ok (.ireturn, 1) := by decide +kernel
theorem d11_0 : decode prog_12_method_2_code 0 = .ok (.new 8, 3) := by decide +kernel
theorem d11_3 : decode prog_12_method_2_code 3 = .ok (.dup, 1) := by decide +kernel
theorem d11_4 : decode prog_12_method_2_code 4 = .ok (.iconst 1, 1) := by decide +kernel
theorem d11_5 : decode prog_12_method_2_code 5 = .ok (.new 17, 3) := by decide +kernel
theorem d11_8 : decode prog_12_method_2_code 8 = .ok (.dup, 1) := by decide +kernel
theorem d11_9 : decode prog_12_method_2_code 9 = .ok (.invokespecial 19, 3) := by decide +kernel
theorem d11_12 : decode prog_12_method_2_code 12 = .ok (.ldc 20, 2) := by decide +kernel
theorem d11_14 : decode prog_12_method_2_code 14 = .ok (.invokevirtual 22, 3) := by decide +kernel
theorem d11_17 : decode prog_12_method_2_code 17 = .ok (.aload_n 0, 1) := by decide +kernel
theorem d11_18 : decode prog_12_method_2_code 18 = .ok (.invokevirtual 22, 3) := by decide +kernel
theorem d11_21 : decode prog_12_method_2_code 21 = .ok (.invokevirtual 26, 3) := by decide +kernel
theorem d11_24 : decode prog_12_method_2_code 24 = .ok (.invokespecial 30, 3) := by decide +kernel
theorem d11_27 : decode prog_12_method_2_code 27 = .ok (.areturn, 1) := by decide +kernel
theorem d12_0 : decode jdk_67_method_1_code 0 = .ok (.aload_n 0, 1) := by decide +kernel
theorem d12_1 : decode jdk_67_method_1_code 1 = .ok (.bipush 16, 2) := by decide +kernel
theorem d12_3 : decode jdk_67_method_1_code 3 = .ok (.invokespecial 1, 3) := by decide +kernel
theorem d12_6 : decode jdk_67_method_1_code 6 = .ok (.return_, 1) := by decide +kernel
theorem d13_0 : decode jdk_68_method_2_code 0 = .ok (.aload_n 0, 1) := by decide +kernel
theorem d13_1 : decode jdk_68_method_2_code 1 = .ok (.invokespecial 3, 3) := by decide +kernel
theorem d13_4 : decode jdk_68_method_2_code 4 = .ok (.getstatic 18, 3) := by decide +kernel
theorem d13_7 : decode jdk_68_method_2_code 7 = .ok (.ifCond .eq 18, 3) := by decide +kernel
theorem d13_10 : decode jdk_68_method_2_code 10 = .ok (.aload_n 0, 1) := by decide +kernel
theorem d13_11 : decode jdk_68_method_2_code 11 = .ok (.iload_n 1, 1) := by decide +kernel
theorem d13_12 : decode jdk_68_method_2_code 12 = .ok (.newarray .byte, 2) := by decide +kernel
theorem d13_14 : decode jdk_68_method_2_code 14 = .ok (.putfield 15, 3) := by decide +kernel
theorem d13_17 : decode jdk_68_method_2_code 17 = .ok (.aload_n 0, 1) := by decide +kernel
theorem d13_18 : decode jdk_68_method_2_code 18 = .ok (.iconst 0, 1) := by decide +kernel
theorem d13_19 : decode jdk_68_method_2_code 19 = .ok (.putfield 22, 3) := by decide +kernel
theorem d13_22 : decode jdk_68_method_2_code 22 = .ok (.goto 16, 3) := by decide +kernel
theorem d13_38 : decode jdk_68_method_2_code 38 = .ok (.return_, 1) := by decide +kernel
theorem d14_0 : decode jdk_67_method_7_code 0 = .ok (.aload_n 0, 1) := by decide +kernel
theorem d14_1 : decode jdk_67_method_7_code 1 = .ok (.aload_n 1, 1) := by decide +kernel
theorem d14_2 : decode jdk_67_method_7_code 2 = .ok (.invokespecial 29, 3) := by decide +kernel
theorem d14_5 : decode jdk_67_method_7_code 5 = .ok (.pop, 1) := by decide +kernel
theorem d14_6 : decode jdk_67_method_7_code 6 = .ok (.aload_n 0, 1) := by decide +kernel
theorem d14_7 : decode jdk_67_method_7_code 7 = .ok (.areturn, 1) := by decide +kernel
theorem d15_0 : decode jdk_68_method_22_code 0 = .ok (.aload_n 1, 1) := by decide +kernel
theorem d15_1 : decode jdk_68_method_22_code 1 = .ok (.ifnonnull 8, 3) := by decide +kernel
theorem d15_9 : decode jdk_68_method_22_code 9 = .ok (.aload_n 1, 1) := by decide +kernel
theorem d15_10 : decode jdk_68_method_22_code 10 = .ok (.invokevirtual 32, 3) := by decide +kernel
theorem d15_13 : decode jdk_68_method_22_code 13 = .ok (.istore_n 2, 1) := by decide +kernel
theorem d15_14 : decode jdk_68_method_22_code 14 = .ok (.aload_n 0, 1) := by decide +kernel
theorem d15_15 : decode jdk_68_method_22_code 15 = .ok (.aload_n 0, 1) := by decide +kernel
theorem d15_16 : decode jdk_68_method_22_code 16 = .ok (.getfield 79, 3) := by decide +kernel
theorem d15_19 : decode jdk_68_method_22_code 19 = .ok (.iload_n 2, 1) := by decide +kernel
theorem d15_20 : decode jdk_68_method_22_code 20 = .ok (.iadd, 1) := by decide +kernel
theorem d15_21 : decode jdk_68_method_22_code 21 = .ok (.invokevirtual 100, 3) := by decide +kernel
theorem d15_24 : decode jdk_68_method_22_code 24 = .ok (.aload_n 0, 1) := by decide +kernel
theorem d15_25 : decode jdk_68_method_22_code 25 = .ok (.aload_n 0, 1) := by decide +kernel
theorem d15_26 : decode jdk_68_method_22_code 26 = .ok (.getfield 79, 3) := by decide +kernel
theorem d15_29 : decode jdk_68_method_22_code 29 = .ok (.aload_n 1, 1) := by decide +kernel
theorem d15_30 : decode jdk_68_method_22_code 30 = .ok (.invokevirtual 208, 3) := by decide +kernel
theorem d15_33 : decode jdk_68_method_22_code 33 = .ok (.aload_n 0, 1) := by decide +kernel
theorem d15_34 : decode jdk_68_method_22_code 34 = .ok (.dup, 1) := by decide +kernel
theorem d15_35 : decode jdk_68_method_22_code 35 = .ok (.getfield 79, 3) := by decide +kernel
theorem d15_38 : decode jdk_68_method_22_code 38 = .ok (.iload_n 2, 1) := by decide +kernel
theorem d15_39 : decode jdk_68_method_22_code 39 = .ok (.iadd, 1) := by decide +kernel
theorem d15_40 : decode jdk_68_method_22_code 40 = .ok (.putfield 79, 3) := by decide +kernel
theorem d15_43 : decode jdk_68_method_22_code 43 = .ok (.aload_n 0, 1) := by decide +kernel
theorem d15_44 : decode jdk_68_method_22_code 44 = .ok (.areturn, 1) := by decide +kernel
theorem d16_0 : decode jdk_42_method_54_code 0 = .ok (.aload_n 0, 1) := by decide +kernel
theorem d16_1 : decode jdk_42_method_54_code 1 = .ok (.getfield 9, 3) := by decide +kernel
theorem d16_4 : decode jdk_42_method_54_code 4 = .ok (.arraylength, 1) := by decide +kernel
theorem d16_5 : decode jdk_42_method_54_code 5 = .ok (.aload_n 0, 1) := by decide +kernel
theorem d16_6 : decode jdk_42_method_54_code 6 = .ok (.invokevirtual 335, 3) := by decide +kernel
theorem d16_9 : decode jdk_42_method_54_code 9 = .ok (.ishr, 1) := by decide +kernel
theorem d16_10 : decode jdk_42_method_54_code 10 = .ok (.ireturn, 1) := by decide +kernel
theorem d17_0 : decode jdk_42_method_152_code 0 = .ok (.getstatic 38, 3) := by decide +kernel
theorem d17_3 : decode jdk_42_method_152_code 3 = .ok (.ifCond .eq 10, 3) := by decide +kernel
theorem d17_6 : decode jdk_42_method_152_code 6 = .ok (.aload_n 0, 1) := by decide +kernel
theorem d17_7 : decode jdk_42_method_152_code 7 = .ok (.getfield 15, 3) := by decide +kernel
theorem d17_10 : decode jdk_42_method_152_code 10 = .ok (.goto 4, 3) := by decide +kernel
theorem d17_14 : decode jdk_42_method_152_code 14 = .ok (.ireturn, 1) := by decide +kernel
theorem d18_0 : decode jdk_68_method_9_code 0 = .ok (.aload_n 0, 1) := by decide +kernel
theorem d18_1 : decode jdk_68_method_9_code 1 = .ok (.getfield 15, 3) := by decide +kernel
theorem d18_4 : decode jdk_68_method_9_code 4 = .ok (.arraylength, 1) := by decide +kernel
theorem d18_5 : decode jdk_68_method_9_code 5 = .ok (.aload_n 0, 1) := by decide +kernel
theorem d18_6 : decode jdk_68_method_9_code 6 = .ok (.getfield 22, 3) := by decide +kernel
theorem d18_9 : decode jdk_68_method_9_code 9 = .ok (.ishr, 1) := by decide +kernel
theorem d18_10 : decode jdk_68_method_9_code 10 = .ok (.istore_n 2, 1) := by decide +kernel
theorem d18_11 : decode jdk_68_method_9_code 11 = .ok (.iload_n 1, 1) := by decide +kernel
theorem d18_12 : decode jdk_68_method_9_code 12 = .ok (.iload_n 2, 1) := by decide +kernel
theorem d18_13 : decode jdk_68_method_9_code 13 = .ok (.isub, 1) := by decide +kernel
theorem d18_14 : decode jdk_68_method_9_code 14 = .ok (.ifCond .le 24, 3) := by decide +kernel
theorem d18_17 : decode jdk_68_method_9_code 17 = .ok (.aload_n 0, 1) := by decide +kernel
theorem d18_18 : decode jdk_68_method_9_code 18 = .ok (.aload_n 0, 1) := by decide +kernel
theorem d18_19 : decode jdk_68_method_9_code 19 = .ok (.getfield 15, 3) := by decide +kernel
theorem d18_22 : decode jdk_68_method_9_code 22 = .ok (.aload_n 0, 1) := by decide +kernel
theorem d18_23 : decode jdk_68_method_9_code 23 = .ok (.iload_n 1, 1) := by decide +kernel
theorem d18_24 : decode jdk_68_method_9_code 24 = .ok (.invokevirtual 104, 3) := by decide +kernel
theorem d18_27 : decode jdk_68_method_9_code 27 = .ok (.aload_n 0, 1) := by decide +kernel
theorem d18_28 : decode jdk_68_method_9_code 28 = .ok (.getfield 22, 3) := by decide +kernel
theorem d18_31 : decode jdk_68_method_9_code 31 = .ok (.ishl, 1) := by decide +kernel
theorem d18_32 : decode jdk_68_method_9_code 32 = .ok (.invokestatic 108, 3) := by decide +kernel
theorem d18_35 : decode jdk_68_method_9_code 35 = .ok (.putfield 15, 3) := by decide +kernel
theorem d18_38 : decode jdk_68_method_9_code 38 = .ok (.return_, 1) := by decide +kernel
theorem d19_0 : decode jdk_68_method_73_code 0 = .ok (.aload_n 0, 1) := by decide +kernel
theorem d19_1 : decode jdk_68_method_73_code 1 = .ok (.aload_n 2, 1) := by decide +kernel
theorem d19_2 : decode jdk_68_method_73_code 2 = .ok (.invokevirtual 397, 3) := by decide +kernel
theorem d19_5 : decode jdk_68_method_73_code 5 = .ok (.aload_n 2, 1) := by decide +kernel
theorem d19_6 : decode jdk_68_method_73_code 6 = .ok (.aload_n 0, 1) := by decide +kernel
theorem d19_7 : decode jdk_68_method_73_code 7 = .ok (.getfield 15, 3) := by decide +kernel
theorem d19_10 : decode jdk_68_method_73_code 10 = .ok (.iload_n 1, 1) := by decide +kernel
theorem d19_11 : decode jdk_68_method_73_code 11 = .ok (.aload_n 0, 1) := by decide +kernel
theorem d19_12 : decode jdk_68_method_73_code 12 = .ok (.getfield 22, 3) := by decide +kernel
theorem d19_15 : decode jdk_68_method_73_code 15 = .ok (.invokevirtual 399, 3) := by decide +kernel
theorem d19_18 : decode jdk_68_method_73_code 18 = .ok (.return_, 1) := by decide +kernel
theorem d20_0 : decode jdk_68_method_71_code 0 = .ok (.getstatic 18, 3) := by decide +kernel
theorem d20_3 : decode jdk_68_method_71_code 3 = .ok (.ifCond .eq 18, 3) := by decide +kernel
theorem d20_6 : decode jdk_68_method_71_code 6 = .ok (.aload_n 0, 1) := by decide +kernel
theorem d20_7 : decode jdk_68_method_71_code 7 = .ok (.getfield 22, 3) := by decide +kernel
theorem d20_10 : decode jdk_68_method_71_code 10 = .ok (.aload_n 1, 1) := by decide +kernel
theorem d20_11 : decode jdk_68_method_71_code 11 = .ok (.invokevirtual 40, 3) := by decide +kernel
theorem d20_14 : decode jdk_68_method_71_code 14 = .ok (.if_icmp .eq 7, 3) := by decide +kernel
theorem d20_21 : decode jdk_68_method_71_code 21 = .ok (.return_, 1) := by decide +kernel
theorem d21_0 : decode jdk_42_method_147_code 0 = .ok (.aload_n 0, 1) := by decide +kernel
theorem d21_1 : decode jdk_42_method_147_code 1 = .ok (.invokevirtual 335, 3) := by decide +kernel
theorem d21_4 : decode jdk_42_method_147_code 4 = .ok (.iload_n 3, 1) := by decide +kernel
theorem d21_5 : decode jdk_42_method_147_code 5 = .ok (.if_icmp .ne 23, 3) := by decide +kernel
theorem d21_8 : decode jdk_42_method_147_code 8 = .ok (.aload_n 0, 1) := by decide +kernel
theorem d21_9 : decode jdk_42_method_147_code 9 = .ok (.getfield 9, 3) := by decide +kernel
theorem d21_12 : decode jdk_42_method_147_code 12 = .ok (.iconst 0, 1) := by decide +kernel
theorem d21_13 : decode jdk_42_method_147_code 13 = .ok (.aload_n 1, 1) := by decide +kernel
theorem d21_14 : decode jdk_42_method_147_code 14 = .ok (.iload_n 2, 1) := by decide +kernel
theorem d21_15 : decode jdk_42_method_147_code 15 = .ok (.iload_n 3, 1) := by decide +kernel
theorem d21_16 : decode jdk_42_method_147_code 16 = .ok (.ishl, 1) := by decide +kernel
theorem d21_17 : decode jdk_42_method_147_code 17 = .ok (.aload_n 0, 1) := by decide +kernel
theorem d21_18 : decode jdk_42_method_147_code 18 = .ok (.getfield 9, 3) := by decide +kernel
theorem d21_21 : decode jdk_42_method_147_code 21 = .ok (.arraylength, 1) := by decide +kernel
theorem d21_22 : decode jdk_42_method_147_code 22 = .ok (.invokestatic 212, 3) := by decide +kernel
theorem d21_25 : decode jdk_42_method_147_code 25 = .ok (.goto 18, 3) := by decide +kernel
theorem d21_43 : decode jdk_42_method_147_code 43 = .ok (.return_, 1) := by decide +kernel
theorem d22_0 : decode jdk_67_method_42_code 0 = .ok (.new 18, 3) := by decide +kernel
theorem d22_3 : decode jdk_67_method_42_code 3 = .ok (.dup, 1) := by decide +kernel
theorem d22_4 : decode jdk_67_method_42_code 4 = .ok (.aload_n 0, 1) := by decide +kernel
theorem d22_5 : decode jdk_67_method_42_code 5 = .ok (.invokespecial 137, 3) := by decide +kernel
theorem d22_8 : decode jdk_67_method_42_code 8 = .ok (.areturn, 1) := by decide +kernel
theorem d23_0 : decode jdk_42_method_53_code 0 = .ok (.aload_n 0, 1) := by decide +kernel
theorem d23_1 : decode jdk_42_method_53_code 1 = .ok (.aload_n 1, 1) := by decide +kernel
theorem d23_2 : decode jdk_42_method_53_code 2 = .ok (.aconst_null, 1) := by decide +kernel
theorem d23_3 : decode jdk_42_method_53_code 3 = .ok (.invokespecial 489, 3) := by decide +kernel
theorem d23_6 : decode jdk_42_method_53_code 6 = .ok (.return_, 1) := by decide +kernel
theorem d24_0 : decode jdk_42_method_150_code 0 = .ok (.aload_n 0, 1) := by decide +kernel
theorem d24_1 : decode jdk_42_method_150_code 1 = .ok (.invokespecial 1, 3) := by decide +kernel
theorem d24_4 : decode jdk_42_method_150_code 4 = .ok (.aload_n 1, 1) := by decide +kernel
theorem d24_5 : decode jdk_42_method_150_code 5 = .ok (.invokevirtual 552, 3) := by decide +kernel
theorem d24_8 : decode jdk_42_method_150_code 8 = .ok (.astore_n 3, 1) := by decide +kernel
theorem d24_9 : decode jdk_42_method_150_code 9 = .ok (.aload_n 1, 1) := by decide +kernel
theorem d24_10 : decode jdk_42_method_150_code 10 = .ok (.invokevirtual 549, 3) := by decide +kernel
theorem d24_13 : decode jdk_42_method_150_code 13 = .ok (.istore 4, 2) := by decide +kernel
theorem d24_15 : decode jdk_42_method_150_code 15 = .ok (.aload_n 1, 1) := by decide +kernel
theorem d24_16 : decode jdk_42_method_150_code 16 = .ok (.invokevirtual 1047, 3) := by decide +kernel
theorem d24_19 : decode jdk_42_method_150_code 19 = .ok (.ifCond .eq 22, 3) := by decide +kernel
theorem d24_22 : decode jdk_42_method_150_code 22 = .ok (.aload_n 0, 1) := by decide +kernel
theorem d24_23 : decode jdk_42_method_150_code 23 = .ok (.iconst 0, 1) := by decide +kernel
theorem d24_24 : decode jdk_42_method_150_code 24 = .ok (.putfield 15, 3) := by decide +kernel
theorem d24_27 : decode jdk_42_method_150_code 27 = .ok (.aload_n 0, 1) := by decide +kernel
theorem d24_28 : decode jdk_42_method_150_code 28 = .ok (.aload_n 3, 1) := by decide +kernel
theorem d24_29 : decode jdk_42_method_150_code 29 = .ok (.iconst 0, 1) := by decide +kernel
theorem d24_30 : decode jdk_42_method_150_code 30 = .ok (.iload 4, 2) := by decide +kernel
theorem d24_32 : decode jdk_42_method_150_code 32 = .ok (.invokestatic 54, 3) := by decide +kernel
theorem d24_35 : decode jdk_42_method_150_code 35 = .ok (.putfield 9, 3) := by decide +kernel
theorem d24_38 : decode jdk_42_method_150_code 38 = .ok (.goto 59, 3) := by decide +kernel
theorem d24_97 : decode jdk_42_method_150_code 97 = .ok (.return_, 1) := by decide +kernel
theorem d25_0 : decode jdk_68_method_64_code 0 = .ok (.aload_n 0, 1) := by decide +kernel
theorem d25_1 : decode jdk_68_method_64_code 1 = .ok (.getfield 15, 3) := by decide +kernel
theorem d25_4 : decode jdk_68_method_64_code 4 = .ok (.areturn, 1) := by decide +kernel
theorem d26_0 : decode jdk_67_method_93_code 0 = .ok (.aload_n 0, 1) := by decide +kernel
theorem d26_1 : decode jdk_67_method_93_code 1 = .ok (.invokespecial 343, 3) := by decide +kernel
theorem d26_4 : decode jdk_67_method_93_code 4 = .ok (.ireturn, 1) := by decide +kernel
theorem d27_0 : decode jdk_68_method_6_code 0 = .ok (.aload_n 0, 1) := by decide +kernel
theorem d27_1 : decode jdk_68_method_6_code 1 = .ok (.getfield 79, 3) := by decide +kernel
theorem d27_4 : decode jdk_68_method_6_code 4 = .ok (.ireturn, 1) := by decide +kernel
theorem d28_0 : decode jdk_68_method_68_code 0 = .ok (.getstatic 18, 3) := by decide +kernel
theorem d28_3 : decode jdk_68_method_68_code 3 = .ok (.ifCond .eq 14, 3) := by decide +kernel
theorem d28_6 : decode jdk_68_method_68_code 6 = .ok (.aload_n 0, 1) := by decide +kernel
theorem d28_7 : decode jdk_68_method_68_code 7 = .ok (.getfield 22, 3) := by decide +kernel
theorem d28_10 : decode jdk_68_method_68_code 10 = .ok (.ifCond .ne 7, 3) := by decide +kernel
theorem d28_13 : decode jdk_68_method_68_code 13 = .ok (.iconst 1, 1) := by decide +kernel
theorem d28_14 : decode jdk_68_method_68_code 14 = .ok (.goto 4, 3) := by decide +kernel
theorem d28_18 : decode jdk_68_method_68_code 18 = .ok (.ireturn, 1) := by decide +kernel
theorem d29_0 : decode jdk_65_method_132_code 0 = .ok (.iload_n 1, 1) := by decide +kernel
theorem d29_1 : decode jdk_65_method_132_code 1 = .ok (.ifCond .ne 9, 3) := by decide +kernel
theorem d29_4 : decode jdk_65_method_132_code 4 = .ok (.iload_n 2, 1) := by decide +kernel
theorem d29_5 : decode jdk_65_method_132_code 5 = .ok (.aload_n 0, 1) := by decide +kernel
theorem d29_6 : decode jdk_65_method_132_code 6 = .ok (.arraylength, 1) := by decide +kernel
theorem d29_7 : decode jdk_65_method_132_code 7 = .ok (.if_icmp .eq 10, 3) := by decide +kernel
theorem d29_10 : decode jdk_65_method_132_code 10 = .ok (.aload_n 0, 1) := by decide +kernel
theorem d29_11 : decode jdk_65_method_132_code 11 = .ok (.iload_n 1, 1) := by decide +kernel
theorem d29_12 : decode jdk_65_method_132_code 12 = .ok (.iload_n 2, 1) := by decide +kernel
theorem d29_13 : decode jdk_65_method_132_code 13 = .ok (.invokestatic 339, 3) := by decide +kernel
theorem d29_16 : decode jdk_65_method_132_code 16 = .ok (.areturn, 1) := by decide +kernel
theorem d29_17 : decode jdk_65_method_132_code 17 = .ok (.aload_n 0, 1) := by decide +kernel
theorem d29_18 : decode jdk_65_method_132_code 18 = .ok (.invokevirtual 310, 3) := by decide +kernel
theorem d29_21 : decode jdk_65_method_132_code 21 = .ok (.checkcast 311, 3) := by decide +kernel
theorem d29_24 : decode jdk_65_method_132_code 24 = .ok (.areturn, 1) := by decide +kernel
theorem d30_0 : decode prog_12_method_1_code 0 = .ok (.aload_n 0, 1) := by decide +kernel
theorem d30_1 : decode prog_12_method_1_code 1 = .ok (.invokespecial 1, 3) := by decide +kernel
theorem d30_4 : decode prog_12_method_1_code 4 = .ok (.aload_n 0, 1) := by decide +kernel
theorem d30_5 : decode prog_12_method_1_code 5 = .ok (.iload_n 1, 1) := by decide +kernel
theorem d30_6 : decode prog_12_method_1_code 6 = .ok (.putfield 7, 3) := by decide +kernel
theorem d30_9 : decode prog_12_method_1_code 9 = .ok (.aload_n 0, 1) := by decide +kernel
theorem d30_10 : decode prog_12_method_1_code 10 = .ok (.aload_n 2, 1) := by decide +kernel
theorem d30_11 : decode prog_12_method_1_code 11 = .ok (.putfield 13, 3) := by decide +kernel
theorem d30_14 : decode prog_12_method_1_code 14 = .ok (.return_, 1) := by decide +kernel
theorem d31_0 : decode jdk_30_method_1_code 0 = .ok (.aload_n 0, 1) := by decide +kernel
theorem d31_1 : decode jdk_30_method_1_code 1 = .ok (.invokespecial 1, 3) := by decide +kernel
theorem d31_4 : decode jdk_30_method_1_code 4 = .ok (.return_, 1) := by decide +kernel
theorem d32_0 : decode prog_12_method_8_code 0 = .ok (.aload_n 0, 1) := by decide +kernel
theorem d32_1 : decode prog_12_method_8_code 1 = .ok (.getfield 13, 3) := by decide +kernel
theorem d32_4 : decode prog_12_method_8_code 4 = .ok (.areturn, 1) := by decide +kernel
theorem d33_0 : decode prog_12_method_7_code 0 = .ok (.aload_n 0, 1) := by decide +kernel
theorem d33_1 : decode prog_12_method_7_code 1 = .ok (.getfield 7, 3) := by decide +kernel
theorem d33_4 : decode prog_12_method_7_code 4 = .ok (.ireturn, 1) := by decide +kernel
theorem d34_0 : decode jdk_42_method_66_code 0 = .ok (.aload_n 0, 1) := by decide +kernel
theorem d34_1 : decode jdk_42_method_66_code 1 = .ok (.aload_n 1, 1) := by decide +kernel
theorem d34_2 : decode jdk_42_method_66_code 2 = .ok (.if_acmp .ne 5, 3) := by decide +kernel
theorem d34_7 : decode jdk_42_method_66_code 7 = .ok (.aload_n 1, 1) := by decide +kernel
theorem d34_8 : decode jdk_42_method_66_code 8 = .ok (.instanceof 10, 3) := by decide +kernel
theorem d34_11 : decode jdk_42_method_66_code 11 = .ok (.ifCond .eq 43, 3) := by decide +kernel
theorem d34_14 : decode jdk_42_method_66_code 14 = .ok (.aload_n 1, 1) := by decide +kernel
theorem d34_15 : decode jdk_42_method_66_code 15 = .ok (.checkcast 10, 3) := by decide +kernel
theorem d34_18 : decode jdk_42_method_66_code 18 = .ok (.astore_n 2, 1) := by decide +kernel
theorem d34_19 : decode jdk_42_method_66_code 19 = .ok (.getstatic 38, 3) := by decide +kernel
theorem d34_22 : decode jdk_42_method_66_code 22 = .ok (.ifCond .eq 14, 3) := by decide +kernel
theorem d34_25 : decode jdk_42_method_66_code 25 = .ok (.aload_n 0, 1) := by decide +kernel
theorem d34_26 : decode jdk_42_method_66_code 26 = .ok (.getfield 15, 3) := by decide +kernel
theorem d34_29 : decode jdk_42_method_66_code 29 = .ok (.aload_n 2, 1) := by decide +kernel
theorem d34_30 : decode jdk_42_method_66_code 30 = .ok (.getfield 15, 3) := by decide +kernel
theorem d34_33 : decode jdk_42_method_66_code 33 = .ok (.if_icmp .ne 21, 3) := by decide +kernel
theorem d34_36 : decode jdk_42_method_66_code 36 = .ok (.aload_n 0, 1) := by decide +kernel
theorem d34_37 : decode jdk_42_method_66_code 37 = .ok (.getfield 9, 3) := by decide +kernel
theorem d34_40 : decode jdk_42_method_66_code 40 = .ok (.aload_n 2, 1) := by decide +kernel
theorem d34_41 : decode jdk_42_method_66_code 41 = .ok (.getfield 9, 3) := by decide +kernel
theorem d34_44 : decode jdk_42_method_66_code 44 = .ok (.invokestatic 541, 3) := by decide +kernel
theorem d34_47 : decode jdk_42_method_66_code 47 = .ok (.ifCond .eq 7, 3) := by decide +kernel
theorem d34_50 : decode jdk_42_method_66_code 50 = .ok (.iconst 1, 1) := by decide +kernel
theorem d34_51 : decode jdk_42_method_66_code 51 = .ok (.goto 4, 3) := by decide +kernel
theorem d34_54 : decode jdk_42_method_66_code 54 = .ok (.iconst 0, 1) := by decide +kernel
theorem d34_55 : decode jdk_42_method_66_code 55 = .ok (.ireturn, 1) := by decide +kernel
theorem d35_0 : decode jdk_43_method_13_code 0 = .ok (.aload_n 0, 1) := by decide +kernel
theorem d35_1 : decode jdk_43_method_13_code 1 = .ok (.arraylength, 1) := by decide +kernel
theorem d35_2 : decode jdk_43_method_13_code 2 = .ok (.aload_n 1, 1) := by decide +kernel
theorem d35_3 : decode jdk_43_method_13_code 3 = .ok (.arraylength, 1) := by decide +kernel
theorem d35_4 : decode jdk_43_method_13_code 4 = .ok (.if_icmp .ne 30, 3) := by decide +kernel
theorem d35_7 : decode jdk_43_method_13_code 7 = .ok (.iconst 0, 1) := by decide +kernel
theorem d35_8 : decode jdk_43_method_13_code 8 = .ok (.istore_n 2, 1) := by decide +kernel
theorem d35_9 : decode jdk_43_method_13_code 9 = .ok (.iload_n 2, 1) := by decide +kernel
theorem d35_10 : decode jdk_43_method_13_code 10 = .ok (.aload_n 0, 1) := by decide +kernel
theorem d35_11 : decode jdk_43_method_13_code 11 = .ok (.arraylength, 1) := by decide +kernel
theorem d35_12 : decode jdk_43_method_13_code 12 = .ok (.if_icmp .ge 20, 3) := by decide +kernel
theorem d35_15 : decode jdk_43_method_13_code 15 = .ok (.aload_n 0, 1) := by decide +kernel
theorem d35_16 : decode jdk_43_method_13_code 16 = .ok (.iload_n 2, 1) := by decide +kernel
theorem d35_17 : decode jdk_43_method_13_code 17 = .ok (.baload, 1) := by decide +kernel
theorem d35_18 : decode jdk_43_method_13_code 18 = .ok (.aload_n 1, 1) := by decide +kernel
theorem d35_19 : decode jdk_43_method_13_code 19 = .ok (.iload_n 2, 1) := by decide +kernel
theorem d35_20 : decode jdk_43_method_13_code 20 = .ok (.baload, 1) := by decide +kernel
theorem d35_21 : decode jdk_43_method_13_code 21 = .ok (.if_icmp .eq 5, 3) := by decide +kernel
theorem d35_24 : decode jdk_43_method_13_code 24 = .ok (.iconst 0, 1) := by decide +kernel
theorem d35_25 : decode jdk_43_method_13_code 25 = .ok (.ireturn, 1) := by decide +kernel
theorem d35_26 : decode jdk_43_method_13_code 26 = .ok (.iinc 2 1, 3) := by decide +kernel
theorem d35_29 : decode jdk_43_method_13_code 29 = .ok (.goto (-20), 3) := by decide +kernel
theorem d35_32 : decode jdk_43_method_13_code 32 = .ok (.iconst 1, 1) := by decide +kernel
theorem d35_33 : decode jdk_43_method_13_code 33 = .ok (.ireturn, 1) := by decide +kernel
theorem d35_34 : decode jdk_43_method_13_code 34 = .ok (.iconst 0, 1) := by decide +kernel
theorem d35_35 : decode jdk_43_method_13_code 35 = .ok (.ireturn, 1) := by decide +kernel
theorem d36_0 : decode jdk_68_method_10_code 0 = .ok (.aload_n 0, 1) := by decide +kernel
theorem d36_1 : decode jdk_68_method_10_code 1 = .ok (.getfield 15, 3) := by decide +kernel
theorem d36_4 : decode jdk_68_method_10_code 4 = .ok (.arraylength, 1) := by decide +kernel
theorem d36_5 : decode jdk_68_method_10_code 5 = .ok (.istore_n 2, 1) := by decide +kernel
theorem d36_6 : decode jdk_68_method_10_code 6 = .ok (.iload_n 1, 1) := by decide +kernel
theorem d36_7 : decode jdk_68_method_10_code 7 = .ok (.aload_n 0, 1) := by decide +kernel
theorem d36_8 : decode jdk_68_method_10_code 8 = .ok (.getfield 22, 3) := by decide +kernel
theorem d36_11 : decode jdk_68_method_10_code 11 = .ok (.ishl, 1) := by decide +kernel
theorem d36_12 : decode jdk_68_method_10_code 12 = .ok (.istore_n 3, 1) := by decide +kernel
theorem d36_13 : decode jdk_68_method_10_code 13 = .ok (.iload_n 3, 1) := by decide +kernel
theorem d36_14 : decode jdk_68_method_10_code 14 = .ok (.iload_n 2, 1) := by decide +kernel
theorem d36_15 : decode jdk_68_method_10_code 15 = .ok (.isub, 1) := by decide +kernel
theorem d36_16 : decode jdk_68_method_10_code 16 = .ok (.istore 4, 2) := by decide +kernel
theorem d36_18 : decode jdk_68_method_10_code 18 = .ok (.iload_n 2, 1) := by decide +kernel
theorem d36_19 : decode jdk_68_method_10_code 19 = .ok (.iload 4, 2) := by decide +kernel
theorem d36_21 : decode jdk_68_method_10_code 21 = .ok (.iload_n 2, 1) := by decide +kernel
theorem d36_22 : decode jdk_68_method_10_code 22 = .ok (.iconst 2, 1) := by decide +kernel
theorem d36_23 : decode jdk_68_method_10_code 23 = .ok (.aload_n 0, 1) := by decide +kernel
theorem d36_24 : decode jdk_68_method_10_code 24 = .ok (.getfield 22, 3) := by decide +kernel
theorem d36_27 : decode jdk_68_method_10_code 27 = .ok (.ishl, 1) := by decide +kernel
theorem d36_28 : decode jdk_68_method_10_code 28 = .ok (.iadd, 1) := by decide +kernel
theorem d36_29 : decode jdk_68_method_10_code 29 = .ok (.invokestatic 114, 3) := by decide +kernel
theorem d36_32 : decode jdk_68_method_10_code 32 = .ok (.istore 5, 2) := by decide +kernel
theorem d36_34 : decode jdk_68_method_10_code 34 = .ok (.iload 5, 2) := by decide +kernel
theorem d36_36 : decode jdk_68_method_10_code 36 = .ok (.ldc 39, 2) := by decide +kernel
theorem d36_38 : decode jdk_68_method_10_code 38 = .ok (.if_icmp .ne 13, 3) := by decide +kernel
theorem d36_51 : decode jdk_68_method_10_code 51 = .ok (.iload 5, 2) := by decide +kernel
theorem d36_53 : decode jdk_68_method_10_code 53 = .ok (.aload_n 0, 1) := by decide +kernel
theorem d36_54 : decode jdk_68_method_10_code 54 = .ok (.getfield 22, 3) := by decide +kernel
theorem d36_57 : decode jdk_68_method_10_code 57 = .ok (.ishr, 1) := by decide +kernel
theorem d36_58 : decode jdk_68_method_10_code 58 = .ok (.ireturn, 1) := by decide +kernel
theorem d37_0 : decode jdk_48_method_27_code 0 = .ok (.iload_n 0, 1) := by decide +kernel
theorem d37_1 : decode jdk_48_method_27_code 1 = .ok (.iload_n 1, 1) := by decide +kernel
theorem d37_2 : decode jdk_48_method_27_code 2 = .ok (.iload_n 2, 1) := by decide +kernel
theorem d37_3 : decode jdk_48_method_27_code 3 = .ok (.invokestatic 194, 3) := by decide +kernel
theorem d37_6 : decode jdk_48_method_27_code 6 = .ok (.iadd, 1) := by decide +kernel
theorem d37_7 : decode jdk_48_method_27_code 7 = .ok (.istore_n 3, 1) := by decide +kernel
theorem d37_8 : decode jdk_48_method_27_code 8 = .ok (.iconst 0, 1) := by decide +kernel
theorem d37_9 : decode jdk_48_method_27_code 9 = .ok (.iload_n 3, 1) := by decide +kernel
theorem d37_10 : decode jdk_48_method_27_code 10 = .ok (.if_icmp .ge 11, 3) := by decide +kernel
theorem d37_13 : decode jdk_48_method_27_code 13 = .ok (.iload_n 3, 1) := by decide +kernel
theorem d37_14 : decode jdk_48_method_27_code 14 = .ok (.ldc 200, 2) := by decide +kernel
theorem d37_16 : decode jdk_48_method_27_code 16 = .ok (.if_icmp .gt 5, 3) := by decide +kernel
theorem d37_19 : decode jdk_48_method_27_code 19 = .ok (.iload_n 3, 1) := by decide +kernel
theorem d37_20 : decode jdk_48_method_27_code 20 = .ok (.ireturn, 1) := by decide +kernel
theorem d38_0 : decode jdk_29_method_65_code 0 = .ok (.iload_n 0, 1) := by decide +kernel
theorem d38_1 : decode jdk_29_method_65_code 1 = .ok (.iload_n 1, 1) := by decide +kernel
theorem d38_2 : decode jdk_29_method_65_code 2 = .ok (.if_icmp .lt 7, 3) := by decide +kernel
theorem d38_9 : decode jdk_29_method_65_code 9 = .ok (.iload_n 1, 1) := by decide +kernel
theorem d38_10 : decode jdk_29_method_65_code 10 = .ok (.ireturn, 1) := by decide +kernel
theorem d39_0 : decode jdk_65_method_121_code 0 = .ok (.iload_n 1, 1) := by decide +kernel
theorem d39_1 : decode jdk_65_method_121_code 1 = .ok (.aload_n 0, 1) := by decide +kernel
theorem d39_2 : decode jdk_65_method_121_code 2 = .ok (.arraylength, 1) := by decide +kernel
theorem d39_3 : decode jdk_65_method_121_code 3 = .ok (.if_icmp .ne 11, 3) := by decide +kernel
theorem d39_14 : decode jdk_65_method_121_code 14 = .ok (.iload_n 1, 1) := by decide +kernel
theorem d39_15 : decode jdk_65_method_121_code 15 = .ok (.newarray .byte, 2) := by decide +kernel
theorem d39_17 : decode jdk_65_method_121_code 17 = .ok (.astore_n 2, 1) := by decide +kernel
theorem d39_18 : decode jdk_65_method_121_code 18 = .ok (.aload_n 0, 1) := by decide +kernel
theorem d39_19 : decode jdk_65_method_121_code 19 = .ok (.iconst 0, 1) := by decide +kernel
theorem d39_20 : decode jdk_65_method_121_code 20 = .ok (.aload_n 2, 1) := by decide +kernel
theorem d39_21 : decode jdk_65_method_121_code 21 = .ok (.iconst 0, 1) := by decide +kernel
theorem d39_22 : decode jdk_65_method_121_code 22 = .ok (.aload_n 0, 1) := by decide +kernel
theorem d39_23 : decode jdk_65_method_121_code 23 = .ok (.arraylength, 1) := by decide +kernel
theorem d39_24 : decode jdk_65_method_121_code 24 = .ok (.iload_n 1, 1) := by decide +kernel
theorem d39_25 : decode jdk_65_method_121_code 25 = .ok (.invokestatic 304, 3) := by decide +kernel
theorem d39_28 : decode jdk_65_method_121_code 28 = .ok (.invokestatic 150, 3) := by decide +kernel
theorem d39_31 : decode jdk_65_method_121_code 31 = .ok (.aload_n 2, 1) := by decide +kernel
theorem d39_32 : decode jdk_65_method_121_code 32 = .ok (.areturn, 1) := by decide +kernel
theorem d40_0 : decode jdk_29_method_69_code 0 = .ok (.iload_n 0, 1) := by decide +kernel
theorem d40_1 : decode jdk_29_method_69_code 1 = .ok (.iload_n 1, 1) := by decide +kernel
theorem d40_2 : decode jdk_29_method_69_code 2 = .ok (.if_icmp .gt 7, 3) := by decide +kernel
theorem d40_5 : decode jdk_29_method_69_code 5 = .ok (.iload_n 0, 1) := by decide +kernel
theorem d40_6 : decode jdk_29_method_69_code 6 = .ok (.goto 4, 3) := by decide +kernel
theorem d40_9 : decode jdk_29_method_69_code 9 = .ok (.iload_n 1, 1) := by decide +kernel
theorem d40_10 : decode jdk_29_method_69_code 10 = .ok (.ireturn, 1) := by decide +kernel
theorem d41_0 : decode jdk_65_method_133_code 0 = .ok (.iload_n 1, 1) := by decide +kernel
theorem d41_1 : decode jdk_65_method_133_code 1 = .ok (.iload_n 2, 1) := by decide +kernel
theorem d41_2 : decode jdk_65_method_133_code 2 = .ok (.invokestatic 343, 3) := by decide +kernel
theorem d41_5 : decode jdk_65_method_133_code 5 = .ok (.iload_n 2, 1) := by decide +kernel
theorem d41_6 : decode jdk_65_method_133_code 6 = .ok (.iload_n 1, 1) := by decide +kernel
theorem d41_7 : decode jdk_65_method_133_code 7 = .ok (.isub, 1) := by decide +kernel
theorem d41_8 : decode jdk_65_method_133_code 8 = .ok (.istore_n 3, 1) := by decide +kernel
theorem d41_9 : decode jdk_65_method_133_code 9 = .ok (.iload_n 3, 1) := by decide +kernel
theorem d41_10 : decode jdk_65_method_133_code 10 = .ok (.newarray .byte, 2) := by decide +kernel
theorem d41_12 : decode jdk_65_method_133_code 12 = .ok (.astore 4, 2) := by decide +kernel
theorem d41_14 : decode jdk_65_method_133_code 14 = .ok (.aload_n 0, 1) := by decide +kernel
theorem d41_15 : decode jdk_65_method_133_code 15 = .ok (.iload_n 1, 1) := by decide +kernel
theorem d41_16 : decode jdk_65_method_133_code 16 = .ok (.aload 4, 2) := by decide +kernel
theorem d41_18 : decode jdk_65_method_133_code 18 = .ok (.iconst 0, 1) := by decide +kernel
theorem d41_19 : decode jdk_65_method_133_code 19 = .ok (.aload_n 0, 1) := by decide +kernel
theorem d41_20 : decode jdk_65_method_133_code 20 = .ok (.arraylength, 1) := by decide +kernel
theorem d41_21 : decode jdk_65_method_133_code 21 = .ok (.iload_n 1, 1) := by decide +kernel
theorem d41_22 : decode jdk_65_method_133_code 22 = .ok (.isub, 1) := by decide +kernel
theorem d41_23 : decode jdk_65_method_133_code 23 = .ok (.iload_n 3, 1) := by decide +kernel
theorem d41_24 : decode jdk_65_method_133_code 24 = .ok (.invokestatic 304, 3) := by decide +kernel
theorem d41_27 : decode jdk_65_method_133_code 27 = .ok (.invokestatic 150, 3) := by decide +kernel
theorem d41_30 : decode jdk_65_method_133_code 30 = .ok (.aload 4, 2) := by decide +kernel
theorem d41_32 : decode jdk_65_method_133_code 32 = .ok (.areturn, 1) := by decide +kernel
theorem d42_0 : decode jdk_65_method_131_code 0 = .ok (.iload_n 1, 1) := by decide +kernel
theorem d42_1 : decode jdk_65_method_131_code 1 = .ok (.iload_n 0, 1) := by decide +kernel
theorem d42_2 : decode jdk_65_method_131_code 2 = .ok (.if_icmp .ge 35, 3) := by decide +kernel
theorem d42_37 : decode jdk_65_method_131_code 37 = .ok (.return_, 1) := by decide +kernel
theorem own_wS {Z : State} {a0 : Array Value} (hw : ∀ d ∈ tables_1, d.before a0 Z = true) : ∀ a ∈ Bundle.stringAtoms, a.before a0 Z = true := by
  intro a ha
  simp only [Bundle.stringAtoms, List.mem_cons, List.not_mem_nil, or_false] at ha
  rcases ha with rfl | rfl | rfl | rfl | rfl | rfl | rfl
  · exact (ow hw 3 rfl)
  · exact (ow hw 11 rfl)
  · exact (ow hw 15 rfl)
  · exact (ow hw 24 rfl)
  · exact (ow hw 26 rfl)
  · exact (ow hw 70 rfl)
  · exact (ow hw 71 rfl)
theorem own_pd0 : parseMethodDescriptor "()V" = some ⟨[], none⟩ := by decide +kernel
set_option maxRecDepth 65536 in
set_option maxHeartbeats 40000000 in
theorem own_rec (l : Launch) (Z : State) (a0 : Array Value) (hw : ∀ d ∈ tables_1, d.before a0 Z = true) (a : Addr) (h0 : Heap) (O0 : own_Old Z h0) :
    own_Con l Z (⟨"java/lang/Record", "<init>", "()V"⟩ : MethodName) jdk_30_method_1_code 1 none [] ({ frames := 1, cells := 0, slots := 0, locals := 12 } : Room) #[(.ref a)] h0 (fun rv rh rL => rv = none ∧ own_Fr Z rL ∧ h0 = rh) := by
  refine own_intro (plainFor_of_name (by first | (simp [plainName, overriddenIn]; done) | decide +kernel)) ?_
  intro p e s m below meth c s₁ G hx hby hml hown hnm hret hZ X0 e0 hG hR
  have N0 := Fr.nil Z.heap.size
  refine own_entry (Ls := #[.val (.ref a)]) (by first | (simp [entryFrame, mkF, argsToLocals, Value.category]; done) | rfl) ?_
  show G (s₁.setTop (mkF m 0 #[.val (.ref a)] []))
  refine hG _ _ (fun t_ k_ => XS.aloadN X0.here hx rfl (hb hby d31_0) rfl rfl k_) ?_
  show G (s₁.setTop (mkF m 1 #[.val (.ref a)] [(.ref a)]))
  obtain ⟨T1, X1, e1, st1⟩ := initO X0 hx hZ hown (ow hw 170 rfl) (ow hw 21 rfl) (ow hw 22 rfl) e0 (g := (mkF m 1 #[.val (.ref a)] [(.ref a)])) rfl (by rw [hml]; rfl) rfl (hb hby d31_1) (by decide) (W := 0) (by show 2 * 0 + _ ≤ _; exact Nat.le_of_eq rfl) (by decide)
  refine hG _ _ st1 ?_
  show G (T1.setTop (mkF m 4 #[.val (.ref a)] []))
  exact own_retV hR hret X1 hx (hb hby d31_4) (by decide) (by decide) (by rw [e1]; exact ⟨rfl, N0, rfl⟩)
theorem own_pd1 : parseMethodDescriptor "([CI[BII)I" = some ⟨[(.array .char), .int, (.array .byte), .int, .int], some .int⟩ := by decide +kernel
set_option maxRecDepth 65536 in
set_option maxHeartbeats 40000000 in
theorem own_cmp5 (l : Launch) (Z : State) (a0 : Array Value) (hw : ∀ d ∈ tables_1, d.before a0 Z = true) (a : Addr) (b : Addr) (ka : ClassId) (kb : ClassId) (cs : List Int32) (h0 : Heap) (O0 : own_Old Z h0) (g0_V : Arv Z h0 a ka .char (Int32.ofNat cs.length) (cs.map Value.int) (.int 0)) (g1_V : Arv Z h0 b kb .byte (Int32.ofNat cs.length) [] (.int 0)) (g2_G : Z.heap.size ≤ b) (g3_hne : a ≠ b) (g4_hlen : cs.length < 2147483648) (g5_hcs : ∀ c ∈ cs, ¬ ((255 : Int32) < c)) :
    own_Con l Z (⟨"java/lang/StringUTF16", "compress", "([CI[BII)I"⟩ : MethodName) jdk_52_method_21_code 7 (some .int) [] ({ frames := 0, cells := 0, slots := 0, locals := 0 } : Room) #[(.ref a), (.int 0), (.ref b), (.int 0), (.int (Int32.ofNat cs.length))] h0 (fun rv rh rL => rv = some (.int (Int32.ofNat cs.length)) ∧ own_Fr Z rL ∧ Keep h0 rh [b] ∧ (Arv Z rh b kb .byte (Int32.ofNat cs.length) (cs.map fun c => Value.int c.toInt8.toInt32) (.int 0))) := by
  refine own_intro (plainFor_of_name (by first | (simp [plainName, overriddenIn]; done) | decide +kernel)) ?_
  intro p e s m below meth c s₁ G hx hby hml hown hnm hret hZ X0 e0 hG hR
  have N0 := Fr.nil Z.heap.size
  refine own_entry (Ls := #[.val (.ref a), .val (.int 0), .val (.ref b), .val (.int 0), .val (.int (Int32.ofNat cs.length)), .unset, .unset]) (by first | (simp [entryFrame, mkF, argsToLocals, Value.category]; done) | rfl) ?_
  show G (s₁.setTop (mkF m 0 #[.val (.ref a), .val (.int 0), .val (.ref b), .val (.int 0), .val (.int (Int32.ofNat cs.length)), .unset, .unset] []))
  refine hG _ _ (fun t_ k_ => XS.iconst X0.here hx rfl (hb hby d9_0) k_) ?_
  refine hG _ _ (fun t_ k_ => XS.istore X0.here hx rfl (hb hby d9_1) rfl (l' := #[.val (.ref a), .val (.int 0), .val (.ref b), .val (.int 0), .val (.int (Int32.ofNat cs.length)), .val (.int 0), .unset]) rfl k_) ?_
  show G (s₁.setTop (mkF m 3 #[.val (.ref a), .val (.int 0), .val (.ref b), .val (.int 0), .val (.int (Int32.ofNat cs.length)), .val (.int 0), .unset] []))
  have loop : ∀ (r i : Nat) (T : State) (locs : List Loc) (hT : Heap) (vs : List Value) (ch : Slot), r + i = cs.length → Stand p l e ({ frames := 0, cells := 0, slots := 0, locals := 0 } : Room) s m #[(.ref a), (.int 0), (.ref b), (.int 0), (.int (Int32.ofNat cs.length))] below meth c T locs 0 0 → T.heap = hT → Keep h0 hT [b] → own_Old Z hT → own_Fr Z locs → Arv Z hT b kb .byte (Int32.ofNat cs.length) vs (.int 0) → vs.length = cs.length → (∀ j, j < i → vs.getD j (.int 0) = Value.int (cs.getD j 0).toInt8.toInt32) → One ch → G (T.setTop (mkF m 3 #[.val (.ref a), .val (.int (Int32.ofNat i)), .val (.ref b), .val (.int (Int32.ofNat i)), .val (.int (Int32.ofNat cs.length)), .val (.int (Int32.ofNat i)), ch] [])) := by
    intro r
    induction r with
    | zero =>
      intro i T locs hT vs ch hri X eT K O N V hl hv hch
      have hi : i = cs.length := by omega
      subst hi
      have hvs := own_mapEq (fun c : Int32 => Value.int c.toInt8.toInt32) cs vs (.int 0) 0 hl hv
      rw [hvs] at V
      refine hG _ _ (fun t_ k_ => XS.iload X.here hx rfl (hb hby d9_3) rfl k_) ?_
      refine hG _ _ (fun t_ k_ => XS.iload X.here hx rfl (hb hby d9_5) rfl k_) ?_
      show G (T.setTop (mkF m 7 #[.val (.ref a), .val (.int (Int32.ofNat cs.length)), .val (.ref b), .val (.int (Int32.ofNat cs.length)), .val (.int (Int32.ofNat cs.length)), .val (.int (Int32.ofNat cs.length)), ch] [(.int (Int32.ofNat cs.length)), (.int (Int32.ofNat cs.length))]))
      refine hG _ _ (fun t_ k_ => XS.icmpYes X.here hx rfl (pc0 := 7) (pc' := 44) rfl (hb hby d9_7) rfl (flt (own_nlt (Nat.le_refl _) g4_hlen)).2.1 (by decide) (by decide) k_) ?_
      show G (T.setTop (mkF m 44 #[.val (.ref a), .val (.int (Int32.ofNat cs.length)), .val (.ref b), .val (.int (Int32.ofNat cs.length)), .val (.int (Int32.ofNat cs.length)), .val (.int (Int32.ofNat cs.length)), ch] []))
      refine hG _ _ (fun t_ k_ => XS.iload X.here hx rfl (hb hby d9_44) rfl k_) ?_
      show G (T.setTop (mkF m 46 #[.val (.ref a), .val (.int (Int32.ofNat cs.length)), .val (.ref b), .val (.int (Int32.ofNat cs.length)), .val (.int (Int32.ofNat cs.length)), .val (.int (Int32.ofNat cs.length)), ch] [(.int (Int32.ofNat cs.length))]))
      exact own_retI hR hret X hx (hb hby d9_46) (by decide) (by decide) (by rw [eT]; exact ⟨rfl, N, K, V⟩)
    | succ r ih =>
      intro i T locs hT vs ch hri X eT K O N V hl hv hch
      have hi : i < cs.length := by omega
      refine hG _ _ (fun t_ k_ => XS.iload X.here hx rfl (hb hby d9_3) rfl k_) ?_
      refine hG _ _ (fun t_ k_ => XS.iload X.here hx rfl (hb hby d9_5) rfl k_) ?_
      show G (T.setTop (mkF m 7 #[.val (.ref a), .val (.int (Int32.ofNat i)), .val (.ref b), .val (.int (Int32.ofNat i)), .val (.int (Int32.ofNat cs.length)), .val (.int (Int32.ofNat i)), ch] [(.int (Int32.ofNat cs.length)), (.int (Int32.ofNat i))]))
      refine hG _ _ (fun t_ k_ => XS.icmpNo X.here hx rfl (hb hby d9_7) rfl (tlt (own_lt hi g4_hlen)).2.1 k_) ?_
      show G (T.setTop (mkF m 10 #[.val (.ref a), .val (.int (Int32.ofNat i)), .val (.ref b), .val (.int (Int32.ofNat i)), .val (.int (Int32.ofNat cs.length)), .val (.int (Int32.ofNat i)), ch] []))
      refine hG _ _ (fun t_ k_ => XS.aloadN X.here hx rfl (hb hby d9_10) rfl rfl k_) ?_
      refine hG _ _ (fun t_ k_ => XS.iloadN X.here hx rfl (hb hby d9_11) rfl k_) ?_
      obtain ⟨c1, Ar1, q1, S1, M1, H1, G1⟩ := id (g0_V.keep K (ninS g3_hne nin0))
      have hin1 : ¬ ((Int32.ofNat i) < 0 ∨ c1.slots.size ≤ (Int32.ofNat i).toNatClampNeg) := inb_of S1 ⟨own_nn (by omega), own_lt hi g4_hlen⟩
      refine hG _ _ (X.caload hx (j := (Int32.ofNat i)) (v := (.int (cs.getD i 0))) (by rw [eT]; exact Ar1.1) (State.isArrayOf_alike hZ.alike Ar1.2.1) Ar1.2.2 hin1 (Has.at H1 hin1 (by rw [own_clamp (by omega)]; exact own_getD_map Value.int cs i _ 0 hi)) (g := (mkF m 12 #[.val (.ref a), .val (.int (Int32.ofNat i)), .val (.ref b), .val (.int (Int32.ofNat i)), .val (.int (Int32.ofNat cs.length)), .val (.int (Int32.ofNat i)), ch] [(.int (Int32.ofNat i)), (.ref a)])) rfl rfl (hb hby d9_12)) ?_
      refine hG _ _ (fun t_ k_ => XS.istoreS X.here hx rfl (hb hby d9_13) rfl rfl hch k_) ?_
      refine hG _ _ (fun t_ k_ => XS.iload X.here hx rfl (hb hby d9_15) rfl k_) ?_
      refine hG _ _ (fun t_ k_ => XS.sipush X.here hx rfl (hb hby d9_17) k_) ?_
      show G (T.setTop (mkF m 20 #[.val (.ref a), .val (.int (Int32.ofNat i)), .val (.ref b), .val (.int (Int32.ofNat i)), .val (.int (Int32.ofNat cs.length)), .val (.int (Int32.ofNat i)), .val (.int (cs.getD i 0))] [(.int 255), (.int (cs.getD i 0))]))
      refine hG _ _ (fun t_ k_ => XS.icmpYes X.here hx rfl (pc0 := 20) (pc' := 26) rfl (hb hby d9_20) rfl (flt (g5_hcs _ (own_getD_mem cs i 0 hi))).2.2.2 (by decide) (by decide) k_) ?_
      show G (T.setTop (mkF m 26 #[.val (.ref a), .val (.int (Int32.ofNat i)), .val (.ref b), .val (.int (Int32.ofNat i)), .val (.int (Int32.ofNat cs.length)), .val (.int (Int32.ofNat i)), .val (.int (cs.getD i 0))] []))
      refine hG _ _ (fun t_ k_ => XS.aloadN X.here hx rfl (hb hby d9_26) rfl rfl k_) ?_
      refine hG _ _ (fun t_ k_ => XS.iloadN X.here hx rfl (hb hby d9_27) rfl k_) ?_
      refine hG _ _ (fun t_ k_ => XS.iload X.here hx rfl (hb hby d9_28) rfl k_) ?_
      refine hG _ _ (fun t_ k_ => XS.i2b X.here hx rfl (hb hby d9_30) rfl k_) ?_
      obtain ⟨c2, Ar2, q2, S2, M2, H2, G2⟩ := id V
      obtain ⟨T2, h2, X2, e2, W2, st2⟩ := stB X hx hZ eT Ar2 (j := (Int32.ofNat i)) (inb_of S2 ⟨own_nn (by omega), own_lt hi g4_hlen⟩) (g := (mkF m 31 #[.val (.ref a), .val (.int (Int32.ofNat i)), .val (.ref b), .val (.int (Int32.ofNat i)), .val (.int (Int32.ofNat cs.length)), .val (.int (Int32.ofNat i)), .val (.int (cs.getD i 0))] [(.int ((cs.getD i 0).toInt8.toInt32)), (.int (Int32.ofNat i)), (.ref b)])) rfl rfl (hb hby d9_31)
      refine hG _ _ st2 ?_
      have K2 : Keep h0 h2 [b] := K.wr W2 (Or.inl (List.mem_of_getElem? (i := 0) rfl))
      have O2 : own_Old Z h2 := O.wr W2 g2_G
      have V2 : Arv Z h2 b kb .byte (Int32.ofNat cs.length) (vs.set i (.int (nar .byte ((cs.getD i 0).toInt8.toInt32)))) (.int 0) := Arv.set Ar2 q2 S2 M2 H2 G2 (fits_nar_byte _) W2 i (own_clamp (by omega)) (by omega)
      have N2 := Fr.snoc X2 N g2_G
      refine hG _ _ (fun t_ k_ => XS.iinc X2.here hx rfl (hb hby d9_32) rfl (l' := #[.val (.ref a), .val (.int ((Int32.ofNat i) + (1 : Int32))), .val (.ref b), .val (.int (Int32.ofNat i)), .val (.int (Int32.ofNat cs.length)), .val (.int (Int32.ofNat i)), .val (.int (cs.getD i 0))]) rfl k_) ?_
      refine hG _ _ (fun t_ k_ => XS.iinc X2.here hx rfl (hb hby d9_35) rfl (l' := #[.val (.ref a), .val (.int ((Int32.ofNat i) + (1 : Int32))), .val (.ref b), .val (.int ((Int32.ofNat i) + (1 : Int32))), .val (.int (Int32.ofNat cs.length)), .val (.int (Int32.ofNat i)), .val (.int (cs.getD i 0))]) rfl k_) ?_
      refine hG _ _ (fun t_ k_ => XS.iinc X2.here hx rfl (hb hby d9_38) rfl (l' := #[.val (.ref a), .val (.int ((Int32.ofNat i) + (1 : Int32))), .val (.ref b), .val (.int ((Int32.ofNat i) + (1 : Int32))), .val (.int (Int32.ofNat cs.length)), .val (.int ((Int32.ofNat i) + (1 : Int32))), .val (.int (cs.getD i 0))]) rfl k_) ?_
      refine hG _ _ (fun t_ k_ => XS.goto X2.here hx rfl (pc0 := 41) (pc' := 3) rfl (hb hby d9_41) (by decide) (by decide) k_) ?_
      show G (T2.setTop (mkF m 3 #[.val (.ref a), .val (.int ((Int32.ofNat i) + (1 : Int32))), .val (.ref b), .val (.int ((Int32.ofNat i) + (1 : Int32))), .val (.int (Int32.ofNat cs.length)), .val (.int ((Int32.ofNat i) + (1 : Int32))), .val (.int (cs.getD i 0))] []))
      rw [own_inc i]
      exact ih (i + 1) _ _ _ _ _ (by omega) X2 e2 K2 O2 N2 V2 (by rw [List.length_set]; exact hl) (own_setNext (fun c => Value.int c.toInt8.toInt32) _ _ (by omega) (by rw [own_nb]) hv) (One.val rfl)
  exact loop cs.length 0 _ _ _ _ _ rfl X0 e0 (Keep.refl h0 [b]) O0 N0 (g1_V.pad (pad_rep [] (.int 0) cs.length)) (by simp) (fun j hj => absurd hj (Nat.not_lt_zero j)) One.u
theorem own_pd2 : parseMethodDescriptor "([CII)[B" = some ⟨[(.array .char), .int, .int], some (.array .byte)⟩ := by decide +kernel
set_option maxRecDepth 65536 in
set_option maxHeartbeats 40000000 in
theorem own_cmp3 (l : Launch) (Z : State) (a0 : Array Value) (hw : ∀ d ∈ tables_1, d.before a0 Z = true) (a : Addr) (ka : ClassId) (cs : List Int32) (h0 : Heap) (O0 : own_Old Z h0) (g0_V : Arv Z h0 a ka .char (Int32.ofNat cs.length) (cs.map Value.int) (.int 0)) (g1_hcap : cs.length ≤ 18) (g2_hcs : ∀ c ∈ cs, ¬ ((255 : Int32) < c)) :
    own_Con l Z (⟨"java/lang/StringUTF16", "compress", "([CII)[B"⟩ : MethodName) jdk_52_method_16_code 6 (some (.array .byte)) [] ({ frames := 1, cells := 1, slots := 18, locals := 18 } : Room) #[(.ref a), (.int 0), (.int (Int32.ofNat cs.length))] h0 (fun rv rh rL => ∃ (t : Addr) (kt : ClassId), rv = some (.ref t) ∧ own_Fr Z rL ∧ Keep h0 rh [] ∧ h0.size ≤ t ∧ (Arv Z rh t kt .byte (Int32.ofNat cs.length) (cs.map fun c => Value.int c.toInt8.toInt32) (.int 0))) := by
  refine own_intro (plainFor_of_name (by first | (simp [plainName, overriddenIn]; done) | decide +kernel)) ?_
  intro p e s m below meth c s₁ G hx hby hml hown hnm hret hZ X0 e0 hG hR
  have N0 := Fr.nil Z.heap.size
  refine own_entry (Ls := #[.val (.ref a), .val (.int 0), .val (.int (Int32.ofNat cs.length)), .unset, .unset, .unset]) (by first | (simp [entryFrame, mkF, argsToLocals, Value.category]; done) | rfl) ?_
  show G (s₁.setTop (mkF m 0 #[.val (.ref a), .val (.int 0), .val (.int (Int32.ofNat cs.length)), .unset, .unset, .unset] []))
  refine hG _ _ (fun t_ k_ => XS.iloadN X0.here hx rfl (hb hby d8_0) rfl k_) ?_
  obtain ⟨T1, h1, k1, X1, e1, E1, A1, st1⟩ := newP X0 hx hZ (ow hw 15 rfl) e0 (g := (mkF m 1 #[.val (.ref a), .val (.int 0), .val (.int (Int32.ofNat cs.length)), .unset, .unset, .unset] [(.int (Int32.ofNat cs.length))])) rfl (hb hby d8_1) rfl (own_nn (by omega)) (cap := 18) (by rw [own_clamp (by omega)]; exact g1_hcap) (by decide) (by decide) (by decide)
  obtain ⟨b1, z1⟩ : ∃ z, z = h0.size := ⟨_, rfl⟩
  rw [← z1] at A1 st1
  refine hG _ _ st1 ?_
  have K1 : Keep h0 h1 [] := (Keep.refl h0 []).ext E1
  have O1 : own_Old Z h1 := O0.ext E1
  have V1 : Arv Z h1 b1 k1 .byte (Int32.ofNat cs.length) [] (.int 0) := Arv.new A1 (own_nn (by omega))
  refine hG _ _ (fun t_ k_ => XS.astoreN X1.here hx rfl (hb hby d8_3) rfl rfl (l' := #[.val (.ref a), .val (.int 0), .val (.int (Int32.ofNat cs.length)), .val (.ref b1), .unset, .unset]) rfl k_) ?_
  refine hG _ _ (fun t_ k_ => XS.aloadN X1.here hx rfl (hb hby d8_4) rfl rfl k_) ?_
  refine hG _ _ (fun t_ k_ => XS.iloadN X1.here hx rfl (hb hby d8_5) rfl k_) ?_
  refine hG _ _ (fun t_ k_ => XS.aloadN X1.here hx rfl (hb hby d8_6) rfl rfl k_) ?_
  refine hG _ _ (fun t_ k_ => XS.iconst X1.here hx rfl (hb hby d8_7) k_) ?_
  refine hG _ _ (fun t_ k_ => XS.iloadN X1.here hx rfl (hb hby d8_8) rfl k_) ?_
  show G (T1.setTop (mkF m 9 #[.val (.ref a), .val (.int 0), .val (.int (Int32.ofNat cs.length)), .val (.ref b1), .unset, .unset] [(.int (Int32.ofNat cs.length)), (.int 0), (.ref b1), (.int 0), (.ref a)]))
  have f3 := (g0_V.ext E1)
  refine own_callS X1 hx hZ hG hown (ow hw 39 rfl) (ow hw 40 rfl) (ow hw 37 rfl) (ow hw 41 rfl) (by decide) 0 (own_cmp5 l Z a0 hw a b1 ka k1 cs h1 O1 f3 V1 (own_ge O0 (Nat.le_of_eq z1.symm)) (own_ne g0_V.lt (Nat.le_of_eq z1.symm)) (by omega) g2_hcs) (by decide) (by decide) e1 (by rw [hml]; rfl) (lenOf own_pd1 rfl) (argsL := [(.ref a), (.int 0), (.ref b1), (.int 0), (.int (Int32.ofNat cs.length))]) (rest := []) rfl rfl (Nat.le_of_eq rfl) (hb hby d8_9) (by decide) (by decide) ?_
  intro T2 h2 v2 L2 X2 e2 q2
  obtain ⟨rfl, M2, J2, r2_0⟩ := q2
  have N2 := Fr.app N0 M2
  have K2 : Keep h0 h2 [] := K1.trans J2 (allS (Or.inr (Nat.le_trans (Keep.refl h0 []).1 (Nat.le_of_eq z1.symm))) all0)
  have O2 : own_Old Z h2 := O1.keep J2 (allS (own_ge O0 (Nat.le_of_eq z1.symm)) all0)
  refine hG _ _ (fun t_ k_ => XS.istore X2.here hx rfl (hb hby d8_12) rfl (l' := #[.val (.ref a), .val (.int 0), .val (.int (Int32.ofNat cs.length)), .val (.ref b1), .val (.int (Int32.ofNat cs.length)), .unset]) rfl k_) ?_
  refine hG _ _ (fun t_ k_ => XS.iload X2.here hx rfl (hb hby d8_14) rfl k_) ?_
  refine hG _ _ (fun t_ k_ => XS.iloadN X2.here hx rfl (hb hby d8_16) rfl k_) ?_
  show G (T2.setTop (mkF m 17 #[.val (.ref a), .val (.int 0), .val (.int (Int32.ofNat cs.length)), .val (.ref b1), .val (.int (Int32.ofNat cs.length)), .unset] [(.int (Int32.ofNat cs.length)), (.int (Int32.ofNat cs.length))]))
  refine hG _ _ (fun t_ k_ => XS.icmpYes X2.here hx rfl (pc0 := 17) (pc' := 57) rfl (hb hby d8_17) rfl (teq (rfl : (Int32.ofNat cs.length) = (Int32.ofNat cs.length))).1 (by decide) (by decide) k_) ?_
  show G (T2.setTop (mkF m 57 #[.val (.ref a), .val (.int 0), .val (.int (Int32.ofNat cs.length)), .val (.ref b1), .val (.int (Int32.ofNat cs.length)), .unset] []))
  refine hG _ _ (fun t_ k_ => XS.aloadN X2.here hx rfl (hb hby d8_57) rfl rfl k_) ?_
  show G (T2.setTop (mkF m 58 #[.val (.ref a), .val (.int 0), .val (.int (Int32.ofNat cs.length)), .val (.ref b1), .val (.int (Int32.ofNat cs.length)), .unset] [(.ref b1)]))
  exact own_retA hR hret rfl rfl X2 hx (hb hby d8_58) (by decide) (by decide) (by rw [e2]; exact ⟨b1, k1, rfl, N2, K2, (Nat.le_trans (Keep.refl h0 []).1 (Nat.le_of_eq z1.symm)), r2_0⟩)
theorem own_pd3 : parseMethodDescriptor "([BI)B" = some ⟨[(.array .byte), .int], some .byte⟩ := by decide +kernel
set_option maxRecDepth 65536 in
set_option maxHeartbeats 40000000 in
theorem own_coder (l : Launch) (Z : State) (a0 : Array Value) (hw : ∀ d ∈ tables_1, d.before a0 Z = true) (t : Addr) (n : Int32) (kt : ClassId) (n2 : Int32) (vs : List Value) (r : Int32) (h0 : Heap) (O0 : own_Old Z h0) (g0_V : Arv Z h0 t kt .byte n2 vs (.int 0)) (g1_hr : nar .byte ((((n - n2).toUInt32 >>> ((31 : Int32) &&& 31).toUInt32).toInt32).toInt8.toInt32) = r) :
    own_Con l Z (⟨"java/lang/StringUTF16", "coderFromArrayLen", "([BI)B"⟩ : MethodName) jdk_52_method_15_code 2 (some .byte) [] ({ frames := 0, cells := 0, slots := 0, locals := 0 } : Room) #[(.ref t), (.int n)] h0 (fun rv rh rL => rv = some (.int r) ∧ own_Fr Z rL ∧ h0 = rh) := by
  refine own_intro (plainFor_of_name (by first | (simp [plainName, overriddenIn]; done) | decide +kernel)) ?_
  intro p e s m below meth c s₁ G hx hby hml hown hnm hret hZ X0 e0 hG hR
  have N0 := Fr.nil Z.heap.size
  refine own_entry (Ls := #[.val (.ref t), .val (.int n)]) (by first | (simp [entryFrame, mkF, argsToLocals, Value.category]; done) | rfl) ?_
  show G (s₁.setTop (mkF m 0 #[.val (.ref t), .val (.int n)] []))
  refine hG _ _ (fun t_ k_ => XS.iloadN X0.here hx rfl (hb hby d10_0) rfl k_) ?_
  refine hG _ _ (fun t_ k_ => XS.aloadN X0.here hx rfl (hb hby d10_1) rfl rfl k_) ?_
  obtain ⟨c1, Ar1, -, S1, M1, -, -⟩ := id g0_V
  refine hG _ _ (X0.arraylength hx (by rw [e0]; exact Ar1.1) (State.isArrayOf_alike hZ.alike Ar1.2.1) (g := (mkF m 2 #[.val (.ref t), .val (.int n)] [(.ref t), (.int n)])) rfl rfl (hb hby d10_2)) ?_
  rw [len_of S1 M1]
  refine hG _ _ (fun t_ k_ => XS.isub X0.here hx rfl (hb hby d10_3) rfl k_) ?_
  refine hG _ _ (fun t_ k_ => XS.bipush X0.here hx rfl (hb hby d10_4) k_) ?_
  refine hG _ _ (fun t_ k_ => XS.iushr X0.here hx rfl (hb hby d10_6) rfl k_) ?_
  refine hG _ _ (fun t_ k_ => XS.i2b X0.here hx rfl (hb hby d10_7) rfl k_) ?_
  show G (s₁.setTop (mkF m 8 #[.val (.ref t), .val (.int n)] [(.int ((((n - n2).toUInt32 >>> ((31 : Int32) &&& 31).toUInt32).toInt32).toInt8.toInt32))]))
  exact own_retN hR hret (by simp) X0 hx (hb hby d10_8) (by decide) (by decide) (by rw [e0]; exact ⟨(by rw [g1_hr]), N0, rfl⟩)
theorem own_pd4 : parseMethodDescriptor "([CIILjava/lang/Void;)V" = some ⟨[(.array .char), .int, .int, (.object "java/lang/Void")], none⟩ := by decide +kernel
set_option maxRecDepth 65536 in
set_option maxHeartbeats 40000000 in
theorem own_str4 (l : Launch) (Z : State) (a0 : Array Value) (hw : ∀ d ∈ tables_1, d.before a0 Z = true) (a : Addr) (u : Addr) (ku : ClassId) (cs : List Int32) (cpt : Int32) (v0 : Value) (v1 : Value) (h0 : Heap) (O0 : own_Old Z h0) (g0_E : Exa Z h0 a "java/lang/String") (g1_F : Fld Z h0 a "java/lang/String" "coder" "B" v0) (g2_F : Fld Z h0 a "java/lang/String" "value" "[B" v1) (g3_G : Z.heap.size ≤ a) (g4_V : Arv Z h0 u ku .char (Int32.ofNat cs.length) (cs.map Value.int) (.int 0)) (g5_hpos : 0 < cs.length) (g6_hcap : cs.length ≤ 18) (g7_hcs : ∀ c ∈ cs, ¬ ((255 : Int32) < c)) (g8_S : Sta Z Z.heap "java/lang/String" "COMPACT_STRINGS" "Z" (.int cpt)) (g9_hcpt : ¬ (cpt = (0 : Int32))) :
    own_Con l Z (⟨"java/lang/String", "<init>", "([CIILjava/lang/Void;)V"⟩ : MethodName) jdk_42_method_149_code 6 none [] ({ frames := 2, cells := 1, slots := 18, locals := 35 } : Room) #[(.ref a), (.ref u), (.int 0), (.int (Int32.ofNat cs.length)), .null] h0 (fun rv rh rL => ∃ (t : Addr) (kt : ClassId), rv = none ∧ own_Fr Z rL ∧ Keep h0 rh [a] ∧ h0.size ≤ t ∧ (Exa Z rh a "java/lang/String") ∧ (Fld Z rh a "java/lang/String" "coder" "B" (.int 0)) ∧ (Fld Z rh a "java/lang/String" "value" "[B" (.ref t)) ∧ (Arv Z rh t kt .byte (Int32.ofNat cs.length) (cs.map fun c => Value.int c.toInt8.toInt32) (.int 0))) := by
  refine own_intro (plainFor_of_name (by first | (simp [plainName, overriddenIn]; done) | decide +kernel)) ?_
  intro p e s m below meth c s₁ G hx hby hml hown hnm hret hZ X0 e0 hG hR
  have N0 := Fr.nil Z.heap.size
  refine own_entry (Ls := #[.val (.ref a), .val (.ref u), .val (.int 0), .val (.int (Int32.ofNat cs.length)), .val .null, .unset]) (by first | (simp [entryFrame, mkF, argsToLocals, Value.category]; done) | rfl) ?_
  show G (s₁.setTop (mkF m 0 #[.val (.ref a), .val (.ref u), .val (.int 0), .val (.int (Int32.ofNat cs.length)), .val .null, .unset] []))
  refine hG _ _ (fun t_ k_ => XS.aloadN X0.here hx rfl (hb hby d7_0) rfl rfl k_) ?_
  show G (s₁.setTop (mkF m 1 #[.val (.ref a), .val (.ref u), .val (.int 0), .val (.int (Int32.ofNat cs.length)), .val .null, .unset] [(.ref a)]))
  obtain ⟨T1, X1, e1, st1⟩ := initO X0 hx hZ hown (ow hw 20 rfl) (ow hw 21 rfl) (ow hw 22 rfl) e0 (g := (mkF m 1 #[.val (.ref a), .val (.ref u), .val (.int 0), .val (.int (Int32.ofNat cs.length)), .val .null, .unset] [(.ref a)])) rfl (by rw [hml]; rfl) rfl (hb hby d7_1) (by decide) (W := 0) (by show 2 * 0 + _ ≤ _; exact Nat.le_of_eq rfl) (by decide)
  refine hG _ _ st1 ?_
  show G (T1.setTop (mkF m 4 #[.val (.ref a), .val (.ref u), .val (.int 0), .val (.int (Int32.ofNat cs.length)), .val .null, .unset] []))
  refine hG _ _ (fun t_ k_ => XS.iloadN X1.here hx rfl (hb hby d7_4) rfl k_) ?_
  show G (T1.setTop (mkF m 5 #[.val (.ref a), .val (.ref u), .val (.int 0), .val (.int (Int32.ofNat cs.length)), .val .null, .unset] [(.int (Int32.ofNat cs.length))]))
  refine hG _ _ (fun t_ k_ => XS.ifYes X1.here hx rfl (pc0 := 5) (pc' := 27) rfl (hb hby d7_5) rfl ((if0 _ _).trans (feq (fun q => Nat.ne_of_gt g5_hpos (own_ofNat_inj (by omega) (by decide) q))).2) (by decide) (by decide) k_) ?_
  show G (T1.setTop (mkF m 27 #[.val (.ref a), .val (.ref u), .val (.int 0), .val (.int (Int32.ofNat cs.length)), .val .null, .unset] []))
  obtain ⟨T2, X2, e2, st2⟩ := getS2 X1 hx hZ hown (host := "") (Or.inl (ow hw 5 rfl)) Via.refl e1 (own_sta g8_S O0) (g := (mkF m 27 #[.val (.ref a), .val (.ref u), .val (.int 0), .val (.int (Int32.ofNat cs.length)), .val .null, .unset] [])) rfl (hb hby d7_27)
  refine hG _ _ st2 ?_
  show G (T2.setTop (mkF m 30 #[.val (.ref a), .val (.ref u), .val (.int 0), .val (.int (Int32.ofNat cs.length)), .val .null, .unset] [(.int cpt)]))
  refine hG _ _ (fun t_ k_ => XS.ifNo X2.here hx rfl (hb hby d7_30) rfl ((if0 _ _).trans (feq g9_hcpt).1) k_) ?_
  show G (T2.setTop (mkF m 33 #[.val (.ref a), .val (.ref u), .val (.int 0), .val (.int (Int32.ofNat cs.length)), .val .null, .unset] []))
  refine hG _ _ (fun t_ k_ => XS.aloadN X2.here hx rfl (hb hby d7_33) rfl rfl k_) ?_
  refine hG _ _ (fun t_ k_ => XS.iloadN X2.here hx rfl (hb hby d7_34) rfl k_) ?_
  refine hG _ _ (fun t_ k_ => XS.iloadN X2.here hx rfl (hb hby d7_35) rfl k_) ?_
  show G (T2.setTop (mkF m 36 #[.val (.ref a), .val (.ref u), .val (.int 0), .val (.int (Int32.ofNat cs.length)), .val .null, .unset] [(.int (Int32.ofNat cs.length)), (.int 0), (.ref u)]))
  refine own_callS X2 hx hZ hG hown (ow hw 35 rfl) (ow hw 36 rfl) (ow hw 37 rfl) (ow hw 38 rfl) (by decide) 0 (own_cmp3 l Z a0 hw u ku cs h0 O0 g4_V g6_hcap g7_hcs) (by decide) (by decide) e2 (by rw [hml]; rfl) (lenOf own_pd2 rfl) (argsL := [(.ref u), (.int 0), (.int (Int32.ofNat cs.length))]) (rest := []) rfl rfl (Nat.le_of_eq rfl) (hb hby d7_36) (by decide) (by decide) ?_
  intro T3 h3 v3 L3 X3 e3 q3
  obtain ⟨t_3, kt_3, rfl, M3, J3, y3_0, r3_0⟩ := q3
  have N3 := Fr.app N0 M3
  have K3 : Keep h0 h3 [a] := (Keep.refl h0 [a]).trans J3 all0
  have O3 : own_Old Z h3 := O0.keep J3 all0
  refine hG _ _ (fun t_ k_ => XS.astore X3.here hx rfl (hb hby d7_39) rfl rfl (l' := #[.val (.ref a), .val (.ref u), .val (.int 0), .val (.int (Int32.ofNat cs.length)), .val .null, .val (.ref t_3)]) rfl k_) ?_
  refine hG _ _ (fun t_ k_ => XS.aloadN X3.here hx rfl (hb hby d7_41) rfl rfl k_) ?_
  refine hG _ _ (fun t_ k_ => XS.aload X3.here hx rfl (hb hby d7_42) rfl rfl k_) ?_
  refine hG _ _ (fun t_ k_ => XS.iloadN X3.here hx rfl (hb hby d7_44) rfl k_) ?_
  show G (T3.setTop (mkF m 45 #[.val (.ref a), .val (.ref u), .val (.int 0), .val (.int (Int32.ofNat cs.length)), .val .null, .val (.ref t_3)] [(.int (Int32.ofNat cs.length)), (.ref t_3), (.ref a)]))
  refine own_callS X3 hx hZ hG hown (ow hw 42 rfl) (ow hw 43 rfl) (ow hw 37 rfl) (ow hw 44 rfl) (by decide) 1 (own_coder l Z a0 hw t_3 (Int32.ofNat cs.length) kt_3 (Int32.ofNat cs.length) (cs.map fun c => Value.int c.toInt8.toInt32) (0 : Int32) h3 O3 r3_0 (by rw [Int32.sub_self]; rfl)) (by decide) (by decide) e3 (by rw [hml]; rfl) (lenOf own_pd3 rfl) (argsL := [(.ref t_3), (.int (Int32.ofNat cs.length))]) (rest := [(.ref a)]) rfl rfl (Nat.le_of_eq rfl) (hb hby d7_45) (by decide) (by decide) ?_
  intro T4 h4 v4 L4 X4 e4 q4
  obtain ⟨rfl, M4, rfl⟩ := q4
  have N4 := Fr.app N3 M4
  have f6 := (g1_F.keep J3 nin0)
  have f7 := (g0_E.keep J3)
  obtain ⟨T5, h5, X5, e5, W5, st5⟩ := putFN X4 hx hZ hown (ow hw 25 rfl) Via.refl e4 f6 f7 (Or.inr ⟨(ow hw 26 rfl), rfl, hnm⟩) (ow hw 11 rfl) (ty := .byte) (v' := (.int 0)) (by decide) rfl rfl (g := (mkF m 48 #[.val (.ref a), .val (.ref u), .val (.int 0), .val (.int (Int32.ofNat cs.length)), .val .null, .val (.ref t_3)] [(.int 0), (.ref a)])) rfl rfl (hb hby d7_48)
  refine hG _ _ st5 ?_
  have K5 : Keep h0 h5 [a] := K3.wr W5 (Or.inl (List.mem_of_getElem? (i := 0) rfl))
  have O5 : own_Old Z h5 := O3.wr W5 g3_G
  have N5 := Fr.snoc X5 N4 g3_G
  refine hG _ _ (fun t_ k_ => XS.aloadN X5.here hx rfl (hb hby d7_51) rfl rfl k_) ?_
  refine hG _ _ (fun t_ k_ => XS.aload X5.here hx rfl (hb hby d7_52) rfl rfl k_) ?_
  have f9 := ((g2_F.keep J3 nin0).other W5 (Or.inr (slot_ne (Or.inr (ow hw 24 rfl)) (Or.inr (ow hw 26 rfl)) (by decide) (t := (.array .byte)) (t' := .byte) (by decide) (by decide))))
  have f10 := (f7.wr W5)
  obtain ⟨T8, h8, X8, e8, W8, st8⟩ := putF X5 hx hZ hown (host := "") (Or.inl (ow hw 23 rfl)) Via.refl e5 f9 f10 (Or.inr ⟨(ow hw 24 rfl), rfl, hnm⟩) (ow hw 11 rfl) (ty := (.array .byte)) (by decide) rfl rfl (g := (mkF m 54 #[.val (.ref a), .val (.ref u), .val (.int 0), .val (.int (Int32.ofNat cs.length)), .val .null, .val (.ref t_3)] [(.ref t_3), (.ref a)])) rfl rfl (hb hby d7_54)
  refine hG _ _ st8 ?_
  have K8 : Keep h0 h8 [a] := K5.wr W8 (Or.inl (List.mem_of_getElem? (i := 0) rfl))
  have O8 : own_Old Z h8 := O5.wr W8 g3_G
  have N8 := Fr.snoc X8 N5 g3_G
  show G (T8.setTop (mkF m 57 #[.val (.ref a), .val (.ref u), .val (.int 0), .val (.int (Int32.ofNat cs.length)), .val .null, .val (.ref t_3)] []))
  have f11 := (f10.wr W8)
  have f12 := ((f6.same W5).other W8 (Or.inr (slot_ne (Or.inr (ow hw 26 rfl)) (Or.inr (ow hw 24 rfl)) (by decide) (t := .byte) (t' := (.array .byte)) (by decide) (by decide))))
  have f13 := ((r3_0.other W5 (Ne.symm (own_ne g0_E.lt y3_0))).other W8 (Ne.symm (own_ne g0_E.lt y3_0)))
  exact own_retV hR hret X8 hx (hb hby d7_57) (by decide) (by decide) (by rw [e8]; exact ⟨t_3, kt_3, rfl, N8, K8, (Nat.le_trans (Keep.refl h0 [a]).1 y3_0), f11, f12, (f9.same W8), f13⟩)
theorem own_pd5 : parseMethodDescriptor "([C)V" = some ⟨[(.array .char)], none⟩ := by decide +kernel
set_option maxRecDepth 65536 in
set_option maxHeartbeats 40000000 in
theorem own_str1 (l : Launch) (Z : State) (a0 : Array Value) (hw : ∀ d ∈ tables_1, d.before a0 Z = true) (a : Addr) (u : Addr) (ku : ClassId) (cs : List Int32) (cpt : Int32) (v0 : Value) (v1 : Value) (h0 : Heap) (O0 : own_Old Z h0) (g0_E : Exa Z h0 a "java/lang/String") (g1_F : Fld Z h0 a "java/lang/String" "coder" "B" v0) (g2_F : Fld Z h0 a "java/lang/String" "value" "[B" v1) (g3_G : Z.heap.size ≤ a) (g4_V : Arv Z h0 u ku .char (Int32.ofNat cs.length) (cs.map Value.int) (.int 0)) (g5_hpos : 0 < cs.length) (g6_hcap : cs.length ≤ 18) (g7_hcs : ∀ c ∈ cs, ¬ ((255 : Int32) < c)) (g8_S : Sta Z Z.heap "java/lang/String" "COMPACT_STRINGS" "Z" (.int cpt)) (g9_hcpt : ¬ (cpt = (0 : Int32))) :
    own_Con l Z (⟨"java/lang/String", "<init>", "([C)V"⟩ : MethodName) jdk_42_method_3_code 2 none [] ({ frames := 3, cells := 1, slots := 18, locals := 52 } : Room) #[(.ref a), (.ref u)] h0 (fun rv rh rL => ∃ (t : Addr) (kt : ClassId), rv = none ∧ own_Fr Z rL ∧ Keep h0 rh [a] ∧ h0.size ≤ t ∧ (Exa Z rh a "java/lang/String") ∧ (Fld Z rh a "java/lang/String" "coder" "B" (.int 0)) ∧ (Fld Z rh a "java/lang/String" "value" "[B" (.ref t)) ∧ (Arv Z rh t kt .byte (Int32.ofNat cs.length) (cs.map fun c => Value.int c.toInt8.toInt32) (.int 0))) := by
  refine own_intro (plainFor_of_name (by first | (simp [plainName, overriddenIn]; done) | decide +kernel)) ?_
  intro p e s m below meth c s₁ G hx hby hml hown hnm hret hZ X0 e0 hG hR
  have N0 := Fr.nil Z.heap.size
  refine own_entry (Ls := #[.val (.ref a), .val (.ref u)]) (by first | (simp [entryFrame, mkF, argsToLocals, Value.category]; done) | rfl) ?_
  show G (s₁.setTop (mkF m 0 #[.val (.ref a), .val (.ref u)] []))
  refine hG _ _ (fun t_ k_ => XS.aloadN X0.here hx rfl (hb hby d6_0) rfl rfl k_) ?_
  refine hG _ _ (fun t_ k_ => XS.aloadN X0.here hx rfl (hb hby d6_1) rfl rfl k_) ?_
  refine hG _ _ (fun t_ k_ => XS.iconst X0.here hx rfl (hb hby d6_2) k_) ?_
  refine hG _ _ (fun t_ k_ => XS.aloadN X0.here hx rfl (hb hby d6_3) rfl rfl k_) ?_
  obtain ⟨c1, Ar1, -, S1, M1, -, -⟩ := id g4_V
  refine hG _ _ (X0.arraylength hx (by rw [e0]; exact Ar1.1) (State.isArrayOf_alike hZ.alike Ar1.2.1) (g := (mkF m 4 #[.val (.ref a), .val (.ref u)] [(.ref u), (.int 0), (.ref u), (.ref a)])) rfl rfl (hb hby d6_4)) ?_
  rw [len_of S1 M1]
  refine hG _ _ (fun t_ k_ => XS.aconstNull X0.here hx rfl (hb hby d6_5) k_) ?_
  show G (s₁.setTop (mkF m 6 #[.val (.ref a), .val (.ref u)] [.null, (.int (Int32.ofNat cs.length)), (.int 0), (.ref u), (.ref a)]))
  refine own_callI X0 hx hZ hG hown rfl (ow hw 32 rfl) (ow hw 33 rfl) (ow hw 3 rfl) (ow hw 34 rfl) (by decide) 0 (own_str4 l Z a0 hw a u ku cs cpt v0 v1 h0 O0 g0_E g1_F g2_F g3_G g4_V g5_hpos g6_hcap g7_hcs g8_S g9_hcpt) (by decide) (by decide) e0 (by rw [hml]; rfl) (lenOf own_pd4 rfl) (argsL := [(.ref u), (.int 0), (.int (Int32.ofNat cs.length)), .null]) (rest := []) rfl rfl (Nat.le_of_eq rfl) (hb hby d6_6) (by decide) (by decide) ?_
  intro T2 h2 v2 L2 X2 e2 q2
  obtain ⟨t_2, kt_2, rfl, M2, J2, y2_0, r2_0, r2_1, r2_2, r2_3⟩ := q2
  have N2 := Fr.app N0 M2
  have K2 : Keep h0 h2 [a] := (Keep.refl h0 [a]).trans J2 (allS (Or.inl (List.mem_of_getElem? (i := 0) rfl)) all0)
  have O2 : own_Old Z h2 := O0.keep J2 (allS g3_G all0)
  show G (T2.setTop (mkF m 9 #[.val (.ref a), .val (.ref u)] []))
  exact own_retV hR hret X2 hx (hb hby d6_9) (by decide) (by decide) (by rw [e2]; exact ⟨t_2, kt_2, rfl, N2, K2, (Nat.le_trans (Keep.refl h0 [a]).1 y2_0), r2_0, r2_1, r2_2, r2_3⟩)
theorem own_pd6 : parseMethodDescriptor "([BB)V" = some ⟨[(.array .byte), .byte], none⟩ := by decide +kernel
set_option maxRecDepth 65536 in
set_option maxHeartbeats 40000000 in
theorem own_strb0 (l : Launch) (Z : State) (a0 : Array Value) (hw : ∀ d ∈ tables_1, d.before a0 Z = true) (a : Addr) (b : Addr) (v0 : Value) (v1 : Value) (h0 : Heap) (O0 : own_Old Z h0) (g0_E : Exa Z h0 a "java/lang/String") (g1_F : Fld Z h0 a "java/lang/String" "coder" "B" v0) (g2_F : Fld Z h0 a "java/lang/String" "value" "[B" v1) (g3_G : Z.heap.size ≤ a) :
    own_Con l Z (⟨"java/lang/String", "<init>", "([BB)V"⟩ : MethodName) jdk_42_method_151_code 3 none [] ({ frames := 1, cells := 0, slots := 0, locals := 12 } : Room) #[(.ref a), (.ref b), (.int 0)] h0 (fun rv rh rL => rv = none ∧ own_Fr Z rL ∧ Keep h0 rh [a] ∧ (Exa Z rh a "java/lang/String") ∧ (Fld Z rh a "java/lang/String" "coder" "B" (.int 0)) ∧ (Fld Z rh a "java/lang/String" "value" "[B" (.ref b))) := by
  refine own_intro (plainFor_of_name (by first | (simp [plainName, overriddenIn]; done) | decide +kernel)) ?_
  intro p e s m below meth c s₁ G hx hby hml hown hnm hret hZ X0 e0 hG hR
  have N0 := Fr.nil Z.heap.size
  refine own_entry (Ls := #[.val (.ref a), .val (.ref b), .val (.int 0)]) (by first | (simp [entryFrame, mkF, argsToLocals, Value.category]; done) | rfl) ?_
  show G (s₁.setTop (mkF m 0 #[.val (.ref a), .val (.ref b), .val (.int 0)] []))
  refine hG _ _ (fun t_ k_ => XS.aloadN X0.here hx rfl (hb hby d4_0) rfl rfl k_) ?_
  show G (s₁.setTop (mkF m 1 #[.val (.ref a), .val (.ref b), .val (.int 0)] [(.ref a)]))
  obtain ⟨T1, X1, e1, st1⟩ := initO X0 hx hZ hown (ow hw 20 rfl) (ow hw 21 rfl) (ow hw 22 rfl) e0 (g := (mkF m 1 #[.val (.ref a), .val (.ref b), .val (.int 0)] [(.ref a)])) rfl (by rw [hml]; rfl) rfl (hb hby d4_1) (by decide) (W := 0) (by show 2 * 0 + _ ≤ _; exact Nat.le_of_eq rfl) (by decide)
  refine hG _ _ st1 ?_
  show G (T1.setTop (mkF m 4 #[.val (.ref a), .val (.ref b), .val (.int 0)] []))
  refine hG _ _ (fun t_ k_ => XS.aloadN X1.here hx rfl (hb hby d4_4) rfl rfl k_) ?_
  refine hG _ _ (fun t_ k_ => XS.aloadN X1.here hx rfl (hb hby d4_5) rfl rfl k_) ?_
  obtain ⟨T2, h2, X2, e2, W2, st2⟩ := putF X1 hx hZ hown (host := "") (Or.inl (ow hw 23 rfl)) Via.refl e1 g2_F g0_E (Or.inr ⟨(ow hw 24 rfl), rfl, hnm⟩) (ow hw 11 rfl) (ty := (.array .byte)) (by decide) rfl rfl (g := (mkF m 6 #[.val (.ref a), .val (.ref b), .val (.int 0)] [(.ref b), (.ref a)])) rfl rfl (hb hby d4_6)
  refine hG _ _ st2 ?_
  have K2 : Keep h0 h2 [a] := (Keep.refl h0 [a]).wr W2 (Or.inl (List.mem_of_getElem? (i := 0) rfl))
  have O2 : own_Old Z h2 := O0.wr W2 g3_G
  have N2 := Fr.snoc X2 N0 g3_G
  refine hG _ _ (fun t_ k_ => XS.aloadN X2.here hx rfl (hb hby d4_9) rfl rfl k_) ?_
  refine hG _ _ (fun t_ k_ => XS.iloadN X2.here hx rfl (hb hby d4_10) rfl k_) ?_
  have f4 := (g1_F.other W2 (Or.inr (slot_ne (Or.inr (ow hw 26 rfl)) (Or.inr (ow hw 24 rfl)) (by decide) (t := .byte) (t' := (.array .byte)) (by decide) (by decide))))
  have f5 := (g0_E.wr W2)
  obtain ⟨T3, h3, X3, e3, W3, st3⟩ := putFN X2 hx hZ hown (ow hw 25 rfl) Via.refl e2 f4 f5 (Or.inr ⟨(ow hw 26 rfl), rfl, hnm⟩) (ow hw 11 rfl) (ty := .byte) (v' := (.int 0)) (by decide) rfl rfl (g := (mkF m 11 #[.val (.ref a), .val (.ref b), .val (.int 0)] [(.int 0), (.ref a)])) rfl rfl (hb hby d4_11)
  refine hG _ _ st3 ?_
  have K3 : Keep h0 h3 [a] := K2.wr W3 (Or.inl (List.mem_of_getElem? (i := 0) rfl))
  have O3 : own_Old Z h3 := O2.wr W3 g3_G
  have N3 := Fr.snoc X3 N2 g3_G
  show G (T3.setTop (mkF m 14 #[.val (.ref a), .val (.ref b), .val (.int 0)] []))
  have f6 := (f5.wr W3)
  have f7 := ((g2_F.same W2).other W3 (Or.inr (slot_ne (Or.inr (ow hw 24 rfl)) (Or.inr (ow hw 26 rfl)) (by decide) (t := (.array .byte)) (t' := .byte) (by decide) (by decide))))
  exact own_retV hR hret X3 hx (hb hby d4_14) (by decide) (by decide) (by rw [e3]; exact ⟨rfl, N3, K3, f6, (f4.same W3), f7⟩)
theorem own_pd7 : parseMethodDescriptor "(C)Z" = some ⟨[.char], some .boolean⟩ := by decide +kernel
set_option maxRecDepth 65536 in
set_option maxHeartbeats 40000000 in
theorem own_can1 (l : Launch) (Z : State) (a0 : Array Value) (hw : ∀ d ∈ tables_1, d.before a0 Z = true) (ch : Int32) (h0 : Heap) (O0 : own_Old Z h0) (g0_hch : ¬ ((255 : Int32) < ch)) :
    own_Con l Z (⟨"java/lang/StringLatin1", "canEncode", "(C)Z"⟩ : MethodName) jdk_43_method_3_code 1 (some .boolean) [] ({ frames := 0, cells := 0, slots := 0, locals := 0 } : Room) #[(.int ch)] h0 (fun rv rh rL => rv = some (.int 1) ∧ own_Fr Z rL ∧ h0 = rh) := by
  refine own_intro (plainFor_of_name (by first | (simp [plainName, overriddenIn]; done) | decide +kernel)) ?_
  intro p e s m below meth c s₁ G hx hby hml hown hnm hret hZ X0 e0 hG hR
  have N0 := Fr.nil Z.heap.size
  refine own_entry (Ls := #[.val (.int ch)]) (by first | (simp [entryFrame, mkF, argsToLocals, Value.category]; done) | rfl) ?_
  show G (s₁.setTop (mkF m 0 #[.val (.int ch)] []))
  refine hG _ _ (fun t_ k_ => XS.iloadN X0.here hx rfl (hb hby d2_0) rfl k_) ?_
  refine hG _ _ (fun t_ k_ => XS.sipush X0.here hx rfl (hb hby d2_1) k_) ?_
  show G (s₁.setTop (mkF m 4 #[.val (.int ch)] [(.int 255), (.int ch)]))
  refine hG _ _ (fun t_ k_ => XS.icmpNo X0.here hx rfl (hb hby d2_4) rfl (flt g0_hch).2.2.1 k_) ?_
  show G (s₁.setTop (mkF m 7 #[.val (.int ch)] []))
  refine hG _ _ (fun t_ k_ => XS.iconst X0.here hx rfl (hb hby d2_7) k_) ?_
  refine hG _ _ (fun t_ k_ => XS.goto X0.here hx rfl (pc0 := 8) (pc' := 12) rfl (hb hby d2_8) (by decide) (by decide) k_) ?_
  show G (s₁.setTop (mkF m 12 #[.val (.int ch)] [(.int 1)]))
  exact own_retN hR hret (by simp) X0 hx (hb hby d2_12) (by decide) (by decide) (by rw [e0]; exact ⟨rfl, N0, rfl⟩)
theorem own_pd8 : parseMethodDescriptor "(C)[B" = some ⟨[.char], some (.array .byte)⟩ := by decide +kernel
set_option maxRecDepth 65536 in
set_option maxHeartbeats 40000000 in
theorem own_tob1 (l : Launch) (Z : State) (a0 : Array Value) (hw : ∀ d ∈ tables_1, d.before a0 Z = true) (ch : Int32) (h0 : Heap) (O0 : own_Old Z h0) :
    own_Con l Z (⟨"java/lang/StringLatin1", "toBytes", "(C)[B"⟩ : MethodName) jdk_43_method_46_code 1 (some (.array .byte)) [] ({ frames := 0, cells := 1, slots := 1, locals := 0 } : Room) #[(.int ch)] h0 (fun rv rh rL => ∃ (t : Addr) (kt : ClassId), rv = some (.ref t) ∧ own_Fr Z rL ∧ Keep h0 rh [] ∧ h0.size ≤ t ∧ (Arv Z rh t kt .byte (1 : Int32) [(.int (nar .byte (ch.toInt8.toInt32)))] (.int 0))) := by
  refine own_intro (plainFor_of_name (by first | (simp [plainName, overriddenIn]; done) | decide +kernel)) ?_
  intro p e s m below meth c s₁ G hx hby hml hown hnm hret hZ X0 e0 hG hR
  have N0 := Fr.nil Z.heap.size
  refine own_entry (Ls := #[.val (.int ch)]) (by first | (simp [entryFrame, mkF, argsToLocals, Value.category]; done) | rfl) ?_
  show G (s₁.setTop (mkF m 0 #[.val (.int ch)] []))
  refine hG _ _ (fun t_ k_ => XS.iconst X0.here hx rfl (hb hby d3_0) k_) ?_
  obtain ⟨T1, h1, k1, X1, e1, E1, A1, st1⟩ := newP X0 hx hZ (ow hw 15 rfl) e0 (g := (mkF m 1 #[.val (.int ch)] [(.int 1)])) rfl (hb hby d3_1) rfl (by decide) (cap := 1) (by decide) (by decide) (by decide) (by decide)
  obtain ⟨b1, z1⟩ : ∃ z, z = h0.size := ⟨_, rfl⟩
  rw [← z1] at A1 st1
  refine hG _ _ st1 ?_
  have K1 : Keep h0 h1 [] := (Keep.refl h0 []).ext E1
  have O1 : own_Old Z h1 := O0.ext E1
  have V1 : Arv Z h1 b1 k1 .byte (1 : Int32) [(.int 0)] (.int 0) := (Arv.new A1 (by decide)).pad (pad_rep [] (.int 0) 1)
  refine hG _ _ (fun t_ k_ => XS.dup X1.here hx rfl (hb hby d3_3) rfl rfl k_) ?_
  refine hG _ _ (fun t_ k_ => XS.iconst X1.here hx rfl (hb hby d3_4) k_) ?_
  refine hG _ _ (fun t_ k_ => XS.iloadN X1.here hx rfl (hb hby d3_5) rfl k_) ?_
  refine hG _ _ (fun t_ k_ => XS.i2b X1.here hx rfl (hb hby d3_6) rfl k_) ?_
  obtain ⟨c2, Ar2, q2, S2, M2, H2, G2⟩ := id V1
  obtain ⟨T2, h2, X2, e2, W2, st2⟩ := stB X1 hx hZ e1 Ar2 (j := (0 : Int32)) (inb_of S2 ⟨by decide, by decide⟩) (g := (mkF m 7 #[.val (.int ch)] [(.int (ch.toInt8.toInt32)), (.int 0), (.ref b1), (.ref b1)])) rfl rfl (hb hby d3_7)
  refine hG _ _ st2 ?_
  have K2 : Keep h0 h2 [] := K1.wr W2 (Or.inr (Nat.le_trans (Keep.refl h0 []).1 (Nat.le_of_eq z1.symm)))
  have O2 : own_Old Z h2 := O1.wr W2 (own_ge O0 (Nat.le_of_eq z1.symm))
  have V2 : Arv Z h2 b1 k1 .byte (1 : Int32) [(.int (nar .byte (ch.toInt8.toInt32)))] (.int 0) := Arv.set Ar2 q2 S2 M2 H2 G2 (fits_nar_byte _) W2 0 rfl (Nat.le_of_ble_eq_true rfl)
  have N2 := Fr.snoc X2 N0 (own_ge O0 (Nat.le_of_eq z1.symm))
  show G (T2.setTop (mkF m 8 #[.val (.int ch)] [(.ref b1)]))
  exact own_retA hR hret rfl rfl X2 hx (hb hby d3_8) (by decide) (by decide) (by rw [e2]; exact ⟨b1, k1, rfl, N2, K2, (Nat.le_trans (Keep.refl h0 []).1 (Nat.le_of_eq z1.symm)), V2⟩)
theorem own_pd9 : parseMethodDescriptor "(C)Ljava/lang/String;" = some ⟨[.char], some (.object "java/lang/String")⟩ := by decide +kernel
set_option maxRecDepth 65536 in
set_option maxHeartbeats 40000000 in
theorem own_val1 (l : Launch) (Z : State) (a0 : Array Value) (hw : ∀ d ∈ tables_1, d.before a0 Z = true) (ch : Int32) (cpt : Int32) (h0 : Heap) (O0 : own_Old Z h0) (g0_hch : ¬ ((255 : Int32) < ch)) (g1_S : Sta Z Z.heap "java/lang/String" "COMPACT_STRINGS" "Z" (.int cpt)) (g2_hcpt : ¬ (cpt = (0 : Int32))) :
    own_Con l Z (⟨"java/lang/String", "valueOf", "(C)Ljava/lang/String;"⟩ : MethodName) jdk_42_method_139_code 1 (some (.object "java/lang/String")) [] ({ frames := 2, cells := 2, slots := 5, locals := 27 } : Room) #[(.int ch)] h0 (fun rv rh rL => ∃ (t : Addr) (b : Addr) (kb : ClassId), rv = some (.ref t) ∧ own_Fr Z rL ∧ Keep h0 rh [] ∧ h0.size ≤ t ∧ h0.size ≤ b ∧ (Exa Z rh t "java/lang/String") ∧ (Fld Z rh t "java/lang/String" "coder" "B" (.int 0)) ∧ (Fld Z rh t "java/lang/String" "value" "[B" (.ref b)) ∧ (Arv Z rh b kb .byte (1 : Int32) [(.int (nar .byte (ch.toInt8.toInt32)))] (.int 0))) := by
  refine own_intro (plainFor_of_name (by first | (simp [plainName, overriddenIn]; done) | decide +kernel)) ?_
  intro p e s m below meth c s₁ G hx hby hml hown hnm hret hZ X0 e0 hG hR
  have N0 := Fr.nil Z.heap.size
  refine own_entry (Ls := #[.val (.int ch)]) (by first | (simp [entryFrame, mkF, argsToLocals, Value.category]; done) | rfl) ?_
  show G (s₁.setTop (mkF m 0 #[.val (.int ch)] []))
  obtain ⟨T1, X1, e1, st1⟩ := getS2 X0 hx hZ hown (host := "") (Or.inl (ow hw 5 rfl)) Via.refl e0 (own_sta g1_S O0) (g := (mkF m 0 #[.val (.int ch)] [])) rfl (hb hby d1_0)
  refine hG _ _ st1 ?_
  show G (T1.setTop (mkF m 3 #[.val (.int ch)] [(.int cpt)]))
  refine hG _ _ (fun t_ k_ => XS.ifNo X1.here hx rfl (hb hby d1_3) rfl ((if0 _ _).trans (feq g2_hcpt).1) k_) ?_
  show G (T1.setTop (mkF m 6 #[.val (.int ch)] []))
  refine hG _ _ (fun t_ k_ => XS.iloadN X1.here hx rfl (hb hby d1_6) rfl k_) ?_
  show G (T1.setTop (mkF m 7 #[.val (.int ch)] [(.int ch)]))
  refine own_callS X1 hx hZ hG hown (ow hw 6 rfl) (ow hw 7 rfl) (ow hw 8 rfl) (ow hw 9 rfl) (by decide) 0 (own_can1 l Z a0 hw ch h0 O0 g0_hch) (by decide) (by decide) e1 (by rw [hml]; rfl) (lenOf own_pd7 rfl) (argsL := [(.int ch)]) (rest := []) rfl rfl (Nat.le_of_eq rfl) (hb hby d1_7) (by decide) (by decide) ?_
  intro T2 h2 v2 L2 X2 e2 q2
  obtain ⟨rfl, M2, rfl⟩ := q2
  have N2 := Fr.app N0 M2
  show G (T2.setTop (mkF m 10 #[.val (.int ch)] [(.int 1)]))
  refine hG _ _ (fun t_ k_ => XS.ifNo X2.here hx rfl (hb hby d1_10) rfl ((if0 _ _).trans (feq (by decide)).1) k_) ?_
  show G (T2.setTop (mkF m 13 #[.val (.int ch)] []))
  obtain ⟨T3, h3, X3, e3, E3, A3, D3, -, st3⟩ := newO X2 hx hZ hown (ow hw 10 rfl) (ow hw 11 rfl) (ow hw 3 rfl) e2 (g := (mkF m 13 #[.val (.int ch)] [])) rfl (hb hby d1_13) (by decide) (by decide)
  obtain ⟨b3, z3⟩ : ∃ z, z = h0.size := ⟨_, rfl⟩
  rw [← z3] at A3 D3 st3
  refine hG _ _ st3 ?_
  have K3 : Keep h0 h3 [] := (Keep.refl h0 []).ext E3
  have O3 : own_Old Z h3 := O0.ext E3
  refine hG _ _ (fun t_ k_ => XS.dup X3.here hx rfl (hb hby d1_16) rfl rfl k_) ?_
  refine hG _ _ (fun t_ k_ => XS.iloadN X3.here hx rfl (hb hby d1_17) rfl k_) ?_
  show G (T3.setTop (mkF m 18 #[.val (.int ch)] [(.int ch), (.ref b3), (.ref b3)]))
  refine own_callS X3 hx hZ hG hown (ow hw 12 rfl) (ow hw 13 rfl) (ow hw 8 rfl) (ow hw 14 rfl) (by decide) 2 (own_tob1 l Z a0 hw ch h3 O3) (by decide) (by decide) e3 (by rw [hml]; rfl) (lenOf own_pd8 rfl) (argsL := [(.int ch)]) (rest := [(.ref b3), (.ref b3)]) rfl rfl (Nat.le_of_eq rfl) (hb hby d1_18) (by decide) (by decide) ?_
  intro T4 h4 v4 L4 X4 e4 q4
  obtain ⟨t_4, kt_4, rfl, M4, J4, y4_0, r4_0⟩ := q4
  have N4 := Fr.app N2 M4
  have K4 : Keep h0 h4 [] := K3.trans J4 all0
  have O4 : own_Old Z h4 := O3.keep J4 all0
  refine hG _ _ (fun t_ k_ => XS.iconst X4.here hx rfl (hb hby d1_21) k_) ?_
  show G (T4.setTop (mkF m 22 #[.val (.int ch)] [(.int 0), (.ref t_4), (.ref b3), (.ref b3)]))
  have f6 := (A3.keep J4)
  have f7 := ((D3 (Or.inr (ow hw 26 rfl)) (ty := .byte) (by decide)).keep J4 nin0)
  have f8 := ((D3 (Or.inr (ow hw 24 rfl)) (ty := (.array .byte)) (by decide)).keep J4 nin0)
  refine own_callI X4 hx hZ hG hown rfl (ow hw 16 rfl) (ow hw 17 rfl) (ow hw 3 rfl) (ow hw 19 rfl) (by decide) 1 (own_strb0 l Z a0 hw b3 t_4 (.int 0) .null h4 O4 f6 f7 f8 (own_ge O0 (Nat.le_of_eq z3.symm))) (by decide) (by decide) e4 (by rw [hml]; rfl) (lenOf own_pd6 rfl) (argsL := [(.ref t_4), (.int 0)]) (rest := [(.ref b3)]) rfl rfl (Nat.le_of_eq rfl) (hb hby d1_22) (by decide) (by decide) ?_
  intro T5 h5 v5 L5 X5 e5 q5
  obtain ⟨rfl, M5, J5, r5_0, r5_1, r5_2⟩ := q5
  have N5 := Fr.app N4 M5
  have K5 : Keep h0 h5 [] := K4.trans J5 (allS (Or.inr (Nat.le_trans (Keep.refl h0 []).1 (Nat.le_of_eq z3.symm))) all0)
  have O5 : own_Old Z h5 := O4.keep J5 (allS (own_ge O0 (Nat.le_of_eq z3.symm)) all0)
  show G (T5.setTop (mkF m 25 #[.val (.int ch)] [(.ref b3)]))
  have f9 := (r4_0.keep J5 (ninS (Ne.symm (own_ne A3.lt y4_0)) nin0))
  exact own_retA hR hret rfl rfl X5 hx (hb hby d1_25) (by decide) (by decide) (by rw [e5]; exact ⟨b3, t_4, kt_4, rfl, N5, K5, (Nat.le_trans (Keep.refl h0 []).1 (Nat.le_of_eq z3.symm)), (Nat.le_trans K3.1 y4_0), r5_0, r5_1, r5_2, f9⟩)
theorem own_pd10 : parseMethodDescriptor "(I)V" = some ⟨[.int], none⟩ := by decide +kernel
set_option maxRecDepth 65536 in
set_option maxHeartbeats 40000000 in
theorem own_asbi (l : Launch) (Z : State) (a0 : Array Value) (hw : ∀ d ∈ tables_1, d.before a0 Z = true) (a : Addr) (cpt : Int32) (u0 : Value) (u1 : Value) (u2 : Value) (h0 : Heap) (O0 : own_Old Z h0) (g0_E : Exa Z h0 a "java/lang/StringBuilder") (g1_G : Z.heap.size ≤ a) (g2_F : Fld Z h0 a "java/lang/AbstractStringBuilder" "value" "[B" u0) (g3_F : Fld Z h0 a "java/lang/AbstractStringBuilder" "coder" "B" u1) (g4_F : Fld Z h0 a "java/lang/AbstractStringBuilder" "count" "I" u2) (g5_S : Sta Z Z.heap "java/lang/String" "COMPACT_STRINGS" "Z" (.int cpt)) (g6_hcpt : ¬ (cpt = (0 : Int32))) :
    own_Con l Z (⟨"java/lang/AbstractStringBuilder", "<init>", "(I)V"⟩ : MethodName) jdk_68_method_2_code 2 none [] ({ frames := 1, cells := 1, slots := 16, locals := 12 } : Room) #[(.ref a), (.int 16)] h0 (fun rv rh rL => ∃ (d : Addr) (kd : ClassId), rv = none ∧ own_Fr Z rL ∧ Keep h0 rh [a] ∧ h0.size ≤ d ∧ (Exa Z rh a "java/lang/StringBuilder") ∧ (Fld Z rh a "java/lang/AbstractStringBuilder" "value" "[B" (.ref d)) ∧ (Fld Z rh a "java/lang/AbstractStringBuilder" "coder" "B" (.int 0)) ∧ (Fld Z rh a "java/lang/AbstractStringBuilder" "count" "I" u2) ∧ (Exa Z rh d "[B") ∧ (Arv Z rh d kd .byte (16 : Int32) [(.int 0), (.int 0), (.int 0), (.int 0), (.int 0), (.int 0), (.int 0), (.int 0), (.int 0), (.int 0), (.int 0), (.int 0), (.int 0), (.int 0), (.int 0), (.int 0)] (.int 0))) := by
  refine own_intro (plainFor_of_name (by first | (simp [plainName, overriddenIn]; done) | decide +kernel)) ?_
  intro p e s m below meth c s₁ G hx hby hml hown hnm hret hZ X0 e0 hG hR
  have N0 := Fr.nil Z.heap.size
  refine own_entry (Ls := #[.val (.ref a), .val (.int 16)]) (by first | (simp [entryFrame, mkF, argsToLocals, Value.category]; done) | rfl) ?_
  show G (s₁.setTop (mkF m 0 #[.val (.ref a), .val (.int 16)] []))
  refine hG _ _ (fun t_ k_ => XS.aloadN X0.here hx rfl (hb hby d13_0) rfl rfl k_) ?_
  show G (s₁.setTop (mkF m 1 #[.val (.ref a), .val (.int 16)] [(.ref a)]))
  obtain ⟨T1, X1, e1, st1⟩ := initO X0 hx hZ hown (ow hw 63 rfl) (ow hw 21 rfl) (ow hw 22 rfl) e0 (g := (mkF m 1 #[.val (.ref a), .val (.int 16)] [(.ref a)])) rfl (by rw [hml]; rfl) rfl (hb hby d13_1) (by decide) (W := 0) (by show 2 * 0 + _ ≤ _; exact Nat.le_of_eq rfl) (by decide)
  refine hG _ _ st1 ?_
  show G (T1.setTop (mkF m 4 #[.val (.ref a), .val (.int 16)] []))
  obtain ⟨T2, X2, e2, st2⟩ := getS2 X1 hx hZ hown (host := "") (Or.inl (ow hw 64 rfl)) Via.refl e1 (own_sta g5_S O0) (g := (mkF m 4 #[.val (.ref a), .val (.int 16)] [])) rfl (hb hby d13_4)
  refine hG _ _ st2 ?_
  show G (T2.setTop (mkF m 7 #[.val (.ref a), .val (.int 16)] [(.int cpt)]))
  refine hG _ _ (fun t_ k_ => XS.ifNo X2.here hx rfl (hb hby d13_7) rfl ((if0 _ _).trans (feq g6_hcpt).1) k_) ?_
  show G (T2.setTop (mkF m 10 #[.val (.ref a), .val (.int 16)] []))
  refine hG _ _ (fun t_ k_ => XS.aloadN X2.here hx rfl (hb hby d13_10) rfl rfl k_) ?_
  refine hG _ _ (fun t_ k_ => XS.iloadN X2.here hx rfl (hb hby d13_11) rfl k_) ?_
  obtain ⟨T3, h3, k3, X3, e3, E3, A3, Ex3, st3⟩ := newPE X2 hx hZ (ow hw 15 rfl) e2 (g := (mkF m 12 #[.val (.ref a), .val (.int 16)] [(.int 16), (.ref a)])) rfl (hb hby d13_12) rfl (by decide) (cap := 16) (by decide) (by decide) (by decide) (by decide) (ad := "[B") (by decide)
  obtain ⟨b3, z3⟩ : ∃ z, z = h0.size := ⟨_, rfl⟩
  rw [← z3] at A3 Ex3 st3
  refine hG _ _ st3 ?_
  have K3 : Keep h0 h3 [a] := (Keep.refl h0 [a]).ext E3
  have O3 : own_Old Z h3 := O0.ext E3
  have V3 : Arv Z h3 b3 k3 .byte (16 : Int32) [(.int 0), (.int 0), (.int 0), (.int 0), (.int 0), (.int 0), (.int 0), (.int 0), (.int 0), (.int 0), (.int 0), (.int 0), (.int 0), (.int 0), (.int 0), (.int 0)] (.int 0) := (Arv.new A3 (by decide)).pad (pad_rep [] (.int 0) 16)
  have f5 := (g2_F.ext E3)
  have f6 := (g0_E.ext E3)
  obtain ⟨T4, h4, X4, e4, W4, st4⟩ := putF X3 hx hZ hown (host := "") (Or.inl (ow hw 65 rfl)) Via.refl e3 f5 f6 (Or.inl (ow hw 66 rfl)) (ow hw 52 rfl) (ty := (.array .byte)) (by decide) rfl rfl (g := (mkF m 14 #[.val (.ref a), .val (.int 16)] [(.ref b3), (.ref a)])) rfl rfl (hb hby d13_14)
  refine hG _ _ st4 ?_
  have K4 : Keep h0 h4 [a] := K3.wr W4 (Or.inl (List.mem_of_getElem? (i := 0) rfl))
  have O4 : own_Old Z h4 := O3.wr W4 g1_G
  have N4 := Fr.snoc X4 N0 g1_G
  refine hG _ _ (fun t_ k_ => XS.aloadN X4.here hx rfl (hb hby d13_17) rfl rfl k_) ?_
  refine hG _ _ (fun t_ k_ => XS.iconst X4.here hx rfl (hb hby d13_18) k_) ?_
  have f8 := ((g3_F.ext E3).other W4 (Or.inr (slot_ne (Or.inl (ow hw 68 rfl)) (Or.inl (ow hw 66 rfl)) (by decide) (t := .byte) (t' := (.array .byte)) (by decide) (by decide))))
  have f9 := (f6.wr W4)
  obtain ⟨T7, h7, X7, e7, W7, st7⟩ := putFN X4 hx hZ hown (ow hw 67 rfl) Via.refl e4 f8 f9 (Or.inl (ow hw 68 rfl)) (ow hw 52 rfl) (ty := .byte) (v' := (.int 0)) (by decide) rfl rfl (g := (mkF m 19 #[.val (.ref a), .val (.int 16)] [(.int 0), (.ref a)])) rfl rfl (hb hby d13_19)
  refine hG _ _ st7 ?_
  have K7 : Keep h0 h7 [a] := K4.wr W7 (Or.inl (List.mem_of_getElem? (i := 0) rfl))
  have O7 : own_Old Z h7 := O4.wr W7 g1_G
  have N7 := Fr.snoc X7 N4 g1_G
  refine hG _ _ (fun t_ k_ => XS.goto X7.here hx rfl (pc0 := 22) (pc' := 38) rfl (hb hby d13_22) (by decide) (by decide) k_) ?_
  show G (T7.setTop (mkF m 38 #[.val (.ref a), .val (.int 16)] []))
  have f10 := (f9.wr W7)
  have f11 := ((f5.same W4).other W7 (Or.inr (slot_ne (Or.inl (ow hw 66 rfl)) (Or.inl (ow hw 68 rfl)) (by decide) (t := (.array .byte)) (t' := .byte) (by decide) (by decide))))
  have f12 := (((g4_F.ext E3).other W4 (Or.inr (slot_ne (Or.inl (ow hw 93 rfl)) (Or.inl (ow hw 66 rfl)) (by decide) (t := .int) (t' := (.array .byte)) (by decide) (by decide)))).other W7 (Or.inr (slot_ne (Or.inl (ow hw 93 rfl)) (Or.inl (ow hw 68 rfl)) (by decide) (t := .int) (t' := .byte) (by decide) (by decide))))
  have f13 := ((Ex3.wr W4).wr W7)
  have f14 := ((V3.other W4 (Ne.symm (own_ne g0_E.lt (Nat.le_of_eq z3.symm)))).other W7 (Ne.symm (own_ne g0_E.lt (Nat.le_of_eq z3.symm))))
  exact own_retV hR hret X7 hx (hb hby d13_38) (by decide) (by decide) (by rw [e7]; exact ⟨b3, k3, rfl, N7, K7, (Nat.le_trans (Keep.refl h0 [a]).1 (Nat.le_of_eq z3.symm)), f10, f11, (f8.same W7), f12, f13, f14⟩)
set_option maxRecDepth 65536 in
set_option maxHeartbeats 40000000 in
theorem own_sbi (l : Launch) (Z : State) (a0 : Array Value) (hw : ∀ d ∈ tables_1, d.before a0 Z = true) (a : Addr) (cpt : Int32) (u0 : Value) (u1 : Value) (u2 : Value) (h0 : Heap) (O0 : own_Old Z h0) (g0_E : Exa Z h0 a "java/lang/StringBuilder") (g1_G : Z.heap.size ≤ a) (g2_F : Fld Z h0 a "java/lang/AbstractStringBuilder" "value" "[B" u0) (g3_F : Fld Z h0 a "java/lang/AbstractStringBuilder" "coder" "B" u1) (g4_F : Fld Z h0 a "java/lang/AbstractStringBuilder" "count" "I" u2) (g5_S : Sta Z Z.heap "java/lang/String" "COMPACT_STRINGS" "Z" (.int cpt)) (g6_hcpt : ¬ (cpt = (0 : Int32))) :
    own_Con l Z (⟨"java/lang/StringBuilder", "<init>", "()V"⟩ : MethodName) jdk_67_method_1_code 1 none [] ({ frames := 2, cells := 1, slots := 16, locals := 25 } : Room) #[(.ref a)] h0 (fun rv rh rL => ∃ (d : Addr) (kd : ClassId), rv = none ∧ own_Fr Z rL ∧ Keep h0 rh [a] ∧ h0.size ≤ d ∧ (Exa Z rh a "java/lang/StringBuilder") ∧ (Fld Z rh a "java/lang/AbstractStringBuilder" "value" "[B" (.ref d)) ∧ (Fld Z rh a "java/lang/AbstractStringBuilder" "coder" "B" (.int 0)) ∧ (Fld Z rh a "java/lang/AbstractStringBuilder" "count" "I" u2) ∧ (Exa Z rh d "[B") ∧ (Arv Z rh d kd .byte (16 : Int32) [(.int 0), (.int 0), (.int 0), (.int 0), (.int 0), (.int 0), (.int 0), (.int 0), (.int 0), (.int 0), (.int 0), (.int 0), (.int 0), (.int 0), (.int 0), (.int 0)] (.int 0))) := by
  refine own_intro (plainFor_of_name (by first | (simp [plainName, overriddenIn]; done) | decide +kernel)) ?_
  intro p e s m below meth c s₁ G hx hby hml hown hnm hret hZ X0 e0 hG hR
  have N0 := Fr.nil Z.heap.size
  refine own_entry (Ls := #[.val (.ref a)]) (by first | (simp [entryFrame, mkF, argsToLocals, Value.category]; done) | rfl) ?_
  show G (s₁.setTop (mkF m 0 #[.val (.ref a)] []))
  refine hG _ _ (fun t_ k_ => XS.aloadN X0.here hx rfl (hb hby d12_0) rfl rfl k_) ?_
  refine hG _ _ (fun t_ k_ => XS.bipush X0.here hx rfl (hb hby d12_1) k_) ?_
  show G (s₁.setTop (mkF m 3 #[.val (.ref a)] [(.int 16), (.ref a)]))
  refine own_callI X0 hx hZ hG hown rfl (ow hw 57 rfl) (ow hw 58 rfl) (ow hw 61 rfl) (ow hw 62 rfl) (by decide) 0 (own_asbi l Z a0 hw a cpt u0 u1 u2 h0 O0 g0_E g1_G g2_F g3_F g4_F g5_S g6_hcpt) (by decide) (by decide) e0 (by rw [hml]; rfl) (lenOf own_pd10 rfl) (argsL := [(.int 16)]) (rest := []) rfl rfl (Nat.le_of_eq rfl) (hb hby d12_3) (by decide) (by decide) ?_
  intro T1 h1 v1 L1 X1 e1 q1
  obtain ⟨d_1, kd_1, rfl, M1, J1, y1_0, r1_0, r1_1, r1_2, r1_3, r1_4, r1_5⟩ := q1
  have N1 := Fr.app N0 M1
  have K1 : Keep h0 h1 [a] := (Keep.refl h0 [a]).trans J1 (allS (Or.inl (List.mem_of_getElem? (i := 0) rfl)) all0)
  have O1 : own_Old Z h1 := O0.keep J1 (allS g1_G all0)
  show G (T1.setTop (mkF m 6 #[.val (.ref a)] []))
  exact own_retV hR hret X1 hx (hb hby d12_6) (by decide) (by decide) (by rw [e1]; exact ⟨d_1, kd_1, rfl, N1, K1, (Nat.le_trans (Keep.refl h0 [a]).1 y1_0), r1_0, r1_1, r1_2, r1_3, r1_4, r1_5⟩)
theorem own_pd11 : parseMethodDescriptor "()B" = some ⟨[], some .byte⟩ := by decide +kernel
set_option maxRecDepth 65536 in
set_option maxHeartbeats 40000000 in
theorem own_cod0 (l : Launch) (Z : State) (a0 : Array Value) (hw : ∀ d ∈ tables_1, d.before a0 Z = true) (a : Addr) (cpt : Int32) (h0 : Heap) (O0 : own_Old Z h0) (g0_F : Fld Z h0 a "java/lang/String" "coder" "B" (.int 0)) (g1_S : Sta Z Z.heap "java/lang/String" "COMPACT_STRINGS" "Z" (.int cpt)) (g2_hcpt : ¬ (cpt = (0 : Int32))) :
    own_Con l Z (⟨"java/lang/String", "coder", "()B"⟩ : MethodName) jdk_42_method_152_code 1 (some .byte) [] ({ frames := 0, cells := 0, slots := 0, locals := 0 } : Room) #[(.ref a)] h0 (fun rv rh rL => rv = some (.int 0) ∧ own_Fr Z rL ∧ h0 = rh) := by
  refine own_intro (plainFor_of_name (by first | (simp [plainName, overriddenIn]; done) | decide +kernel)) ?_
  intro p e s m below meth c s₁ G hx hby hml hown hnm hret hZ X0 e0 hG hR
  have N0 := Fr.nil Z.heap.size
  refine own_entry (Ls := #[.val (.ref a)]) (by first | (simp [entryFrame, mkF, argsToLocals, Value.category]; done) | rfl) ?_
  show G (s₁.setTop (mkF m 0 #[.val (.ref a)] []))
  obtain ⟨T1, X1, e1, st1⟩ := getS2 X0 hx hZ hown (host := "") (Or.inl (ow hw 5 rfl)) Via.refl e0 (own_sta g1_S O0) (g := (mkF m 0 #[.val (.ref a)] [])) rfl (hb hby d17_0)
  refine hG _ _ st1 ?_
  show G (T1.setTop (mkF m 3 #[.val (.ref a)] [(.int cpt)]))
  refine hG _ _ (fun t_ k_ => XS.ifNo X1.here hx rfl (hb hby d17_3) rfl ((if0 _ _).trans (feq g2_hcpt).1) k_) ?_
  show G (T1.setTop (mkF m 6 #[.val (.ref a)] []))
  refine hG _ _ (fun t_ k_ => XS.aloadN X1.here hx rfl (hb hby d17_6) rfl rfl k_) ?_
  obtain ⟨T2, X2, e2, st2⟩ := getF X1 hx hZ hown (host := "") (Or.inl (ow hw 25 rfl)) Via.refl e1 g0_F (g := (mkF m 7 #[.val (.ref a)] [(.ref a)])) rfl rfl (hb hby d17_7)
  refine hG _ _ st2 ?_
  refine hG _ _ (fun t_ k_ => XS.goto X2.here hx rfl (pc0 := 10) (pc' := 14) rfl (hb hby d17_10) (by decide) (by decide) k_) ?_
  show G (T2.setTop (mkF m 14 #[.val (.ref a)] [(.int 0)]))
  exact own_retN hR hret (by simp) X2 hx (hb hby d17_14) (by decide) (by decide) (by rw [e2]; exact ⟨rfl, N0, rfl⟩)
theorem own_pd12 : parseMethodDescriptor "()I" = some ⟨[], some .int⟩ := by decide +kernel
set_option maxRecDepth 65536 in
set_option maxHeartbeats 40000000 in
theorem own_lenL (l : Launch) (Z : State) (a0 : Array Value) (hw : ∀ d ∈ tables_1, d.before a0 Z = true) (a : Addr) (t : Addr) (kt : ClassId) (n : Int32) (vs : List Value) (cpt : Int32) (h0 : Heap) (O0 : own_Old Z h0) (g0_E : Exa Z h0 a "java/lang/String") (g1_F : Fld Z h0 a "java/lang/String" "coder" "B" (.int 0)) (g2_F : Fld Z h0 a "java/lang/String" "value" "[B" (.ref t)) (g3_V : Arv Z h0 t kt .byte n vs (.int 0)) (g4_S : Sta Z Z.heap "java/lang/String" "COMPACT_STRINGS" "Z" (.int cpt)) (g5_hcpt : ¬ (cpt = (0 : Int32))) :
    own_Con l Z (⟨"java/lang/String", "length", "()I"⟩ : MethodName) jdk_42_method_54_code 1 (some .int) [] ({ frames := 1, cells := 0, slots := 0, locals := 13 } : Room) #[(.ref a)] h0 (fun rv rh rL => rv = some (.int n) ∧ own_Fr Z rL ∧ h0 = rh) := by
  refine own_intro (plainFor_of_name (by first | (simp [plainName, overriddenIn]; done) | decide +kernel)) ?_
  intro p e s m below meth c s₁ G hx hby hml hown hnm hret hZ X0 e0 hG hR
  have N0 := Fr.nil Z.heap.size
  refine own_entry (Ls := #[.val (.ref a)]) (by first | (simp [entryFrame, mkF, argsToLocals, Value.category]; done) | rfl) ?_
  show G (s₁.setTop (mkF m 0 #[.val (.ref a)] []))
  refine hG _ _ (fun t_ k_ => XS.aloadN X0.here hx rfl (hb hby d16_0) rfl rfl k_) ?_
  obtain ⟨T1, X1, e1, st1⟩ := getF X0 hx hZ hown (host := "") (Or.inl (ow hw 23 rfl)) Via.refl e0 g2_F (g := (mkF m 1 #[.val (.ref a)] [(.ref a)])) rfl rfl (hb hby d16_1)
  refine hG _ _ st1 ?_
  obtain ⟨c2, Ar2, -, S2, M2, -, -⟩ := id g3_V
  refine hG _ _ (X1.arraylength hx (by rw [e1]; exact Ar2.1) (State.isArrayOf_alike hZ.alike Ar2.2.1) (g := (mkF m 4 #[.val (.ref a)] [(.ref t)])) rfl rfl (hb hby d16_4)) ?_
  rw [len_of S2 M2]
  refine hG _ _ (fun t_ k_ => XS.aloadN X1.here hx rfl (hb hby d16_5) rfl rfl k_) ?_
  show G (T1.setTop (mkF m 6 #[.val (.ref a)] [(.ref a), (.int n)]))
  refine own_callV (C := "java/lang/String") X1 hx hZ hG hown (ow hw 87 rfl) (ow hw 88 rfl) (ow hw 90 rfl) (ow hw 89 rfl) (ow hw 3 rfl) (ow hw 91 rfl) (by decide) 1 (own_cod0 l Z a0 hw a cpt h0 O0 g1_F g4_S g5_hcpt) (by decide) (by decide) e1 g0_E (by rw [hml]; rfl) (lenOf own_pd11 rfl) (argsL := []) (rest := [(.int n)]) rfl rfl (Nat.le_of_eq rfl) (hb hby d16_6) (by decide) (by decide) ?_
  intro T3 h3 v3 L3 X3 e3 q3
  obtain ⟨rfl, M3, rfl⟩ := q3
  have N3 := Fr.app N0 M3
  refine hG _ _ (fun t_ k_ => XS.ishr X3.here hx rfl (hb hby d16_9) rfl k_) ?_
  show G (T3.setTop (mkF m 10 #[.val (.ref a)] [(.int (n >>> ((0 : Int32) &&& 31)))]))
  exact own_retI hR hret X3 hx (hb hby d16_10) (by decide) (by decide) (by rw [e3]; exact ⟨(by rw [own_shr0]), N3, rfl⟩)
theorem own_pd13 : parseMethodDescriptor "(Ljava/lang/String;)V" = some ⟨[(.object "java/lang/String")], none⟩ := by decide +kernel
set_option maxRecDepth 65536 in
set_option maxHeartbeats 40000000 in
theorem own_infl (l : Launch) (Z : State) (a0 : Array Value) (hw : ∀ d ∈ tables_1, d.before a0 Z = true) (q : Addr) (a : Addr) (cpt : Int32) (h0 : Heap) (O0 : own_Old Z h0) (g0_F : Fld Z h0 q "java/lang/AbstractStringBuilder" "coder" "B" (.int 0)) (g1_E : Exa Z h0 a "java/lang/String") (g2_F : Fld Z h0 a "java/lang/String" "coder" "B" (.int 0)) (g3_S : Sta Z Z.heap "java/lang/String" "COMPACT_STRINGS" "Z" (.int cpt)) (g4_hcpt : ¬ (cpt = (0 : Int32))) :
    own_Con l Z (⟨"java/lang/AbstractStringBuilder", "inflateIfNeededFor", "(Ljava/lang/String;)V"⟩ : MethodName) jdk_68_method_71_code 2 none [] ({ frames := 1, cells := 0, slots := 0, locals := 13 } : Room) #[(.ref q), (.ref a)] h0 (fun rv rh rL => rv = none ∧ own_Fr Z rL ∧ h0 = rh) := by
  refine own_intro (plainFor_of_name (by first | (simp [plainName, overriddenIn]; done) | decide +kernel)) ?_
  intro p e s m below meth c s₁ G hx hby hml hown hnm hret hZ X0 e0 hG hR
  have N0 := Fr.nil Z.heap.size
  refine own_entry (Ls := #[.val (.ref q), .val (.ref a)]) (by first | (simp [entryFrame, mkF, argsToLocals, Value.category]; done) | rfl) ?_
  show G (s₁.setTop (mkF m 0 #[.val (.ref q), .val (.ref a)] []))
  obtain ⟨T1, X1, e1, st1⟩ := getS2 X0 hx hZ hown (host := "") (Or.inl (ow hw 64 rfl)) Via.refl e0 (own_sta g3_S O0) (g := (mkF m 0 #[.val (.ref q), .val (.ref a)] [])) rfl (hb hby d20_0)
  refine hG _ _ st1 ?_
  show G (T1.setTop (mkF m 3 #[.val (.ref q), .val (.ref a)] [(.int cpt)]))
  refine hG _ _ (fun t_ k_ => XS.ifNo X1.here hx rfl (hb hby d20_3) rfl ((if0 _ _).trans (feq g4_hcpt).1) k_) ?_
  show G (T1.setTop (mkF m 6 #[.val (.ref q), .val (.ref a)] []))
  refine hG _ _ (fun t_ k_ => XS.aloadN X1.here hx rfl (hb hby d20_6) rfl rfl k_) ?_
  obtain ⟨T2, X2, e2, st2⟩ := getF X1 hx hZ hown (host := "") (Or.inl (ow hw 67 rfl)) Via.refl e1 g0_F (g := (mkF m 7 #[.val (.ref q), .val (.ref a)] [(.ref q)])) rfl rfl (hb hby d20_7)
  refine hG _ _ st2 ?_
  refine hG _ _ (fun t_ k_ => XS.aloadN X2.here hx rfl (hb hby d20_10) rfl rfl k_) ?_
  show G (T2.setTop (mkF m 11 #[.val (.ref q), .val (.ref a)] [(.ref a), (.int 0)]))
  refine own_callV (C := "java/lang/String") X2 hx hZ hG hown (ow hw 109 rfl) (ow hw 88 rfl) (ow hw 90 rfl) (ow hw 89 rfl) (ow hw 3 rfl) (ow hw 91 rfl) (by decide) 1 (own_cod0 l Z a0 hw a cpt h0 O0 g2_F g3_S g4_hcpt) (by decide) (by decide) e2 g1_E (by rw [hml]; rfl) (lenOf own_pd11 rfl) (argsL := []) (rest := [(.int 0)]) rfl rfl (Nat.le_of_eq rfl) (hb hby d20_11) (by decide) (by decide) ?_
  intro T3 h3 v3 L3 X3 e3 q3
  obtain ⟨rfl, M3, rfl⟩ := q3
  have N3 := Fr.app N0 M3
  show G (T3.setTop (mkF m 14 #[.val (.ref q), .val (.ref a)] [(.int 0), (.int 0)]))
  refine hG _ _ (fun t_ k_ => XS.icmpYes X3.here hx rfl (pc0 := 14) (pc' := 21) rfl (hb hby d20_14) rfl (teq (by decide)).1 (by decide) (by decide) k_) ?_
  show G (T3.setTop (mkF m 21 #[.val (.ref q), .val (.ref a)] []))
  exact own_retV hR hret X3 hx (hb hby d20_21) (by decide) (by decide) (by rw [e3]; exact ⟨rfl, N3, rfl⟩)
theorem own_pd14 : parseMethodDescriptor "()[B" = some ⟨[], some (.array .byte)⟩ := by decide +kernel
set_option maxRecDepth 65536 in
set_option maxHeartbeats 40000000 in
theorem own_getv (l : Launch) (Z : State) (a0 : Array Value) (hw : ∀ d ∈ tables_1, d.before a0 Z = true) (q : Addr) (d : Addr) (h0 : Heap) (O0 : own_Old Z h0) (g0_F : Fld Z h0 q "java/lang/AbstractStringBuilder" "value" "[B" (.ref d)) :
    own_Con l Z (⟨"java/lang/AbstractStringBuilder", "getValue", "()[B"⟩ : MethodName) jdk_68_method_64_code 1 (some (.array .byte)) [] ({ frames := 0, cells := 0, slots := 0, locals := 0 } : Room) #[(.ref q)] h0 (fun rv rh rL => rv = some (.ref d) ∧ own_Fr Z rL ∧ h0 = rh) := by
  refine own_intro (plainFor_of_name (by first | (simp [plainName, overriddenIn]; done) | decide +kernel)) ?_
  intro p e s m below meth c s₁ G hx hby hml hown hnm hret hZ X0 e0 hG hR
  have N0 := Fr.nil Z.heap.size
  refine own_entry (Ls := #[.val (.ref q)]) (by first | (simp [entryFrame, mkF, argsToLocals, Value.category]; done) | rfl) ?_
  show G (s₁.setTop (mkF m 0 #[.val (.ref q)] []))
  refine hG _ _ (fun t_ k_ => XS.aloadN X0.here hx rfl (hb hby d25_0) rfl rfl k_) ?_
  obtain ⟨T1, X1, e1, st1⟩ := getF X0 hx hZ hown (host := "") (Or.inl (ow hw 65 rfl)) Via.refl e0 g0_F (g := (mkF m 1 #[.val (.ref q)] [(.ref q)])) rfl rfl (hb hby d25_1)
  refine hG _ _ st1 ?_
  show G (T1.setTop (mkF m 4 #[.val (.ref q)] [(.ref d)]))
  exact own_retA hR hret rfl rfl X1 hx (hb hby d25_4) (by decide) (by decide) (by rw [e1]; exact ⟨rfl, N0, rfl⟩)
set_option maxRecDepth 65536 in
set_option maxHeartbeats 40000000 in
theorem own_asbl (l : Launch) (Z : State) (a0 : Array Value) (hw : ∀ d ∈ tables_1, d.before a0 Z = true) (q : Addr) (n : Int32) (h0 : Heap) (O0 : own_Old Z h0) (g0_F : Fld Z h0 q "java/lang/AbstractStringBuilder" "count" "I" (.int n)) :
    own_Con l Z (⟨"java/lang/AbstractStringBuilder", "length", "()I"⟩ : MethodName) jdk_68_method_6_code 1 (some .int) [] ({ frames := 0, cells := 0, slots := 0, locals := 0 } : Room) #[(.ref q)] h0 (fun rv rh rL => rv = some (.int n) ∧ own_Fr Z rL ∧ h0 = rh) := by
  refine own_intro (plainFor_of_name (by first | (simp [plainName, overriddenIn]; done) | decide +kernel)) ?_
  intro p e s m below meth c s₁ G hx hby hml hown hnm hret hZ X0 e0 hG hR
  have N0 := Fr.nil Z.heap.size
  refine own_entry (Ls := #[.val (.ref q)]) (by first | (simp [entryFrame, mkF, argsToLocals, Value.category]; done) | rfl) ?_
  show G (s₁.setTop (mkF m 0 #[.val (.ref q)] []))
  refine hG _ _ (fun t_ k_ => XS.aloadN X0.here hx rfl (hb hby d27_0) rfl rfl k_) ?_
  obtain ⟨T1, X1, e1, st1⟩ := getF X0 hx hZ hown (host := "") (Or.inl (ow hw 92 rfl)) Via.refl e0 g0_F (g := (mkF m 1 #[.val (.ref q)] [(.ref q)])) rfl rfl (hb hby d27_1)
  refine hG _ _ st1 ?_
  show G (T1.setTop (mkF m 4 #[.val (.ref q)] [(.int n)]))
  exact own_retI hR hret X1 hx (hb hby d27_4) (by decide) (by decide) (by rw [e1]; exact ⟨rfl, N0, rfl⟩)
set_option maxRecDepth 65536 in
set_option maxHeartbeats 40000000 in
theorem own_sbl (l : Launch) (Z : State) (a0 : Array Value) (hw : ∀ d ∈ tables_1, d.before a0 Z = true) (q : Addr) (n : Int32) (h0 : Heap) (O0 : own_Old Z h0) (g0_E : Exa Z h0 q "java/lang/StringBuilder") (g1_F : Fld Z h0 q "java/lang/AbstractStringBuilder" "count" "I" (.int n)) :
    own_Con l Z (⟨"java/lang/StringBuilder", "length", "()I"⟩ : MethodName) jdk_67_method_93_code 1 (some .int) [] ({ frames := 1, cells := 0, slots := 0, locals := 12 } : Room) #[(.ref q)] h0 (fun rv rh rL => rv = some (.int n) ∧ own_Fr Z rL ∧ h0 = rh) := by
  refine own_intro (plainFor_of_name (by first | (simp [plainName, overriddenIn]; done) | decide +kernel)) ?_
  intro p e s m below meth c s₁ G hx hby hml hown hnm hret hZ X0 e0 hG hR
  have N0 := Fr.nil Z.heap.size
  refine own_entry (Ls := #[.val (.ref q)]) (by first | (simp [entryFrame, mkF, argsToLocals, Value.category]; done) | rfl) ?_
  show G (s₁.setTop (mkF m 0 #[.val (.ref q)] []))
  refine hG _ _ (fun t_ k_ => XS.aloadN X0.here hx rfl (hb hby d26_0) rfl rfl k_) ?_
  show G (s₁.setTop (mkF m 1 #[.val (.ref q)] [(.ref q)]))
  refine own_callU X0 hx hZ hG hown (ow hw 142 rfl) (ow hw 138 rfl) (ow hw 79 rfl) (ow hw 97 rfl) rfl (ow hw 61 rfl) (ow hw 143 rfl) (by decide) (by decide) 0 (own_asbl l Z a0 hw q n h0 O0 g1_F) (by decide) (by decide) e0 g0_E (by rw [hml]; rfl) (lenOf own_pd12 rfl) (argsL := []) (rest := []) rfl rfl (Nat.le_of_eq rfl) (hb hby d26_1) (by decide) (by decide) ?_
  intro T1 h1 v1 L1 X1 e1 q1
  obtain ⟨rfl, M1, rfl⟩ := q1
  have N1 := Fr.app N0 M1
  show G (T1.setTop (mkF m 4 #[.val (.ref q)] [(.int n)]))
  exact own_retI hR hret X1 hx (hb hby d26_4) (by decide) (by decide) (by rw [e1]; exact ⟨rfl, N1, rfl⟩)
theorem own_pd15 : parseMethodDescriptor "()Z" = some ⟨[], some .boolean⟩ := by decide +kernel
set_option maxRecDepth 65536 in
set_option maxHeartbeats 40000000 in
theorem own_asbL (l : Launch) (Z : State) (a0 : Array Value) (hw : ∀ d ∈ tables_1, d.before a0 Z = true) (q : Addr) (cpt : Int32) (h0 : Heap) (O0 : own_Old Z h0) (g0_F : Fld Z h0 q "java/lang/AbstractStringBuilder" "coder" "B" (.int 0)) (g1_S : Sta Z Z.heap "java/lang/String" "COMPACT_STRINGS" "Z" (.int cpt)) (g2_hcpt : ¬ (cpt = (0 : Int32))) :
    own_Con l Z (⟨"java/lang/AbstractStringBuilder", "isLatin1", "()Z"⟩ : MethodName) jdk_68_method_68_code 1 (some .boolean) [] ({ frames := 0, cells := 0, slots := 0, locals := 0 } : Room) #[(.ref q)] h0 (fun rv rh rL => rv = some (.int 1) ∧ own_Fr Z rL ∧ h0 = rh) := by
  refine own_intro (plainFor_of_name (by first | (simp [plainName, overriddenIn]; done) | decide +kernel)) ?_
  intro p e s m below meth c s₁ G hx hby hml hown hnm hret hZ X0 e0 hG hR
  have N0 := Fr.nil Z.heap.size
  refine own_entry (Ls := #[.val (.ref q)]) (by first | (simp [entryFrame, mkF, argsToLocals, Value.category]; done) | rfl) ?_
  show G (s₁.setTop (mkF m 0 #[.val (.ref q)] []))
  obtain ⟨T1, X1, e1, st1⟩ := getS2 X0 hx hZ hown (host := "") (Or.inl (ow hw 64 rfl)) Via.refl e0 (own_sta g1_S O0) (g := (mkF m 0 #[.val (.ref q)] [])) rfl (hb hby d28_0)
  refine hG _ _ st1 ?_
  show G (T1.setTop (mkF m 3 #[.val (.ref q)] [(.int cpt)]))
  refine hG _ _ (fun t_ k_ => XS.ifNo X1.here hx rfl (hb hby d28_3) rfl ((if0 _ _).trans (feq g2_hcpt).1) k_) ?_
  show G (T1.setTop (mkF m 6 #[.val (.ref q)] []))
  refine hG _ _ (fun t_ k_ => XS.aloadN X1.here hx rfl (hb hby d28_6) rfl rfl k_) ?_
  obtain ⟨T2, X2, e2, st2⟩ := getF X1 hx hZ hown (host := "") (Or.inl (ow hw 67 rfl)) Via.refl e1 g0_F (g := (mkF m 7 #[.val (.ref q)] [(.ref q)])) rfl rfl (hb hby d28_7)
  refine hG _ _ st2 ?_
  show G (T2.setTop (mkF m 10 #[.val (.ref q)] [(.int 0)]))
  refine hG _ _ (fun t_ k_ => XS.ifNo X2.here hx rfl (hb hby d28_10) rfl ((if0 _ _).trans (teq (by decide)).2) k_) ?_
  show G (T2.setTop (mkF m 13 #[.val (.ref q)] []))
  refine hG _ _ (fun t_ k_ => XS.iconst X2.here hx rfl (hb hby d28_13) k_) ?_
  refine hG _ _ (fun t_ k_ => XS.goto X2.here hx rfl (pc0 := 14) (pc' := 18) rfl (hb hby d28_14) (by decide) (by decide) k_) ?_
  show G (T2.setTop (mkF m 18 #[.val (.ref q)] [(.int 1)]))
  exact own_retN hR hret (by simp) X2 hx (hb hby d28_18) (by decide) (by decide) (by rw [e2]; exact ⟨rfl, N0, rfl⟩)
theorem own_pd16 : parseMethodDescriptor "([B[B)Z" = some ⟨[(.array .byte), (.array .byte)], some .boolean⟩ := by decide +kernel
set_option maxRecDepth 65536 in
set_option maxHeartbeats 40000000 in
theorem own_leq (l : Launch) (Z : State) (a0 : Array Value) (hw : ∀ d ∈ tables_1, d.before a0 Z = true) (v : Addr) (t : Addr) (kv : ClassId) (kt : ClassId) (ks : List Int32) (cs : List Int32) (h0 : Heap) (O0 : own_Old Z h0) (g0_V : Arv Z h0 v kv .byte (Int32.ofNat ks.length) (ks.map fun c => Value.int c.toInt8.toInt32) (.int 0)) (g1_V : Arv Z h0 t kt .byte (Int32.ofNat cs.length) (cs.map fun c => Value.int c.toInt8.toInt32) (.int 0)) (g2_hcap : ks.length ≤ 18 ∧ cs.length ≤ 18) (g3_hk : ∀ c ∈ ks, 0 ≤ c.toInt ∧ c.toInt ≤ 255) (g4_hc : ∀ c ∈ cs, 0 ≤ c.toInt ∧ c.toInt ≤ 255) :
    own_Con l Z (⟨"java/lang/StringLatin1", "equals", "([B[B)Z"⟩ : MethodName) jdk_43_method_13_code 3 (some .boolean) [] ({ frames := 0, cells := 0, slots := 0, locals := 0 } : Room) #[(.ref v), (.ref t)] h0 (fun rv rh rL => ∃ (r : Int32), rv = some (.int r) ∧ own_Fr Z rL ∧ h0 = rh ∧ ((r = (1 : Int32) ∧ cs = ks) ∨ (r = (0 : Int32) ∧ ¬ (cs = ks)))) := by
  refine own_intro (plainFor_of_name (by first | (simp [plainName, overriddenIn]; done) | decide +kernel)) ?_
  intro p e s m below meth c s₁ G hx hby hml hown hnm hret hZ X0 e0 hG hR
  have N0 := Fr.nil Z.heap.size
  refine own_entry (Ls := #[.val (.ref v), .val (.ref t), .unset]) (by first | (simp [entryFrame, mkF, argsToLocals, Value.category]; done) | rfl) ?_
  show G (s₁.setTop (mkF m 0 #[.val (.ref v), .val (.ref t), .unset] []))
  refine hG _ _ (fun t_ k_ => XS.aloadN X0.here hx rfl (hb hby d35_0) rfl rfl k_) ?_
  obtain ⟨c1, Ar1, -, S1, M1, -, -⟩ := id g0_V
  refine hG _ _ (X0.arraylength hx (by rw [e0]; exact Ar1.1) (State.isArrayOf_alike hZ.alike Ar1.2.1) (g := (mkF m 1 #[.val (.ref v), .val (.ref t), .unset] [(.ref v)])) rfl rfl (hb hby d35_1)) ?_
  rw [len_of S1 M1]
  refine hG _ _ (fun t_ k_ => XS.aloadN X0.here hx rfl (hb hby d35_2) rfl rfl k_) ?_
  obtain ⟨c2, Ar2, -, S2, M2, -, -⟩ := id g1_V
  refine hG _ _ (X0.arraylength hx (by rw [e0]; exact Ar2.1) (State.isArrayOf_alike hZ.alike Ar2.2.1) (g := (mkF m 3 #[.val (.ref v), .val (.ref t), .unset] [(.ref t), (.int (Int32.ofNat ks.length))])) rfl rfl (hb hby d35_3)) ?_
  rw [len_of S2 M2]
  show G (s₁.setTop (mkF m 4 #[.val (.ref v), .val (.ref t), .unset] [(.int (Int32.ofNat cs.length)), (.int (Int32.ofNat ks.length))]))
  by_cases hc4_3 : (Int32.ofNat ks.length) = (Int32.ofNat cs.length)
  · skip
    refine hG _ _ (fun t_ k_ => XS.icmpNo X0.here hx rfl (hb hby d35_4) rfl (teq hc4_3).2 k_) ?_
    show G (s₁.setTop (mkF m 7 #[.val (.ref v), .val (.ref t), .unset] []))
    refine hG _ _ (fun t_ k_ => XS.iconst X0.here hx rfl (hb hby d35_7) k_) ?_
    refine hG _ _ (fun t_ k_ => XS.istoreN X0.here hx rfl (hb hby d35_8) rfl (l' := #[.val (.ref v), .val (.ref t), .val (.int 0)]) rfl k_) ?_
    show G (s₁.setTop (mkF m 9 #[.val (.ref v), .val (.ref t), .val (.int 0)] []))
    have hlen : ks.length = cs.length := own_ofNat_inj (by omega) (by omega) hc4_3
    have loop : ∀ (r i : Nat) (T : State) (locs : List Loc), r + i = ks.length → Stand p l e ({ frames := 0, cells := 0, slots := 0, locals := 0 } : Room) s m #[(.ref v), (.ref t)] below meth c T locs 0 0 → T.heap = h0 → own_Fr Z locs → (∀ j, j < i → ks.getD j 0 = cs.getD j 0) → G (T.setTop (mkF m 9 #[.val (.ref v), .val (.ref t), .val (.int (Int32.ofNat i))] [])) := by
      intro r
      induction r with
      | zero =>
        intro i T locs hri X eT N hs
        obtain rfl : i = ks.length := by omega
        refine hG _ _ (fun t_ k_ => XS.iloadN X.here hx rfl (hb hby d35_9) rfl k_) ?_
        refine hG _ _ (fun t_ k_ => XS.aloadN X.here hx rfl (hb hby d35_10) rfl rfl k_) ?_
        obtain ⟨c4, Ar4, -, S4, M4, -, -⟩ := id g0_V
        refine hG _ _ (X.arraylength hx (by rw [eT]; exact Ar4.1) (State.isArrayOf_alike hZ.alike Ar4.2.1) (g := (mkF m 11 #[.val (.ref v), .val (.ref t), .val (.int (Int32.ofNat ks.length))] [(.ref v), (.int (Int32.ofNat ks.length))])) rfl rfl (hb hby d35_11)) ?_
        rw [len_of S4 M4]
        show G (T.setTop (mkF m 12 #[.val (.ref v), .val (.ref t), .val (.int (Int32.ofNat ks.length))] [(.int (Int32.ofNat ks.length)), (.int (Int32.ofNat ks.length))]))
        refine hG _ _ (fun t_ k_ => XS.icmpYes X.here hx rfl (pc0 := 12) (pc' := 32) rfl (hb hby d35_12) rfl (flt (own_nlt (Nat.le_refl _) (by omega))).2.1 (by decide) (by decide) k_) ?_
        show G (T.setTop (mkF m 32 #[.val (.ref v), .val (.ref t), .val (.int (Int32.ofNat ks.length))] []))
        refine hG _ _ (fun t_ k_ => XS.iconst X.here hx rfl (hb hby d35_32) k_) ?_
        show G (T.setTop (mkF m 33 #[.val (.ref v), .val (.ref t), .val (.int (Int32.ofNat ks.length))] [(.int 1)]))
        exact own_retN hR hret (by simp) X hx (hb hby d35_33) (by decide) (by decide) (by rw [eT]; exact ⟨(1 : Int32), rfl, N, rfl, (Or.inl ⟨rfl, own_eq_of hlen hs⟩)⟩)
      | succ r ih =>
        intro i T locs hri X eT N hs
        have hi : i < ks.length := by omega
        have hj : i < cs.length := by omega
        have hbe := own_byteEq (g3_hk _ (own_getD_mem ks i 0 hi)) (g4_hc _ (own_getD_mem cs i 0 hj))
        refine hG _ _ (fun t_ k_ => XS.iloadN X.here hx rfl (hb hby d35_9) rfl k_) ?_
        refine hG _ _ (fun t_ k_ => XS.aloadN X.here hx rfl (hb hby d35_10) rfl rfl k_) ?_
        obtain ⟨c5, Ar5, -, S5, M5, -, -⟩ := id g0_V
        refine hG _ _ (X.arraylength hx (by rw [eT]; exact Ar5.1) (State.isArrayOf_alike hZ.alike Ar5.2.1) (g := (mkF m 11 #[.val (.ref v), .val (.ref t), .val (.int (Int32.ofNat i))] [(.ref v), (.int (Int32.ofNat i))])) rfl rfl (hb hby d35_11)) ?_
        rw [len_of S5 M5]
        show G (T.setTop (mkF m 12 #[.val (.ref v), .val (.ref t), .val (.int (Int32.ofNat i))] [(.int (Int32.ofNat ks.length)), (.int (Int32.ofNat i))]))
        refine hG _ _ (fun t_ k_ => XS.icmpNo X.here hx rfl (hb hby d35_12) rfl (tlt (own_lt hi (by omega))).2.1 k_) ?_
        show G (T.setTop (mkF m 15 #[.val (.ref v), .val (.ref t), .val (.int (Int32.ofNat i))] []))
        refine hG _ _ (fun t_ k_ => XS.aloadN X.here hx rfl (hb hby d35_15) rfl rfl k_) ?_
        refine hG _ _ (fun t_ k_ => XS.iloadN X.here hx rfl (hb hby d35_16) rfl k_) ?_
        obtain ⟨c6, Ar6, q6, S6, M6, H6, G6⟩ := id g0_V
        have hin6 : ¬ ((Int32.ofNat i) < 0 ∨ c6.slots.size ≤ (Int32.ofNat i).toNatClampNeg) := inb_of S6 ⟨own_nn (by omega), own_lt hi (by omega)⟩
        refine hG _ _ (X.baloadBytes hx (j := (Int32.ofNat i)) (v := (.int ((ks.getD i 0).toInt8.toInt32))) (by rw [eT]; exact Ar6.1) (State.isArrayOf_alike hZ.alike Ar6.2.1) Ar6.2.2 hin6 (Has.at H6 hin6 (by rw [own_clamp (by omega)]; exact own_getD_map (fun c : Int32 => Value.int c.toInt8.toInt32) ks i _ 0 hi)) (g := (mkF m 17 #[.val (.ref v), .val (.ref t), .val (.int (Int32.ofNat i))] [(.int (Int32.ofNat i)), (.ref v)])) rfl rfl (hb hby d35_17)) ?_
        refine hG _ _ (fun t_ k_ => XS.aloadN X.here hx rfl (hb hby d35_18) rfl rfl k_) ?_
        refine hG _ _ (fun t_ k_ => XS.iloadN X.here hx rfl (hb hby d35_19) rfl k_) ?_
        obtain ⟨c7, Ar7, q7, S7, M7, H7, G7⟩ := id g1_V
        have hin7 : ¬ ((Int32.ofNat i) < 0 ∨ c7.slots.size ≤ (Int32.ofNat i).toNatClampNeg) := inb_of S7 ⟨own_nn (by omega), own_lt hj (by omega)⟩
        refine hG _ _ (X.baloadBytes hx (j := (Int32.ofNat i)) (v := (.int ((cs.getD i 0).toInt8.toInt32))) (by rw [eT]; exact Ar7.1) (State.isArrayOf_alike hZ.alike Ar7.2.1) Ar7.2.2 hin7 (Has.at H7 hin7 (by rw [own_clamp (by omega)]; exact own_getD_map (fun c : Int32 => Value.int c.toInt8.toInt32) cs i _ 0 hj)) (g := (mkF m 20 #[.val (.ref v), .val (.ref t), .val (.int (Int32.ofNat i))] [(.int (Int32.ofNat i)), (.ref t), (.int ((ks.getD i 0).toInt8.toInt32))])) rfl rfl (hb hby d35_20)) ?_
        show G (T.setTop (mkF m 21 #[.val (.ref v), .val (.ref t), .val (.int (Int32.ofNat i))] [(.int ((cs.getD i 0).toInt8.toInt32)), (.int ((ks.getD i 0).toInt8.toInt32))]))
        by_cases hc21_8 : ((ks.getD i 0).toInt8.toInt32) = ((cs.getD i 0).toInt8.toInt32)
        · skip
          refine hG _ _ (fun t_ k_ => XS.icmpYes X.here hx rfl (pc0 := 21) (pc' := 26) rfl (hb hby d35_21) rfl (teq hc21_8).1 (by decide) (by decide) k_) ?_
          show G (T.setTop (mkF m 26 #[.val (.ref v), .val (.ref t), .val (.int (Int32.ofNat i))] []))
          refine hG _ _ (fun t_ k_ => XS.iinc X.here hx rfl (hb hby d35_26) rfl (l' := #[.val (.ref v), .val (.ref t), .val (.int ((Int32.ofNat i) + (1 : Int32)))]) rfl k_) ?_
          refine hG _ _ (fun t_ k_ => XS.goto X.here hx rfl (pc0 := 29) (pc' := 9) rfl (hb hby d35_29) (by decide) (by decide) k_) ?_
          show G (T.setTop (mkF m 9 #[.val (.ref v), .val (.ref t), .val (.int ((Int32.ofNat i) + (1 : Int32)))] []))
          rw [own_inc i]
          exact ih (i + 1) _ _ (by omega) X eT N (fun j hj2 => by by_cases e : j = i; exact e ▸ hbe.mp hc21_8; exact hs j (by omega))
        · skip
          refine hG _ _ (fun t_ k_ => XS.icmpNo X.here hx rfl (hb hby d35_21) rfl (feq hc21_8).1 k_) ?_
          show G (T.setTop (mkF m 24 #[.val (.ref v), .val (.ref t), .val (.int (Int32.ofNat i))] []))
          refine hG _ _ (fun t_ k_ => XS.iconst X.here hx rfl (hb hby d35_24) k_) ?_
          show G (T.setTop (mkF m 25 #[.val (.ref v), .val (.ref t), .val (.int (Int32.ofNat i))] [(.int 0)]))
          exact own_retN hR hret (by simp) X hx (hb hby d35_25) (by decide) (by decide) (by rw [eT]; exact ⟨(0 : Int32), rfl, N, rfl, (Or.inr ⟨rfl, own_ne_of (j := i) (fun q => hc21_8 (hbe.mpr q))⟩)⟩)
    exact loop ks.length 0 _ _ rfl X0 e0 N0 (fun j hj => absurd hj (Nat.not_lt_zero j))
  · skip
    refine hG _ _ (fun t_ k_ => XS.icmpYes X0.here hx rfl (pc0 := 4) (pc' := 34) rfl (hb hby d35_4) rfl (feq hc4_3).2 (by decide) (by decide) k_) ?_
    show G (s₁.setTop (mkF m 34 #[.val (.ref v), .val (.ref t), .unset] []))
    refine hG _ _ (fun t_ k_ => XS.iconst X0.here hx rfl (hb hby d35_34) k_) ?_
    show G (s₁.setTop (mkF m 35 #[.val (.ref v), .val (.ref t), .unset] [(.int 0)]))
    exact own_retN hR hret (by simp) X0 hx (hb hby d35_35) (by decide) (by decide) (by rw [e0]; exact ⟨(0 : Int32), rfl, N0, rfl, (Or.inr ⟨rfl, own_ne_len (fun q => hc4_3 (by rw [q]))⟩)⟩)
theorem own_pd17 : parseMethodDescriptor "(Ljava/lang/Object;)Z" = some ⟨[(.object "java/lang/Object")], some .boolean⟩ := by decide +kernel
set_option maxRecDepth 65536 in
set_option maxHeartbeats 40000000 in
theorem own_seq (l : Launch) (Z : State) (a0 : Array Value) (hw : ∀ d ∈ tables_1, d.before a0 Z = true) (q : Addr) (v : Addr) (kv : ClassId) (ks : List Int32) (a : Addr) (t : Addr) (kt : ClassId) (cs : List Int32) (cd : Int32) (nb : Int32) (vs : List Value) (cpt : Int32) (h0 : Heap) (O0 : own_Old Z h0) (g0_E : Exa Z h0 a "java/lang/String") (g1_F : Fld Z h0 a "java/lang/String" "coder" "B" (.int cd)) (g2_F : Fld Z h0 a "java/lang/String" "value" "[B" (.ref t)) (g3_V : Arv Z h0 t kt .byte nb vs (.int 0)) (g4_henc : own_enc cs cd nb vs) (g5_hcap : cs.length ≤ 18) (g6_h16 : ∀ c ∈ cs, 0 ≤ c.toInt ∧ c.toInt ≤ 65535) (g7_S : Sta Z Z.heap "java/lang/String" "COMPACT_STRINGS" "Z" (.int cpt)) (g8_hcpt : ¬ (cpt = (0 : Int32))) (g9_F : Fld Z h0 q "java/lang/String" "coder" "B" (.int 0)) (g10_F : Fld Z h0 q "java/lang/String" "value" "[B" (.ref v)) (g11_V : Arv Z h0 v kv .byte (Int32.ofNat ks.length) (ks.map fun c => Value.int c.toInt8.toInt32) (.int 0)) (g12_hkl : ks.length ≤ 18) (g13_hk : ∀ c ∈ ks, 0 ≤ c.toInt ∧ c.toInt ≤ 255) (g14_hne : q ≠ a) :
    own_Con l Z (⟨"java/lang/String", "equals", "(Ljava/lang/Object;)Z"⟩ : MethodName) jdk_42_method_66_code 3 (some .boolean) [] ({ frames := 1, cells := 0, slots := 0, locals := 14 } : Room) #[(.ref q), (.ref a)] h0 (fun rv rh rL => ∃ (r : Int32), rv = some (.int r) ∧ own_Fr Z rL ∧ h0 = rh ∧ ((r = (1 : Int32) ∧ cs = ks) ∨ (r = (0 : Int32) ∧ ¬ (cs = ks)))) := by
  refine own_intro (plainFor_of_name (by first | (simp [plainName, overriddenIn]; done) | decide +kernel)) ?_
  intro p e s m below meth c s₁ G hx hby hml hown hnm hret hZ X0 e0 hG hR
  have N0 := Fr.nil Z.heap.size
  refine own_entry (Ls := #[.val (.ref q), .val (.ref a), .unset]) (by first | (simp [entryFrame, mkF, argsToLocals, Value.category]; done) | rfl) ?_
  show G (s₁.setTop (mkF m 0 #[.val (.ref q), .val (.ref a), .unset] []))
  rcases id g4_henc with ⟨hall, rfl, rfl, rfl⟩ | ⟨hbig, rfl, rfl, h16⟩
  · skip
    show G (s₁.setTop (mkF m 0 #[.val (.ref q), .val (.ref a), .unset] []))
    refine hG _ _ (fun t_ k_ => XS.aloadN X0.here hx rfl (hb hby d34_0) rfl rfl k_) ?_
    refine hG _ _ (fun t_ k_ => XS.aloadN X0.here hx rfl (hb hby d34_1) rfl rfl k_) ?_
    show G (s₁.setTop (mkF m 2 #[.val (.ref q), .val (.ref a), .unset] [(.ref a), (.ref q)]))
    refine hG _ _ (fun t_ k_ => Jvm.RoadKit.acmp (g := (mkF m 2 #[.val (.ref q), .val (.ref a), .unset] [(.ref a), (.ref q)])) X0 hx rfl rfl rfl (pc0 := 2) (pc' := 7) (same := false) rfl (hb hby d34_2) rfl (decide_eq_false fun q => g14_hne (Value.ref.inj q)) (by decide) (by decide) k_) ?_
    show G (s₁.setTop (mkF m 7 #[.val (.ref q), .val (.ref a), .unset] []))
    refine hG _ _ (fun t_ k_ => XS.aloadN X0.here hx rfl (hb hby d34_7) rfl rfl k_) ?_
    obtain ⟨T1, X1, e1, st1⟩ := instY X0 hx hZ hown (ow hw 10 rfl) e0 (Ins.self g0_E) (g := (mkF m 8 #[.val (.ref q), .val (.ref a), .unset] [(.ref a)])) rfl rfl (hb hby d34_8)
    refine hG _ _ st1 ?_
    show G (T1.setTop (mkF m 11 #[.val (.ref q), .val (.ref a), .unset] [(.int 1)]))
    refine hG _ _ (fun t_ k_ => XS.ifNo X1.here hx rfl (hb hby d34_11) rfl ((if0 _ _).trans (feq (by decide)).1) k_) ?_
    show G (T1.setTop (mkF m 14 #[.val (.ref q), .val (.ref a), .unset] []))
    refine hG _ _ (fun t_ k_ => XS.aloadN X1.here hx rfl (hb hby d34_14) rfl rfl k_) ?_
    obtain ⟨T2, X2, e2, st2⟩ := castY X1 hx hZ hown (ow hw 10 rfl) e1 (Ins.self g0_E) (g := (mkF m 15 #[.val (.ref q), .val (.ref a), .unset] [(.ref a)])) rfl rfl (hb hby d34_15)
    refine hG _ _ st2 ?_
    refine hG _ _ (fun t_ k_ => XS.astoreN X2.here hx rfl (hb hby d34_18) rfl rfl (l' := #[.val (.ref q), .val (.ref a), .val (.ref a)]) rfl k_) ?_
    obtain ⟨T3, X3, e3, st3⟩ := getS2 X2 hx hZ hown (host := "") (Or.inl (ow hw 5 rfl)) Via.refl e2 (own_sta g7_S O0) (g := (mkF m 19 #[.val (.ref q), .val (.ref a), .val (.ref a)] [])) rfl (hb hby d34_19)
    refine hG _ _ st3 ?_
    show G (T3.setTop (mkF m 22 #[.val (.ref q), .val (.ref a), .val (.ref a)] [(.int cpt)]))
    refine hG _ _ (fun t_ k_ => XS.ifNo X3.here hx rfl (hb hby d34_22) rfl ((if0 _ _).trans (feq g8_hcpt).1) k_) ?_
    show G (T3.setTop (mkF m 25 #[.val (.ref q), .val (.ref a), .val (.ref a)] []))
    refine hG _ _ (fun t_ k_ => XS.aloadN X3.here hx rfl (hb hby d34_25) rfl rfl k_) ?_
    obtain ⟨T4, X4, e4, st4⟩ := getF X3 hx hZ hown (host := "") (Or.inl (ow hw 25 rfl)) Via.refl e3 g9_F (g := (mkF m 26 #[.val (.ref q), .val (.ref a), .val (.ref a)] [(.ref q)])) rfl rfl (hb hby d34_26)
    refine hG _ _ st4 ?_
    refine hG _ _ (fun t_ k_ => XS.aloadN X4.here hx rfl (hb hby d34_29) rfl rfl k_) ?_
    obtain ⟨T5, X5, e5, st5⟩ := getF X4 hx hZ hown (host := "") (Or.inl (ow hw 25 rfl)) Via.refl e4 g1_F (g := (mkF m 30 #[.val (.ref q), .val (.ref a), .val (.ref a)] [(.ref a), (.int 0)])) rfl rfl (hb hby d34_30)
    refine hG _ _ st5 ?_
    show G (T5.setTop (mkF m 33 #[.val (.ref q), .val (.ref a), .val (.ref a)] [(.int 0), (.int 0)]))
    refine hG _ _ (fun t_ k_ => XS.icmpNo X5.here hx rfl (hb hby d34_33) rfl (teq (by decide)).2 k_) ?_
    show G (T5.setTop (mkF m 36 #[.val (.ref q), .val (.ref a), .val (.ref a)] []))
    refine hG _ _ (fun t_ k_ => XS.aloadN X5.here hx rfl (hb hby d34_36) rfl rfl k_) ?_
    obtain ⟨T6, X6, e6, st6⟩ := getF X5 hx hZ hown (host := "") (Or.inl (ow hw 23 rfl)) Via.refl e5 g10_F (g := (mkF m 37 #[.val (.ref q), .val (.ref a), .val (.ref a)] [(.ref q)])) rfl rfl (hb hby d34_37)
    refine hG _ _ st6 ?_
    refine hG _ _ (fun t_ k_ => XS.aloadN X6.here hx rfl (hb hby d34_40) rfl rfl k_) ?_
    obtain ⟨T7, X7, e7, st7⟩ := getF X6 hx hZ hown (host := "") (Or.inl (ow hw 23 rfl)) Via.refl e6 g2_F (g := (mkF m 41 #[.val (.ref q), .val (.ref a), .val (.ref a)] [(.ref a), (.ref v)])) rfl rfl (hb hby d34_41)
    refine hG _ _ st7 ?_
    show G (T7.setTop (mkF m 44 #[.val (.ref q), .val (.ref a), .val (.ref a)] [(.ref t), (.ref v)]))
    refine own_callS X7 hx hZ hG hown (ow hw 191 rfl) (ow hw 192 rfl) (ow hw 8 rfl) (ow hw 193 rfl) (by decide) 0 (own_leq l Z a0 hw v t kv kt ks cs h0 O0 g11_V g3_V ⟨g12_hkl, g5_hcap⟩ g13_hk (own_lat_rng hall g6_h16)) (by decide) (by decide) e7 (by rw [hml]; rfl) (lenOf own_pd16 rfl) (argsL := [(.ref v), (.ref t)]) (rest := []) rfl rfl (Nat.le_of_eq rfl) (hb hby d34_44) (by decide) (by decide) ?_
    intro T8 h8 v8 L8 X8 e8 q8
    obtain ⟨r_8, rfl, M8, rfl, r8_0⟩ := q8
    have N8 := Fr.app N0 M8
    show G (T8.setTop (mkF m 47 #[.val (.ref q), .val (.ref a), .val (.ref a)] [(.int r_8)]))
    rcases r8_0 with ⟨rfl, heq⟩ | ⟨rfl, heq⟩
    · skip
      show G (T8.setTop (mkF m 47 #[.val (.ref q), .val (.ref a), .val (.ref a)] [(.int 1)]))
      refine hG _ _ (fun t_ k_ => XS.ifNo X8.here hx rfl (hb hby d34_47) rfl ((if0 _ _).trans (feq (by decide)).1) k_) ?_
      show G (T8.setTop (mkF m 50 #[.val (.ref q), .val (.ref a), .val (.ref a)] []))
      refine hG _ _ (fun t_ k_ => XS.iconst X8.here hx rfl (hb hby d34_50) k_) ?_
      refine hG _ _ (fun t_ k_ => XS.goto X8.here hx rfl (pc0 := 51) (pc' := 55) rfl (hb hby d34_51) (by decide) (by decide) k_) ?_
      show G (T8.setTop (mkF m 55 #[.val (.ref q), .val (.ref a), .val (.ref a)] [(.int 1)]))
      exact own_retN hR hret (by simp) X8 hx (hb hby d34_55) (by decide) (by decide) (by rw [e8]; exact ⟨(1 : Int32), rfl, N8, rfl, (Or.inl ⟨rfl, heq⟩)⟩)
    · skip
      show G (T8.setTop (mkF m 47 #[.val (.ref q), .val (.ref a), .val (.ref a)] [(.int 0)]))
      refine hG _ _ (fun t_ k_ => XS.ifYes X8.here hx rfl (pc0 := 47) (pc' := 54) rfl (hb hby d34_47) rfl ((if0 _ _).trans (teq (by decide)).1) (by decide) (by decide) k_) ?_
      show G (T8.setTop (mkF m 54 #[.val (.ref q), .val (.ref a), .val (.ref a)] []))
      refine hG _ _ (fun t_ k_ => XS.iconst X8.here hx rfl (hb hby d34_54) k_) ?_
      show G (T8.setTop (mkF m 55 #[.val (.ref q), .val (.ref a), .val (.ref a)] [(.int 0)]))
      exact own_retN hR hret (by simp) X8 hx (hb hby d34_55) (by decide) (by decide) (by rw [e8]; exact ⟨(0 : Int32), rfl, N8, rfl, (Or.inr ⟨rfl, heq⟩)⟩)
  · skip
    show G (s₁.setTop (mkF m 0 #[.val (.ref q), .val (.ref a), .unset] []))
    refine hG _ _ (fun t_ k_ => XS.aloadN X0.here hx rfl (hb hby d34_0) rfl rfl k_) ?_
    refine hG _ _ (fun t_ k_ => XS.aloadN X0.here hx rfl (hb hby d34_1) rfl rfl k_) ?_
    show G (s₁.setTop (mkF m 2 #[.val (.ref q), .val (.ref a), .unset] [(.ref a), (.ref q)]))
    refine hG _ _ (fun t_ k_ => Jvm.RoadKit.acmp (g := (mkF m 2 #[.val (.ref q), .val (.ref a), .unset] [(.ref a), (.ref q)])) X0 hx rfl rfl rfl (pc0 := 2) (pc' := 7) (same := false) rfl (hb hby d34_2) rfl (decide_eq_false fun q => g14_hne (Value.ref.inj q)) (by decide) (by decide) k_) ?_
    show G (s₁.setTop (mkF m 7 #[.val (.ref q), .val (.ref a), .unset] []))
    refine hG _ _ (fun t_ k_ => XS.aloadN X0.here hx rfl (hb hby d34_7) rfl rfl k_) ?_
    obtain ⟨T9, X9, e9, st9⟩ := instY X0 hx hZ hown (ow hw 10 rfl) e0 (Ins.self g0_E) (g := (mkF m 8 #[.val (.ref q), .val (.ref a), .unset] [(.ref a)])) rfl rfl (hb hby d34_8)
    refine hG _ _ st9 ?_
    show G (T9.setTop (mkF m 11 #[.val (.ref q), .val (.ref a), .unset] [(.int 1)]))
    refine hG _ _ (fun t_ k_ => XS.ifNo X9.here hx rfl (hb hby d34_11) rfl ((if0 _ _).trans (feq (by decide)).1) k_) ?_
    show G (T9.setTop (mkF m 14 #[.val (.ref q), .val (.ref a), .unset] []))
    refine hG _ _ (fun t_ k_ => XS.aloadN X9.here hx rfl (hb hby d34_14) rfl rfl k_) ?_
    obtain ⟨T10, X10, e10, st10⟩ := castY X9 hx hZ hown (ow hw 10 rfl) e9 (Ins.self g0_E) (g := (mkF m 15 #[.val (.ref q), .val (.ref a), .unset] [(.ref a)])) rfl rfl (hb hby d34_15)
    refine hG _ _ st10 ?_
    refine hG _ _ (fun t_ k_ => XS.astoreN X10.here hx rfl (hb hby d34_18) rfl rfl (l' := #[.val (.ref q), .val (.ref a), .val (.ref a)]) rfl k_) ?_
    obtain ⟨T11, X11, e11, st11⟩ := getS2 X10 hx hZ hown (host := "") (Or.inl (ow hw 5 rfl)) Via.refl e10 (own_sta g7_S O0) (g := (mkF m 19 #[.val (.ref q), .val (.ref a), .val (.ref a)] [])) rfl (hb hby d34_19)
    refine hG _ _ st11 ?_
    show G (T11.setTop (mkF m 22 #[.val (.ref q), .val (.ref a), .val (.ref a)] [(.int cpt)]))
    refine hG _ _ (fun t_ k_ => XS.ifNo X11.here hx rfl (hb hby d34_22) rfl ((if0 _ _).trans (feq g8_hcpt).1) k_) ?_
    show G (T11.setTop (mkF m 25 #[.val (.ref q), .val (.ref a), .val (.ref a)] []))
    refine hG _ _ (fun t_ k_ => XS.aloadN X11.here hx rfl (hb hby d34_25) rfl rfl k_) ?_
    obtain ⟨T12, X12, e12, st12⟩ := getF X11 hx hZ hown (host := "") (Or.inl (ow hw 25 rfl)) Via.refl e11 g9_F (g := (mkF m 26 #[.val (.ref q), .val (.ref a), .val (.ref a)] [(.ref q)])) rfl rfl (hb hby d34_26)
    refine hG _ _ st12 ?_
    refine hG _ _ (fun t_ k_ => XS.aloadN X12.here hx rfl (hb hby d34_29) rfl rfl k_) ?_
    obtain ⟨T13, X13, e13, st13⟩ := getF X12 hx hZ hown (host := "") (Or.inl (ow hw 25 rfl)) Via.refl e12 g1_F (g := (mkF m 30 #[.val (.ref q), .val (.ref a), .val (.ref a)] [(.ref a), (.int 0)])) rfl rfl (hb hby d34_30)
    refine hG _ _ st13 ?_
    show G (T13.setTop (mkF m 33 #[.val (.ref q), .val (.ref a), .val (.ref a)] [(.int 1), (.int 0)]))
    refine hG _ _ (fun t_ k_ => XS.icmpYes X13.here hx rfl (pc0 := 33) (pc' := 54) rfl (hb hby d34_33) rfl (feq (by decide)).2 (by decide) (by decide) k_) ?_
    show G (T13.setTop (mkF m 54 #[.val (.ref q), .val (.ref a), .val (.ref a)] []))
    refine hG _ _ (fun t_ k_ => XS.iconst X13.here hx rfl (hb hby d34_54) k_) ?_
    show G (T13.setTop (mkF m 55 #[.val (.ref q), .val (.ref a), .val (.ref a)] [(.int 0)]))
    exact own_retN hR hret (by simp) X13 hx (hb hby d34_55) (by decide) (by decide) (by rw [e13]; exact ⟨(0 : Int32), rfl, N0, rfl, (Or.inr ⟨rfl, own_enc_lat hbig (fun c hc => own_le255 (g13_hk c hc))⟩)⟩)
set_option maxRecDepth 65536 in
set_option maxHeartbeats 40000000 in
theorem own_ens0_15 (l : Launch) (Z : State) (a0 : Array Value) (hw : ∀ d ∈ tables_1, d.before a0 Z = true) (q : Addr) (d : Addr) (kd : ClassId) (be0 : Int32) (be1 : Int32) (be2 : Int32) (be3 : Int32) (be4 : Int32) (be5 : Int32) (be6 : Int32) (be7 : Int32) (be8 : Int32) (be9 : Int32) (be10 : Int32) (be11 : Int32) (be12 : Int32) (be13 : Int32) (be14 : Int32) (be15 : Int32) (h0 : Heap) (O0 : own_Old Z h0) (g0_F : Fld Z h0 q "java/lang/AbstractStringBuilder" "value" "[B" (.ref d)) (g1_F : Fld Z h0 q "java/lang/AbstractStringBuilder" "coder" "B" (.int 0)) (g2_V : Arv Z h0 d kd .byte (16 : Int32) [(.int be0), (.int be1), (.int be2), (.int be3), (.int be4), (.int be5), (.int be6), (.int be7), (.int be8), (.int be9), (.int be10), (.int be11), (.int be12), (.int be13), (.int be14), (.int be15)] (.int 0)) :
    own_Con l Z (⟨"java/lang/AbstractStringBuilder", "ensureCapacityInternal", "(I)V"⟩ : MethodName) jdk_68_method_9_code 3 none [] ({ frames := 0, cells := 0, slots := 0, locals := 0 } : Room) #[(.ref q), (.int 15)] h0 (fun rv rh rL => rv = none ∧ own_Fr Z rL ∧ h0 = rh) := by
  refine own_intro (plainFor_of_name (by first | (simp [plainName, overriddenIn]; done) | decide +kernel)) ?_
  intro p e s m below meth c s₁ G hx hby hml hown hnm hret hZ X0 e0 hG hR
  have N0 := Fr.nil Z.heap.size
  refine own_entry (Ls := #[.val (.ref q), .val (.int 15), .unset]) (by first | (simp [entryFrame, mkF, argsToLocals, Value.category]; done) | rfl) ?_
  show G (s₁.setTop (mkF m 0 #[.val (.ref q), .val (.int 15), .unset] []))
  refine hG _ _ (fun t_ k_ => XS.aloadN X0.here hx rfl (hb hby d18_0) rfl rfl k_) ?_
  obtain ⟨T1, X1, e1, st1⟩ := getF X0 hx hZ hown (host := "") (Or.inl (ow hw 65 rfl)) Via.refl e0 g0_F (g := (mkF m 1 #[.val (.ref q), .val (.int 15), .unset] [(.ref q)])) rfl rfl (hb hby d18_1)
  refine hG _ _ st1 ?_
  obtain ⟨c2, Ar2, -, S2, M2, -, -⟩ := id g2_V
  refine hG _ _ (X1.arraylength hx (by rw [e1]; exact Ar2.1) (State.isArrayOf_alike hZ.alike Ar2.2.1) (g := (mkF m 4 #[.val (.ref q), .val (.int 15), .unset] [(.ref d)])) rfl rfl (hb hby d18_4)) ?_
  rw [len_of S2 M2]
  refine hG _ _ (fun t_ k_ => XS.aloadN X1.here hx rfl (hb hby d18_5) rfl rfl k_) ?_
  obtain ⟨T3, X3, e3, st3⟩ := getF X1 hx hZ hown (host := "") (Or.inl (ow hw 67 rfl)) Via.refl e1 g1_F (g := (mkF m 6 #[.val (.ref q), .val (.int 15), .unset] [(.ref q), (.int 16)])) rfl rfl (hb hby d18_6)
  refine hG _ _ st3 ?_
  refine hG _ _ (fun t_ k_ => XS.ishr X3.here hx rfl (hb hby d18_9) rfl k_) ?_
  show G (T3.setTop (mkF m 10 #[.val (.ref q), .val (.int 15), .unset] [(.int ((16 : Int32) >>> ((0 : Int32) &&& 31)))]))
  rw [show ((16 : Int32) >>> ((0 : Int32) &&& 31)) = (16 : Int32) from by decide]
  show G (T3.setTop (mkF m 10 #[.val (.ref q), .val (.int 15), .unset] [(.int 16)]))
  refine hG _ _ (fun t_ k_ => XS.istoreN X3.here hx rfl (hb hby d18_10) rfl (l' := #[.val (.ref q), .val (.int 15), .val (.int 16)]) rfl k_) ?_
  refine hG _ _ (fun t_ k_ => XS.iloadN X3.here hx rfl (hb hby d18_11) rfl k_) ?_
  refine hG _ _ (fun t_ k_ => XS.iloadN X3.here hx rfl (hb hby d18_12) rfl k_) ?_
  refine hG _ _ (fun t_ k_ => XS.isub X3.here hx rfl (hb hby d18_13) rfl k_) ?_
  show G (T3.setTop (mkF m 14 #[.val (.ref q), .val (.int 15), .val (.int 16)] [(.int ((15 : Int32) - (16 : Int32)))]))
  rw [show ((15 : Int32) - (16 : Int32)) = (-1 : Int32) from by decide]
  show G (T3.setTop (mkF m 14 #[.val (.ref q), .val (.int 15), .val (.int 16)] [(.int (-1))]))
  refine hG _ _ (fun t_ k_ => XS.ifYes X3.here hx rfl (pc0 := 14) (pc' := 38) rfl (hb hby d18_14) rfl ((if0 _ _).trans (flt (by decide)).2.2.2) (by decide) (by decide) k_) ?_
  show G (T3.setTop (mkF m 38 #[.val (.ref q), .val (.int 15), .val (.int 16)] []))
  exact own_retV hR hret X3 hx (hb hby d18_38) (by decide) (by decide) (by rw [e3]; exact ⟨rfl, N0, rfl⟩)
theorem own_pd18 : parseMethodDescriptor "([BIB)V" = some ⟨[(.array .byte), .int, .byte], none⟩ := by decide +kernel
set_option maxRecDepth 65536 in
set_option maxHeartbeats 40000000 in
theorem own_gb0_15 (l : Launch) (Z : State) (a0 : Array Value) (hw : ∀ d ∈ tables_1, d.before a0 Z = true) (a : Addr) (t : Addr) (kt : ClassId) (bs0 : Int32) (bs1 : Int32) (bs2 : Int32) (bs3 : Int32) (bs4 : Int32) (bs5 : Int32) (bs6 : Int32) (bs7 : Int32) (bs8 : Int32) (bs9 : Int32) (bs10 : Int32) (bs11 : Int32) (bs12 : Int32) (bs13 : Int32) (bs14 : Int32) (d : Addr) (kd : ClassId) (be0 : Int32) (be1 : Int32) (be2 : Int32) (be3 : Int32) (be4 : Int32) (be5 : Int32) (be6 : Int32) (be7 : Int32) (be8 : Int32) (be9 : Int32) (be10 : Int32) (be11 : Int32) (be12 : Int32) (be13 : Int32) (be14 : Int32) (be15 : Int32) (cpt : Int32) (h0 : Heap) (O0 : own_Old Z h0) (g0_E : Exa Z h0 a "java/lang/String") (g1_F : Fld Z h0 a "java/lang/String" "coder" "B" (.int 0)) (g2_F : Fld Z h0 a "java/lang/String" "value" "[B" (.ref t)) (g3_V : Arv Z h0 t kt .byte (15 : Int32) [(.int bs0), (.int bs1), (.int bs2), (.int bs3), (.int bs4), (.int bs5), (.int bs6), (.int bs7), (.int bs8), (.int bs9), (.int bs10), (.int bs11), (.int bs12), (.int bs13), (.int bs14)] (.int 0)) (g4_S : Sta Z Z.heap "java/lang/String" "COMPACT_STRINGS" "Z" (.int cpt)) (g5_hcpt : ¬ (cpt = (0 : Int32))) (g6_V : Arv Z h0 d kd .byte (16 : Int32) [(.int be0), (.int be1), (.int be2), (.int be3), (.int be4), (.int be5), (.int be6), (.int be7), (.int be8), (.int be9), (.int be10), (.int be11), (.int be12), (.int be13), (.int be14), (.int be15)] (.int 0)) (g7_G : Z.heap.size ≤ d) (g8_ne_a_d : a ≠ d) (g9_ne_t_d : t ≠ d) :
    own_Con l Z (⟨"java/lang/String", "getBytes", "([BIB)V"⟩ : MethodName) jdk_42_method_147_code 4 none [] ({ frames := 1, cells := 0, slots := 0, locals := 40 } : Room) #[(.ref a), (.ref d), (.int 0), (.int 0)] h0 (fun rv rh rL => rv = none ∧ own_Fr Z rL ∧ Keep h0 rh [d] ∧ (Arv Z rh d kd .byte (16 : Int32) [(.int bs0), (.int bs1), (.int bs2), (.int bs3), (.int bs4), (.int bs5), (.int bs6), (.int bs7), (.int bs8), (.int bs9), (.int bs10), (.int bs11), (.int bs12), (.int bs13), (.int bs14), (.int be15)] (.int 0))) := by
  refine own_intro (plainFor_of_name (by first | (simp [plainName, overriddenIn]; done) | decide +kernel)) ?_
  intro p e s m below meth c s₁ G hx hby hml hown hnm hret hZ X0 e0 hG hR
  have N0 := Fr.nil Z.heap.size
  refine own_entry (Ls := #[.val (.ref a), .val (.ref d), .val (.int 0), .val (.int 0)]) (by first | (simp [entryFrame, mkF, argsToLocals, Value.category]; done) | rfl) ?_
  show G (s₁.setTop (mkF m 0 #[.val (.ref a), .val (.ref d), .val (.int 0), .val (.int 0)] []))
  refine hG _ _ (fun t_ k_ => XS.aloadN X0.here hx rfl (hb hby d21_0) rfl rfl k_) ?_
  show G (s₁.setTop (mkF m 1 #[.val (.ref a), .val (.ref d), .val (.int 0), .val (.int 0)] [(.ref a)]))
  refine own_callV (C := "java/lang/String") X0 hx hZ hG hown (ow hw 87 rfl) (ow hw 88 rfl) (ow hw 90 rfl) (ow hw 89 rfl) (ow hw 3 rfl) (ow hw 91 rfl) (by decide) 0 (own_cod0 l Z a0 hw a cpt h0 O0 g1_F g4_S g5_hcpt) (by decide) (by decide) e0 g0_E (by rw [hml]; rfl) (lenOf own_pd11 rfl) (argsL := []) (rest := []) rfl rfl (Nat.le_of_eq rfl) (hb hby d21_1) (by decide) (by decide) ?_
  intro T1 h1 v1 L1 X1 e1 q1
  obtain ⟨rfl, M1, rfl⟩ := q1
  have N1 := Fr.app N0 M1
  refine hG _ _ (fun t_ k_ => XS.iloadN X1.here hx rfl (hb hby d21_4) rfl k_) ?_
  show G (T1.setTop (mkF m 5 #[.val (.ref a), .val (.ref d), .val (.int 0), .val (.int 0)] [(.int 0), (.int 0)]))
  refine hG _ _ (fun t_ k_ => XS.icmpNo X1.here hx rfl (hb hby d21_5) rfl (teq (by decide)).2 k_) ?_
  show G (T1.setTop (mkF m 8 #[.val (.ref a), .val (.ref d), .val (.int 0), .val (.int 0)] []))
  refine hG _ _ (fun t_ k_ => XS.aloadN X1.here hx rfl (hb hby d21_8) rfl rfl k_) ?_
  obtain ⟨T2, X2, e2, st2⟩ := getF X1 hx hZ hown (host := "") (Or.inl (ow hw 23 rfl)) Via.refl e1 g2_F (g := (mkF m 9 #[.val (.ref a), .val (.ref d), .val (.int 0), .val (.int 0)] [(.ref a)])) rfl rfl (hb hby d21_9)
  refine hG _ _ st2 ?_
  refine hG _ _ (fun t_ k_ => XS.iconst X2.here hx rfl (hb hby d21_12) k_) ?_
  refine hG _ _ (fun t_ k_ => XS.aloadN X2.here hx rfl (hb hby d21_13) rfl rfl k_) ?_
  refine hG _ _ (fun t_ k_ => XS.iloadN X2.here hx rfl (hb hby d21_14) rfl k_) ?_
  refine hG _ _ (fun t_ k_ => XS.iloadN X2.here hx rfl (hb hby d21_15) rfl k_) ?_
  refine hG _ _ (fun t_ k_ => XS.ishl X2.here hx rfl (hb hby d21_16) rfl k_) ?_
  show G (T2.setTop (mkF m 17 #[.val (.ref a), .val (.ref d), .val (.int 0), .val (.int 0)] [(.int ((0 : Int32) <<< ((0 : Int32) &&& 31))), (.ref d), (.int 0), (.ref t)]))
  rw [show ((0 : Int32) <<< ((0 : Int32) &&& 31)) = (0 : Int32) from by decide]
  show G (T2.setTop (mkF m 17 #[.val (.ref a), .val (.ref d), .val (.int 0), .val (.int 0)] [(.int 0), (.ref d), (.int 0), (.ref t)]))
  refine hG _ _ (fun t_ k_ => XS.aloadN X2.here hx rfl (hb hby d21_17) rfl rfl k_) ?_
  obtain ⟨T3, X3, e3, st3⟩ := getF X2 hx hZ hown (host := "") (Or.inl (ow hw 23 rfl)) Via.refl e2 g2_F (g := (mkF m 18 #[.val (.ref a), .val (.ref d), .val (.int 0), .val (.int 0)] [(.ref a), (.int 0), (.ref d), (.int 0), (.ref t)])) rfl rfl (hb hby d21_18)
  refine hG _ _ st3 ?_
  obtain ⟨c4, Ar4, -, S4, M4, -, -⟩ := id g3_V
  refine hG _ _ (X3.arraylength hx (by rw [e3]; exact Ar4.1) (State.isArrayOf_alike hZ.alike Ar4.2.1) (g := (mkF m 21 #[.val (.ref a), .val (.ref d), .val (.int 0), .val (.int 0)] [(.ref t), (.int 0), (.ref d), (.int 0), (.ref t)])) rfl rfl (hb hby d21_21)) ?_
  rw [len_of S4 M4]
  show G (T3.setTop (mkF m 22 #[.val (.ref a), .val (.ref d), .val (.int 0), .val (.int 0)] [(.int 15), (.int 0), (.ref d), (.int 0), (.ref t)]))
  obtain ⟨T5, h5, L5, X5, e5, N5, J5, V5, st5⟩ := cpA X3 hx hZ hown (ow hw 115 rfl) (ow hw 118 rfl) (ow hw 116 rfl) (ow hw 117 rfl) e3 g3_V g6_V (Or.inl ⟨rfl, rfl⟩) (by decide) (by decide) (by decide) (by decide) (by decide) rfl (Nat.le_of_ble_eq_true rfl) N1 g7_G (g := (mkF m 22 #[.val (.ref a), .val (.ref d), .val (.int 0), .val (.int 0)] [(.int 15), (.int 0), (.ref d), (.int 0), (.ref t)])) rfl (by rw [hml]; rfl) rfl (hb hby d21_22) (by decide) (W := 0) (by show 2 * 0 + _ ≤ _; exact Nat.le_of_eq rfl) (by decide)
  refine hG _ _ st5 ?_
  have K5 : Keep h0 h5 [d] := (Keep.refl h0 [d]).trans J5 (allS (Or.inl (List.mem_of_getElem? (i := 0) rfl)) all0)
  have O5 : own_Old Z h5 := O0.keep J5 (allS g7_G all0)
  have U5 : Arv Z h5 d kd .byte (16 : Int32) [(.int bs0), (.int bs1), (.int bs2), (.int bs3), (.int bs4), (.int bs5), (.int bs6), (.int bs7), (.int bs8), (.int bs9), (.int bs10), (.int bs11), (.int bs12), (.int bs13), (.int bs14), (.int be15)] (.int 0) := V5
  show G (T5.setTop (mkF m 25 #[.val (.ref a), .val (.ref d), .val (.int 0), .val (.int 0)] []))
  refine hG _ _ (fun t_ k_ => XS.goto X5.here hx rfl (pc0 := 25) (pc' := 43) rfl (hb hby d21_25) (by decide) (by decide) k_) ?_
  show G (T5.setTop (mkF m 43 #[.val (.ref a), .val (.ref d), .val (.int 0), .val (.int 0)] []))
  exact own_retV hR hret X5 hx (hb hby d21_43) (by decide) (by decide) (by rw [e5]; exact ⟨rfl, N5, K5, U5⟩)
theorem own_pd19 : parseMethodDescriptor "(ILjava/lang/String;)V" = some ⟨[.int, (.object "java/lang/String")], none⟩ := by decide +kernel
set_option maxRecDepth 65536 in
set_option maxHeartbeats 40000000 in
theorem own_psa0_15 (l : Launch) (Z : State) (a0 : Array Value) (hw : ∀ d ∈ tables_1, d.before a0 Z = true) (a : Addr) (t : Addr) (kt : ClassId) (bs0 : Int32) (bs1 : Int32) (bs2 : Int32) (bs3 : Int32) (bs4 : Int32) (bs5 : Int32) (bs6 : Int32) (bs7 : Int32) (bs8 : Int32) (bs9 : Int32) (bs10 : Int32) (bs11 : Int32) (bs12 : Int32) (bs13 : Int32) (bs14 : Int32) (q : Addr) (d : Addr) (kd : ClassId) (be0 : Int32) (be1 : Int32) (be2 : Int32) (be3 : Int32) (be4 : Int32) (be5 : Int32) (be6 : Int32) (be7 : Int32) (be8 : Int32) (be9 : Int32) (be10 : Int32) (be11 : Int32) (be12 : Int32) (be13 : Int32) (be14 : Int32) (be15 : Int32) (cpt : Int32) (h0 : Heap) (O0 : own_Old Z h0) (g0_E : Exa Z h0 a "java/lang/String") (g1_F : Fld Z h0 a "java/lang/String" "coder" "B" (.int 0)) (g2_F : Fld Z h0 a "java/lang/String" "value" "[B" (.ref t)) (g3_V : Arv Z h0 t kt .byte (15 : Int32) [(.int bs0), (.int bs1), (.int bs2), (.int bs3), (.int bs4), (.int bs5), (.int bs6), (.int bs7), (.int bs8), (.int bs9), (.int bs10), (.int bs11), (.int bs12), (.int bs13), (.int bs14)] (.int 0)) (g4_S : Sta Z Z.heap "java/lang/String" "COMPACT_STRINGS" "Z" (.int cpt)) (g5_hcpt : ¬ (cpt = (0 : Int32))) (g6_E : Exa Z h0 q "java/lang/StringBuilder") (g7_F : Fld Z h0 q "java/lang/AbstractStringBuilder" "value" "[B" (.ref d)) (g8_F : Fld Z h0 q "java/lang/AbstractStringBuilder" "coder" "B" (.int 0)) (g9_F : Fld Z h0 q "java/lang/AbstractStringBuilder" "count" "I" (.int 0)) (g10_V : Arv Z h0 d kd .byte (16 : Int32) [(.int be0), (.int be1), (.int be2), (.int be3), (.int be4), (.int be5), (.int be6), (.int be7), (.int be8), (.int be9), (.int be10), (.int be11), (.int be12), (.int be13), (.int be14), (.int be15)] (.int 0)) (g11_G : Z.heap.size ≤ d) (g12_ne_a_d : a ≠ d) (g13_ne_t_d : t ≠ d) :
    own_Con l Z (⟨"java/lang/AbstractStringBuilder", "putStringAt", "(ILjava/lang/String;)V"⟩ : MethodName) jdk_68_method_73_code 3 none [] ({ frames := 2, cells := 0, slots := 0, locals := 55 } : Room) #[(.ref q), (.int 0), (.ref a)] h0 (fun rv rh rL => rv = none ∧ own_Fr Z rL ∧ Keep h0 rh [d] ∧ (Arv Z rh d kd .byte (16 : Int32) [(.int bs0), (.int bs1), (.int bs2), (.int bs3), (.int bs4), (.int bs5), (.int bs6), (.int bs7), (.int bs8), (.int bs9), (.int bs10), (.int bs11), (.int bs12), (.int bs13), (.int bs14), (.int be15)] (.int 0))) := by
  refine own_intro (plainFor_of_name (by first | (simp [plainName, overriddenIn]; done) | decide +kernel)) ?_
  intro p e s m below meth c s₁ G hx hby hml hown hnm hret hZ X0 e0 hG hR
  have N0 := Fr.nil Z.heap.size
  refine own_entry (Ls := #[.val (.ref q), .val (.int 0), .val (.ref a)]) (by first | (simp [entryFrame, mkF, argsToLocals, Value.category]; done) | rfl) ?_
  show G (s₁.setTop (mkF m 0 #[.val (.ref q), .val (.int 0), .val (.ref a)] []))
  refine hG _ _ (fun t_ k_ => XS.aloadN X0.here hx rfl (hb hby d19_0) rfl rfl k_) ?_
  refine hG _ _ (fun t_ k_ => XS.aloadN X0.here hx rfl (hb hby d19_1) rfl rfl k_) ?_
  show G (s₁.setTop (mkF m 2 #[.val (.ref q), .val (.int 0), .val (.ref a)] [(.ref a), (.ref q)]))
  refine own_callP2 X0 hx hZ hG hown (ow hw 104 rfl) (ow hw 105 rfl) (ow hw 107 rfl) (ow hw 106 rfl) (ow hw 61 rfl) (ow hw 108 rfl) (by decide) 0 (own_infl l Z a0 hw q a cpt h0 O0 g8_F g0_E g1_F g4_S g5_hcpt) (by decide) (by decide) e0 g6_E (by rw [hml]; rfl) (lenOf own_pd13 rfl) (argsL := [(.ref a)]) (rest := []) rfl rfl (Nat.le_of_eq rfl) (hb hby d19_2) (by decide) (by decide) ?_
  intro T1 h1 v1 L1 X1 e1 q1
  obtain ⟨rfl, M1, rfl⟩ := q1
  have N1 := Fr.app N0 M1
  refine hG _ _ (fun t_ k_ => XS.aloadN X1.here hx rfl (hb hby d19_5) rfl rfl k_) ?_
  refine hG _ _ (fun t_ k_ => XS.aloadN X1.here hx rfl (hb hby d19_6) rfl rfl k_) ?_
  obtain ⟨T2, X2, e2, st2⟩ := getF X1 hx hZ hown (host := "") (Or.inl (ow hw 65 rfl)) Via.refl e1 g7_F (g := (mkF m 7 #[.val (.ref q), .val (.int 0), .val (.ref a)] [(.ref q), (.ref a)])) rfl rfl (hb hby d19_7)
  refine hG _ _ st2 ?_
  refine hG _ _ (fun t_ k_ => XS.iloadN X2.here hx rfl (hb hby d19_10) rfl k_) ?_
  refine hG _ _ (fun t_ k_ => XS.aloadN X2.here hx rfl (hb hby d19_11) rfl rfl k_) ?_
  obtain ⟨T3, X3, e3, st3⟩ := getF X2 hx hZ hown (host := "") (Or.inl (ow hw 67 rfl)) Via.refl e2 g8_F (g := (mkF m 12 #[.val (.ref q), .val (.int 0), .val (.ref a)] [(.ref q), (.int 0), (.ref d), (.ref a)])) rfl rfl (hb hby d19_12)
  refine hG _ _ st3 ?_
  show G (T3.setTop (mkF m 15 #[.val (.ref q), .val (.int 0), .val (.ref a)] [(.int 0), (.int 0), (.ref d), (.ref a)]))
  refine own_callV (C := "java/lang/String") X3 hx hZ hG hown (ow hw 110 rfl) (ow hw 111 rfl) (ow hw 113 rfl) (ow hw 112 rfl) (ow hw 3 rfl) (ow hw 114 rfl) (by decide) 0 (own_gb0_15 l Z a0 hw a t kt bs0 bs1 bs2 bs3 bs4 bs5 bs6 bs7 bs8 bs9 bs10 bs11 bs12 bs13 bs14 d kd be0 be1 be2 be3 be4 be5 be6 be7 be8 be9 be10 be11 be12 be13 be14 be15 cpt h0 O0 g0_E g1_F g2_F g3_V g4_S g5_hcpt g10_V g11_G g12_ne_a_d g13_ne_t_d) (by decide) (by decide) e3 g0_E (by rw [hml]; rfl) (lenOf own_pd18 rfl) (argsL := [(.ref d), (.int 0), (.int 0)]) (rest := []) rfl rfl (Nat.le_of_eq rfl) (hb hby d19_15) (by decide) (by decide) ?_
  intro T4 h4 v4 L4 X4 e4 q4
  obtain ⟨rfl, M4, J4, r4_0⟩ := q4
  have N4 := Fr.app N1 M4
  have K4 : Keep h0 h4 [d] := (Keep.refl h0 [d]).trans J4 (allS (Or.inl (List.mem_of_getElem? (i := 0) rfl)) all0)
  have O4 : own_Old Z h4 := O0.keep J4 (allS g11_G all0)
  show G (T4.setTop (mkF m 18 #[.val (.ref q), .val (.int 0), .val (.ref a)] []))
  exact own_retV hR hret X4 hx (hb hby d19_18) (by decide) (by decide) (by rw [e4]; exact ⟨rfl, N4, K4, r4_0⟩)
theorem own_pd20 : parseMethodDescriptor "(Ljava/lang/String;)Ljava/lang/AbstractStringBuilder;" = some ⟨[(.object "java/lang/String")], some (.object "java/lang/AbstractStringBuilder")⟩ := by decide +kernel
set_option maxRecDepth 65536 in
set_option maxHeartbeats 40000000 in
theorem own_asba0_15 (l : Launch) (Z : State) (a0 : Array Value) (hw : ∀ d ∈ tables_1, d.before a0 Z = true) (a : Addr) (t : Addr) (kt : ClassId) (bs0 : Int32) (bs1 : Int32) (bs2 : Int32) (bs3 : Int32) (bs4 : Int32) (bs5 : Int32) (bs6 : Int32) (bs7 : Int32) (bs8 : Int32) (bs9 : Int32) (bs10 : Int32) (bs11 : Int32) (bs12 : Int32) (bs13 : Int32) (bs14 : Int32) (q : Addr) (d : Addr) (kd : ClassId) (be0 : Int32) (be1 : Int32) (be2 : Int32) (be3 : Int32) (be4 : Int32) (be5 : Int32) (be6 : Int32) (be7 : Int32) (be8 : Int32) (be9 : Int32) (be10 : Int32) (be11 : Int32) (be12 : Int32) (be13 : Int32) (be14 : Int32) (be15 : Int32) (cpt : Int32) (h0 : Heap) (O0 : own_Old Z h0) (g0_E : Exa Z h0 a "java/lang/String") (g1_F : Fld Z h0 a "java/lang/String" "coder" "B" (.int 0)) (g2_F : Fld Z h0 a "java/lang/String" "value" "[B" (.ref t)) (g3_V : Arv Z h0 t kt .byte (15 : Int32) [(.int bs0), (.int bs1), (.int bs2), (.int bs3), (.int bs4), (.int bs5), (.int bs6), (.int bs7), (.int bs8), (.int bs9), (.int bs10), (.int bs11), (.int bs12), (.int bs13), (.int bs14)] (.int 0)) (g4_S : Sta Z Z.heap "java/lang/String" "COMPACT_STRINGS" "Z" (.int cpt)) (g5_hcpt : ¬ (cpt = (0 : Int32))) (g6_E : Exa Z h0 q "java/lang/StringBuilder") (g7_G : Z.heap.size ≤ q) (g8_F : Fld Z h0 q "java/lang/AbstractStringBuilder" "value" "[B" (.ref d)) (g9_F : Fld Z h0 q "java/lang/AbstractStringBuilder" "coder" "B" (.int 0)) (g10_F : Fld Z h0 q "java/lang/AbstractStringBuilder" "count" "I" (.int 0)) (g11_V : Arv Z h0 d kd .byte (16 : Int32) [(.int be0), (.int be1), (.int be2), (.int be3), (.int be4), (.int be5), (.int be6), (.int be7), (.int be8), (.int be9), (.int be10), (.int be11), (.int be12), (.int be13), (.int be14), (.int be15)] (.int 0)) (g12_G : Z.heap.size ≤ d) (g13_ne_a_d : a ≠ d) (g14_ne_t_d : t ≠ d) (g15_ne_a_q : a ≠ q) (g16_ne_t_q : t ≠ q) (g17_ne_q_d : q ≠ d) :
    own_Con l Z (⟨"java/lang/AbstractStringBuilder", "append", "(Ljava/lang/String;)Ljava/lang/AbstractStringBuilder;"⟩ : MethodName) jdk_68_method_22_code 3 (some (.object "java/lang/AbstractStringBuilder")) [] ({ frames := 3, cells := 0, slots := 0, locals := 69 } : Room) #[(.ref q), (.ref a)] h0 (fun rv rh rL => rv = some (.ref q) ∧ own_Fr Z rL ∧ Keep h0 rh [q, d] ∧ (Exa Z rh q "java/lang/StringBuilder") ∧ (Fld Z rh q "java/lang/AbstractStringBuilder" "value" "[B" (.ref d)) ∧ (Fld Z rh q "java/lang/AbstractStringBuilder" "coder" "B" (.int 0)) ∧ (Fld Z rh q "java/lang/AbstractStringBuilder" "count" "I" (.int 15)) ∧ (Arv Z rh d kd .byte (16 : Int32) [(.int bs0), (.int bs1), (.int bs2), (.int bs3), (.int bs4), (.int bs5), (.int bs6), (.int bs7), (.int bs8), (.int bs9), (.int bs10), (.int bs11), (.int bs12), (.int bs13), (.int bs14), (.int be15)] (.int 0))) := by
  refine own_intro (plainFor_of_name (by first | (simp [plainName, overriddenIn]; done) | decide +kernel)) ?_
  intro p e s m below meth c s₁ G hx hby hml hown hnm hret hZ X0 e0 hG hR
  have N0 := Fr.nil Z.heap.size
  refine own_entry (Ls := #[.val (.ref q), .val (.ref a), .unset]) (by first | (simp [entryFrame, mkF, argsToLocals, Value.category]; done) | rfl) ?_
  show G (s₁.setTop (mkF m 0 #[.val (.ref q), .val (.ref a), .unset] []))
  refine hG _ _ (fun t_ k_ => XS.aloadN X0.here hx rfl (hb hby d15_0) rfl rfl k_) ?_
  show G (s₁.setTop (mkF m 1 #[.val (.ref q), .val (.ref a), .unset] [(.ref a)]))
  refine hG _ _ (fun t_ k_ => XS.ifnonnullYes X0.here hx rfl (pc0 := 1) (pc' := 9) rfl (hb hby d15_1) rfl (by decide) (by decide) k_) ?_
  refine hG _ _ (fun t_ k_ => XS.aloadN X0.here hx rfl (hb hby d15_9) rfl rfl k_) ?_
  show G (s₁.setTop (mkF m 10 #[.val (.ref q), .val (.ref a), .unset] [(.ref a)]))
  refine own_callV (C := "java/lang/String") X0 hx hZ hG hown (ow hw 82 rfl) (ow hw 83 rfl) (ow hw 85 rfl) (ow hw 84 rfl) (ow hw 3 rfl) (ow hw 86 rfl) (by decide) 0 (own_lenL l Z a0 hw a t kt (15 : Int32) [(.int bs0), (.int bs1), (.int bs2), (.int bs3), (.int bs4), (.int bs5), (.int bs6), (.int bs7), (.int bs8), (.int bs9), (.int bs10), (.int bs11), (.int bs12), (.int bs13), (.int bs14)] cpt h0 O0 g0_E g1_F g2_F g3_V g4_S g5_hcpt) (by decide) (by decide) e0 g0_E (by rw [hml]; rfl) (lenOf own_pd12 rfl) (argsL := []) (rest := []) rfl rfl (Nat.le_of_eq rfl) (hb hby d15_10) (by decide) (by decide) ?_
  intro T1 h1 v1 L1 X1 e1 q1
  obtain ⟨rfl, M1, rfl⟩ := q1
  have N1 := Fr.app N0 M1
  refine hG _ _ (fun t_ k_ => XS.istoreN X1.here hx rfl (hb hby d15_13) rfl (l' := #[.val (.ref q), .val (.ref a), .val (.int 15)]) rfl k_) ?_
  refine hG _ _ (fun t_ k_ => XS.aloadN X1.here hx rfl (hb hby d15_14) rfl rfl k_) ?_
  refine hG _ _ (fun t_ k_ => XS.aloadN X1.here hx rfl (hb hby d15_15) rfl rfl k_) ?_
  obtain ⟨T2, X2, e2, st2⟩ := getF X1 hx hZ hown (host := "") (Or.inl (ow hw 92 rfl)) Via.refl e1 g10_F (g := (mkF m 16 #[.val (.ref q), .val (.ref a), .val (.int 15)] [(.ref q), (.ref q)])) rfl rfl (hb hby d15_16)
  refine hG _ _ st2 ?_
  refine hG _ _ (fun t_ k_ => XS.iloadN X2.here hx rfl (hb hby d15_19) rfl k_) ?_
  refine hG _ _ (fun t_ k_ => XS.iadd X2.here hx rfl (hb hby d15_20) rfl k_) ?_
  show G (T2.setTop (mkF m 21 #[.val (.ref q), .val (.ref a), .val (.int 15)] [(.int ((0 : Int32) + (15 : Int32))), (.ref q)]))
  rw [show ((0 : Int32) + (15 : Int32)) = (15 : Int32) from by decide]
  show G (T2.setTop (mkF m 21 #[.val (.ref q), .val (.ref a), .val (.int 15)] [(.int 15), (.ref q)]))
  refine own_callP2 X2 hx hZ hG hown (ow hw 94 rfl) (ow hw 95 rfl) (ow hw 97 rfl) (ow hw 96 rfl) (ow hw 61 rfl) (ow hw 98 rfl) (by decide) 0 (own_ens0_15 l Z a0 hw q d kd be0 be1 be2 be3 be4 be5 be6 be7 be8 be9 be10 be11 be12 be13 be14 be15 h0 O0 g8_F g9_F g11_V) (by decide) (by decide) e2 g6_E (by rw [hml]; rfl) (lenOf own_pd10 rfl) (argsL := [(.int 15)]) (rest := []) rfl rfl (Nat.le_of_eq rfl) (hb hby d15_21) (by decide) (by decide) ?_
  intro T3 h3 v3 L3 X3 e3 q3
  obtain ⟨rfl, M3, rfl⟩ := q3
  have N3 := Fr.app N1 M3
  refine hG _ _ (fun t_ k_ => XS.aloadN X3.here hx rfl (hb hby d15_24) rfl rfl k_) ?_
  refine hG _ _ (fun t_ k_ => XS.aloadN X3.here hx rfl (hb hby d15_25) rfl rfl k_) ?_
  obtain ⟨T4, X4, e4, st4⟩ := getF X3 hx hZ hown (host := "") (Or.inl (ow hw 92 rfl)) Via.refl e3 g10_F (g := (mkF m 26 #[.val (.ref q), .val (.ref a), .val (.int 15)] [(.ref q), (.ref q)])) rfl rfl (hb hby d15_26)
  refine hG _ _ st4 ?_
  refine hG _ _ (fun t_ k_ => XS.aloadN X4.here hx rfl (hb hby d15_29) rfl rfl k_) ?_
  show G (T4.setTop (mkF m 30 #[.val (.ref q), .val (.ref a), .val (.int 15)] [(.ref a), (.int 0), (.ref q)]))
  refine own_callP2 X4 hx hZ hG hown (ow hw 99 rfl) (ow hw 100 rfl) (ow hw 102 rfl) (ow hw 101 rfl) (ow hw 61 rfl) (ow hw 103 rfl) (by decide) 0 (own_psa0_15 l Z a0 hw a t kt bs0 bs1 bs2 bs3 bs4 bs5 bs6 bs7 bs8 bs9 bs10 bs11 bs12 bs13 bs14 q d kd be0 be1 be2 be3 be4 be5 be6 be7 be8 be9 be10 be11 be12 be13 be14 be15 cpt h0 O0 g0_E g1_F g2_F g3_V g4_S g5_hcpt g6_E g8_F g9_F g10_F g11_V g12_G g13_ne_a_d g14_ne_t_d) (by decide) (by decide) e4 g6_E (by rw [hml]; rfl) (lenOf own_pd19 rfl) (argsL := [(.int 0), (.ref a)]) (rest := []) rfl rfl (Nat.le_of_eq rfl) (hb hby d15_30) (by decide) (by decide) ?_
  intro T5 h5 v5 L5 X5 e5 q5
  obtain ⟨rfl, M5, J5, r5_0⟩ := q5
  have N5 := Fr.app N3 M5
  have K5 : Keep h0 h5 [q, d] := (Keep.refl h0 [q, d]).trans J5 (allS (Or.inl (List.mem_of_getElem? (i := 1) rfl)) all0)
  have O5 : own_Old Z h5 := O0.keep J5 (allS g12_G all0)
  refine hG _ _ (fun t_ k_ => XS.aloadN X5.here hx rfl (hb hby d15_33) rfl rfl k_) ?_
  refine hG _ _ (fun t_ k_ => XS.dup X5.here hx rfl (hb hby d15_34) rfl rfl k_) ?_
  have f7 := (g10_F.keep J5 (ninS g17_ne_q_d nin0))
  obtain ⟨T6, X6, e6, st6⟩ := getF X5 hx hZ hown (host := "") (Or.inl (ow hw 92 rfl)) Via.refl e5 f7 (g := (mkF m 35 #[.val (.ref q), .val (.ref a), .val (.int 15)] [(.ref q), (.ref q)])) rfl rfl (hb hby d15_35)
  refine hG _ _ st6 ?_
  refine hG _ _ (fun t_ k_ => XS.iloadN X6.here hx rfl (hb hby d15_38) rfl k_) ?_
  refine hG _ _ (fun t_ k_ => XS.iadd X6.here hx rfl (hb hby d15_39) rfl k_) ?_
  show G (T6.setTop (mkF m 40 #[.val (.ref q), .val (.ref a), .val (.int 15)] [(.int ((0 : Int32) + (15 : Int32))), (.ref q)]))
  rw [show ((0 : Int32) + (15 : Int32)) = (15 : Int32) from by decide]
  show G (T6.setTop (mkF m 40 #[.val (.ref q), .val (.ref a), .val (.int 15)] [(.int 15), (.ref q)]))
  have f9 := (g6_E.keep J5)
  obtain ⟨T8, h8, X8, e8, W8, st8⟩ := putF X6 hx hZ hown (host := "") (Or.inl (ow hw 92 rfl)) Via.refl e6 f7 f9 (Or.inl (ow hw 93 rfl)) (ow hw 52 rfl) (ty := .int) (by decide) rfl rfl (g := (mkF m 40 #[.val (.ref q), .val (.ref a), .val (.int 15)] [(.int 15), (.ref q)])) rfl rfl (hb hby d15_40)
  refine hG _ _ st8 ?_
  have K8 : Keep h0 h8 [q, d] := K5.wr W8 (Or.inl (List.mem_of_getElem? (i := 0) rfl))
  have O8 : own_Old Z h8 := O5.wr W8 g7_G
  have N8 := Fr.snoc X8 N5 g7_G
  refine hG _ _ (fun t_ k_ => XS.aloadN X8.here hx rfl (hb hby d15_43) rfl rfl k_) ?_
  show G (T8.setTop (mkF m 44 #[.val (.ref q), .val (.ref a), .val (.int 15)] [(.ref q)]))
  have f10 := (f9.wr W8)
  have f11 := ((g8_F.keep J5 (ninS g17_ne_q_d nin0)).other W8 (Or.inr (slot_ne (Or.inl (ow hw 66 rfl)) (Or.inl (ow hw 93 rfl)) (by decide) (t := (.array .byte)) (t' := .int) (by decide) (by decide))))
  have f12 := ((g9_F.keep J5 (ninS g17_ne_q_d nin0)).other W8 (Or.inr (slot_ne (Or.inl (ow hw 68 rfl)) (Or.inl (ow hw 93 rfl)) (by decide) (t := .byte) (t' := .int) (by decide) (by decide))))
  have f13 := (r5_0.other W8 (Ne.symm g17_ne_q_d))
  exact own_retA hR hret rfl rfl X8 hx (hb hby d15_44) (by decide) (by decide) (by rw [e8]; exact ⟨rfl, N8, K8, f10, f11, f12, (f7.same W8), f13⟩)
theorem own_pd21 : parseMethodDescriptor "(Ljava/lang/String;)Ljava/lang/StringBuilder;" = some ⟨[(.object "java/lang/String")], some (.object "java/lang/StringBuilder")⟩ := by decide +kernel
set_option maxRecDepth 65536 in
set_option maxHeartbeats 40000000 in
theorem own_sba0_15 (l : Launch) (Z : State) (a0 : Array Value) (hw : ∀ d ∈ tables_1, d.before a0 Z = true) (a : Addr) (t : Addr) (kt : ClassId) (bs0 : Int32) (bs1 : Int32) (bs2 : Int32) (bs3 : Int32) (bs4 : Int32) (bs5 : Int32) (bs6 : Int32) (bs7 : Int32) (bs8 : Int32) (bs9 : Int32) (bs10 : Int32) (bs11 : Int32) (bs12 : Int32) (bs13 : Int32) (bs14 : Int32) (q : Addr) (d : Addr) (kd : ClassId) (be0 : Int32) (be1 : Int32) (be2 : Int32) (be3 : Int32) (be4 : Int32) (be5 : Int32) (be6 : Int32) (be7 : Int32) (be8 : Int32) (be9 : Int32) (be10 : Int32) (be11 : Int32) (be12 : Int32) (be13 : Int32) (be14 : Int32) (be15 : Int32) (cpt : Int32) (h0 : Heap) (O0 : own_Old Z h0) (g0_E : Exa Z h0 a "java/lang/String") (g1_F : Fld Z h0 a "java/lang/String" "coder" "B" (.int 0)) (g2_F : Fld Z h0 a "java/lang/String" "value" "[B" (.ref t)) (g3_V : Arv Z h0 t kt .byte (15 : Int32) [(.int bs0), (.int bs1), (.int bs2), (.int bs3), (.int bs4), (.int bs5), (.int bs6), (.int bs7), (.int bs8), (.int bs9), (.int bs10), (.int bs11), (.int bs12), (.int bs13), (.int bs14)] (.int 0)) (g4_S : Sta Z Z.heap "java/lang/String" "COMPACT_STRINGS" "Z" (.int cpt)) (g5_hcpt : ¬ (cpt = (0 : Int32))) (g6_E : Exa Z h0 q "java/lang/StringBuilder") (g7_G : Z.heap.size ≤ q) (g8_F : Fld Z h0 q "java/lang/AbstractStringBuilder" "value" "[B" (.ref d)) (g9_F : Fld Z h0 q "java/lang/AbstractStringBuilder" "coder" "B" (.int 0)) (g10_F : Fld Z h0 q "java/lang/AbstractStringBuilder" "count" "I" (.int 0)) (g11_V : Arv Z h0 d kd .byte (16 : Int32) [(.int be0), (.int be1), (.int be2), (.int be3), (.int be4), (.int be5), (.int be6), (.int be7), (.int be8), (.int be9), (.int be10), (.int be11), (.int be12), (.int be13), (.int be14), (.int be15)] (.int 0)) (g12_G : Z.heap.size ≤ d) (g13_ne_a_d : a ≠ d) (g14_ne_t_d : t ≠ d) (g15_ne_a_q : a ≠ q) (g16_ne_t_q : t ≠ q) (g17_ne_q_d : q ≠ d) :
    own_Con l Z (⟨"java/lang/StringBuilder", "append", "(Ljava/lang/String;)Ljava/lang/StringBuilder;"⟩ : MethodName) jdk_67_method_7_code 2 (some (.object "java/lang/StringBuilder")) [] ({ frames := 4, cells := 0, slots := 0, locals := 83 } : Room) #[(.ref q), (.ref a)] h0 (fun rv rh rL => rv = some (.ref q) ∧ own_Fr Z rL ∧ Keep h0 rh [q, d] ∧ (Exa Z rh q "java/lang/StringBuilder") ∧ (Fld Z rh q "java/lang/AbstractStringBuilder" "value" "[B" (.ref d)) ∧ (Fld Z rh q "java/lang/AbstractStringBuilder" "coder" "B" (.int 0)) ∧ (Fld Z rh q "java/lang/AbstractStringBuilder" "count" "I" (.int 15)) ∧ (Arv Z rh d kd .byte (16 : Int32) [(.int bs0), (.int bs1), (.int bs2), (.int bs3), (.int bs4), (.int bs5), (.int bs6), (.int bs7), (.int bs8), (.int bs9), (.int bs10), (.int bs11), (.int bs12), (.int bs13), (.int bs14), (.int be15)] (.int 0))) := by
  refine own_intro (plainFor_of_name (by first | (simp [plainName, overriddenIn]; done) | decide +kernel)) ?_
  intro p e s m below meth c s₁ G hx hby hml hown hnm hret hZ X0 e0 hG hR
  have N0 := Fr.nil Z.heap.size
  refine own_entry (Ls := #[.val (.ref q), .val (.ref a)]) (by first | (simp [entryFrame, mkF, argsToLocals, Value.category]; done) | rfl) ?_
  show G (s₁.setTop (mkF m 0 #[.val (.ref q), .val (.ref a)] []))
  refine hG _ _ (fun t_ k_ => XS.aloadN X0.here hx rfl (hb hby d14_0) rfl rfl k_) ?_
  refine hG _ _ (fun t_ k_ => XS.aloadN X0.here hx rfl (hb hby d14_1) rfl rfl k_) ?_
  show G (s₁.setTop (mkF m 2 #[.val (.ref q), .val (.ref a)] [(.ref a), (.ref q)]))
  refine own_callU X0 hx hZ hG hown (ow hw 77 rfl) (ow hw 78 rfl) (ow hw 79 rfl) (ow hw 97 rfl) rfl (ow hw 61 rfl) (ow hw 81 rfl) (by decide) (by decide) 0 (own_asba0_15 l Z a0 hw a t kt bs0 bs1 bs2 bs3 bs4 bs5 bs6 bs7 bs8 bs9 bs10 bs11 bs12 bs13 bs14 q d kd be0 be1 be2 be3 be4 be5 be6 be7 be8 be9 be10 be11 be12 be13 be14 be15 cpt h0 O0 g0_E g1_F g2_F g3_V g4_S g5_hcpt g6_E g7_G g8_F g9_F g10_F g11_V g12_G g13_ne_a_d g14_ne_t_d g15_ne_a_q g16_ne_t_q g17_ne_q_d) (by decide) (by decide) e0 g6_E (by rw [hml]; rfl) (lenOf own_pd20 rfl) (argsL := [(.ref a)]) (rest := []) rfl rfl (Nat.le_of_eq rfl) (hb hby d14_2) (by decide) (by decide) ?_
  intro T1 h1 v1 L1 X1 e1 q1
  obtain ⟨rfl, M1, J1, r1_0, r1_1, r1_2, r1_3, r1_4⟩ := q1
  have N1 := Fr.app N0 M1
  have K1 : Keep h0 h1 [q, d] := (Keep.refl h0 [q, d]).trans J1 (allS (Or.inl (List.mem_of_getElem? (i := 0) rfl)) (allS (Or.inl (List.mem_of_getElem? (i := 1) rfl)) all0))
  have O1 : own_Old Z h1 := O0.keep J1 (allS g7_G (allS g12_G all0))
  refine hG _ _ (fun t_ k_ => XS.pop X1.here hx rfl (hb hby d14_5) rfl rfl k_) ?_
  refine hG _ _ (fun t_ k_ => XS.aloadN X1.here hx rfl (hb hby d14_6) rfl rfl k_) ?_
  show G (T1.setTop (mkF m 7 #[.val (.ref q), .val (.ref a)] [(.ref q)]))
  exact own_retA hR hret rfl rfl X1 hx (hb hby d14_7) (by decide) (by decide) (by rw [e1]; exact ⟨rfl, N1, K1, r1_0, r1_1, r1_2, r1_3, r1_4⟩)
set_option maxRecDepth 65536 in
set_option maxHeartbeats 40000000 in
theorem own_ens15_0 (l : Launch) (Z : State) (a0 : Array Value) (hw : ∀ d ∈ tables_1, d.before a0 Z = true) (q : Addr) (d : Addr) (kd : ClassId) (be0 : Int32) (be1 : Int32) (be2 : Int32) (be3 : Int32) (be4 : Int32) (be5 : Int32) (be6 : Int32) (be7 : Int32) (be8 : Int32) (be9 : Int32) (be10 : Int32) (be11 : Int32) (be12 : Int32) (be13 : Int32) (be14 : Int32) (be15 : Int32) (h0 : Heap) (O0 : own_Old Z h0) (g0_F : Fld Z h0 q "java/lang/AbstractStringBuilder" "value" "[B" (.ref d)) (g1_F : Fld Z h0 q "java/lang/AbstractStringBuilder" "coder" "B" (.int 0)) (g2_V : Arv Z h0 d kd .byte (16 : Int32) [(.int be0), (.int be1), (.int be2), (.int be3), (.int be4), (.int be5), (.int be6), (.int be7), (.int be8), (.int be9), (.int be10), (.int be11), (.int be12), (.int be13), (.int be14), (.int be15)] (.int 0)) :
    own_Con l Z (⟨"java/lang/AbstractStringBuilder", "ensureCapacityInternal", "(I)V"⟩ : MethodName) jdk_68_method_9_code 3 none [] ({ frames := 0, cells := 0, slots := 0, locals := 0 } : Room) #[(.ref q), (.int 15)] h0 (fun rv rh rL => rv = none ∧ own_Fr Z rL ∧ h0 = rh) := by
  refine own_intro (plainFor_of_name (by first | (simp [plainName, overriddenIn]; done) | decide +kernel)) ?_
  intro p e s m below meth c s₁ G hx hby hml hown hnm hret hZ X0 e0 hG hR
  have N0 := Fr.nil Z.heap.size
  refine own_entry (Ls := #[.val (.ref q), .val (.int 15), .unset]) (by first | (simp [entryFrame, mkF, argsToLocals, Value.category]; done) | rfl) ?_
  show G (s₁.setTop (mkF m 0 #[.val (.ref q), .val (.int 15), .unset] []))
  refine hG _ _ (fun t_ k_ => XS.aloadN X0.here hx rfl (hb hby d18_0) rfl rfl k_) ?_
  obtain ⟨T1, X1, e1, st1⟩ := getF X0 hx hZ hown (host := "") (Or.inl (ow hw 65 rfl)) Via.refl e0 g0_F (g := (mkF m 1 #[.val (.ref q), .val (.int 15), .unset] [(.ref q)])) rfl rfl (hb hby d18_1)
  refine hG _ _ st1 ?_
  obtain ⟨c2, Ar2, -, S2, M2, -, -⟩ := id g2_V
  refine hG _ _ (X1.arraylength hx (by rw [e1]; exact Ar2.1) (State.isArrayOf_alike hZ.alike Ar2.2.1) (g := (mkF m 4 #[.val (.ref q), .val (.int 15), .unset] [(.ref d)])) rfl rfl (hb hby d18_4)) ?_
  rw [len_of S2 M2]
  refine hG _ _ (fun t_ k_ => XS.aloadN X1.here hx rfl (hb hby d18_5) rfl rfl k_) ?_
  obtain ⟨T3, X3, e3, st3⟩ := getF X1 hx hZ hown (host := "") (Or.inl (ow hw 67 rfl)) Via.refl e1 g1_F (g := (mkF m 6 #[.val (.ref q), .val (.int 15), .unset] [(.ref q), (.int 16)])) rfl rfl (hb hby d18_6)
  refine hG _ _ st3 ?_
  refine hG _ _ (fun t_ k_ => XS.ishr X3.here hx rfl (hb hby d18_9) rfl k_) ?_
  show G (T3.setTop (mkF m 10 #[.val (.ref q), .val (.int 15), .unset] [(.int ((16 : Int32) >>> ((0 : Int32) &&& 31)))]))
  rw [show ((16 : Int32) >>> ((0 : Int32) &&& 31)) = (16 : Int32) from by decide]
  show G (T3.setTop (mkF m 10 #[.val (.ref q), .val (.int 15), .unset] [(.int 16)]))
  refine hG _ _ (fun t_ k_ => XS.istoreN X3.here hx rfl (hb hby d18_10) rfl (l' := #[.val (.ref q), .val (.int 15), .val (.int 16)]) rfl k_) ?_
  refine hG _ _ (fun t_ k_ => XS.iloadN X3.here hx rfl (hb hby d18_11) rfl k_) ?_
  refine hG _ _ (fun t_ k_ => XS.iloadN X3.here hx rfl (hb hby d18_12) rfl k_) ?_
  refine hG _ _ (fun t_ k_ => XS.isub X3.here hx rfl (hb hby d18_13) rfl k_) ?_
  show G (T3.setTop (mkF m 14 #[.val (.ref q), .val (.int 15), .val (.int 16)] [(.int ((15 : Int32) - (16 : Int32)))]))
  rw [show ((15 : Int32) - (16 : Int32)) = (-1 : Int32) from by decide]
  show G (T3.setTop (mkF m 14 #[.val (.ref q), .val (.int 15), .val (.int 16)] [(.int (-1))]))
  refine hG _ _ (fun t_ k_ => XS.ifYes X3.here hx rfl (pc0 := 14) (pc' := 38) rfl (hb hby d18_14) rfl ((if0 _ _).trans (flt (by decide)).2.2.2) (by decide) (by decide) k_) ?_
  show G (T3.setTop (mkF m 38 #[.val (.ref q), .val (.int 15), .val (.int 16)] []))
  exact own_retV hR hret X3 hx (hb hby d18_38) (by decide) (by decide) (by rw [e3]; exact ⟨rfl, N0, rfl⟩)
set_option maxRecDepth 65536 in
set_option maxHeartbeats 40000000 in
theorem own_gb15_0 (l : Launch) (Z : State) (a0 : Array Value) (hw : ∀ d ∈ tables_1, d.before a0 Z = true) (a : Addr) (t : Addr) (kt : ClassId) (d : Addr) (kd : ClassId) (be0 : Int32) (be1 : Int32) (be2 : Int32) (be3 : Int32) (be4 : Int32) (be5 : Int32) (be6 : Int32) (be7 : Int32) (be8 : Int32) (be9 : Int32) (be10 : Int32) (be11 : Int32) (be12 : Int32) (be13 : Int32) (be14 : Int32) (be15 : Int32) (cpt : Int32) (h0 : Heap) (O0 : own_Old Z h0) (g0_E : Exa Z h0 a "java/lang/String") (g1_F : Fld Z h0 a "java/lang/String" "coder" "B" (.int 0)) (g2_F : Fld Z h0 a "java/lang/String" "value" "[B" (.ref t)) (g3_V : Arv Z h0 t kt .byte (0 : Int32) [] (.int 0)) (g4_S : Sta Z Z.heap "java/lang/String" "COMPACT_STRINGS" "Z" (.int cpt)) (g5_hcpt : ¬ (cpt = (0 : Int32))) (g6_V : Arv Z h0 d kd .byte (16 : Int32) [(.int be0), (.int be1), (.int be2), (.int be3), (.int be4), (.int be5), (.int be6), (.int be7), (.int be8), (.int be9), (.int be10), (.int be11), (.int be12), (.int be13), (.int be14), (.int be15)] (.int 0)) (g7_G : Z.heap.size ≤ d) (g8_ne_a_d : a ≠ d) (g9_ne_t_d : t ≠ d) :
    own_Con l Z (⟨"java/lang/String", "getBytes", "([BIB)V"⟩ : MethodName) jdk_42_method_147_code 4 none [] ({ frames := 1, cells := 0, slots := 0, locals := 40 } : Room) #[(.ref a), (.ref d), (.int 15), (.int 0)] h0 (fun rv rh rL => rv = none ∧ own_Fr Z rL ∧ Keep h0 rh [d] ∧ (Arv Z rh d kd .byte (16 : Int32) [(.int be0), (.int be1), (.int be2), (.int be3), (.int be4), (.int be5), (.int be6), (.int be7), (.int be8), (.int be9), (.int be10), (.int be11), (.int be12), (.int be13), (.int be14), (.int be15)] (.int 0))) := by
  refine own_intro (plainFor_of_name (by first | (simp [plainName, overriddenIn]; done) | decide +kernel)) ?_
  intro p e s m below meth c s₁ G hx hby hml hown hnm hret hZ X0 e0 hG hR
  have N0 := Fr.nil Z.heap.size
  refine own_entry (Ls := #[.val (.ref a), .val (.ref d), .val (.int 15), .val (.int 0)]) (by first | (simp [entryFrame, mkF, argsToLocals, Value.category]; done) | rfl) ?_
  show G (s₁.setTop (mkF m 0 #[.val (.ref a), .val (.ref d), .val (.int 15), .val (.int 0)] []))
  refine hG _ _ (fun t_ k_ => XS.aloadN X0.here hx rfl (hb hby d21_0) rfl rfl k_) ?_
  show G (s₁.setTop (mkF m 1 #[.val (.ref a), .val (.ref d), .val (.int 15), .val (.int 0)] [(.ref a)]))
  refine own_callV (C := "java/lang/String") X0 hx hZ hG hown (ow hw 87 rfl) (ow hw 88 rfl) (ow hw 90 rfl) (ow hw 89 rfl) (ow hw 3 rfl) (ow hw 91 rfl) (by decide) 0 (own_cod0 l Z a0 hw a cpt h0 O0 g1_F g4_S g5_hcpt) (by decide) (by decide) e0 g0_E (by rw [hml]; rfl) (lenOf own_pd11 rfl) (argsL := []) (rest := []) rfl rfl (Nat.le_of_eq rfl) (hb hby d21_1) (by decide) (by decide) ?_
  intro T1 h1 v1 L1 X1 e1 q1
  obtain ⟨rfl, M1, rfl⟩ := q1
  have N1 := Fr.app N0 M1
  refine hG _ _ (fun t_ k_ => XS.iloadN X1.here hx rfl (hb hby d21_4) rfl k_) ?_
  show G (T1.setTop (mkF m 5 #[.val (.ref a), .val (.ref d), .val (.int 15), .val (.int 0)] [(.int 0), (.int 0)]))
  refine hG _ _ (fun t_ k_ => XS.icmpNo X1.here hx rfl (hb hby d21_5) rfl (teq (by decide)).2 k_) ?_
  show G (T1.setTop (mkF m 8 #[.val (.ref a), .val (.ref d), .val (.int 15), .val (.int 0)] []))
  refine hG _ _ (fun t_ k_ => XS.aloadN X1.here hx rfl (hb hby d21_8) rfl rfl k_) ?_
  obtain ⟨T2, X2, e2, st2⟩ := getF X1 hx hZ hown (host := "") (Or.inl (ow hw 23 rfl)) Via.refl e1 g2_F (g := (mkF m 9 #[.val (.ref a), .val (.ref d), .val (.int 15), .val (.int 0)] [(.ref a)])) rfl rfl (hb hby d21_9)
  refine hG _ _ st2 ?_
  refine hG _ _ (fun t_ k_ => XS.iconst X2.here hx rfl (hb hby d21_12) k_) ?_
  refine hG _ _ (fun t_ k_ => XS.aloadN X2.here hx rfl (hb hby d21_13) rfl rfl k_) ?_
  refine hG _ _ (fun t_ k_ => XS.iloadN X2.here hx rfl (hb hby d21_14) rfl k_) ?_
  refine hG _ _ (fun t_ k_ => XS.iloadN X2.here hx rfl (hb hby d21_15) rfl k_) ?_
  refine hG _ _ (fun t_ k_ => XS.ishl X2.here hx rfl (hb hby d21_16) rfl k_) ?_
  show G (T2.setTop (mkF m 17 #[.val (.ref a), .val (.ref d), .val (.int 15), .val (.int 0)] [(.int ((15 : Int32) <<< ((0 : Int32) &&& 31))), (.ref d), (.int 0), (.ref t)]))
  rw [show ((15 : Int32) <<< ((0 : Int32) &&& 31)) = (15 : Int32) from by decide]
  show G (T2.setTop (mkF m 17 #[.val (.ref a), .val (.ref d), .val (.int 15), .val (.int 0)] [(.int 15), (.ref d), (.int 0), (.ref t)]))
  refine hG _ _ (fun t_ k_ => XS.aloadN X2.here hx rfl (hb hby d21_17) rfl rfl k_) ?_
  obtain ⟨T3, X3, e3, st3⟩ := getF X2 hx hZ hown (host := "") (Or.inl (ow hw 23 rfl)) Via.refl e2 g2_F (g := (mkF m 18 #[.val (.ref a), .val (.ref d), .val (.int 15), .val (.int 0)] [(.ref a), (.int 15), (.ref d), (.int 0), (.ref t)])) rfl rfl (hb hby d21_18)
  refine hG _ _ st3 ?_
  obtain ⟨c4, Ar4, -, S4, M4, -, -⟩ := id g3_V
  refine hG _ _ (X3.arraylength hx (by rw [e3]; exact Ar4.1) (State.isArrayOf_alike hZ.alike Ar4.2.1) (g := (mkF m 21 #[.val (.ref a), .val (.ref d), .val (.int 15), .val (.int 0)] [(.ref t), (.int 15), (.ref d), (.int 0), (.ref t)])) rfl rfl (hb hby d21_21)) ?_
  rw [len_of S4 M4]
  show G (T3.setTop (mkF m 22 #[.val (.ref a), .val (.ref d), .val (.int 15), .val (.int 0)] [(.int 0), (.int 15), (.ref d), (.int 0), (.ref t)]))
  obtain ⟨T5, h5, L5, X5, e5, N5, J5, V5, st5⟩ := cpA X3 hx hZ hown (ow hw 115 rfl) (ow hw 118 rfl) (ow hw 116 rfl) (ow hw 117 rfl) e3 g3_V g6_V (Or.inl ⟨rfl, rfl⟩) (by decide) (by decide) (by decide) (by decide) (by decide) rfl (Nat.le_of_ble_eq_true rfl) N1 g7_G (g := (mkF m 22 #[.val (.ref a), .val (.ref d), .val (.int 15), .val (.int 0)] [(.int 0), (.int 15), (.ref d), (.int 0), (.ref t)])) rfl (by rw [hml]; rfl) rfl (hb hby d21_22) (by decide) (W := 0) (by show 2 * 0 + _ ≤ _; exact Nat.le_of_eq rfl) (by decide)
  refine hG _ _ st5 ?_
  have K5 : Keep h0 h5 [d] := (Keep.refl h0 [d]).trans J5 (allS (Or.inl (List.mem_of_getElem? (i := 0) rfl)) all0)
  have O5 : own_Old Z h5 := O0.keep J5 (allS g7_G all0)
  have U5 : Arv Z h5 d kd .byte (16 : Int32) [(.int be0), (.int be1), (.int be2), (.int be3), (.int be4), (.int be5), (.int be6), (.int be7), (.int be8), (.int be9), (.int be10), (.int be11), (.int be12), (.int be13), (.int be14), (.int be15)] (.int 0) := V5
  show G (T5.setTop (mkF m 25 #[.val (.ref a), .val (.ref d), .val (.int 15), .val (.int 0)] []))
  refine hG _ _ (fun t_ k_ => XS.goto X5.here hx rfl (pc0 := 25) (pc' := 43) rfl (hb hby d21_25) (by decide) (by decide) k_) ?_
  show G (T5.setTop (mkF m 43 #[.val (.ref a), .val (.ref d), .val (.int 15), .val (.int 0)] []))
  exact own_retV hR hret X5 hx (hb hby d21_43) (by decide) (by decide) (by rw [e5]; exact ⟨rfl, N5, K5, U5⟩)
set_option maxRecDepth 65536 in
set_option maxHeartbeats 40000000 in
theorem own_psa15_0 (l : Launch) (Z : State) (a0 : Array Value) (hw : ∀ d ∈ tables_1, d.before a0 Z = true) (a : Addr) (t : Addr) (kt : ClassId) (q : Addr) (d : Addr) (kd : ClassId) (be0 : Int32) (be1 : Int32) (be2 : Int32) (be3 : Int32) (be4 : Int32) (be5 : Int32) (be6 : Int32) (be7 : Int32) (be8 : Int32) (be9 : Int32) (be10 : Int32) (be11 : Int32) (be12 : Int32) (be13 : Int32) (be14 : Int32) (be15 : Int32) (cpt : Int32) (h0 : Heap) (O0 : own_Old Z h0) (g0_E : Exa Z h0 a "java/lang/String") (g1_F : Fld Z h0 a "java/lang/String" "coder" "B" (.int 0)) (g2_F : Fld Z h0 a "java/lang/String" "value" "[B" (.ref t)) (g3_V : Arv Z h0 t kt .byte (0 : Int32) [] (.int 0)) (g4_S : Sta Z Z.heap "java/lang/String" "COMPACT_STRINGS" "Z" (.int cpt)) (g5_hcpt : ¬ (cpt = (0 : Int32))) (g6_E : Exa Z h0 q "java/lang/StringBuilder") (g7_F : Fld Z h0 q "java/lang/AbstractStringBuilder" "value" "[B" (.ref d)) (g8_F : Fld Z h0 q "java/lang/AbstractStringBuilder" "coder" "B" (.int 0)) (g9_F : Fld Z h0 q "java/lang/AbstractStringBuilder" "count" "I" (.int 15)) (g10_V : Arv Z h0 d kd .byte (16 : Int32) [(.int be0), (.int be1), (.int be2), (.int be3), (.int be4), (.int be5), (.int be6), (.int be7), (.int be8), (.int be9), (.int be10), (.int be11), (.int be12), (.int be13), (.int be14), (.int be15)] (.int 0)) (g11_G : Z.heap.size ≤ d) (g12_ne_a_d : a ≠ d) (g13_ne_t_d : t ≠ d) :
    own_Con l Z (⟨"java/lang/AbstractStringBuilder", "putStringAt", "(ILjava/lang/String;)V"⟩ : MethodName) jdk_68_method_73_code 3 none [] ({ frames := 2, cells := 0, slots := 0, locals := 55 } : Room) #[(.ref q), (.int 15), (.ref a)] h0 (fun rv rh rL => rv = none ∧ own_Fr Z rL ∧ Keep h0 rh [d] ∧ (Arv Z rh d kd .byte (16 : Int32) [(.int be0), (.int be1), (.int be2), (.int be3), (.int be4), (.int be5), (.int be6), (.int be7), (.int be8), (.int be9), (.int be10), (.int be11), (.int be12), (.int be13), (.int be14), (.int be15)] (.int 0))) := by
  refine own_intro (plainFor_of_name (by first | (simp [plainName, overriddenIn]; done) | decide +kernel)) ?_
  intro p e s m below meth c s₁ G hx hby hml hown hnm hret hZ X0 e0 hG hR
  have N0 := Fr.nil Z.heap.size
  refine own_entry (Ls := #[.val (.ref q), .val (.int 15), .val (.ref a)]) (by first | (simp [entryFrame, mkF, argsToLocals, Value.category]; done) | rfl) ?_
  show G (s₁.setTop (mkF m 0 #[.val (.ref q), .val (.int 15), .val (.ref a)] []))
  refine hG _ _ (fun t_ k_ => XS.aloadN X0.here hx rfl (hb hby d19_0) rfl rfl k_) ?_
  refine hG _ _ (fun t_ k_ => XS.aloadN X0.here hx rfl (hb hby d19_1) rfl rfl k_) ?_
  show G (s₁.setTop (mkF m 2 #[.val (.ref q), .val (.int 15), .val (.ref a)] [(.ref a), (.ref q)]))
  refine own_callP2 X0 hx hZ hG hown (ow hw 104 rfl) (ow hw 105 rfl) (ow hw 107 rfl) (ow hw 106 rfl) (ow hw 61 rfl) (ow hw 108 rfl) (by decide) 0 (own_infl l Z a0 hw q a cpt h0 O0 g8_F g0_E g1_F g4_S g5_hcpt) (by decide) (by decide) e0 g6_E (by rw [hml]; rfl) (lenOf own_pd13 rfl) (argsL := [(.ref a)]) (rest := []) rfl rfl (Nat.le_of_eq rfl) (hb hby d19_2) (by decide) (by decide) ?_
  intro T1 h1 v1 L1 X1 e1 q1
  obtain ⟨rfl, M1, rfl⟩ := q1
  have N1 := Fr.app N0 M1
  refine hG _ _ (fun t_ k_ => XS.aloadN X1.here hx rfl (hb hby d19_5) rfl rfl k_) ?_
  refine hG _ _ (fun t_ k_ => XS.aloadN X1.here hx rfl (hb hby d19_6) rfl rfl k_) ?_
  obtain ⟨T2, X2, e2, st2⟩ := getF X1 hx hZ hown (host := "") (Or.inl (ow hw 65 rfl)) Via.refl e1 g7_F (g := (mkF m 7 #[.val (.ref q), .val (.int 15), .val (.ref a)] [(.ref q), (.ref a)])) rfl rfl (hb hby d19_7)
  refine hG _ _ st2 ?_
  refine hG _ _ (fun t_ k_ => XS.iloadN X2.here hx rfl (hb hby d19_10) rfl k_) ?_
  refine hG _ _ (fun t_ k_ => XS.aloadN X2.here hx rfl (hb hby d19_11) rfl rfl k_) ?_
  obtain ⟨T3, X3, e3, st3⟩ := getF X2 hx hZ hown (host := "") (Or.inl (ow hw 67 rfl)) Via.refl e2 g8_F (g := (mkF m 12 #[.val (.ref q), .val (.int 15), .val (.ref a)] [(.ref q), (.int 15), (.ref d), (.ref a)])) rfl rfl (hb hby d19_12)
  refine hG _ _ st3 ?_
  show G (T3.setTop (mkF m 15 #[.val (.ref q), .val (.int 15), .val (.ref a)] [(.int 0), (.int 15), (.ref d), (.ref a)]))
  refine own_callV (C := "java/lang/String") X3 hx hZ hG hown (ow hw 110 rfl) (ow hw 111 rfl) (ow hw 113 rfl) (ow hw 112 rfl) (ow hw 3 rfl) (ow hw 114 rfl) (by decide) 0 (own_gb15_0 l Z a0 hw a t kt d kd be0 be1 be2 be3 be4 be5 be6 be7 be8 be9 be10 be11 be12 be13 be14 be15 cpt h0 O0 g0_E g1_F g2_F g3_V g4_S g5_hcpt g10_V g11_G g12_ne_a_d g13_ne_t_d) (by decide) (by decide) e3 g0_E (by rw [hml]; rfl) (lenOf own_pd18 rfl) (argsL := [(.ref d), (.int 15), (.int 0)]) (rest := []) rfl rfl (Nat.le_of_eq rfl) (hb hby d19_15) (by decide) (by decide) ?_
  intro T4 h4 v4 L4 X4 e4 q4
  obtain ⟨rfl, M4, J4, r4_0⟩ := q4
  have N4 := Fr.app N1 M4
  have K4 : Keep h0 h4 [d] := (Keep.refl h0 [d]).trans J4 (allS (Or.inl (List.mem_of_getElem? (i := 0) rfl)) all0)
  have O4 : own_Old Z h4 := O0.keep J4 (allS g11_G all0)
  show G (T4.setTop (mkF m 18 #[.val (.ref q), .val (.int 15), .val (.ref a)] []))
  exact own_retV hR hret X4 hx (hb hby d19_18) (by decide) (by decide) (by rw [e4]; exact ⟨rfl, N4, K4, r4_0⟩)
set_option maxRecDepth 65536 in
set_option maxHeartbeats 40000000 in
theorem own_asba15_0 (l : Launch) (Z : State) (a0 : Array Value) (hw : ∀ d ∈ tables_1, d.before a0 Z = true) (a : Addr) (t : Addr) (kt : ClassId) (q : Addr) (d : Addr) (kd : ClassId) (be0 : Int32) (be1 : Int32) (be2 : Int32) (be3 : Int32) (be4 : Int32) (be5 : Int32) (be6 : Int32) (be7 : Int32) (be8 : Int32) (be9 : Int32) (be10 : Int32) (be11 : Int32) (be12 : Int32) (be13 : Int32) (be14 : Int32) (be15 : Int32) (cpt : Int32) (h0 : Heap) (O0 : own_Old Z h0) (g0_E : Exa Z h0 a "java/lang/String") (g1_F : Fld Z h0 a "java/lang/String" "coder" "B" (.int 0)) (g2_F : Fld Z h0 a "java/lang/String" "value" "[B" (.ref t)) (g3_V : Arv Z h0 t kt .byte (0 : Int32) [] (.int 0)) (g4_S : Sta Z Z.heap "java/lang/String" "COMPACT_STRINGS" "Z" (.int cpt)) (g5_hcpt : ¬ (cpt = (0 : Int32))) (g6_E : Exa Z h0 q "java/lang/StringBuilder") (g7_G : Z.heap.size ≤ q) (g8_F : Fld Z h0 q "java/lang/AbstractStringBuilder" "value" "[B" (.ref d)) (g9_F : Fld Z h0 q "java/lang/AbstractStringBuilder" "coder" "B" (.int 0)) (g10_F : Fld Z h0 q "java/lang/AbstractStringBuilder" "count" "I" (.int 15)) (g11_V : Arv Z h0 d kd .byte (16 : Int32) [(.int be0), (.int be1), (.int be2), (.int be3), (.int be4), (.int be5), (.int be6), (.int be7), (.int be8), (.int be9), (.int be10), (.int be11), (.int be12), (.int be13), (.int be14), (.int be15)] (.int 0)) (g12_G : Z.heap.size ≤ d) (g13_ne_a_d : a ≠ d) (g14_ne_t_d : t ≠ d) (g15_ne_a_q : a ≠ q) (g16_ne_t_q : t ≠ q) (g17_ne_q_d : q ≠ d) :
    own_Con l Z (⟨"java/lang/AbstractStringBuilder", "append", "(Ljava/lang/String;)Ljava/lang/AbstractStringBuilder;"⟩ : MethodName) jdk_68_method_22_code 3 (some (.object "java/lang/AbstractStringBuilder")) [] ({ frames := 3, cells := 0, slots := 0, locals := 69 } : Room) #[(.ref q), (.ref a)] h0 (fun rv rh rL => rv = some (.ref q) ∧ own_Fr Z rL ∧ Keep h0 rh [q, d] ∧ (Exa Z rh q "java/lang/StringBuilder") ∧ (Fld Z rh q "java/lang/AbstractStringBuilder" "value" "[B" (.ref d)) ∧ (Fld Z rh q "java/lang/AbstractStringBuilder" "coder" "B" (.int 0)) ∧ (Fld Z rh q "java/lang/AbstractStringBuilder" "count" "I" (.int 15)) ∧ (Arv Z rh d kd .byte (16 : Int32) [(.int be0), (.int be1), (.int be2), (.int be3), (.int be4), (.int be5), (.int be6), (.int be7), (.int be8), (.int be9), (.int be10), (.int be11), (.int be12), (.int be13), (.int be14), (.int be15)] (.int 0))) := by
  refine own_intro (plainFor_of_name (by first | (simp [plainName, overriddenIn]; done) | decide +kernel)) ?_
  intro p e s m below meth c s₁ G hx hby hml hown hnm hret hZ X0 e0 hG hR
  have N0 := Fr.nil Z.heap.size
  refine own_entry (Ls := #[.val (.ref q), .val (.ref a), .unset]) (by first | (simp [entryFrame, mkF, argsToLocals, Value.category]; done) | rfl) ?_
  show G (s₁.setTop (mkF m 0 #[.val (.ref q), .val (.ref a), .unset] []))
  refine hG _ _ (fun t_ k_ => XS.aloadN X0.here hx rfl (hb hby d15_0) rfl rfl k_) ?_
  show G (s₁.setTop (mkF m 1 #[.val (.ref q), .val (.ref a), .unset] [(.ref a)]))
  refine hG _ _ (fun t_ k_ => XS.ifnonnullYes X0.here hx rfl (pc0 := 1) (pc' := 9) rfl (hb hby d15_1) rfl (by decide) (by decide) k_) ?_
  refine hG _ _ (fun t_ k_ => XS.aloadN X0.here hx rfl (hb hby d15_9) rfl rfl k_) ?_
  show G (s₁.setTop (mkF m 10 #[.val (.ref q), .val (.ref a), .unset] [(.ref a)]))
  refine own_callV (C := "java/lang/String") X0 hx hZ hG hown (ow hw 82 rfl) (ow hw 83 rfl) (ow hw 85 rfl) (ow hw 84 rfl) (ow hw 3 rfl) (ow hw 86 rfl) (by decide) 0 (own_lenL l Z a0 hw a t kt (0 : Int32) [] cpt h0 O0 g0_E g1_F g2_F g3_V g4_S g5_hcpt) (by decide) (by decide) e0 g0_E (by rw [hml]; rfl) (lenOf own_pd12 rfl) (argsL := []) (rest := []) rfl rfl (Nat.le_of_eq rfl) (hb hby d15_10) (by decide) (by decide) ?_
  intro T1 h1 v1 L1 X1 e1 q1
  obtain ⟨rfl, M1, rfl⟩ := q1
  have N1 := Fr.app N0 M1
  refine hG _ _ (fun t_ k_ => XS.istoreN X1.here hx rfl (hb hby d15_13) rfl (l' := #[.val (.ref q), .val (.ref a), .val (.int 0)]) rfl k_) ?_
  refine hG _ _ (fun t_ k_ => XS.aloadN X1.here hx rfl (hb hby d15_14) rfl rfl k_) ?_
  refine hG _ _ (fun t_ k_ => XS.aloadN X1.here hx rfl (hb hby d15_15) rfl rfl k_) ?_
  obtain ⟨T2, X2, e2, st2⟩ := getF X1 hx hZ hown (host := "") (Or.inl (ow hw 92 rfl)) Via.refl e1 g10_F (g := (mkF m 16 #[.val (.ref q), .val (.ref a), .val (.int 0)] [(.ref q), (.ref q)])) rfl rfl (hb hby d15_16)
  refine hG _ _ st2 ?_
  refine hG _ _ (fun t_ k_ => XS.iloadN X2.here hx rfl (hb hby d15_19) rfl k_) ?_
  refine hG _ _ (fun t_ k_ => XS.iadd X2.here hx rfl (hb hby d15_20) rfl k_) ?_
  show G (T2.setTop (mkF m 21 #[.val (.ref q), .val (.ref a), .val (.int 0)] [(.int ((15 : Int32) + (0 : Int32))), (.ref q)]))
  rw [show ((15 : Int32) + (0 : Int32)) = (15 : Int32) from by decide]
  show G (T2.setTop (mkF m 21 #[.val (.ref q), .val (.ref a), .val (.int 0)] [(.int 15), (.ref q)]))
  refine own_callP2 X2 hx hZ hG hown (ow hw 94 rfl) (ow hw 95 rfl) (ow hw 97 rfl) (ow hw 96 rfl) (ow hw 61 rfl) (ow hw 98 rfl) (by decide) 0 (own_ens15_0 l Z a0 hw q d kd be0 be1 be2 be3 be4 be5 be6 be7 be8 be9 be10 be11 be12 be13 be14 be15 h0 O0 g8_F g9_F g11_V) (by decide) (by decide) e2 g6_E (by rw [hml]; rfl) (lenOf own_pd10 rfl) (argsL := [(.int 15)]) (rest := []) rfl rfl (Nat.le_of_eq rfl) (hb hby d15_21) (by decide) (by decide) ?_
  intro T3 h3 v3 L3 X3 e3 q3
  obtain ⟨rfl, M3, rfl⟩ := q3
  have N3 := Fr.app N1 M3
  refine hG _ _ (fun t_ k_ => XS.aloadN X3.here hx rfl (hb hby d15_24) rfl rfl k_) ?_
  refine hG _ _ (fun t_ k_ => XS.aloadN X3.here hx rfl (hb hby d15_25) rfl rfl k_) ?_
  obtain ⟨T4, X4, e4, st4⟩ := getF X3 hx hZ hown (host := "") (Or.inl (ow hw 92 rfl)) Via.refl e3 g10_F (g := (mkF m 26 #[.val (.ref q), .val (.ref a), .val (.int 0)] [(.ref q), (.ref q)])) rfl rfl (hb hby d15_26)
  refine hG _ _ st4 ?_
  refine hG _ _ (fun t_ k_ => XS.aloadN X4.here hx rfl (hb hby d15_29) rfl rfl k_) ?_
  show G (T4.setTop (mkF m 30 #[.val (.ref q), .val (.ref a), .val (.int 0)] [(.ref a), (.int 15), (.ref q)]))
  refine own_callP2 X4 hx hZ hG hown (ow hw 99 rfl) (ow hw 100 rfl) (ow hw 102 rfl) (ow hw 101 rfl) (ow hw 61 rfl) (ow hw 103 rfl) (by decide) 0 (own_psa15_0 l Z a0 hw a t kt q d kd be0 be1 be2 be3 be4 be5 be6 be7 be8 be9 be10 be11 be12 be13 be14 be15 cpt h0 O0 g0_E g1_F g2_F g3_V g4_S g5_hcpt g6_E g8_F g9_F g10_F g11_V g12_G g13_ne_a_d g14_ne_t_d) (by decide) (by decide) e4 g6_E (by rw [hml]; rfl) (lenOf own_pd19 rfl) (argsL := [(.int 15), (.ref a)]) (rest := []) rfl rfl (Nat.le_of_eq rfl) (hb hby d15_30) (by decide) (by decide) ?_
  intro T5 h5 v5 L5 X5 e5 q5
  obtain ⟨rfl, M5, J5, r5_0⟩ := q5
  have N5 := Fr.app N3 M5
  have K5 : Keep h0 h5 [q, d] := (Keep.refl h0 [q, d]).trans J5 (allS (Or.inl (List.mem_of_getElem? (i := 1) rfl)) all0)
  have O5 : own_Old Z h5 := O0.keep J5 (allS g12_G all0)
  refine hG _ _ (fun t_ k_ => XS.aloadN X5.here hx rfl (hb hby d15_33) rfl rfl k_) ?_
  refine hG _ _ (fun t_ k_ => XS.dup X5.here hx rfl (hb hby d15_34) rfl rfl k_) ?_
  have f7 := (g10_F.keep J5 (ninS g17_ne_q_d nin0))
  obtain ⟨T6, X6, e6, st6⟩ := getF X5 hx hZ hown (host := "") (Or.inl (ow hw 92 rfl)) Via.refl e5 f7 (g := (mkF m 35 #[.val (.ref q), .val (.ref a), .val (.int 0)] [(.ref q), (.ref q)])) rfl rfl (hb hby d15_35)
  refine hG _ _ st6 ?_
  refine hG _ _ (fun t_ k_ => XS.iloadN X6.here hx rfl (hb hby d15_38) rfl k_) ?_
  refine hG _ _ (fun t_ k_ => XS.iadd X6.here hx rfl (hb hby d15_39) rfl k_) ?_
  show G (T6.setTop (mkF m 40 #[.val (.ref q), .val (.ref a), .val (.int 0)] [(.int ((15 : Int32) + (0 : Int32))), (.ref q)]))
  rw [show ((15 : Int32) + (0 : Int32)) = (15 : Int32) from by decide]
  show G (T6.setTop (mkF m 40 #[.val (.ref q), .val (.ref a), .val (.int 0)] [(.int 15), (.ref q)]))
  have f9 := (g6_E.keep J5)
  obtain ⟨T8, h8, X8, e8, W8, st8⟩ := putF X6 hx hZ hown (host := "") (Or.inl (ow hw 92 rfl)) Via.refl e6 f7 f9 (Or.inl (ow hw 93 rfl)) (ow hw 52 rfl) (ty := .int) (by decide) rfl rfl (g := (mkF m 40 #[.val (.ref q), .val (.ref a), .val (.int 0)] [(.int 15), (.ref q)])) rfl rfl (hb hby d15_40)
  refine hG _ _ st8 ?_
  have K8 : Keep h0 h8 [q, d] := K5.wr W8 (Or.inl (List.mem_of_getElem? (i := 0) rfl))
  have O8 : own_Old Z h8 := O5.wr W8 g7_G
  have N8 := Fr.snoc X8 N5 g7_G
  refine hG _ _ (fun t_ k_ => XS.aloadN X8.here hx rfl (hb hby d15_43) rfl rfl k_) ?_
  show G (T8.setTop (mkF m 44 #[.val (.ref q), .val (.ref a), .val (.int 0)] [(.ref q)]))
  have f10 := (f9.wr W8)
  have f11 := ((g8_F.keep J5 (ninS g17_ne_q_d nin0)).other W8 (Or.inr (slot_ne (Or.inl (ow hw 66 rfl)) (Or.inl (ow hw 93 rfl)) (by decide) (t := (.array .byte)) (t' := .int) (by decide) (by decide))))
  have f12 := ((g9_F.keep J5 (ninS g17_ne_q_d nin0)).other W8 (Or.inr (slot_ne (Or.inl (ow hw 68 rfl)) (Or.inl (ow hw 93 rfl)) (by decide) (t := .byte) (t' := .int) (by decide) (by decide))))
  have f13 := (r5_0.other W8 (Ne.symm g17_ne_q_d))
  exact own_retA hR hret rfl rfl X8 hx (hb hby d15_44) (by decide) (by decide) (by rw [e8]; exact ⟨rfl, N8, K8, f10, f11, f12, (f7.same W8), f13⟩)
set_option maxRecDepth 65536 in
set_option maxHeartbeats 40000000 in
theorem own_sba15_0 (l : Launch) (Z : State) (a0 : Array Value) (hw : ∀ d ∈ tables_1, d.before a0 Z = true) (a : Addr) (t : Addr) (kt : ClassId) (q : Addr) (d : Addr) (kd : ClassId) (be0 : Int32) (be1 : Int32) (be2 : Int32) (be3 : Int32) (be4 : Int32) (be5 : Int32) (be6 : Int32) (be7 : Int32) (be8 : Int32) (be9 : Int32) (be10 : Int32) (be11 : Int32) (be12 : Int32) (be13 : Int32) (be14 : Int32) (be15 : Int32) (cpt : Int32) (h0 : Heap) (O0 : own_Old Z h0) (g0_E : Exa Z h0 a "java/lang/String") (g1_F : Fld Z h0 a "java/lang/String" "coder" "B" (.int 0)) (g2_F : Fld Z h0 a "java/lang/String" "value" "[B" (.ref t)) (g3_V : Arv Z h0 t kt .byte (0 : Int32) [] (.int 0)) (g4_S : Sta Z Z.heap "java/lang/String" "COMPACT_STRINGS" "Z" (.int cpt)) (g5_hcpt : ¬ (cpt = (0 : Int32))) (g6_E : Exa Z h0 q "java/lang/StringBuilder") (g7_G : Z.heap.size ≤ q) (g8_F : Fld Z h0 q "java/lang/AbstractStringBuilder" "value" "[B" (.ref d)) (g9_F : Fld Z h0 q "java/lang/AbstractStringBuilder" "coder" "B" (.int 0)) (g10_F : Fld Z h0 q "java/lang/AbstractStringBuilder" "count" "I" (.int 15)) (g11_V : Arv Z h0 d kd .byte (16 : Int32) [(.int be0), (.int be1), (.int be2), (.int be3), (.int be4), (.int be5), (.int be6), (.int be7), (.int be8), (.int be9), (.int be10), (.int be11), (.int be12), (.int be13), (.int be14), (.int be15)] (.int 0)) (g12_G : Z.heap.size ≤ d) (g13_ne_a_d : a ≠ d) (g14_ne_t_d : t ≠ d) (g15_ne_a_q : a ≠ q) (g16_ne_t_q : t ≠ q) (g17_ne_q_d : q ≠ d) :
    own_Con l Z (⟨"java/lang/StringBuilder", "append", "(Ljava/lang/String;)Ljava/lang/StringBuilder;"⟩ : MethodName) jdk_67_method_7_code 2 (some (.object "java/lang/StringBuilder")) [] ({ frames := 4, cells := 0, slots := 0, locals := 83 } : Room) #[(.ref q), (.ref a)] h0 (fun rv rh rL => rv = some (.ref q) ∧ own_Fr Z rL ∧ Keep h0 rh [q, d] ∧ (Exa Z rh q "java/lang/StringBuilder") ∧ (Fld Z rh q "java/lang/AbstractStringBuilder" "value" "[B" (.ref d)) ∧ (Fld Z rh q "java/lang/AbstractStringBuilder" "coder" "B" (.int 0)) ∧ (Fld Z rh q "java/lang/AbstractStringBuilder" "count" "I" (.int 15)) ∧ (Arv Z rh d kd .byte (16 : Int32) [(.int be0), (.int be1), (.int be2), (.int be3), (.int be4), (.int be5), (.int be6), (.int be7), (.int be8), (.int be9), (.int be10), (.int be11), (.int be12), (.int be13), (.int be14), (.int be15)] (.int 0))) := by
  refine own_intro (plainFor_of_name (by first | (simp [plainName, overriddenIn]; done) | decide +kernel)) ?_
  intro p e s m below meth c s₁ G hx hby hml hown hnm hret hZ X0 e0 hG hR
  have N0 := Fr.nil Z.heap.size
  refine own_entry (Ls := #[.val (.ref q), .val (.ref a)]) (by first | (simp [entryFrame, mkF, argsToLocals, Value.category]; done) | rfl) ?_
  show G (s₁.setTop (mkF m 0 #[.val (.ref q), .val (.ref a)] []))
  refine hG _ _ (fun t_ k_ => XS.aloadN X0.here hx rfl (hb hby d14_0) rfl rfl k_) ?_
  refine hG _ _ (fun t_ k_ => XS.aloadN X0.here hx rfl (hb hby d14_1) rfl rfl k_) ?_
  show G (s₁.setTop (mkF m 2 #[.val (.ref q), .val (.ref a)] [(.ref a), (.ref q)]))
  refine own_callU X0 hx hZ hG hown (ow hw 77 rfl) (ow hw 78 rfl) (ow hw 79 rfl) (ow hw 97 rfl) rfl (ow hw 61 rfl) (ow hw 81 rfl) (by decide) (by decide) 0 (own_asba15_0 l Z a0 hw a t kt q d kd be0 be1 be2 be3 be4 be5 be6 be7 be8 be9 be10 be11 be12 be13 be14 be15 cpt h0 O0 g0_E g1_F g2_F g3_V g4_S g5_hcpt g6_E g7_G g8_F g9_F g10_F g11_V g12_G g13_ne_a_d g14_ne_t_d g15_ne_a_q g16_ne_t_q g17_ne_q_d) (by decide) (by decide) e0 g6_E (by rw [hml]; rfl) (lenOf own_pd20 rfl) (argsL := [(.ref a)]) (rest := []) rfl rfl (Nat.le_of_eq rfl) (hb hby d14_2) (by decide) (by decide) ?_
  intro T1 h1 v1 L1 X1 e1 q1
  obtain ⟨rfl, M1, J1, r1_0, r1_1, r1_2, r1_3, r1_4⟩ := q1
  have N1 := Fr.app N0 M1
  have K1 : Keep h0 h1 [q, d] := (Keep.refl h0 [q, d]).trans J1 (allS (Or.inl (List.mem_of_getElem? (i := 0) rfl)) (allS (Or.inl (List.mem_of_getElem? (i := 1) rfl)) all0))
  have O1 : own_Old Z h1 := O0.keep J1 (allS g7_G (allS g12_G all0))
  refine hG _ _ (fun t_ k_ => XS.pop X1.here hx rfl (hb hby d14_5) rfl rfl k_) ?_
  refine hG _ _ (fun t_ k_ => XS.aloadN X1.here hx rfl (hb hby d14_6) rfl rfl k_) ?_
  show G (T1.setTop (mkF m 7 #[.val (.ref q), .val (.ref a)] [(.ref q)]))
  exact own_retA hR hret rfl rfl X1 hx (hb hby d14_7) (by decide) (by decide) (by rw [e1]; exact ⟨rfl, N1, K1, r1_0, r1_1, r1_2, r1_3, r1_4⟩)
theorem own_pd22 : parseMethodDescriptor "(II)V" = some ⟨[.int, .int], none⟩ := by decide +kernel
set_option maxRecDepth 65536 in
set_option maxHeartbeats 40000000 in
theorem own_chl (l : Launch) (Z : State) (a0 : Array Value) (hw : ∀ d ∈ tables_1, d.before a0 Z = true) (x : Int32) (y : Int32) (h0 : Heap) (O0 : own_Old Z h0) (g0_hxy : ¬ (y < x)) :
    own_Con l Z (⟨"java/util/Arrays", "checkLength", "(II)V"⟩ : MethodName) jdk_65_method_131_code 2 none [] ({ frames := 0, cells := 0, slots := 0, locals := 0 } : Room) #[(.int x), (.int y)] h0 (fun rv rh rL => rv = none ∧ own_Fr Z rL ∧ h0 = rh) := by
  refine own_intro (plainFor_of_name (by first | (simp [plainName, overriddenIn]; done) | decide +kernel)) ?_
  intro p e s m below meth c s₁ G hx hby hml hown hnm hret hZ X0 e0 hG hR
  have N0 := Fr.nil Z.heap.size
  refine own_entry (Ls := #[.val (.int x), .val (.int y)]) (by first | (simp [entryFrame, mkF, argsToLocals, Value.category]; done) | rfl) ?_
  show G (s₁.setTop (mkF m 0 #[.val (.int x), .val (.int y)] []))
  refine hG _ _ (fun t_ k_ => XS.iloadN X0.here hx rfl (hb hby d42_0) rfl k_) ?_
  refine hG _ _ (fun t_ k_ => XS.iloadN X0.here hx rfl (hb hby d42_1) rfl k_) ?_
  show G (s₁.setTop (mkF m 2 #[.val (.int x), .val (.int y)] [(.int x), (.int y)]))
  refine hG _ _ (fun t_ k_ => XS.icmpYes X0.here hx rfl (pc0 := 2) (pc' := 37) rfl (hb hby d42_2) rfl (flt g0_hxy).2.1 (by decide) (by decide) k_) ?_
  show G (s₁.setTop (mkF m 37 #[.val (.int x), .val (.int y)] []))
  exact own_retV hR hret X0 hx (hb hby d42_37) (by decide) (by decide) (by rw [e0]; exact ⟨rfl, N0, rfl⟩)
theorem own_pd23 : parseMethodDescriptor "(II)I" = some ⟨[.int, .int], some .int⟩ := by decide +kernel
set_option maxRecDepth 65536 in
set_option maxHeartbeats 40000000 in
theorem own_min_16_15 (l : Launch) (Z : State) (a0 : Array Value) (hw : ∀ d ∈ tables_1, d.before a0 Z = true) (h0 : Heap) (O0 : own_Old Z h0) :
    own_Con l Z (⟨"java/lang/Math", "min", "(II)I"⟩ : MethodName) jdk_29_method_69_code 2 (some .int) [] ({ frames := 0, cells := 0, slots := 0, locals := 0 } : Room) #[(.int 16), (.int 15)] h0 (fun rv rh rL => rv = some (.int 15) ∧ own_Fr Z rL ∧ h0 = rh) := by
  refine own_intro (Jvm.Free.JP.mathPlain rfl (by decide +kernel)) ?_
  intro p e s m below meth c s₁ G hx hby hml hown hnm hret hZ X0 e0 hG hR
  have N0 := Fr.nil Z.heap.size
  refine own_entry (Ls := #[.val (.int 16), .val (.int 15)]) (by first | (simp [entryFrame, mkF, argsToLocals, Value.category]; done) | rfl) ?_
  show G (s₁.setTop (mkF m 0 #[.val (.int 16), .val (.int 15)] []))
  refine hG _ _ (fun t_ k_ => XS.iloadN X0.here hx rfl (hb hby d40_0) rfl k_) ?_
  refine hG _ _ (fun t_ k_ => XS.iloadN X0.here hx rfl (hb hby d40_1) rfl k_) ?_
  show G (s₁.setTop (mkF m 2 #[.val (.int 16), .val (.int 15)] [(.int 15), (.int 16)]))
  refine hG _ _ (fun t_ k_ => XS.icmpYes X0.here hx rfl (pc0 := 2) (pc' := 9) rfl (hb hby d40_2) rfl (tlt (by decide)).2.2.1 (by decide) (by decide) k_) ?_
  show G (s₁.setTop (mkF m 9 #[.val (.int 16), .val (.int 15)] []))
  refine hG _ _ (fun t_ k_ => XS.iloadN X0.here hx rfl (hb hby d40_9) rfl k_) ?_
  show G (s₁.setTop (mkF m 10 #[.val (.int 16), .val (.int 15)] [(.int 15)]))
  exact own_retI hR hret X0 hx (hb hby d40_10) (by decide) (by decide) (by rw [e0]; exact ⟨rfl, N0, rfl⟩)
theorem own_pd24 : parseMethodDescriptor "([BII)[B" = some ⟨[(.array .byte), .int, .int], some (.array .byte)⟩ := by decide +kernel
set_option maxRecDepth 65536 in
set_option maxHeartbeats 40000000 in
theorem own_crb16_15 (l : Launch) (Z : State) (a0 : Array Value) (hw : ∀ d ∈ tables_1, d.before a0 Z = true) (d : Addr) (kd : ClassId) (be0 : Int32) (be1 : Int32) (be2 : Int32) (be3 : Int32) (be4 : Int32) (be5 : Int32) (be6 : Int32) (be7 : Int32) (be8 : Int32) (be9 : Int32) (be10 : Int32) (be11 : Int32) (be12 : Int32) (be13 : Int32) (be14 : Int32) (be15 : Int32) (h0 : Heap) (O0 : own_Old Z h0) (g0_V : Arv Z h0 d kd .byte (16 : Int32) [(.int be0), (.int be1), (.int be2), (.int be3), (.int be4), (.int be5), (.int be6), (.int be7), (.int be8), (.int be9), (.int be10), (.int be11), (.int be12), (.int be13), (.int be14), (.int be15)] (.int 0)) :
    own_Con l Z (⟨"java/util/Arrays", "copyOfRangeByte", "([BII)[B"⟩ : MethodName) jdk_65_method_133_code 5 (some (.array .byte)) [] ({ frames := 1, cells := 1, slots := 15, locals := 40 } : Room) #[(.ref d), (.int 0), (.int 15)] h0 (fun rv rh rL => ∃ (u : Addr) (ku : ClassId), rv = some (.ref u) ∧ own_Fr Z rL ∧ Keep h0 rh [] ∧ h0.size ≤ u ∧ (Arv Z rh u ku .byte (15 : Int32) [(.int be0), (.int be1), (.int be2), (.int be3), (.int be4), (.int be5), (.int be6), (.int be7), (.int be8), (.int be9), (.int be10), (.int be11), (.int be12), (.int be13), (.int be14)] (.int 0))) := by
  refine own_intro (plainFor_of_name (by first | (simp [plainName, overriddenIn]; done) | decide +kernel)) ?_
  intro p e s m below meth c s₁ G hx hby hml hown hnm hret hZ X0 e0 hG hR
  have N0 := Fr.nil Z.heap.size
  refine own_entry (Ls := #[.val (.ref d), .val (.int 0), .val (.int 15), .unset, .unset]) (by first | (simp [entryFrame, mkF, argsToLocals, Value.category]; done) | rfl) ?_
  show G (s₁.setTop (mkF m 0 #[.val (.ref d), .val (.int 0), .val (.int 15), .unset, .unset] []))
  refine hG _ _ (fun t_ k_ => XS.iloadN X0.here hx rfl (hb hby d41_0) rfl k_) ?_
  refine hG _ _ (fun t_ k_ => XS.iloadN X0.here hx rfl (hb hby d41_1) rfl k_) ?_
  show G (s₁.setTop (mkF m 2 #[.val (.ref d), .val (.int 0), .val (.int 15), .unset, .unset] [(.int 15), (.int 0)]))
  refine own_callS X0 hx hZ hG hown (ow hw 219 rfl) (ow hw 220 rfl) (ow hw 151 rfl) (ow hw 221 rfl) (by decide) 0 (own_chl l Z a0 hw (0 : Int32) (15 : Int32) h0 O0 (by decide)) (by decide) (by decide) e0 (by rw [hml]; rfl) (lenOf own_pd22 rfl) (argsL := [(.int 0), (.int 15)]) (rest := []) rfl rfl (Nat.le_of_eq rfl) (hb hby d41_2) (by decide) (by decide) ?_
  intro T1 h1 v1 L1 X1 e1 q1
  obtain ⟨rfl, M1, rfl⟩ := q1
  have N1 := Fr.app N0 M1
  refine hG _ _ (fun t_ k_ => XS.iloadN X1.here hx rfl (hb hby d41_5) rfl k_) ?_
  refine hG _ _ (fun t_ k_ => XS.iloadN X1.here hx rfl (hb hby d41_6) rfl k_) ?_
  refine hG _ _ (fun t_ k_ => XS.isub X1.here hx rfl (hb hby d41_7) rfl k_) ?_
  show G (T1.setTop (mkF m 8 #[.val (.ref d), .val (.int 0), .val (.int 15), .unset, .unset] [(.int ((15 : Int32) - (0 : Int32)))]))
  rw [show ((15 : Int32) - (0 : Int32)) = (15 : Int32) from by decide]
  show G (T1.setTop (mkF m 8 #[.val (.ref d), .val (.int 0), .val (.int 15), .unset, .unset] [(.int 15)]))
  refine hG _ _ (fun t_ k_ => XS.istoreN X1.here hx rfl (hb hby d41_8) rfl (l' := #[.val (.ref d), .val (.int 0), .val (.int 15), .val (.int 15), .unset]) rfl k_) ?_
  refine hG _ _ (fun t_ k_ => XS.iloadN X1.here hx rfl (hb hby d41_9) rfl k_) ?_
  obtain ⟨T2, h2, k2, X2, e2, E2, A2, st2⟩ := newP X1 hx hZ (ow hw 15 rfl) e1 (g := (mkF m 10 #[.val (.ref d), .val (.int 0), .val (.int 15), .val (.int 15), .unset] [(.int 15)])) rfl (hb hby d41_10) rfl (by decide) (cap := 15) (by decide) (by decide) (by decide) (by decide)
  obtain ⟨b2, z2⟩ : ∃ z, z = h0.size := ⟨_, rfl⟩
  rw [← z2] at A2 st2
  refine hG _ _ st2 ?_
  have K2 : Keep h0 h2 [] := (Keep.refl h0 []).ext E2
  have O2 : own_Old Z h2 := O0.ext E2
  have V2 : Arv Z h2 b2 k2 .byte (15 : Int32) [(.int 0), (.int 0), (.int 0), (.int 0), (.int 0), (.int 0), (.int 0), (.int 0), (.int 0), (.int 0), (.int 0), (.int 0), (.int 0), (.int 0), (.int 0)] (.int 0) := (Arv.new A2 (by decide)).pad (pad_rep [] (.int 0) 15)
  refine hG _ _ (fun t_ k_ => XS.astore X2.here hx rfl (hb hby d41_12) rfl rfl (l' := #[.val (.ref d), .val (.int 0), .val (.int 15), .val (.int 15), .val (.ref b2)]) rfl k_) ?_
  refine hG _ _ (fun t_ k_ => XS.aloadN X2.here hx rfl (hb hby d41_14) rfl rfl k_) ?_
  refine hG _ _ (fun t_ k_ => XS.iloadN X2.here hx rfl (hb hby d41_15) rfl k_) ?_
  refine hG _ _ (fun t_ k_ => XS.aload X2.here hx rfl (hb hby d41_16) rfl rfl k_) ?_
  refine hG _ _ (fun t_ k_ => XS.iconst X2.here hx rfl (hb hby d41_18) k_) ?_
  refine hG _ _ (fun t_ k_ => XS.aloadN X2.here hx rfl (hb hby d41_19) rfl rfl k_) ?_
  show G (T2.setTop (mkF m 20 #[.val (.ref d), .val (.int 0), .val (.int 15), .val (.int 15), .val (.ref b2)] [(.ref d), (.int 0), (.ref b2), (.int 0), (.ref d)]))
  have f4 := (g0_V.ext E2)
  obtain ⟨c3, Ar3, -, S3, M3, -, -⟩ := id f4
  refine hG _ _ (X2.arraylength hx (by rw [e2]; exact Ar3.1) (State.isArrayOf_alike hZ.alike Ar3.2.1) (g := (mkF m 20 #[.val (.ref d), .val (.int 0), .val (.int 15), .val (.int 15), .val (.ref b2)] [(.ref d), (.int 0), (.ref b2), (.int 0), (.ref d)])) rfl rfl (hb hby d41_20)) ?_
  rw [len_of S3 M3]
  refine hG _ _ (fun t_ k_ => XS.iloadN X2.here hx rfl (hb hby d41_21) rfl k_) ?_
  refine hG _ _ (fun t_ k_ => XS.isub X2.here hx rfl (hb hby d41_22) rfl k_) ?_
  show G (T2.setTop (mkF m 23 #[.val (.ref d), .val (.int 0), .val (.int 15), .val (.int 15), .val (.ref b2)] [(.int ((16 : Int32) - (0 : Int32))), (.int 0), (.ref b2), (.int 0), (.ref d)]))
  rw [show ((16 : Int32) - (0 : Int32)) = (16 : Int32) from by decide]
  show G (T2.setTop (mkF m 23 #[.val (.ref d), .val (.int 0), .val (.int 15), .val (.int 15), .val (.ref b2)] [(.int 16), (.int 0), (.ref b2), (.int 0), (.ref d)]))
  refine hG _ _ (fun t_ k_ => XS.iloadN X2.here hx rfl (hb hby d41_23) rfl k_) ?_
  show G (T2.setTop (mkF m 24 #[.val (.ref d), .val (.int 0), .val (.int 15), .val (.int 15), .val (.ref b2)] [(.int 15), (.int 16), (.int 0), (.ref b2), (.int 0), (.ref d)]))
  refine own_callS X2 hx hZ hG hown (ow hw 212 rfl) (ow hw 213 rfl) (ow hw 205 rfl) (ow hw 214 rfl) (by decide) 4 (own_min_16_15 l Z a0 hw h2 O2) (by decide) (by decide) e2 (by rw [hml]; rfl) (lenOf own_pd23 rfl) (argsL := [(.int 16), (.int 15)]) (rest := [(.int 0), (.ref b2), (.int 0), (.ref d)]) rfl rfl (Nat.le_of_eq rfl) (hb hby d41_24) (by decide) (by decide) ?_
  intro T5 h5 v5 L5 X5 e5 q5
  obtain ⟨rfl, M5, rfl⟩ := q5
  have N5 := Fr.app N1 M5
  show G (T5.setTop (mkF m 27 #[.val (.ref d), .val (.int 0), .val (.int 15), .val (.int 15), .val (.ref b2)] [(.int 15), (.int 0), (.ref b2), (.int 0), (.ref d)]))
  obtain ⟨T6, h6, L6, X6, e6, N6, J6, V6, st6⟩ := cpA X5 hx hZ hown (ow hw 215 rfl) (ow hw 118 rfl) (ow hw 116 rfl) (ow hw 117 rfl) e5 f4 V2 (Or.inl ⟨rfl, rfl⟩) (by decide) (by decide) (by decide) (by decide) (by decide) rfl (Nat.le_of_ble_eq_true rfl) N5 (own_ge O0 (Nat.le_of_eq z2.symm)) (g := (mkF m 27 #[.val (.ref d), .val (.int 0), .val (.int 15), .val (.int 15), .val (.ref b2)] [(.int 15), (.int 0), (.ref b2), (.int 0), (.ref d)])) rfl (by rw [hml]; rfl) rfl (hb hby d41_27) (by decide) (W := 0) (by show 2 * 0 + _ ≤ _; exact Nat.le_of_eq rfl) (by decide)
  refine hG _ _ st6 ?_
  have K6 : Keep h0 h6 [] := K2.trans J6 (allS (Or.inr (Nat.le_trans (Keep.refl h0 []).1 (Nat.le_of_eq z2.symm))) all0)
  have O6 : own_Old Z h6 := O2.keep J6 (allS (own_ge O0 (Nat.le_of_eq z2.symm)) all0)
  have U6 : Arv Z h6 b2 k2 .byte (15 : Int32) [(.int be0), (.int be1), (.int be2), (.int be3), (.int be4), (.int be5), (.int be6), (.int be7), (.int be8), (.int be9), (.int be10), (.int be11), (.int be12), (.int be13), (.int be14)] (.int 0) := V6
  show G (T6.setTop (mkF m 30 #[.val (.ref d), .val (.int 0), .val (.int 15), .val (.int 15), .val (.ref b2)] []))
  refine hG _ _ (fun t_ k_ => XS.aload X6.here hx rfl (hb hby d41_30) rfl rfl k_) ?_
  show G (T6.setTop (mkF m 32 #[.val (.ref d), .val (.int 0), .val (.int 15), .val (.int 15), .val (.ref b2)] [(.ref b2)]))
  exact own_retA hR hret rfl rfl X6 hx (hb hby d41_32) (by decide) (by decide) (by rw [e6]; exact ⟨b2, k2, rfl, N6, K6, (Nat.le_trans (Keep.refl h0 []).1 (Nat.le_of_eq z2.symm)), U6⟩)
set_option maxRecDepth 65536 in
set_option maxHeartbeats 40000000 in
theorem own_cr16_15 (l : Launch) (Z : State) (a0 : Array Value) (hw : ∀ d ∈ tables_1, d.before a0 Z = true) (d : Addr) (kd : ClassId) (be0 : Int32) (be1 : Int32) (be2 : Int32) (be3 : Int32) (be4 : Int32) (be5 : Int32) (be6 : Int32) (be7 : Int32) (be8 : Int32) (be9 : Int32) (be10 : Int32) (be11 : Int32) (be12 : Int32) (be13 : Int32) (be14 : Int32) (be15 : Int32) (h0 : Heap) (O0 : own_Old Z h0) (g0_V : Arv Z h0 d kd .byte (16 : Int32) [(.int be0), (.int be1), (.int be2), (.int be3), (.int be4), (.int be5), (.int be6), (.int be7), (.int be8), (.int be9), (.int be10), (.int be11), (.int be12), (.int be13), (.int be14), (.int be15)] (.int 0)) :
    own_Con l Z (⟨"java/util/Arrays", "copyOfRange", "([BII)[B"⟩ : MethodName) jdk_65_method_132_code 3 (some (.array .byte)) [] ({ frames := 2, cells := 1, slots := 15, locals := 56 } : Room) #[(.ref d), (.int 0), (.int 15)] h0 (fun rv rh rL => ∃ (u : Addr) (ku : ClassId), rv = some (.ref u) ∧ own_Fr Z rL ∧ Keep h0 rh [] ∧ h0.size ≤ u ∧ (Arv Z rh u ku .byte (15 : Int32) [(.int be0), (.int be1), (.int be2), (.int be3), (.int be4), (.int be5), (.int be6), (.int be7), (.int be8), (.int be9), (.int be10), (.int be11), (.int be12), (.int be13), (.int be14)] (.int 0))) := by
  refine own_intro (plainFor_of_name (by first | (simp [plainName, overriddenIn]; done) | decide +kernel)) ?_
  intro p e s m below meth c s₁ G hx hby hml hown hnm hret hZ X0 e0 hG hR
  have N0 := Fr.nil Z.heap.size
  refine own_entry (Ls := #[.val (.ref d), .val (.int 0), .val (.int 15)]) (by first | (simp [entryFrame, mkF, argsToLocals, Value.category]; done) | rfl) ?_
  show G (s₁.setTop (mkF m 0 #[.val (.ref d), .val (.int 0), .val (.int 15)] []))
  refine hG _ _ (fun t_ k_ => XS.iloadN X0.here hx rfl (hb hby d29_0) rfl k_) ?_
  show G (s₁.setTop (mkF m 1 #[.val (.ref d), .val (.int 0), .val (.int 15)] [(.int 0)]))
  refine hG _ _ (fun t_ k_ => XS.ifNo X0.here hx rfl (hb hby d29_1) rfl ((if0 _ _).trans (teq (by decide)).2) k_) ?_
  show G (s₁.setTop (mkF m 4 #[.val (.ref d), .val (.int 0), .val (.int 15)] []))
  refine hG _ _ (fun t_ k_ => XS.iloadN X0.here hx rfl (hb hby d29_4) rfl k_) ?_
  refine hG _ _ (fun t_ k_ => XS.aloadN X0.here hx rfl (hb hby d29_5) rfl rfl k_) ?_
  obtain ⟨c1, Ar1, -, S1, M1, -, -⟩ := id g0_V
  refine hG _ _ (X0.arraylength hx (by rw [e0]; exact Ar1.1) (State.isArrayOf_alike hZ.alike Ar1.2.1) (g := (mkF m 6 #[.val (.ref d), .val (.int 0), .val (.int 15)] [(.ref d), (.int 15)])) rfl rfl (hb hby d29_6)) ?_
  rw [len_of S1 M1]
  show G (s₁.setTop (mkF m 7 #[.val (.ref d), .val (.int 0), .val (.int 15)] [(.int 16), (.int 15)]))
  refine hG _ _ (fun t_ k_ => XS.icmpNo X0.here hx rfl (hb hby d29_7) rfl (feq (by decide)).1 k_) ?_
  show G (s₁.setTop (mkF m 10 #[.val (.ref d), .val (.int 0), .val (.int 15)] []))
  refine hG _ _ (fun t_ k_ => XS.aloadN X0.here hx rfl (hb hby d29_10) rfl rfl k_) ?_
  refine hG _ _ (fun t_ k_ => XS.iloadN X0.here hx rfl (hb hby d29_11) rfl k_) ?_
  refine hG _ _ (fun t_ k_ => XS.iloadN X0.here hx rfl (hb hby d29_12) rfl k_) ?_
  show G (s₁.setTop (mkF m 13 #[.val (.ref d), .val (.int 0), .val (.int 15)] [(.int 15), (.int 0), (.ref d)]))
  refine own_callS X0 hx hZ hG hown (ow hw 216 rfl) (ow hw 217 rfl) (ow hw 151 rfl) (ow hw 218 rfl) (by decide) 0 (own_crb16_15 l Z a0 hw d kd be0 be1 be2 be3 be4 be5 be6 be7 be8 be9 be10 be11 be12 be13 be14 be15 h0 O0 g0_V) (by decide) (by decide) e0 (by rw [hml]; rfl) (lenOf own_pd24 rfl) (argsL := [(.ref d), (.int 0), (.int 15)]) (rest := []) rfl rfl (Nat.le_of_eq rfl) (hb hby d29_13) (by decide) (by decide) ?_
  intro T2 h2 v2 L2 X2 e2 q2
  obtain ⟨u_2, ku_2, rfl, M2, J2, y2_0, r2_0⟩ := q2
  have N2 := Fr.app N0 M2
  have K2 : Keep h0 h2 [] := (Keep.refl h0 []).trans J2 all0
  have O2 : own_Old Z h2 := O0.keep J2 all0
  show G (T2.setTop (mkF m 16 #[.val (.ref d), .val (.int 0), .val (.int 15)] [(.ref u_2)]))
  exact own_retA hR hret rfl rfl X2 hx (hb hby d29_16) (by decide) (by decide) (by rw [e2]; exact ⟨u_2, ku_2, rfl, N2, K2, (Nat.le_trans (Keep.refl h0 []).1 y2_0), r2_0⟩)
theorem own_pd25 : parseMethodDescriptor "(Ljava/lang/AbstractStringBuilder;Ljava/lang/Void;)V" = some ⟨[(.object "java/lang/AbstractStringBuilder"), (.object "java/lang/Void")], none⟩ := by decide +kernel
set_option maxRecDepth 65536 in
set_option maxHeartbeats 40000000 in
theorem own_sin16_15 (l : Launch) (Z : State) (a0 : Array Value) (hw : ∀ d ∈ tables_1, d.before a0 Z = true) (a : Addr) (q : Addr) (d : Addr) (kd : ClassId) (be0 : Int32) (be1 : Int32) (be2 : Int32) (be3 : Int32) (be4 : Int32) (be5 : Int32) (be6 : Int32) (be7 : Int32) (be8 : Int32) (be9 : Int32) (be10 : Int32) (be11 : Int32) (be12 : Int32) (be13 : Int32) (be14 : Int32) (be15 : Int32) (cpt : Int32) (v0 : Value) (v1 : Value) (h0 : Heap) (O0 : own_Old Z h0) (g0_E : Exa Z h0 a "java/lang/String") (g1_F : Fld Z h0 a "java/lang/String" "coder" "B" v0) (g2_F : Fld Z h0 a "java/lang/String" "value" "[B" v1) (g3_G : Z.heap.size ≤ a) (g4_ne_a_q : a ≠ q) (g5_ne_a_d : a ≠ d) (g6_E : Exa Z h0 q "java/lang/StringBuilder") (g7_F : Fld Z h0 q "java/lang/AbstractStringBuilder" "value" "[B" (.ref d)) (g8_F : Fld Z h0 q "java/lang/AbstractStringBuilder" "coder" "B" (.int 0)) (g9_F : Fld Z h0 q "java/lang/AbstractStringBuilder" "count" "I" (.int 15)) (g10_V : Arv Z h0 d kd .byte (16 : Int32) [(.int be0), (.int be1), (.int be2), (.int be3), (.int be4), (.int be5), (.int be6), (.int be7), (.int be8), (.int be9), (.int be10), (.int be11), (.int be12), (.int be13), (.int be14), (.int be15)] (.int 0)) (g11_S : Sta Z Z.heap "java/lang/String" "COMPACT_STRINGS" "Z" (.int cpt)) (g12_hcpt : ¬ (cpt = (0 : Int32))) :
    own_Con l Z (⟨"java/lang/String", "<init>", "(Ljava/lang/AbstractStringBuilder;Ljava/lang/Void;)V"⟩ : MethodName) jdk_42_method_150_code 5 none [] ({ frames := 3, cells := 1, slots := 15, locals := 71 } : Room) #[(.ref a), (.ref q), .null] h0 (fun rv rh rL => ∃ (u : Addr) (ku : ClassId), rv = none ∧ own_Fr Z rL ∧ Keep h0 rh [a] ∧ h0.size ≤ u ∧ (Exa Z rh a "java/lang/String") ∧ (Fld Z rh a "java/lang/String" "coder" "B" (.int 0)) ∧ (Fld Z rh a "java/lang/String" "value" "[B" (.ref u)) ∧ (Arv Z rh u ku .byte (15 : Int32) [(.int be0), (.int be1), (.int be2), (.int be3), (.int be4), (.int be5), (.int be6), (.int be7), (.int be8), (.int be9), (.int be10), (.int be11), (.int be12), (.int be13), (.int be14)] (.int 0))) := by
  refine own_intro (plainFor_of_name (by first | (simp [plainName, overriddenIn]; done) | decide +kernel)) ?_
  intro p e s m below meth c s₁ G hx hby hml hown hnm hret hZ X0 e0 hG hR
  have N0 := Fr.nil Z.heap.size
  refine own_entry (Ls := #[.val (.ref a), .val (.ref q), .val .null, .unset, .unset]) (by first | (simp [entryFrame, mkF, argsToLocals, Value.category]; done) | rfl) ?_
  show G (s₁.setTop (mkF m 0 #[.val (.ref a), .val (.ref q), .val .null, .unset, .unset] []))
  refine hG _ _ (fun t_ k_ => XS.aloadN X0.here hx rfl (hb hby d24_0) rfl rfl k_) ?_
  show G (s₁.setTop (mkF m 1 #[.val (.ref a), .val (.ref q), .val .null, .unset, .unset] [(.ref a)]))
  obtain ⟨T1, X1, e1, st1⟩ := initO X0 hx hZ hown (ow hw 20 rfl) (ow hw 21 rfl) (ow hw 22 rfl) e0 (g := (mkF m 1 #[.val (.ref a), .val (.ref q), .val .null, .unset, .unset] [(.ref a)])) rfl (by rw [hml]; rfl) rfl (hb hby d24_1) (by decide) (W := 0) (by show 2 * 0 + _ ≤ _; exact Nat.le_of_eq rfl) (by decide)
  refine hG _ _ st1 ?_
  show G (T1.setTop (mkF m 4 #[.val (.ref a), .val (.ref q), .val .null, .unset, .unset] []))
  refine hG _ _ (fun t_ k_ => XS.aloadN X1.here hx rfl (hb hby d24_4) rfl rfl k_) ?_
  show G (T1.setTop (mkF m 5 #[.val (.ref a), .val (.ref q), .val .null, .unset, .unset] [(.ref q)]))
  refine own_callV (C := "java/lang/StringBuilder") X1 hx hZ hG hown (ow hw 131 rfl) (ow hw 132 rfl) (ow hw 134 rfl) (ow hw 133 rfl) (ow hw 61 rfl) (ow hw 135 rfl) (by decide) 0 (own_getv l Z a0 hw q d h0 O0 g7_F) (by decide) (by decide) e1 g6_E (by rw [hml]; rfl) (lenOf own_pd14 rfl) (argsL := []) (rest := []) rfl rfl (Nat.le_of_eq rfl) (hb hby d24_5) (by decide) (by decide) ?_
  intro T2 h2 v2 L2 X2 e2 q2
  obtain ⟨rfl, M2, rfl⟩ := q2
  have N2 := Fr.app N0 M2
  refine hG _ _ (fun t_ k_ => XS.astoreN X2.here hx rfl (hb hby d24_8) rfl rfl (l' := #[.val (.ref a), .val (.ref q), .val .null, .val (.ref d), .unset]) rfl k_) ?_
  refine hG _ _ (fun t_ k_ => XS.aloadN X2.here hx rfl (hb hby d24_9) rfl rfl k_) ?_
  show G (T2.setTop (mkF m 10 #[.val (.ref a), .val (.ref q), .val .null, .val (.ref d), .unset] [(.ref q)]))
  refine own_callVZ (C := "java/lang/StringBuilder") X2 hx hZ hG hown (ow hw 136 rfl) (ow hw 137 rfl) (ow hw 139 rfl) (ow hw 97 rfl) rfl (ow hw 140 rfl) (ow hw 53 rfl) (ow hw 141 rfl) (by decide) 0 (own_sbl l Z a0 hw q (15 : Int32) h0 O0 g6_E g9_F) (by decide) (by decide) e2 g6_E (by rw [hml]; rfl) (lenOf own_pd12 rfl) (argsL := []) (rest := []) rfl rfl (Nat.le_of_eq rfl) (hb hby d24_10) (by decide) (by decide) ?_
  intro T3 h3 v3 L3 X3 e3 q3
  obtain ⟨rfl, M3, rfl⟩ := q3
  have N3 := Fr.app N2 M3
  refine hG _ _ (fun t_ k_ => XS.istore X3.here hx rfl (hb hby d24_13) rfl (l' := #[.val (.ref a), .val (.ref q), .val .null, .val (.ref d), .val (.int 15)]) rfl k_) ?_
  refine hG _ _ (fun t_ k_ => XS.aloadN X3.here hx rfl (hb hby d24_15) rfl rfl k_) ?_
  show G (T3.setTop (mkF m 16 #[.val (.ref a), .val (.ref q), .val .null, .val (.ref d), .val (.int 15)] [(.ref q)]))
  refine own_callV (C := "java/lang/StringBuilder") X3 hx hZ hG hown (ow hw 144 rfl) (ow hw 145 rfl) (ow hw 147 rfl) (ow hw 146 rfl) (ow hw 61 rfl) (ow hw 148 rfl) (by decide) 0 (own_asbL l Z a0 hw q cpt h0 O0 g8_F g11_S g12_hcpt) (by decide) (by decide) e3 g6_E (by rw [hml]; rfl) (lenOf own_pd15 rfl) (argsL := []) (rest := []) rfl rfl (Nat.le_of_eq rfl) (hb hby d24_16) (by decide) (by decide) ?_
  intro T4 h4 v4 L4 X4 e4 q4
  obtain ⟨rfl, M4, rfl⟩ := q4
  have N4 := Fr.app N3 M4
  show G (T4.setTop (mkF m 19 #[.val (.ref a), .val (.ref q), .val .null, .val (.ref d), .val (.int 15)] [(.int 1)]))
  refine hG _ _ (fun t_ k_ => XS.ifNo X4.here hx rfl (hb hby d24_19) rfl ((if0 _ _).trans (feq (by decide)).1) k_) ?_
  show G (T4.setTop (mkF m 22 #[.val (.ref a), .val (.ref q), .val .null, .val (.ref d), .val (.int 15)] []))
  refine hG _ _ (fun t_ k_ => XS.aloadN X4.here hx rfl (hb hby d24_22) rfl rfl k_) ?_
  refine hG _ _ (fun t_ k_ => XS.iconst X4.here hx rfl (hb hby d24_23) k_) ?_
  obtain ⟨T5, h5, X5, e5, W5, st5⟩ := putFN X4 hx hZ hown (ow hw 25 rfl) Via.refl e4 g1_F g0_E (Or.inr ⟨(ow hw 26 rfl), rfl, hnm⟩) (ow hw 11 rfl) (ty := .byte) (v' := (.int 0)) (by decide) rfl rfl (g := (mkF m 24 #[.val (.ref a), .val (.ref q), .val .null, .val (.ref d), .val (.int 15)] [(.int 0), (.ref a)])) rfl rfl (hb hby d24_24)
  refine hG _ _ st5 ?_
  have K5 : Keep h0 h5 [a] := (Keep.refl h0 [a]).wr W5 (Or.inl (List.mem_of_getElem? (i := 0) rfl))
  have O5 : own_Old Z h5 := O0.wr W5 g3_G
  have N5 := Fr.snoc X5 N4 g3_G
  refine hG _ _ (fun t_ k_ => XS.aloadN X5.here hx rfl (hb hby d24_27) rfl rfl k_) ?_
  refine hG _ _ (fun t_ k_ => XS.aloadN X5.here hx rfl (hb hby d24_28) rfl rfl k_) ?_
  refine hG _ _ (fun t_ k_ => XS.iconst X5.here hx rfl (hb hby d24_29) k_) ?_
  refine hG _ _ (fun t_ k_ => XS.iload X5.here hx rfl (hb hby d24_30) rfl k_) ?_
  show G (T5.setTop (mkF m 32 #[.val (.ref a), .val (.ref q), .val .null, .val (.ref d), .val (.int 15)] [(.int 15), (.int 0), (.ref d), (.ref a)]))
  have f7 := (g10_V.other W5 (Ne.symm g5_ne_a_d))
  refine own_callS X5 hx hZ hG hown (ow hw 149 rfl) (ow hw 150 rfl) (ow hw 151 rfl) (ow hw 152 rfl) (by decide) 1 (own_cr16_15 l Z a0 hw d kd be0 be1 be2 be3 be4 be5 be6 be7 be8 be9 be10 be11 be12 be13 be14 be15 h5 O5 f7) (by decide) (by decide) e5 (by rw [hml]; rfl) (lenOf own_pd24 rfl) (argsL := [(.ref d), (.int 0), (.int 15)]) (rest := [(.ref a)]) rfl rfl (Nat.le_of_eq rfl) (hb hby d24_32) (by decide) (by decide) ?_
  intro T6 h6 v6 L6 X6 e6 q6
  obtain ⟨u_6, ku_6, rfl, M6, J6, y6_0, r6_0⟩ := q6
  have N6 := Fr.app N5 M6
  have K6 : Keep h0 h6 [a] := K5.trans J6 all0
  have O6 : own_Old Z h6 := O5.keep J6 all0
  have f9 := ((g2_F.other W5 (Or.inr (slot_ne (Or.inr (ow hw 24 rfl)) (Or.inr (ow hw 26 rfl)) (by decide) (t := (.array .byte)) (t' := .byte) (by decide) (by decide)))).keep J6 nin0)
  have f10 := ((g0_E.wr W5).keep J6)
  obtain ⟨T8, h8, X8, e8, W8, st8⟩ := putF X6 hx hZ hown (host := "") (Or.inl (ow hw 23 rfl)) Via.refl e6 f9 f10 (Or.inr ⟨(ow hw 24 rfl), rfl, hnm⟩) (ow hw 11 rfl) (ty := (.array .byte)) (by decide) rfl rfl (g := (mkF m 35 #[.val (.ref a), .val (.ref q), .val .null, .val (.ref d), .val (.int 15)] [(.ref u_6), (.ref a)])) rfl rfl (hb hby d24_35)
  refine hG _ _ st8 ?_
  have K8 : Keep h0 h8 [a] := K6.wr W8 (Or.inl (List.mem_of_getElem? (i := 0) rfl))
  have O8 : own_Old Z h8 := O6.wr W8 g3_G
  have N8 := Fr.snoc X8 N6 g3_G
  refine hG _ _ (fun t_ k_ => XS.goto X8.here hx rfl (pc0 := 38) (pc' := 97) rfl (hb hby d24_38) (by decide) (by decide) k_) ?_
  show G (T8.setTop (mkF m 97 #[.val (.ref a), .val (.ref q), .val .null, .val (.ref d), .val (.int 15)] []))
  have f11 := (f10.wr W8)
  have f12 := (((g1_F.same W5).keep J6 nin0).other W8 (Or.inr (slot_ne (Or.inr (ow hw 26 rfl)) (Or.inr (ow hw 24 rfl)) (by decide) (t := .byte) (t' := (.array .byte)) (by decide) (by decide))))
  have f13 := (r6_0.other W8 (Ne.symm (own_ne (g1_F.same W5).lt y6_0)))
  exact own_retV hR hret X8 hx (hb hby d24_97) (by decide) (by decide) (by rw [e8]; exact ⟨u_6, ku_6, rfl, N8, K8, (Nat.le_trans K5.1 y6_0), f11, f12, (f9.same W8), f13⟩)
theorem own_pd26 : parseMethodDescriptor "(Ljava/lang/StringBuilder;)V" = some ⟨[(.object "java/lang/StringBuilder")], none⟩ := by decide +kernel
set_option maxRecDepth 65536 in
set_option maxHeartbeats 40000000 in
theorem own_sis16_15 (l : Launch) (Z : State) (a0 : Array Value) (hw : ∀ d ∈ tables_1, d.before a0 Z = true) (a : Addr) (q : Addr) (d : Addr) (kd : ClassId) (be0 : Int32) (be1 : Int32) (be2 : Int32) (be3 : Int32) (be4 : Int32) (be5 : Int32) (be6 : Int32) (be7 : Int32) (be8 : Int32) (be9 : Int32) (be10 : Int32) (be11 : Int32) (be12 : Int32) (be13 : Int32) (be14 : Int32) (be15 : Int32) (cpt : Int32) (v0 : Value) (v1 : Value) (h0 : Heap) (O0 : own_Old Z h0) (g0_E : Exa Z h0 a "java/lang/String") (g1_F : Fld Z h0 a "java/lang/String" "coder" "B" v0) (g2_F : Fld Z h0 a "java/lang/String" "value" "[B" v1) (g3_G : Z.heap.size ≤ a) (g4_ne_a_q : a ≠ q) (g5_ne_a_d : a ≠ d) (g6_E : Exa Z h0 q "java/lang/StringBuilder") (g7_F : Fld Z h0 q "java/lang/AbstractStringBuilder" "value" "[B" (.ref d)) (g8_F : Fld Z h0 q "java/lang/AbstractStringBuilder" "coder" "B" (.int 0)) (g9_F : Fld Z h0 q "java/lang/AbstractStringBuilder" "count" "I" (.int 15)) (g10_V : Arv Z h0 d kd .byte (16 : Int32) [(.int be0), (.int be1), (.int be2), (.int be3), (.int be4), (.int be5), (.int be6), (.int be7), (.int be8), (.int be9), (.int be10), (.int be11), (.int be12), (.int be13), (.int be14), (.int be15)] (.int 0)) (g11_S : Sta Z Z.heap "java/lang/String" "COMPACT_STRINGS" "Z" (.int cpt)) (g12_hcpt : ¬ (cpt = (0 : Int32))) :
    own_Con l Z (⟨"java/lang/String", "<init>", "(Ljava/lang/StringBuilder;)V"⟩ : MethodName) jdk_42_method_53_code 2 none [] ({ frames := 4, cells := 1, slots := 15, locals := 87 } : Room) #[(.ref a), (.ref q)] h0 (fun rv rh rL => ∃ (u : Addr) (ku : ClassId), rv = none ∧ own_Fr Z rL ∧ Keep h0 rh [a] ∧ h0.size ≤ u ∧ (Exa Z rh a "java/lang/String") ∧ (Fld Z rh a "java/lang/String" "coder" "B" (.int 0)) ∧ (Fld Z rh a "java/lang/String" "value" "[B" (.ref u)) ∧ (Arv Z rh u ku .byte (15 : Int32) [(.int be0), (.int be1), (.int be2), (.int be3), (.int be4), (.int be5), (.int be6), (.int be7), (.int be8), (.int be9), (.int be10), (.int be11), (.int be12), (.int be13), (.int be14)] (.int 0))) := by
  refine own_intro (plainFor_of_name (by first | (simp [plainName, overriddenIn]; done) | decide +kernel)) ?_
  intro p e s m below meth c s₁ G hx hby hml hown hnm hret hZ X0 e0 hG hR
  have N0 := Fr.nil Z.heap.size
  refine own_entry (Ls := #[.val (.ref a), .val (.ref q)]) (by first | (simp [entryFrame, mkF, argsToLocals, Value.category]; done) | rfl) ?_
  show G (s₁.setTop (mkF m 0 #[.val (.ref a), .val (.ref q)] []))
  refine hG _ _ (fun t_ k_ => XS.aloadN X0.here hx rfl (hb hby d23_0) rfl rfl k_) ?_
  refine hG _ _ (fun t_ k_ => XS.aloadN X0.here hx rfl (hb hby d23_1) rfl rfl k_) ?_
  refine hG _ _ (fun t_ k_ => XS.aconstNull X0.here hx rfl (hb hby d23_2) k_) ?_
  show G (s₁.setTop (mkF m 3 #[.val (.ref a), .val (.ref q)] [.null, (.ref q), (.ref a)]))
  refine own_callI X0 hx hZ hG hown rfl (ow hw 128 rfl) (ow hw 129 rfl) (ow hw 3 rfl) (ow hw 130 rfl) (by decide) 0 (own_sin16_15 l Z a0 hw a q d kd be0 be1 be2 be3 be4 be5 be6 be7 be8 be9 be10 be11 be12 be13 be14 be15 cpt v0 v1 h0 O0 g0_E g1_F g2_F g3_G g4_ne_a_q g5_ne_a_d g6_E g7_F g8_F g9_F g10_V g11_S g12_hcpt) (by decide) (by decide) e0 (by rw [hml]; rfl) (lenOf own_pd25 rfl) (argsL := [(.ref q), .null]) (rest := []) rfl rfl (Nat.le_of_eq rfl) (hb hby d23_3) (by decide) (by decide) ?_
  intro T1 h1 v1 L1 X1 e1 q1
  obtain ⟨u_1, ku_1, rfl, M1, J1, y1_0, r1_0, r1_1, r1_2, r1_3⟩ := q1
  have N1 := Fr.app N0 M1
  have K1 : Keep h0 h1 [a] := (Keep.refl h0 [a]).trans J1 (allS (Or.inl (List.mem_of_getElem? (i := 0) rfl)) all0)
  have O1 : own_Old Z h1 := O0.keep J1 (allS g3_G all0)
  show G (T1.setTop (mkF m 6 #[.val (.ref a), .val (.ref q)] []))
  exact own_retV hR hret X1 hx (hb hby d23_6) (by decide) (by decide) (by rw [e1]; exact ⟨u_1, ku_1, rfl, N1, K1, (Nat.le_trans (Keep.refl h0 [a]).1 y1_0), r1_0, r1_1, r1_2, r1_3⟩)
theorem own_pd27 : parseMethodDescriptor "()Ljava/lang/String;" = some ⟨[], some (.object "java/lang/String")⟩ := by decide +kernel
set_option maxRecDepth 65536 in
set_option maxHeartbeats 40000000 in
theorem own_sbt16_15 (l : Launch) (Z : State) (a0 : Array Value) (hw : ∀ d ∈ tables_1, d.before a0 Z = true) (q : Addr) (d : Addr) (kd : ClassId) (be0 : Int32) (be1 : Int32) (be2 : Int32) (be3 : Int32) (be4 : Int32) (be5 : Int32) (be6 : Int32) (be7 : Int32) (be8 : Int32) (be9 : Int32) (be10 : Int32) (be11 : Int32) (be12 : Int32) (be13 : Int32) (be14 : Int32) (be15 : Int32) (cpt : Int32) (h0 : Heap) (O0 : own_Old Z h0) (g0_E : Exa Z h0 q "java/lang/StringBuilder") (g1_F : Fld Z h0 q "java/lang/AbstractStringBuilder" "value" "[B" (.ref d)) (g2_F : Fld Z h0 q "java/lang/AbstractStringBuilder" "coder" "B" (.int 0)) (g3_F : Fld Z h0 q "java/lang/AbstractStringBuilder" "count" "I" (.int 15)) (g4_V : Arv Z h0 d kd .byte (16 : Int32) [(.int be0), (.int be1), (.int be2), (.int be3), (.int be4), (.int be5), (.int be6), (.int be7), (.int be8), (.int be9), (.int be10), (.int be11), (.int be12), (.int be13), (.int be14), (.int be15)] (.int 0)) (g5_S : Sta Z Z.heap "java/lang/String" "COMPACT_STRINGS" "Z" (.int cpt)) (g6_hcpt : ¬ (cpt = (0 : Int32))) :
    own_Con l Z (⟨"java/lang/StringBuilder", "toString", "()Ljava/lang/String;"⟩ : MethodName) jdk_67_method_42_code 1 (some (.object "java/lang/String")) [] ({ frames := 5, cells := 2, slots := 19, locals := 101 } : Room) #[(.ref q)] h0 (fun rv rh rL => ∃ (a : Addr) (u : Addr) (ku : ClassId), rv = some (.ref a) ∧ own_Fr Z rL ∧ Keep h0 rh [] ∧ h0.size ≤ a ∧ h0.size ≤ u ∧ (Exa Z rh a "java/lang/String") ∧ (Fld Z rh a "java/lang/String" "coder" "B" (.int 0)) ∧ (Fld Z rh a "java/lang/String" "value" "[B" (.ref u)) ∧ (Arv Z rh u ku .byte (15 : Int32) [(.int be0), (.int be1), (.int be2), (.int be3), (.int be4), (.int be5), (.int be6), (.int be7), (.int be8), (.int be9), (.int be10), (.int be11), (.int be12), (.int be13), (.int be14)] (.int 0))) := by
  refine own_intro (plainFor_of_name (by first | (simp [plainName, overriddenIn]; done) | decide +kernel)) ?_
  intro p e s m below meth c s₁ G hx hby hml hown hnm hret hZ X0 e0 hG hR
  have N0 := Fr.nil Z.heap.size
  refine own_entry (Ls := #[.val (.ref q)]) (by first | (simp [entryFrame, mkF, argsToLocals, Value.category]; done) | rfl) ?_
  show G (s₁.setTop (mkF m 0 #[.val (.ref q)] []))
  obtain ⟨T1, h1, X1, e1, E1, A1, D1, -, st1⟩ := newO X0 hx hZ hown (ow hw 124 rfl) (ow hw 11 rfl) (ow hw 3 rfl) e0 (g := (mkF m 0 #[.val (.ref q)] [])) rfl (hb hby d22_0) (by decide) (by decide)
  obtain ⟨b1, z1⟩ : ∃ z, z = h0.size := ⟨_, rfl⟩
  rw [← z1] at A1 D1 st1
  refine hG _ _ st1 ?_
  have K1 : Keep h0 h1 [] := (Keep.refl h0 []).ext E1
  have O1 : own_Old Z h1 := O0.ext E1
  refine hG _ _ (fun t_ k_ => XS.dup X1.here hx rfl (hb hby d22_3) rfl rfl k_) ?_
  refine hG _ _ (fun t_ k_ => XS.aloadN X1.here hx rfl (hb hby d22_4) rfl rfl k_) ?_
  show G (T1.setTop (mkF m 5 #[.val (.ref q)] [(.ref q), (.ref b1), (.ref b1)]))
  have f3 := (g0_E.ext E1)
  have f4 := (g1_F.ext E1)
  have f5 := (g2_F.ext E1)
  have f6 := (g3_F.ext E1)
  have f7 := (g4_V.ext E1)
  refine own_callI X1 hx hZ hG hown rfl (ow hw 125 rfl) (ow hw 126 rfl) (ow hw 3 rfl) (ow hw 127 rfl) (by decide) 1 (own_sis16_15 l Z a0 hw b1 q d kd be0 be1 be2 be3 be4 be5 be6 be7 be8 be9 be10 be11 be12 be13 be14 be15 cpt (.int 0) .null h1 O1 A1 (D1 (Or.inr (ow hw 26 rfl)) (ty := .byte) (by decide)) (D1 (Or.inr (ow hw 24 rfl)) (ty := (.array .byte)) (by decide)) (own_ge O0 (Nat.le_of_eq z1.symm)) (Ne.symm (own_ne g0_E.lt (Nat.le_of_eq z1.symm))) (Ne.symm (own_ne g4_V.lt (Nat.le_of_eq z1.symm))) f3 f4 f5 f6 f7 g5_S g6_hcpt) (by decide) (by decide) e1 (by rw [hml]; rfl) (lenOf own_pd26 rfl) (argsL := [(.ref q)]) (rest := [(.ref b1)]) rfl rfl (Nat.le_of_eq rfl) (hb hby d22_5) (by decide) (by decide) ?_
  intro T2 h2 v2 L2 X2 e2 q2
  obtain ⟨u_2, ku_2, rfl, M2, J2, y2_0, r2_0, r2_1, r2_2, r2_3⟩ := q2
  have N2 := Fr.app N0 M2
  have K2 : Keep h0 h2 [] := K1.trans J2 (allS (Or.inr (Nat.le_trans (Keep.refl h0 []).1 (Nat.le_of_eq z1.symm))) all0)
  have O2 : own_Old Z h2 := O1.keep J2 (allS (own_ge O0 (Nat.le_of_eq z1.symm)) all0)
  show G (T2.setTop (mkF m 8 #[.val (.ref q)] [(.ref b1)]))
  exact own_retA hR hret rfl rfl X2 hx (hb hby d22_8) (by decide) (by decide) (by rw [e2]; exact ⟨b1, u_2, ku_2, rfl, N2, K2, (Nat.le_trans (Keep.refl h0 []).1 (Nat.le_of_eq z1.symm)), (Nat.le_trans K1.1 y2_0), r2_0, r2_1, r2_2, r2_3⟩)
set_option maxRecDepth 65536 in
set_option maxHeartbeats 40000000 in
theorem own_ens15_1 (l : Launch) (Z : State) (a0 : Array Value) (hw : ∀ d ∈ tables_1, d.before a0 Z = true) (q : Addr) (d : Addr) (kd : ClassId) (be0 : Int32) (be1 : Int32) (be2 : Int32) (be3 : Int32) (be4 : Int32) (be5 : Int32) (be6 : Int32) (be7 : Int32) (be8 : Int32) (be9 : Int32) (be10 : Int32) (be11 : Int32) (be12 : Int32) (be13 : Int32) (be14 : Int32) (be15 : Int32) (h0 : Heap) (O0 : own_Old Z h0) (g0_F : Fld Z h0 q "java/lang/AbstractStringBuilder" "value" "[B" (.ref d)) (g1_F : Fld Z h0 q "java/lang/AbstractStringBuilder" "coder" "B" (.int 0)) (g2_V : Arv Z h0 d kd .byte (16 : Int32) [(.int be0), (.int be1), (.int be2), (.int be3), (.int be4), (.int be5), (.int be6), (.int be7), (.int be8), (.int be9), (.int be10), (.int be11), (.int be12), (.int be13), (.int be14), (.int be15)] (.int 0)) :
    own_Con l Z (⟨"java/lang/AbstractStringBuilder", "ensureCapacityInternal", "(I)V"⟩ : MethodName) jdk_68_method_9_code 3 none [] ({ frames := 0, cells := 0, slots := 0, locals := 0 } : Room) #[(.ref q), (.int 16)] h0 (fun rv rh rL => rv = none ∧ own_Fr Z rL ∧ h0 = rh) := by
  refine own_intro (plainFor_of_name (by first | (simp [plainName, overriddenIn]; done) | decide +kernel)) ?_
  intro p e s m below meth c s₁ G hx hby hml hown hnm hret hZ X0 e0 hG hR
  have N0 := Fr.nil Z.heap.size
  refine own_entry (Ls := #[.val (.ref q), .val (.int 16), .unset]) (by first | (simp [entryFrame, mkF, argsToLocals, Value.category]; done) | rfl) ?_
  show G (s₁.setTop (mkF m 0 #[.val (.ref q), .val (.int 16), .unset] []))
  refine hG _ _ (fun t_ k_ => XS.aloadN X0.here hx rfl (hb hby d18_0) rfl rfl k_) ?_
  obtain ⟨T1, X1, e1, st1⟩ := getF X0 hx hZ hown (host := "") (Or.inl (ow hw 65 rfl)) Via.refl e0 g0_F (g := (mkF m 1 #[.val (.ref q), .val (.int 16), .unset] [(.ref q)])) rfl rfl (hb hby d18_1)
  refine hG _ _ st1 ?_
  obtain ⟨c2, Ar2, -, S2, M2, -, -⟩ := id g2_V
  refine hG _ _ (X1.arraylength hx (by rw [e1]; exact Ar2.1) (State.isArrayOf_alike hZ.alike Ar2.2.1) (g := (mkF m 4 #[.val (.ref q), .val (.int 16), .unset] [(.ref d)])) rfl rfl (hb hby d18_4)) ?_
  rw [len_of S2 M2]
  refine hG _ _ (fun t_ k_ => XS.aloadN X1.here hx rfl (hb hby d18_5) rfl rfl k_) ?_
  obtain ⟨T3, X3, e3, st3⟩ := getF X1 hx hZ hown (host := "") (Or.inl (ow hw 67 rfl)) Via.refl e1 g1_F (g := (mkF m 6 #[.val (.ref q), .val (.int 16), .unset] [(.ref q), (.int 16)])) rfl rfl (hb hby d18_6)
  refine hG _ _ st3 ?_
  refine hG _ _ (fun t_ k_ => XS.ishr X3.here hx rfl (hb hby d18_9) rfl k_) ?_
  show G (T3.setTop (mkF m 10 #[.val (.ref q), .val (.int 16), .unset] [(.int ((16 : Int32) >>> ((0 : Int32) &&& 31)))]))
  rw [show ((16 : Int32) >>> ((0 : Int32) &&& 31)) = (16 : Int32) from by decide]
  show G (T3.setTop (mkF m 10 #[.val (.ref q), .val (.int 16), .unset] [(.int 16)]))
  refine hG _ _ (fun t_ k_ => XS.istoreN X3.here hx rfl (hb hby d18_10) rfl (l' := #[.val (.ref q), .val (.int 16), .val (.int 16)]) rfl k_) ?_
  refine hG _ _ (fun t_ k_ => XS.iloadN X3.here hx rfl (hb hby d18_11) rfl k_) ?_
  refine hG _ _ (fun t_ k_ => XS.iloadN X3.here hx rfl (hb hby d18_12) rfl k_) ?_
  refine hG _ _ (fun t_ k_ => XS.isub X3.here hx rfl (hb hby d18_13) rfl k_) ?_
  show G (T3.setTop (mkF m 14 #[.val (.ref q), .val (.int 16), .val (.int 16)] [(.int ((16 : Int32) - (16 : Int32)))]))
  rw [show ((16 : Int32) - (16 : Int32)) = (0 : Int32) from by decide]
  show G (T3.setTop (mkF m 14 #[.val (.ref q), .val (.int 16), .val (.int 16)] [(.int 0)]))
  refine hG _ _ (fun t_ k_ => XS.ifYes X3.here hx rfl (pc0 := 14) (pc' := 38) rfl (hb hby d18_14) rfl ((if0 _ _).trans (flt (by decide)).2.2.2) (by decide) (by decide) k_) ?_
  show G (T3.setTop (mkF m 38 #[.val (.ref q), .val (.int 16), .val (.int 16)] []))
  exact own_retV hR hret X3 hx (hb hby d18_38) (by decide) (by decide) (by rw [e3]; exact ⟨rfl, N0, rfl⟩)
set_option maxRecDepth 65536 in
set_option maxHeartbeats 40000000 in
theorem own_gb15_1 (l : Launch) (Z : State) (a0 : Array Value) (hw : ∀ d ∈ tables_1, d.before a0 Z = true) (a : Addr) (t : Addr) (kt : ClassId) (bs0 : Int32) (d : Addr) (kd : ClassId) (be0 : Int32) (be1 : Int32) (be2 : Int32) (be3 : Int32) (be4 : Int32) (be5 : Int32) (be6 : Int32) (be7 : Int32) (be8 : Int32) (be9 : Int32) (be10 : Int32) (be11 : Int32) (be12 : Int32) (be13 : Int32) (be14 : Int32) (be15 : Int32) (cpt : Int32) (h0 : Heap) (O0 : own_Old Z h0) (g0_E : Exa Z h0 a "java/lang/String") (g1_F : Fld Z h0 a "java/lang/String" "coder" "B" (.int 0)) (g2_F : Fld Z h0 a "java/lang/String" "value" "[B" (.ref t)) (g3_V : Arv Z h0 t kt .byte (1 : Int32) [(.int bs0)] (.int 0)) (g4_S : Sta Z Z.heap "java/lang/String" "COMPACT_STRINGS" "Z" (.int cpt)) (g5_hcpt : ¬ (cpt = (0 : Int32))) (g6_V : Arv Z h0 d kd .byte (16 : Int32) [(.int be0), (.int be1), (.int be2), (.int be3), (.int be4), (.int be5), (.int be6), (.int be7), (.int be8), (.int be9), (.int be10), (.int be11), (.int be12), (.int be13), (.int be14), (.int be15)] (.int 0)) (g7_G : Z.heap.size ≤ d) (g8_ne_a_d : a ≠ d) (g9_ne_t_d : t ≠ d) :
    own_Con l Z (⟨"java/lang/String", "getBytes", "([BIB)V"⟩ : MethodName) jdk_42_method_147_code 4 none [] ({ frames := 1, cells := 0, slots := 0, locals := 40 } : Room) #[(.ref a), (.ref d), (.int 15), (.int 0)] h0 (fun rv rh rL => rv = none ∧ own_Fr Z rL ∧ Keep h0 rh [d] ∧ (Arv Z rh d kd .byte (16 : Int32) [(.int be0), (.int be1), (.int be2), (.int be3), (.int be4), (.int be5), (.int be6), (.int be7), (.int be8), (.int be9), (.int be10), (.int be11), (.int be12), (.int be13), (.int be14), (.int bs0)] (.int 0))) := by
  refine own_intro (plainFor_of_name (by first | (simp [plainName, overriddenIn]; done) | decide +kernel)) ?_
  intro p e s m below meth c s₁ G hx hby hml hown hnm hret hZ X0 e0 hG hR
  have N0 := Fr.nil Z.heap.size
  refine own_entry (Ls := #[.val (.ref a), .val (.ref d), .val (.int 15), .val (.int 0)]) (by first | (simp [entryFrame, mkF, argsToLocals, Value.category]; done) | rfl) ?_
  show G (s₁.setTop (mkF m 0 #[.val (.ref a), .val (.ref d), .val (.int 15), .val (.int 0)] []))
  refine hG _ _ (fun t_ k_ => XS.aloadN X0.here hx rfl (hb hby d21_0) rfl rfl k_) ?_
  show G (s₁.setTop (mkF m 1 #[.val (.ref a), .val (.ref d), .val (.int 15), .val (.int 0)] [(.ref a)]))
  refine own_callV (C := "java/lang/String") X0 hx hZ hG hown (ow hw 87 rfl) (ow hw 88 rfl) (ow hw 90 rfl) (ow hw 89 rfl) (ow hw 3 rfl) (ow hw 91 rfl) (by decide) 0 (own_cod0 l Z a0 hw a cpt h0 O0 g1_F g4_S g5_hcpt) (by decide) (by decide) e0 g0_E (by rw [hml]; rfl) (lenOf own_pd11 rfl) (argsL := []) (rest := []) rfl rfl (Nat.le_of_eq rfl) (hb hby d21_1) (by decide) (by decide) ?_
  intro T1 h1 v1 L1 X1 e1 q1
  obtain ⟨rfl, M1, rfl⟩ := q1
  have N1 := Fr.app N0 M1
  refine hG _ _ (fun t_ k_ => XS.iloadN X1.here hx rfl (hb hby d21_4) rfl k_) ?_
  show G (T1.setTop (mkF m 5 #[.val (.ref a), .val (.ref d), .val (.int 15), .val (.int 0)] [(.int 0), (.int 0)]))
  refine hG _ _ (fun t_ k_ => XS.icmpNo X1.here hx rfl (hb hby d21_5) rfl (teq (by decide)).2 k_) ?_
  show G (T1.setTop (mkF m 8 #[.val (.ref a), .val (.ref d), .val (.int 15), .val (.int 0)] []))
  refine hG _ _ (fun t_ k_ => XS.aloadN X1.here hx rfl (hb hby d21_8) rfl rfl k_) ?_
  obtain ⟨T2, X2, e2, st2⟩ := getF X1 hx hZ hown (host := "") (Or.inl (ow hw 23 rfl)) Via.refl e1 g2_F (g := (mkF m 9 #[.val (.ref a), .val (.ref d), .val (.int 15), .val (.int 0)] [(.ref a)])) rfl rfl (hb hby d21_9)
  refine hG _ _ st2 ?_
  refine hG _ _ (fun t_ k_ => XS.iconst X2.here hx rfl (hb hby d21_12) k_) ?_
  refine hG _ _ (fun t_ k_ => XS.aloadN X2.here hx rfl (hb hby d21_13) rfl rfl k_) ?_
  refine hG _ _ (fun t_ k_ => XS.iloadN X2.here hx rfl (hb hby d21_14) rfl k_) ?_
  refine hG _ _ (fun t_ k_ => XS.iloadN X2.here hx rfl (hb hby d21_15) rfl k_) ?_
  refine hG _ _ (fun t_ k_ => XS.ishl X2.here hx rfl (hb hby d21_16) rfl k_) ?_
  show G (T2.setTop (mkF m 17 #[.val (.ref a), .val (.ref d), .val (.int 15), .val (.int 0)] [(.int ((15 : Int32) <<< ((0 : Int32) &&& 31))), (.ref d), (.int 0), (.ref t)]))
  rw [show ((15 : Int32) <<< ((0 : Int32) &&& 31)) = (15 : Int32) from by decide]
  show G (T2.setTop (mkF m 17 #[.val (.ref a), .val (.ref d), .val (.int 15), .val (.int 0)] [(.int 15), (.ref d), (.int 0), (.ref t)]))
  refine hG _ _ (fun t_ k_ => XS.aloadN X2.here hx rfl (hb hby d21_17) rfl rfl k_) ?_
  obtain ⟨T3, X3, e3, st3⟩ := getF X2 hx hZ hown (host := "") (Or.inl (ow hw 23 rfl)) Via.refl e2 g2_F (g := (mkF m 18 #[.val (.ref a), .val (.ref d), .val (.int 15), .val (.int 0)] [(.ref a), (.int 15), (.ref d), (.int 0), (.ref t)])) rfl rfl (hb hby d21_18)
  refine hG _ _ st3 ?_
  obtain ⟨c4, Ar4, -, S4, M4, -, -⟩ := id g3_V
  refine hG _ _ (X3.arraylength hx (by rw [e3]; exact Ar4.1) (State.isArrayOf_alike hZ.alike Ar4.2.1) (g := (mkF m 21 #[.val (.ref a), .val (.ref d), .val (.int 15), .val (.int 0)] [(.ref t), (.int 15), (.ref d), (.int 0), (.ref t)])) rfl rfl (hb hby d21_21)) ?_
  rw [len_of S4 M4]
  show G (T3.setTop (mkF m 22 #[.val (.ref a), .val (.ref d), .val (.int 15), .val (.int 0)] [(.int 1), (.int 15), (.ref d), (.int 0), (.ref t)]))
  obtain ⟨T5, h5, L5, X5, e5, N5, J5, V5, st5⟩ := cpA X3 hx hZ hown (ow hw 115 rfl) (ow hw 118 rfl) (ow hw 116 rfl) (ow hw 117 rfl) e3 g3_V g6_V (Or.inl ⟨rfl, rfl⟩) (by decide) (by decide) (by decide) (by decide) (by decide) rfl (Nat.le_of_ble_eq_true rfl) N1 g7_G (g := (mkF m 22 #[.val (.ref a), .val (.ref d), .val (.int 15), .val (.int 0)] [(.int 1), (.int 15), (.ref d), (.int 0), (.ref t)])) rfl (by rw [hml]; rfl) rfl (hb hby d21_22) (by decide) (W := 0) (by show 2 * 0 + _ ≤ _; exact Nat.le_of_eq rfl) (by decide)
  refine hG _ _ st5 ?_
  have K5 : Keep h0 h5 [d] := (Keep.refl h0 [d]).trans J5 (allS (Or.inl (List.mem_of_getElem? (i := 0) rfl)) all0)
  have O5 : own_Old Z h5 := O0.keep J5 (allS g7_G all0)
  have U5 : Arv Z h5 d kd .byte (16 : Int32) [(.int be0), (.int be1), (.int be2), (.int be3), (.int be4), (.int be5), (.int be6), (.int be7), (.int be8), (.int be9), (.int be10), (.int be11), (.int be12), (.int be13), (.int be14), (.int bs0)] (.int 0) := V5
  show G (T5.setTop (mkF m 25 #[.val (.ref a), .val (.ref d), .val (.int 15), .val (.int 0)] []))
  refine hG _ _ (fun t_ k_ => XS.goto X5.here hx rfl (pc0 := 25) (pc' := 43) rfl (hb hby d21_25) (by decide) (by decide) k_) ?_
  show G (T5.setTop (mkF m 43 #[.val (.ref a), .val (.ref d), .val (.int 15), .val (.int 0)] []))
  exact own_retV hR hret X5 hx (hb hby d21_43) (by decide) (by decide) (by rw [e5]; exact ⟨rfl, N5, K5, U5⟩)
set_option maxRecDepth 65536 in
set_option maxHeartbeats 40000000 in
theorem own_psa15_1 (l : Launch) (Z : State) (a0 : Array Value) (hw : ∀ d ∈ tables_1, d.before a0 Z = true) (a : Addr) (t : Addr) (kt : ClassId) (bs0 : Int32) (q : Addr) (d : Addr) (kd : ClassId) (be0 : Int32) (be1 : Int32) (be2 : Int32) (be3 : Int32) (be4 : Int32) (be5 : Int32) (be6 : Int32) (be7 : Int32) (be8 : Int32) (be9 : Int32) (be10 : Int32) (be11 : Int32) (be12 : Int32) (be13 : Int32) (be14 : Int32) (be15 : Int32) (cpt : Int32) (h0 : Heap) (O0 : own_Old Z h0) (g0_E : Exa Z h0 a "java/lang/String") (g1_F : Fld Z h0 a "java/lang/String" "coder" "B" (.int 0)) (g2_F : Fld Z h0 a "java/lang/String" "value" "[B" (.ref t)) (g3_V : Arv Z h0 t kt .byte (1 : Int32) [(.int bs0)] (.int 0)) (g4_S : Sta Z Z.heap "java/lang/String" "COMPACT_STRINGS" "Z" (.int cpt)) (g5_hcpt : ¬ (cpt = (0 : Int32))) (g6_E : Exa Z h0 q "java/lang/StringBuilder") (g7_F : Fld Z h0 q "java/lang/AbstractStringBuilder" "value" "[B" (.ref d)) (g8_F : Fld Z h0 q "java/lang/AbstractStringBuilder" "coder" "B" (.int 0)) (g9_F : Fld Z h0 q "java/lang/AbstractStringBuilder" "count" "I" (.int 15)) (g10_V : Arv Z h0 d kd .byte (16 : Int32) [(.int be0), (.int be1), (.int be2), (.int be3), (.int be4), (.int be5), (.int be6), (.int be7), (.int be8), (.int be9), (.int be10), (.int be11), (.int be12), (.int be13), (.int be14), (.int be15)] (.int 0)) (g11_G : Z.heap.size ≤ d) (g12_ne_a_d : a ≠ d) (g13_ne_t_d : t ≠ d) :
    own_Con l Z (⟨"java/lang/AbstractStringBuilder", "putStringAt", "(ILjava/lang/String;)V"⟩ : MethodName) jdk_68_method_73_code 3 none [] ({ frames := 2, cells := 0, slots := 0, locals := 55 } : Room) #[(.ref q), (.int 15), (.ref a)] h0 (fun rv rh rL => rv = none ∧ own_Fr Z rL ∧ Keep h0 rh [d] ∧ (Arv Z rh d kd .byte (16 : Int32) [(.int be0), (.int be1), (.int be2), (.int be3), (.int be4), (.int be5), (.int be6), (.int be7), (.int be8), (.int be9), (.int be10), (.int be11), (.int be12), (.int be13), (.int be14), (.int bs0)] (.int 0))) := by
  refine own_intro (plainFor_of_name (by first | (simp [plainName, overriddenIn]; done) | decide +kernel)) ?_
  intro p e s m below meth c s₁ G hx hby hml hown hnm hret hZ X0 e0 hG hR
  have N0 := Fr.nil Z.heap.size
  refine own_entry (Ls := #[.val (.ref q), .val (.int 15), .val (.ref a)]) (by first | (simp [entryFrame, mkF, argsToLocals, Value.category]; done) | rfl) ?_
  show G (s₁.setTop (mkF m 0 #[.val (.ref q), .val (.int 15), .val (.ref a)] []))
  refine hG _ _ (fun t_ k_ => XS.aloadN X0.here hx rfl (hb hby d19_0) rfl rfl k_) ?_
  refine hG _ _ (fun t_ k_ => XS.aloadN X0.here hx rfl (hb hby d19_1) rfl rfl k_) ?_
  show G (s₁.setTop (mkF m 2 #[.val (.ref q), .val (.int 15), .val (.ref a)] [(.ref a), (.ref q)]))
  refine own_callP2 X0 hx hZ hG hown (ow hw 104 rfl) (ow hw 105 rfl) (ow hw 107 rfl) (ow hw 106 rfl) (ow hw 61 rfl) (ow hw 108 rfl) (by decide) 0 (own_infl l Z a0 hw q a cpt h0 O0 g8_F g0_E g1_F g4_S g5_hcpt) (by decide) (by decide) e0 g6_E (by rw [hml]; rfl) (lenOf own_pd13 rfl) (argsL := [(.ref a)]) (rest := []) rfl rfl (Nat.le_of_eq rfl) (hb hby d19_2) (by decide) (by decide) ?_
  intro T1 h1 v1 L1 X1 e1 q1
  obtain ⟨rfl, M1, rfl⟩ := q1
  have N1 := Fr.app N0 M1
  refine hG _ _ (fun t_ k_ => XS.aloadN X1.here hx rfl (hb hby d19_5) rfl rfl k_) ?_
  refine hG _ _ (fun t_ k_ => XS.aloadN X1.here hx rfl (hb hby d19_6) rfl rfl k_) ?_
  obtain ⟨T2, X2, e2, st2⟩ := getF X1 hx hZ hown (host := "") (Or.inl (ow hw 65 rfl)) Via.refl e1 g7_F (g := (mkF m 7 #[.val (.ref q), .val (.int 15), .val (.ref a)] [(.ref q), (.ref a)])) rfl rfl (hb hby d19_7)
  refine hG _ _ st2 ?_
  refine hG _ _ (fun t_ k_ => XS.iloadN X2.here hx rfl (hb hby d19_10) rfl k_) ?_
  refine hG _ _ (fun t_ k_ => XS.aloadN X2.here hx rfl (hb hby d19_11) rfl rfl k_) ?_
  obtain ⟨T3, X3, e3, st3⟩ := getF X2 hx hZ hown (host := "") (Or.inl (ow hw 67 rfl)) Via.refl e2 g8_F (g := (mkF m 12 #[.val (.ref q), .val (.int 15), .val (.ref a)] [(.ref q), (.int 15), (.ref d), (.ref a)])) rfl rfl (hb hby d19_12)
  refine hG _ _ st3 ?_
  show G (T3.setTop (mkF m 15 #[.val (.ref q), .val (.int 15), .val (.ref a)] [(.int 0), (.int 15), (.ref d), (.ref a)]))
  refine own_callV (C := "java/lang/String") X3 hx hZ hG hown (ow hw 110 rfl) (ow hw 111 rfl) (ow hw 113 rfl) (ow hw 112 rfl) (ow hw 3 rfl) (ow hw 114 rfl) (by decide) 0 (own_gb15_1 l Z a0 hw a t kt bs0 d kd be0 be1 be2 be3 be4 be5 be6 be7 be8 be9 be10 be11 be12 be13 be14 be15 cpt h0 O0 g0_E g1_F g2_F g3_V g4_S g5_hcpt g10_V g11_G g12_ne_a_d g13_ne_t_d) (by decide) (by decide) e3 g0_E (by rw [hml]; rfl) (lenOf own_pd18 rfl) (argsL := [(.ref d), (.int 15), (.int 0)]) (rest := []) rfl rfl (Nat.le_of_eq rfl) (hb hby d19_15) (by decide) (by decide) ?_
  intro T4 h4 v4 L4 X4 e4 q4
  obtain ⟨rfl, M4, J4, r4_0⟩ := q4
  have N4 := Fr.app N1 M4
  have K4 : Keep h0 h4 [d] := (Keep.refl h0 [d]).trans J4 (allS (Or.inl (List.mem_of_getElem? (i := 0) rfl)) all0)
  have O4 : own_Old Z h4 := O0.keep J4 (allS g11_G all0)
  show G (T4.setTop (mkF m 18 #[.val (.ref q), .val (.int 15), .val (.ref a)] []))
  exact own_retV hR hret X4 hx (hb hby d19_18) (by decide) (by decide) (by rw [e4]; exact ⟨rfl, N4, K4, r4_0⟩)
set_option maxRecDepth 65536 in
set_option maxHeartbeats 40000000 in
theorem own_asba15_1 (l : Launch) (Z : State) (a0 : Array Value) (hw : ∀ d ∈ tables_1, d.before a0 Z = true) (a : Addr) (t : Addr) (kt : ClassId) (bs0 : Int32) (q : Addr) (d : Addr) (kd : ClassId) (be0 : Int32) (be1 : Int32) (be2 : Int32) (be3 : Int32) (be4 : Int32) (be5 : Int32) (be6 : Int32) (be7 : Int32) (be8 : Int32) (be9 : Int32) (be10 : Int32) (be11 : Int32) (be12 : Int32) (be13 : Int32) (be14 : Int32) (be15 : Int32) (cpt : Int32) (h0 : Heap) (O0 : own_Old Z h0) (g0_E : Exa Z h0 a "java/lang/String") (g1_F : Fld Z h0 a "java/lang/String" "coder" "B" (.int 0)) (g2_F : Fld Z h0 a "java/lang/String" "value" "[B" (.ref t)) (g3_V : Arv Z h0 t kt .byte (1 : Int32) [(.int bs0)] (.int 0)) (g4_S : Sta Z Z.heap "java/lang/String" "COMPACT_STRINGS" "Z" (.int cpt)) (g5_hcpt : ¬ (cpt = (0 : Int32))) (g6_E : Exa Z h0 q "java/lang/StringBuilder") (g7_G : Z.heap.size ≤ q) (g8_F : Fld Z h0 q "java/lang/AbstractStringBuilder" "value" "[B" (.ref d)) (g9_F : Fld Z h0 q "java/lang/AbstractStringBuilder" "coder" "B" (.int 0)) (g10_F : Fld Z h0 q "java/lang/AbstractStringBuilder" "count" "I" (.int 15)) (g11_V : Arv Z h0 d kd .byte (16 : Int32) [(.int be0), (.int be1), (.int be2), (.int be3), (.int be4), (.int be5), (.int be6), (.int be7), (.int be8), (.int be9), (.int be10), (.int be11), (.int be12), (.int be13), (.int be14), (.int be15)] (.int 0)) (g12_G : Z.heap.size ≤ d) (g13_ne_a_d : a ≠ d) (g14_ne_t_d : t ≠ d) (g15_ne_a_q : a ≠ q) (g16_ne_t_q : t ≠ q) (g17_ne_q_d : q ≠ d) :
    own_Con l Z (⟨"java/lang/AbstractStringBuilder", "append", "(Ljava/lang/String;)Ljava/lang/AbstractStringBuilder;"⟩ : MethodName) jdk_68_method_22_code 3 (some (.object "java/lang/AbstractStringBuilder")) [] ({ frames := 3, cells := 0, slots := 0, locals := 69 } : Room) #[(.ref q), (.ref a)] h0 (fun rv rh rL => rv = some (.ref q) ∧ own_Fr Z rL ∧ Keep h0 rh [q, d] ∧ (Exa Z rh q "java/lang/StringBuilder") ∧ (Fld Z rh q "java/lang/AbstractStringBuilder" "value" "[B" (.ref d)) ∧ (Fld Z rh q "java/lang/AbstractStringBuilder" "coder" "B" (.int 0)) ∧ (Fld Z rh q "java/lang/AbstractStringBuilder" "count" "I" (.int 16)) ∧ (Arv Z rh d kd .byte (16 : Int32) [(.int be0), (.int be1), (.int be2), (.int be3), (.int be4), (.int be5), (.int be6), (.int be7), (.int be8), (.int be9), (.int be10), (.int be11), (.int be12), (.int be13), (.int be14), (.int bs0)] (.int 0))) := by
  refine own_intro (plainFor_of_name (by first | (simp [plainName, overriddenIn]; done) | decide +kernel)) ?_
  intro p e s m below meth c s₁ G hx hby hml hown hnm hret hZ X0 e0 hG hR
  have N0 := Fr.nil Z.heap.size
  refine own_entry (Ls := #[.val (.ref q), .val (.ref a), .unset]) (by first | (simp [entryFrame, mkF, argsToLocals, Value.category]; done) | rfl) ?_
  show G (s₁.setTop (mkF m 0 #[.val (.ref q), .val (.ref a), .unset] []))
  refine hG _ _ (fun t_ k_ => XS.aloadN X0.here hx rfl (hb hby d15_0) rfl rfl k_) ?_
  show G (s₁.setTop (mkF m 1 #[.val (.ref q), .val (.ref a), .unset] [(.ref a)]))
  refine hG _ _ (fun t_ k_ => XS.ifnonnullYes X0.here hx rfl (pc0 := 1) (pc' := 9) rfl (hb hby d15_1) rfl (by decide) (by decide) k_) ?_
  refine hG _ _ (fun t_ k_ => XS.aloadN X0.here hx rfl (hb hby d15_9) rfl rfl k_) ?_
  show G (s₁.setTop (mkF m 10 #[.val (.ref q), .val (.ref a), .unset] [(.ref a)]))
  refine own_callV (C := "java/lang/String") X0 hx hZ hG hown (ow hw 82 rfl) (ow hw 83 rfl) (ow hw 85 rfl) (ow hw 84 rfl) (ow hw 3 rfl) (ow hw 86 rfl) (by decide) 0 (own_lenL l Z a0 hw a t kt (1 : Int32) [(.int bs0)] cpt h0 O0 g0_E g1_F g2_F g3_V g4_S g5_hcpt) (by decide) (by decide) e0 g0_E (by rw [hml]; rfl) (lenOf own_pd12 rfl) (argsL := []) (rest := []) rfl rfl (Nat.le_of_eq rfl) (hb hby d15_10) (by decide) (by decide) ?_
  intro T1 h1 v1 L1 X1 e1 q1
  obtain ⟨rfl, M1, rfl⟩ := q1
  have N1 := Fr.app N0 M1
  refine hG _ _ (fun t_ k_ => XS.istoreN X1.here hx rfl (hb hby d15_13) rfl (l' := #[.val (.ref q), .val (.ref a), .val (.int 1)]) rfl k_) ?_
  refine hG _ _ (fun t_ k_ => XS.aloadN X1.here hx rfl (hb hby d15_14) rfl rfl k_) ?_
  refine hG _ _ (fun t_ k_ => XS.aloadN X1.here hx rfl (hb hby d15_15) rfl rfl k_) ?_
  obtain ⟨T2, X2, e2, st2⟩ := getF X1 hx hZ hown (host := "") (Or.inl (ow hw 92 rfl)) Via.refl e1 g10_F (g := (mkF m 16 #[.val (.ref q), .val (.ref a), .val (.int 1)] [(.ref q), (.ref q)])) rfl rfl (hb hby d15_16)
  refine hG _ _ st2 ?_
  refine hG _ _ (fun t_ k_ => XS.iloadN X2.here hx rfl (hb hby d15_19) rfl k_) ?_
  refine hG _ _ (fun t_ k_ => XS.iadd X2.here hx rfl (hb hby d15_20) rfl k_) ?_
  show G (T2.setTop (mkF m 21 #[.val (.ref q), .val (.ref a), .val (.int 1)] [(.int ((15 : Int32) + (1 : Int32))), (.ref q)]))
  rw [show ((15 : Int32) + (1 : Int32)) = (16 : Int32) from by decide]
  show G (T2.setTop (mkF m 21 #[.val (.ref q), .val (.ref a), .val (.int 1)] [(.int 16), (.ref q)]))
  refine own_callP2 X2 hx hZ hG hown (ow hw 94 rfl) (ow hw 95 rfl) (ow hw 97 rfl) (ow hw 96 rfl) (ow hw 61 rfl) (ow hw 98 rfl) (by decide) 0 (own_ens15_1 l Z a0 hw q d kd be0 be1 be2 be3 be4 be5 be6 be7 be8 be9 be10 be11 be12 be13 be14 be15 h0 O0 g8_F g9_F g11_V) (by decide) (by decide) e2 g6_E (by rw [hml]; rfl) (lenOf own_pd10 rfl) (argsL := [(.int 16)]) (rest := []) rfl rfl (Nat.le_of_eq rfl) (hb hby d15_21) (by decide) (by decide) ?_
  intro T3 h3 v3 L3 X3 e3 q3
  obtain ⟨rfl, M3, rfl⟩ := q3
  have N3 := Fr.app N1 M3
  refine hG _ _ (fun t_ k_ => XS.aloadN X3.here hx rfl (hb hby d15_24) rfl rfl k_) ?_
  refine hG _ _ (fun t_ k_ => XS.aloadN X3.here hx rfl (hb hby d15_25) rfl rfl k_) ?_
  obtain ⟨T4, X4, e4, st4⟩ := getF X3 hx hZ hown (host := "") (Or.inl (ow hw 92 rfl)) Via.refl e3 g10_F (g := (mkF m 26 #[.val (.ref q), .val (.ref a), .val (.int 1)] [(.ref q), (.ref q)])) rfl rfl (hb hby d15_26)
  refine hG _ _ st4 ?_
  refine hG _ _ (fun t_ k_ => XS.aloadN X4.here hx rfl (hb hby d15_29) rfl rfl k_) ?_
  show G (T4.setTop (mkF m 30 #[.val (.ref q), .val (.ref a), .val (.int 1)] [(.ref a), (.int 15), (.ref q)]))
  refine own_callP2 X4 hx hZ hG hown (ow hw 99 rfl) (ow hw 100 rfl) (ow hw 102 rfl) (ow hw 101 rfl) (ow hw 61 rfl) (ow hw 103 rfl) (by decide) 0 (own_psa15_1 l Z a0 hw a t kt bs0 q d kd be0 be1 be2 be3 be4 be5 be6 be7 be8 be9 be10 be11 be12 be13 be14 be15 cpt h0 O0 g0_E g1_F g2_F g3_V g4_S g5_hcpt g6_E g8_F g9_F g10_F g11_V g12_G g13_ne_a_d g14_ne_t_d) (by decide) (by decide) e4 g6_E (by rw [hml]; rfl) (lenOf own_pd19 rfl) (argsL := [(.int 15), (.ref a)]) (rest := []) rfl rfl (Nat.le_of_eq rfl) (hb hby d15_30) (by decide) (by decide) ?_
  intro T5 h5 v5 L5 X5 e5 q5
  obtain ⟨rfl, M5, J5, r5_0⟩ := q5
  have N5 := Fr.app N3 M5
  have K5 : Keep h0 h5 [q, d] := (Keep.refl h0 [q, d]).trans J5 (allS (Or.inl (List.mem_of_getElem? (i := 1) rfl)) all0)
  have O5 : own_Old Z h5 := O0.keep J5 (allS g12_G all0)
  refine hG _ _ (fun t_ k_ => XS.aloadN X5.here hx rfl (hb hby d15_33) rfl rfl k_) ?_
  refine hG _ _ (fun t_ k_ => XS.dup X5.here hx rfl (hb hby d15_34) rfl rfl k_) ?_
  have f7 := (g10_F.keep J5 (ninS g17_ne_q_d nin0))
  obtain ⟨T6, X6, e6, st6⟩ := getF X5 hx hZ hown (host := "") (Or.inl (ow hw 92 rfl)) Via.refl e5 f7 (g := (mkF m 35 #[.val (.ref q), .val (.ref a), .val (.int 1)] [(.ref q), (.ref q)])) rfl rfl (hb hby d15_35)
  refine hG _ _ st6 ?_
  refine hG _ _ (fun t_ k_ => XS.iloadN X6.here hx rfl (hb hby d15_38) rfl k_) ?_
  refine hG _ _ (fun t_ k_ => XS.iadd X6.here hx rfl (hb hby d15_39) rfl k_) ?_
  show G (T6.setTop (mkF m 40 #[.val (.ref q), .val (.ref a), .val (.int 1)] [(.int ((15 : Int32) + (1 : Int32))), (.ref q)]))
  rw [show ((15 : Int32) + (1 : Int32)) = (16 : Int32) from by decide]
  show G (T6.setTop (mkF m 40 #[.val (.ref q), .val (.ref a), .val (.int 1)] [(.int 16), (.ref q)]))
  have f9 := (g6_E.keep J5)
  obtain ⟨T8, h8, X8, e8, W8, st8⟩ := putF X6 hx hZ hown (host := "") (Or.inl (ow hw 92 rfl)) Via.refl e6 f7 f9 (Or.inl (ow hw 93 rfl)) (ow hw 52 rfl) (ty := .int) (by decide) rfl rfl (g := (mkF m 40 #[.val (.ref q), .val (.ref a), .val (.int 1)] [(.int 16), (.ref q)])) rfl rfl (hb hby d15_40)
  refine hG _ _ st8 ?_
  have K8 : Keep h0 h8 [q, d] := K5.wr W8 (Or.inl (List.mem_of_getElem? (i := 0) rfl))
  have O8 : own_Old Z h8 := O5.wr W8 g7_G
  have N8 := Fr.snoc X8 N5 g7_G
  refine hG _ _ (fun t_ k_ => XS.aloadN X8.here hx rfl (hb hby d15_43) rfl rfl k_) ?_
  show G (T8.setTop (mkF m 44 #[.val (.ref q), .val (.ref a), .val (.int 1)] [(.ref q)]))
  have f10 := (f9.wr W8)
  have f11 := ((g8_F.keep J5 (ninS g17_ne_q_d nin0)).other W8 (Or.inr (slot_ne (Or.inl (ow hw 66 rfl)) (Or.inl (ow hw 93 rfl)) (by decide) (t := (.array .byte)) (t' := .int) (by decide) (by decide))))
  have f12 := ((g9_F.keep J5 (ninS g17_ne_q_d nin0)).other W8 (Or.inr (slot_ne (Or.inl (ow hw 68 rfl)) (Or.inl (ow hw 93 rfl)) (by decide) (t := .byte) (t' := .int) (by decide) (by decide))))
  have f13 := (r5_0.other W8 (Ne.symm g17_ne_q_d))
  exact own_retA hR hret rfl rfl X8 hx (hb hby d15_44) (by decide) (by decide) (by rw [e8]; exact ⟨rfl, N8, K8, f10, f11, f12, (f7.same W8), f13⟩)
set_option maxRecDepth 65536 in
set_option maxHeartbeats 40000000 in
theorem own_sba15_1 (l : Launch) (Z : State) (a0 : Array Value) (hw : ∀ d ∈ tables_1, d.before a0 Z = true) (a : Addr) (t : Addr) (kt : ClassId) (bs0 : Int32) (q : Addr) (d : Addr) (kd : ClassId) (be0 : Int32) (be1 : Int32) (be2 : Int32) (be3 : Int32) (be4 : Int32) (be5 : Int32) (be6 : Int32) (be7 : Int32) (be8 : Int32) (be9 : Int32) (be10 : Int32) (be11 : Int32) (be12 : Int32) (be13 : Int32) (be14 : Int32) (be15 : Int32) (cpt : Int32) (h0 : Heap) (O0 : own_Old Z h0) (g0_E : Exa Z h0 a "java/lang/String") (g1_F : Fld Z h0 a "java/lang/String" "coder" "B" (.int 0)) (g2_F : Fld Z h0 a "java/lang/String" "value" "[B" (.ref t)) (g3_V : Arv Z h0 t kt .byte (1 : Int32) [(.int bs0)] (.int 0)) (g4_S : Sta Z Z.heap "java/lang/String" "COMPACT_STRINGS" "Z" (.int cpt)) (g5_hcpt : ¬ (cpt = (0 : Int32))) (g6_E : Exa Z h0 q "java/lang/StringBuilder") (g7_G : Z.heap.size ≤ q) (g8_F : Fld Z h0 q "java/lang/AbstractStringBuilder" "value" "[B" (.ref d)) (g9_F : Fld Z h0 q "java/lang/AbstractStringBuilder" "coder" "B" (.int 0)) (g10_F : Fld Z h0 q "java/lang/AbstractStringBuilder" "count" "I" (.int 15)) (g11_V : Arv Z h0 d kd .byte (16 : Int32) [(.int be0), (.int be1), (.int be2), (.int be3), (.int be4), (.int be5), (.int be6), (.int be7), (.int be8), (.int be9), (.int be10), (.int be11), (.int be12), (.int be13), (.int be14), (.int be15)] (.int 0)) (g12_G : Z.heap.size ≤ d) (g13_ne_a_d : a ≠ d) (g14_ne_t_d : t ≠ d) (g15_ne_a_q : a ≠ q) (g16_ne_t_q : t ≠ q) (g17_ne_q_d : q ≠ d) :
    own_Con l Z (⟨"java/lang/StringBuilder", "append", "(Ljava/lang/String;)Ljava/lang/StringBuilder;"⟩ : MethodName) jdk_67_method_7_code 2 (some (.object "java/lang/StringBuilder")) [] ({ frames := 4, cells := 0, slots := 0, locals := 83 } : Room) #[(.ref q), (.ref a)] h0 (fun rv rh rL => rv = some (.ref q) ∧ own_Fr Z rL ∧ Keep h0 rh [q, d] ∧ (Exa Z rh q "java/lang/StringBuilder") ∧ (Fld Z rh q "java/lang/AbstractStringBuilder" "value" "[B" (.ref d)) ∧ (Fld Z rh q "java/lang/AbstractStringBuilder" "coder" "B" (.int 0)) ∧ (Fld Z rh q "java/lang/AbstractStringBuilder" "count" "I" (.int 16)) ∧ (Arv Z rh d kd .byte (16 : Int32) [(.int be0), (.int be1), (.int be2), (.int be3), (.int be4), (.int be5), (.int be6), (.int be7), (.int be8), (.int be9), (.int be10), (.int be11), (.int be12), (.int be13), (.int be14), (.int bs0)] (.int 0))) := by
  refine own_intro (plainFor_of_name (by first | (simp [plainName, overriddenIn]; done) | decide +kernel)) ?_
  intro p e s m below meth c s₁ G hx hby hml hown hnm hret hZ X0 e0 hG hR
  have N0 := Fr.nil Z.heap.size
  refine own_entry (Ls := #[.val (.ref q), .val (.ref a)]) (by first | (simp [entryFrame, mkF, argsToLocals, Value.category]; done) | rfl) ?_
  show G (s₁.setTop (mkF m 0 #[.val (.ref q), .val (.ref a)] []))
  refine hG _ _ (fun t_ k_ => XS.aloadN X0.here hx rfl (hb hby d14_0) rfl rfl k_) ?_
  refine hG _ _ (fun t_ k_ => XS.aloadN X0.here hx rfl (hb hby d14_1) rfl rfl k_) ?_
  show G (s₁.setTop (mkF m 2 #[.val (.ref q), .val (.ref a)] [(.ref a), (.ref q)]))
  refine own_callU X0 hx hZ hG hown (ow hw 77 rfl) (ow hw 78 rfl) (ow hw 79 rfl) (ow hw 97 rfl) rfl (ow hw 61 rfl) (ow hw 81 rfl) (by decide) (by decide) 0 (own_asba15_1 l Z a0 hw a t kt bs0 q d kd be0 be1 be2 be3 be4 be5 be6 be7 be8 be9 be10 be11 be12 be13 be14 be15 cpt h0 O0 g0_E g1_F g2_F g3_V g4_S g5_hcpt g6_E g7_G g8_F g9_F g10_F g11_V g12_G g13_ne_a_d g14_ne_t_d g15_ne_a_q g16_ne_t_q g17_ne_q_d) (by decide) (by decide) e0 g6_E (by rw [hml]; rfl) (lenOf own_pd20 rfl) (argsL := [(.ref a)]) (rest := []) rfl rfl (Nat.le_of_eq rfl) (hb hby d14_2) (by decide) (by decide) ?_
  intro T1 h1 v1 L1 X1 e1 q1
  obtain ⟨rfl, M1, J1, r1_0, r1_1, r1_2, r1_3, r1_4⟩ := q1
  have N1 := Fr.app N0 M1
  have K1 : Keep h0 h1 [q, d] := (Keep.refl h0 [q, d]).trans J1 (allS (Or.inl (List.mem_of_getElem? (i := 0) rfl)) (allS (Or.inl (List.mem_of_getElem? (i := 1) rfl)) all0))
  have O1 : own_Old Z h1 := O0.keep J1 (allS g7_G (allS g12_G all0))
  refine hG _ _ (fun t_ k_ => XS.pop X1.here hx rfl (hb hby d14_5) rfl rfl k_) ?_
  refine hG _ _ (fun t_ k_ => XS.aloadN X1.here hx rfl (hb hby d14_6) rfl rfl k_) ?_
  show G (T1.setTop (mkF m 7 #[.val (.ref q), .val (.ref a)] [(.ref q)]))
  exact own_retA hR hret rfl rfl X1 hx (hb hby d14_7) (by decide) (by decide) (by rw [e1]; exact ⟨rfl, N1, K1, r1_0, r1_1, r1_2, r1_3, r1_4⟩)
set_option maxRecDepth 65536 in
set_option maxHeartbeats 40000000 in
theorem own_cr16_16 (l : Launch) (Z : State) (a0 : Array Value) (hw : ∀ d ∈ tables_1, d.before a0 Z = true) (d : Addr) (kd : ClassId) (be0 : Int32) (be1 : Int32) (be2 : Int32) (be3 : Int32) (be4 : Int32) (be5 : Int32) (be6 : Int32) (be7 : Int32) (be8 : Int32) (be9 : Int32) (be10 : Int32) (be11 : Int32) (be12 : Int32) (be13 : Int32) (be14 : Int32) (be15 : Int32) (h0 : Heap) (O0 : own_Old Z h0) (g0_E : Exa Z h0 d "[B") (g1_V : Arv Z h0 d kd .byte (16 : Int32) [(.int be0), (.int be1), (.int be2), (.int be3), (.int be4), (.int be5), (.int be6), (.int be7), (.int be8), (.int be9), (.int be10), (.int be11), (.int be12), (.int be13), (.int be14), (.int be15)] (.int 0)) :
    own_Con l Z (⟨"java/util/Arrays", "copyOfRange", "([BII)[B"⟩ : MethodName) jdk_65_method_132_code 3 (some (.array .byte)) [] ({ frames := 1, cells := 1, slots := 16, locals := 14 } : Room) #[(.ref d), (.int 0), (.int 16)] h0 (fun rv rh rL => ∃ (u : Addr) (ku : ClassId), rv = some (.ref u) ∧ own_Fr Z rL ∧ Keep h0 rh [] ∧ h0.size ≤ u ∧ (Arv Z rh u ku .byte (16 : Int32) [(.int be0), (.int be1), (.int be2), (.int be3), (.int be4), (.int be5), (.int be6), (.int be7), (.int be8), (.int be9), (.int be10), (.int be11), (.int be12), (.int be13), (.int be14), (.int be15)] (.int 0))) := by
  refine own_intro (plainFor_of_name (by first | (simp [plainName, overriddenIn]; done) | decide +kernel)) ?_
  intro p e s m below meth c s₁ G hx hby hml hown hnm hret hZ X0 e0 hG hR
  have N0 := Fr.nil Z.heap.size
  refine own_entry (Ls := #[.val (.ref d), .val (.int 0), .val (.int 16)]) (by first | (simp [entryFrame, mkF, argsToLocals, Value.category]; done) | rfl) ?_
  show G (s₁.setTop (mkF m 0 #[.val (.ref d), .val (.int 0), .val (.int 16)] []))
  refine hG _ _ (fun t_ k_ => XS.iloadN X0.here hx rfl (hb hby d29_0) rfl k_) ?_
  show G (s₁.setTop (mkF m 1 #[.val (.ref d), .val (.int 0), .val (.int 16)] [(.int 0)]))
  refine hG _ _ (fun t_ k_ => XS.ifNo X0.here hx rfl (hb hby d29_1) rfl ((if0 _ _).trans (teq (by decide)).2) k_) ?_
  show G (s₁.setTop (mkF m 4 #[.val (.ref d), .val (.int 0), .val (.int 16)] []))
  refine hG _ _ (fun t_ k_ => XS.iloadN X0.here hx rfl (hb hby d29_4) rfl k_) ?_
  refine hG _ _ (fun t_ k_ => XS.aloadN X0.here hx rfl (hb hby d29_5) rfl rfl k_) ?_
  obtain ⟨c1, Ar1, -, S1, M1, -, -⟩ := id g1_V
  refine hG _ _ (X0.arraylength hx (by rw [e0]; exact Ar1.1) (State.isArrayOf_alike hZ.alike Ar1.2.1) (g := (mkF m 6 #[.val (.ref d), .val (.int 0), .val (.int 16)] [(.ref d), (.int 16)])) rfl rfl (hb hby d29_6)) ?_
  rw [len_of S1 M1]
  show G (s₁.setTop (mkF m 7 #[.val (.ref d), .val (.int 0), .val (.int 16)] [(.int 16), (.int 16)]))
  refine hG _ _ (fun t_ k_ => XS.icmpYes X0.here hx rfl (pc0 := 7) (pc' := 17) rfl (hb hby d29_7) rfl (teq (by decide)).1 (by decide) (by decide) k_) ?_
  show G (s₁.setTop (mkF m 17 #[.val (.ref d), .val (.int 0), .val (.int 16)] []))
  refine hG _ _ (fun t_ k_ => XS.aloadN X0.here hx rfl (hb hby d29_17) rfl rfl k_) ?_
  show G (s₁.setTop (mkF m 18 #[.val (.ref d), .val (.int 0), .val (.int 16)] [(.ref d)]))
  obtain ⟨T2, h2, X2, e2, E2, V2, A2, st2⟩ := cloneH X0 hx hZ hown (ow hw 153 rfl) (ow hw 154 rfl) (ow hw 158 rfl) (ow hw 156 rfl) (ow hw 157 rfl) (ow hw 159 rfl) e0 (Arv.arh g1_V) g0_E (g := (mkF m 18 #[.val (.ref d), .val (.int 0), .val (.int 16)] [(.ref d)])) rfl (by rw [hml]; rfl) rfl (hb hby d29_18) (by decide) (W := 0) (cap := 16) (by show 2 * 0 + _ ≤ _; exact Nat.le_of_eq rfl) (by decide) (by decide) (by decide) (by decide)
  obtain ⟨b2, z2⟩ : ∃ z, z = h0.size := ⟨_, rfl⟩
  rw [← z2] at A2 V2 st2
  refine hG _ _ st2 ?_
  have K2 : Keep h0 h2 [] := (Keep.refl h0 []).ext E2
  have O2 : own_Old Z h2 := O0.ext E2
  show G (T2.setTop (mkF m 21 #[.val (.ref d), .val (.int 0), .val (.int 16)] [(.ref b2)]))
  obtain ⟨T3, X3, e3, st3⟩ := castY X2 hx hZ hown (ow hw 160 rfl) e2 (Ins.self A2) (g := (mkF m 21 #[.val (.ref d), .val (.int 0), .val (.int 16)] [(.ref b2)])) rfl rfl (hb hby d29_21)
  refine hG _ _ st3 ?_
  show G (T3.setTop (mkF m 24 #[.val (.ref d), .val (.int 0), .val (.int 16)] [(.ref b2)]))
  exact own_retA hR hret rfl rfl X3 hx (hb hby d29_24) (by decide) (by decide) (by rw [e3]; exact ⟨b2, kd, rfl, N0, K2, (Nat.le_trans (Keep.refl h0 []).1 (Nat.le_of_eq z2.symm)), V2⟩)
set_option maxRecDepth 65536 in
set_option maxHeartbeats 40000000 in
theorem own_sin16_16 (l : Launch) (Z : State) (a0 : Array Value) (hw : ∀ d ∈ tables_1, d.before a0 Z = true) (a : Addr) (q : Addr) (d : Addr) (kd : ClassId) (be0 : Int32) (be1 : Int32) (be2 : Int32) (be3 : Int32) (be4 : Int32) (be5 : Int32) (be6 : Int32) (be7 : Int32) (be8 : Int32) (be9 : Int32) (be10 : Int32) (be11 : Int32) (be12 : Int32) (be13 : Int32) (be14 : Int32) (be15 : Int32) (cpt : Int32) (v0 : Value) (v1 : Value) (h0 : Heap) (O0 : own_Old Z h0) (g0_E : Exa Z h0 a "java/lang/String") (g1_F : Fld Z h0 a "java/lang/String" "coder" "B" v0) (g2_F : Fld Z h0 a "java/lang/String" "value" "[B" v1) (g3_G : Z.heap.size ≤ a) (g4_ne_a_q : a ≠ q) (g5_ne_a_d : a ≠ d) (g6_E : Exa Z h0 q "java/lang/StringBuilder") (g7_F : Fld Z h0 q "java/lang/AbstractStringBuilder" "value" "[B" (.ref d)) (g8_F : Fld Z h0 q "java/lang/AbstractStringBuilder" "coder" "B" (.int 0)) (g9_F : Fld Z h0 q "java/lang/AbstractStringBuilder" "count" "I" (.int 16)) (g10_E : Exa Z h0 d "[B") (g11_V : Arv Z h0 d kd .byte (16 : Int32) [(.int be0), (.int be1), (.int be2), (.int be3), (.int be4), (.int be5), (.int be6), (.int be7), (.int be8), (.int be9), (.int be10), (.int be11), (.int be12), (.int be13), (.int be14), (.int be15)] (.int 0)) (g12_S : Sta Z Z.heap "java/lang/String" "COMPACT_STRINGS" "Z" (.int cpt)) (g13_hcpt : ¬ (cpt = (0 : Int32))) :
    own_Con l Z (⟨"java/lang/String", "<init>", "(Ljava/lang/AbstractStringBuilder;Ljava/lang/Void;)V"⟩ : MethodName) jdk_42_method_150_code 5 none [] ({ frames := 2, cells := 1, slots := 16, locals := 29 } : Room) #[(.ref a), (.ref q), .null] h0 (fun rv rh rL => ∃ (u : Addr) (ku : ClassId), rv = none ∧ own_Fr Z rL ∧ Keep h0 rh [a] ∧ h0.size ≤ u ∧ (Exa Z rh a "java/lang/String") ∧ (Fld Z rh a "java/lang/String" "coder" "B" (.int 0)) ∧ (Fld Z rh a "java/lang/String" "value" "[B" (.ref u)) ∧ (Arv Z rh u ku .byte (16 : Int32) [(.int be0), (.int be1), (.int be2), (.int be3), (.int be4), (.int be5), (.int be6), (.int be7), (.int be8), (.int be9), (.int be10), (.int be11), (.int be12), (.int be13), (.int be14), (.int be15)] (.int 0))) := by
  refine own_intro (plainFor_of_name (by first | (simp [plainName, overriddenIn]; done) | decide +kernel)) ?_
  intro p e s m below meth c s₁ G hx hby hml hown hnm hret hZ X0 e0 hG hR
  have N0 := Fr.nil Z.heap.size
  refine own_entry (Ls := #[.val (.ref a), .val (.ref q), .val .null, .unset, .unset]) (by first | (simp [entryFrame, mkF, argsToLocals, Value.category]; done) | rfl) ?_
  show G (s₁.setTop (mkF m 0 #[.val (.ref a), .val (.ref q), .val .null, .unset, .unset] []))
  refine hG _ _ (fun t_ k_ => XS.aloadN X0.here hx rfl (hb hby d24_0) rfl rfl k_) ?_
  show G (s₁.setTop (mkF m 1 #[.val (.ref a), .val (.ref q), .val .null, .unset, .unset] [(.ref a)]))
  obtain ⟨T1, X1, e1, st1⟩ := initO X0 hx hZ hown (ow hw 20 rfl) (ow hw 21 rfl) (ow hw 22 rfl) e0 (g := (mkF m 1 #[.val (.ref a), .val (.ref q), .val .null, .unset, .unset] [(.ref a)])) rfl (by rw [hml]; rfl) rfl (hb hby d24_1) (by decide) (W := 0) (by show 2 * 0 + _ ≤ _; exact Nat.le_of_eq rfl) (by decide)
  refine hG _ _ st1 ?_
  show G (T1.setTop (mkF m 4 #[.val (.ref a), .val (.ref q), .val .null, .unset, .unset] []))
  refine hG _ _ (fun t_ k_ => XS.aloadN X1.here hx rfl (hb hby d24_4) rfl rfl k_) ?_
  show G (T1.setTop (mkF m 5 #[.val (.ref a), .val (.ref q), .val .null, .unset, .unset] [(.ref q)]))
  refine own_callV (C := "java/lang/StringBuilder") X1 hx hZ hG hown (ow hw 131 rfl) (ow hw 132 rfl) (ow hw 134 rfl) (ow hw 133 rfl) (ow hw 61 rfl) (ow hw 135 rfl) (by decide) 0 (own_getv l Z a0 hw q d h0 O0 g7_F) (by decide) (by decide) e1 g6_E (by rw [hml]; rfl) (lenOf own_pd14 rfl) (argsL := []) (rest := []) rfl rfl (Nat.le_of_eq rfl) (hb hby d24_5) (by decide) (by decide) ?_
  intro T2 h2 v2 L2 X2 e2 q2
  obtain ⟨rfl, M2, rfl⟩ := q2
  have N2 := Fr.app N0 M2
  refine hG _ _ (fun t_ k_ => XS.astoreN X2.here hx rfl (hb hby d24_8) rfl rfl (l' := #[.val (.ref a), .val (.ref q), .val .null, .val (.ref d), .unset]) rfl k_) ?_
  refine hG _ _ (fun t_ k_ => XS.aloadN X2.here hx rfl (hb hby d24_9) rfl rfl k_) ?_
  show G (T2.setTop (mkF m 10 #[.val (.ref a), .val (.ref q), .val .null, .val (.ref d), .unset] [(.ref q)]))
  refine own_callVZ (C := "java/lang/StringBuilder") X2 hx hZ hG hown (ow hw 136 rfl) (ow hw 137 rfl) (ow hw 139 rfl) (ow hw 97 rfl) rfl (ow hw 140 rfl) (ow hw 53 rfl) (ow hw 141 rfl) (by decide) 0 (own_sbl l Z a0 hw q (16 : Int32) h0 O0 g6_E g9_F) (by decide) (by decide) e2 g6_E (by rw [hml]; rfl) (lenOf own_pd12 rfl) (argsL := []) (rest := []) rfl rfl (Nat.le_of_eq rfl) (hb hby d24_10) (by decide) (by decide) ?_
  intro T3 h3 v3 L3 X3 e3 q3
  obtain ⟨rfl, M3, rfl⟩ := q3
  have N3 := Fr.app N2 M3
  refine hG _ _ (fun t_ k_ => XS.istore X3.here hx rfl (hb hby d24_13) rfl (l' := #[.val (.ref a), .val (.ref q), .val .null, .val (.ref d), .val (.int 16)]) rfl k_) ?_
  refine hG _ _ (fun t_ k_ => XS.aloadN X3.here hx rfl (hb hby d24_15) rfl rfl k_) ?_
  show G (T3.setTop (mkF m 16 #[.val (.ref a), .val (.ref q), .val .null, .val (.ref d), .val (.int 16)] [(.ref q)]))
  refine own_callV (C := "java/lang/StringBuilder") X3 hx hZ hG hown (ow hw 144 rfl) (ow hw 145 rfl) (ow hw 147 rfl) (ow hw 146 rfl) (ow hw 61 rfl) (ow hw 148 rfl) (by decide) 0 (own_asbL l Z a0 hw q cpt h0 O0 g8_F g12_S g13_hcpt) (by decide) (by decide) e3 g6_E (by rw [hml]; rfl) (lenOf own_pd15 rfl) (argsL := []) (rest := []) rfl rfl (Nat.le_of_eq rfl) (hb hby d24_16) (by decide) (by decide) ?_
  intro T4 h4 v4 L4 X4 e4 q4
  obtain ⟨rfl, M4, rfl⟩ := q4
  have N4 := Fr.app N3 M4
  show G (T4.setTop (mkF m 19 #[.val (.ref a), .val (.ref q), .val .null, .val (.ref d), .val (.int 16)] [(.int 1)]))
  refine hG _ _ (fun t_ k_ => XS.ifNo X4.here hx rfl (hb hby d24_19) rfl ((if0 _ _).trans (feq (by decide)).1) k_) ?_
  show G (T4.setTop (mkF m 22 #[.val (.ref a), .val (.ref q), .val .null, .val (.ref d), .val (.int 16)] []))
  refine hG _ _ (fun t_ k_ => XS.aloadN X4.here hx rfl (hb hby d24_22) rfl rfl k_) ?_
  refine hG _ _ (fun t_ k_ => XS.iconst X4.here hx rfl (hb hby d24_23) k_) ?_
  obtain ⟨T5, h5, X5, e5, W5, st5⟩ := putFN X4 hx hZ hown (ow hw 25 rfl) Via.refl e4 g1_F g0_E (Or.inr ⟨(ow hw 26 rfl), rfl, hnm⟩) (ow hw 11 rfl) (ty := .byte) (v' := (.int 0)) (by decide) rfl rfl (g := (mkF m 24 #[.val (.ref a), .val (.ref q), .val .null, .val (.ref d), .val (.int 16)] [(.int 0), (.ref a)])) rfl rfl (hb hby d24_24)
  refine hG _ _ st5 ?_
  have K5 : Keep h0 h5 [a] := (Keep.refl h0 [a]).wr W5 (Or.inl (List.mem_of_getElem? (i := 0) rfl))
  have O5 : own_Old Z h5 := O0.wr W5 g3_G
  have N5 := Fr.snoc X5 N4 g3_G
  refine hG _ _ (fun t_ k_ => XS.aloadN X5.here hx rfl (hb hby d24_27) rfl rfl k_) ?_
  refine hG _ _ (fun t_ k_ => XS.aloadN X5.here hx rfl (hb hby d24_28) rfl rfl k_) ?_
  refine hG _ _ (fun t_ k_ => XS.iconst X5.here hx rfl (hb hby d24_29) k_) ?_
  refine hG _ _ (fun t_ k_ => XS.iload X5.here hx rfl (hb hby d24_30) rfl k_) ?_
  show G (T5.setTop (mkF m 32 #[.val (.ref a), .val (.ref q), .val .null, .val (.ref d), .val (.int 16)] [(.int 16), (.int 0), (.ref d), (.ref a)]))
  have f7 := (g10_E.wr W5)
  have f8 := (g11_V.other W5 (Ne.symm g5_ne_a_d))
  refine own_callS X5 hx hZ hG hown (ow hw 149 rfl) (ow hw 150 rfl) (ow hw 151 rfl) (ow hw 152 rfl) (by decide) 1 (own_cr16_16 l Z a0 hw d kd be0 be1 be2 be3 be4 be5 be6 be7 be8 be9 be10 be11 be12 be13 be14 be15 h5 O5 f7 f8) (by decide) (by decide) e5 (by rw [hml]; rfl) (lenOf own_pd24 rfl) (argsL := [(.ref d), (.int 0), (.int 16)]) (rest := [(.ref a)]) rfl rfl (Nat.le_of_eq rfl) (hb hby d24_32) (by decide) (by decide) ?_
  intro T6 h6 v6 L6 X6 e6 q6
  obtain ⟨u_6, ku_6, rfl, M6, J6, y6_0, r6_0⟩ := q6
  have N6 := Fr.app N5 M6
  have K6 : Keep h0 h6 [a] := K5.trans J6 all0
  have O6 : own_Old Z h6 := O5.keep J6 all0
  have f10 := ((g2_F.other W5 (Or.inr (slot_ne (Or.inr (ow hw 24 rfl)) (Or.inr (ow hw 26 rfl)) (by decide) (t := (.array .byte)) (t' := .byte) (by decide) (by decide)))).keep J6 nin0)
  have f11 := ((g0_E.wr W5).keep J6)
  obtain ⟨T9, h9, X9, e9, W9, st9⟩ := putF X6 hx hZ hown (host := "") (Or.inl (ow hw 23 rfl)) Via.refl e6 f10 f11 (Or.inr ⟨(ow hw 24 rfl), rfl, hnm⟩) (ow hw 11 rfl) (ty := (.array .byte)) (by decide) rfl rfl (g := (mkF m 35 #[.val (.ref a), .val (.ref q), .val .null, .val (.ref d), .val (.int 16)] [(.ref u_6), (.ref a)])) rfl rfl (hb hby d24_35)
  refine hG _ _ st9 ?_
  have K9 : Keep h0 h9 [a] := K6.wr W9 (Or.inl (List.mem_of_getElem? (i := 0) rfl))
  have O9 : own_Old Z h9 := O6.wr W9 g3_G
  have N9 := Fr.snoc X9 N6 g3_G
  refine hG _ _ (fun t_ k_ => XS.goto X9.here hx rfl (pc0 := 38) (pc' := 97) rfl (hb hby d24_38) (by decide) (by decide) k_) ?_
  show G (T9.setTop (mkF m 97 #[.val (.ref a), .val (.ref q), .val .null, .val (.ref d), .val (.int 16)] []))
  have f12 := (f11.wr W9)
  have f13 := (((g1_F.same W5).keep J6 nin0).other W9 (Or.inr (slot_ne (Or.inr (ow hw 26 rfl)) (Or.inr (ow hw 24 rfl)) (by decide) (t := .byte) (t' := (.array .byte)) (by decide) (by decide))))
  have f14 := (r6_0.other W9 (Ne.symm (own_ne (g1_F.same W5).lt y6_0)))
  exact own_retV hR hret X9 hx (hb hby d24_97) (by decide) (by decide) (by rw [e9]; exact ⟨u_6, ku_6, rfl, N9, K9, (Nat.le_trans K5.1 y6_0), f12, f13, (f10.same W9), f14⟩)
set_option maxRecDepth 65536 in
set_option maxHeartbeats 40000000 in
theorem own_sis16_16 (l : Launch) (Z : State) (a0 : Array Value) (hw : ∀ d ∈ tables_1, d.before a0 Z = true) (a : Addr) (q : Addr) (d : Addr) (kd : ClassId) (be0 : Int32) (be1 : Int32) (be2 : Int32) (be3 : Int32) (be4 : Int32) (be5 : Int32) (be6 : Int32) (be7 : Int32) (be8 : Int32) (be9 : Int32) (be10 : Int32) (be11 : Int32) (be12 : Int32) (be13 : Int32) (be14 : Int32) (be15 : Int32) (cpt : Int32) (v0 : Value) (v1 : Value) (h0 : Heap) (O0 : own_Old Z h0) (g0_E : Exa Z h0 a "java/lang/String") (g1_F : Fld Z h0 a "java/lang/String" "coder" "B" v0) (g2_F : Fld Z h0 a "java/lang/String" "value" "[B" v1) (g3_G : Z.heap.size ≤ a) (g4_ne_a_q : a ≠ q) (g5_ne_a_d : a ≠ d) (g6_E : Exa Z h0 q "java/lang/StringBuilder") (g7_F : Fld Z h0 q "java/lang/AbstractStringBuilder" "value" "[B" (.ref d)) (g8_F : Fld Z h0 q "java/lang/AbstractStringBuilder" "coder" "B" (.int 0)) (g9_F : Fld Z h0 q "java/lang/AbstractStringBuilder" "count" "I" (.int 16)) (g10_E : Exa Z h0 d "[B") (g11_V : Arv Z h0 d kd .byte (16 : Int32) [(.int be0), (.int be1), (.int be2), (.int be3), (.int be4), (.int be5), (.int be6), (.int be7), (.int be8), (.int be9), (.int be10), (.int be11), (.int be12), (.int be13), (.int be14), (.int be15)] (.int 0)) (g12_S : Sta Z Z.heap "java/lang/String" "COMPACT_STRINGS" "Z" (.int cpt)) (g13_hcpt : ¬ (cpt = (0 : Int32))) :
    own_Con l Z (⟨"java/lang/String", "<init>", "(Ljava/lang/StringBuilder;)V"⟩ : MethodName) jdk_42_method_53_code 2 none [] ({ frames := 3, cells := 1, slots := 16, locals := 45 } : Room) #[(.ref a), (.ref q)] h0 (fun rv rh rL => ∃ (u : Addr) (ku : ClassId), rv = none ∧ own_Fr Z rL ∧ Keep h0 rh [a] ∧ h0.size ≤ u ∧ (Exa Z rh a "java/lang/String") ∧ (Fld Z rh a "java/lang/String" "coder" "B" (.int 0)) ∧ (Fld Z rh a "java/lang/String" "value" "[B" (.ref u)) ∧ (Arv Z rh u ku .byte (16 : Int32) [(.int be0), (.int be1), (.int be2), (.int be3), (.int be4), (.int be5), (.int be6), (.int be7), (.int be8), (.int be9), (.int be10), (.int be11), (.int be12), (.int be13), (.int be14), (.int be15)] (.int 0))) := by
  refine own_intro (plainFor_of_name (by first | (simp [plainName, overriddenIn]; done) | decide +kernel)) ?_
  intro p e s m below meth c s₁ G hx hby hml hown hnm hret hZ X0 e0 hG hR
  have N0 := Fr.nil Z.heap.size
  refine own_entry (Ls := #[.val (.ref a), .val (.ref q)]) (by first | (simp [entryFrame, mkF, argsToLocals, Value.category]; done) | rfl) ?_
  show G (s₁.setTop (mkF m 0 #[.val (.ref a), .val (.ref q)] []))
  refine hG _ _ (fun t_ k_ => XS.aloadN X0.here hx rfl (hb hby d23_0) rfl rfl k_) ?_
  refine hG _ _ (fun t_ k_ => XS.aloadN X0.here hx rfl (hb hby d23_1) rfl rfl k_) ?_
  refine hG _ _ (fun t_ k_ => XS.aconstNull X0.here hx rfl (hb hby d23_2) k_) ?_
  show G (s₁.setTop (mkF m 3 #[.val (.ref a), .val (.ref q)] [.null, (.ref q), (.ref a)]))
  refine own_callI X0 hx hZ hG hown rfl (ow hw 128 rfl) (ow hw 129 rfl) (ow hw 3 rfl) (ow hw 130 rfl) (by decide) 0 (own_sin16_16 l Z a0 hw a q d kd be0 be1 be2 be3 be4 be5 be6 be7 be8 be9 be10 be11 be12 be13 be14 be15 cpt v0 v1 h0 O0 g0_E g1_F g2_F g3_G g4_ne_a_q g5_ne_a_d g6_E g7_F g8_F g9_F g10_E g11_V g12_S g13_hcpt) (by decide) (by decide) e0 (by rw [hml]; rfl) (lenOf own_pd25 rfl) (argsL := [(.ref q), .null]) (rest := []) rfl rfl (Nat.le_of_eq rfl) (hb hby d23_3) (by decide) (by decide) ?_
  intro T1 h1 v1 L1 X1 e1 q1
  obtain ⟨u_1, ku_1, rfl, M1, J1, y1_0, r1_0, r1_1, r1_2, r1_3⟩ := q1
  have N1 := Fr.app N0 M1
  have K1 : Keep h0 h1 [a] := (Keep.refl h0 [a]).trans J1 (allS (Or.inl (List.mem_of_getElem? (i := 0) rfl)) all0)
  have O1 : own_Old Z h1 := O0.keep J1 (allS g3_G all0)
  show G (T1.setTop (mkF m 6 #[.val (.ref a), .val (.ref q)] []))
  exact own_retV hR hret X1 hx (hb hby d23_6) (by decide) (by decide) (by rw [e1]; exact ⟨u_1, ku_1, rfl, N1, K1, (Nat.le_trans (Keep.refl h0 [a]).1 y1_0), r1_0, r1_1, r1_2, r1_3⟩)
set_option maxRecDepth 65536 in
set_option maxHeartbeats 40000000 in
theorem own_sbt16_16 (l : Launch) (Z : State) (a0 : Array Value) (hw : ∀ d ∈ tables_1, d.before a0 Z = true) (q : Addr) (d : Addr) (kd : ClassId) (be0 : Int32) (be1 : Int32) (be2 : Int32) (be3 : Int32) (be4 : Int32) (be5 : Int32) (be6 : Int32) (be7 : Int32) (be8 : Int32) (be9 : Int32) (be10 : Int32) (be11 : Int32) (be12 : Int32) (be13 : Int32) (be14 : Int32) (be15 : Int32) (cpt : Int32) (h0 : Heap) (O0 : own_Old Z h0) (g0_E : Exa Z h0 q "java/lang/StringBuilder") (g1_F : Fld Z h0 q "java/lang/AbstractStringBuilder" "value" "[B" (.ref d)) (g2_F : Fld Z h0 q "java/lang/AbstractStringBuilder" "coder" "B" (.int 0)) (g3_F : Fld Z h0 q "java/lang/AbstractStringBuilder" "count" "I" (.int 16)) (g4_E : Exa Z h0 d "[B") (g5_V : Arv Z h0 d kd .byte (16 : Int32) [(.int be0), (.int be1), (.int be2), (.int be3), (.int be4), (.int be5), (.int be6), (.int be7), (.int be8), (.int be9), (.int be10), (.int be11), (.int be12), (.int be13), (.int be14), (.int be15)] (.int 0)) (g6_S : Sta Z Z.heap "java/lang/String" "COMPACT_STRINGS" "Z" (.int cpt)) (g7_hcpt : ¬ (cpt = (0 : Int32))) :
    own_Con l Z (⟨"java/lang/StringBuilder", "toString", "()Ljava/lang/String;"⟩ : MethodName) jdk_67_method_42_code 1 (some (.object "java/lang/String")) [] ({ frames := 4, cells := 2, slots := 20, locals := 59 } : Room) #[(.ref q)] h0 (fun rv rh rL => ∃ (a : Addr) (u : Addr) (ku : ClassId), rv = some (.ref a) ∧ own_Fr Z rL ∧ Keep h0 rh [] ∧ h0.size ≤ a ∧ h0.size ≤ u ∧ (Exa Z rh a "java/lang/String") ∧ (Fld Z rh a "java/lang/String" "coder" "B" (.int 0)) ∧ (Fld Z rh a "java/lang/String" "value" "[B" (.ref u)) ∧ (Arv Z rh u ku .byte (16 : Int32) [(.int be0), (.int be1), (.int be2), (.int be3), (.int be4), (.int be5), (.int be6), (.int be7), (.int be8), (.int be9), (.int be10), (.int be11), (.int be12), (.int be13), (.int be14), (.int be15)] (.int 0))) := by
  refine own_intro (plainFor_of_name (by first | (simp [plainName, overriddenIn]; done) | decide +kernel)) ?_
  intro p e s m below meth c s₁ G hx hby hml hown hnm hret hZ X0 e0 hG hR
  have N0 := Fr.nil Z.heap.size
  refine own_entry (Ls := #[.val (.ref q)]) (by first | (simp [entryFrame, mkF, argsToLocals, Value.category]; done) | rfl) ?_
  show G (s₁.setTop (mkF m 0 #[.val (.ref q)] []))
  obtain ⟨T1, h1, X1, e1, E1, A1, D1, -, st1⟩ := newO X0 hx hZ hown (ow hw 124 rfl) (ow hw 11 rfl) (ow hw 3 rfl) e0 (g := (mkF m 0 #[.val (.ref q)] [])) rfl (hb hby d22_0) (by decide) (by decide)
  obtain ⟨b1, z1⟩ : ∃ z, z = h0.size := ⟨_, rfl⟩
  rw [← z1] at A1 D1 st1
  refine hG _ _ st1 ?_
  have K1 : Keep h0 h1 [] := (Keep.refl h0 []).ext E1
  have O1 : own_Old Z h1 := O0.ext E1
  refine hG _ _ (fun t_ k_ => XS.dup X1.here hx rfl (hb hby d22_3) rfl rfl k_) ?_
  refine hG _ _ (fun t_ k_ => XS.aloadN X1.here hx rfl (hb hby d22_4) rfl rfl k_) ?_
  show G (T1.setTop (mkF m 5 #[.val (.ref q)] [(.ref q), (.ref b1), (.ref b1)]))
  have f3 := (g0_E.ext E1)
  have f4 := (g1_F.ext E1)
  have f5 := (g2_F.ext E1)
  have f6 := (g3_F.ext E1)
  have f7 := (g4_E.ext E1)
  have f8 := (g5_V.ext E1)
  refine own_callI X1 hx hZ hG hown rfl (ow hw 125 rfl) (ow hw 126 rfl) (ow hw 3 rfl) (ow hw 127 rfl) (by decide) 1 (own_sis16_16 l Z a0 hw b1 q d kd be0 be1 be2 be3 be4 be5 be6 be7 be8 be9 be10 be11 be12 be13 be14 be15 cpt (.int 0) .null h1 O1 A1 (D1 (Or.inr (ow hw 26 rfl)) (ty := .byte) (by decide)) (D1 (Or.inr (ow hw 24 rfl)) (ty := (.array .byte)) (by decide)) (own_ge O0 (Nat.le_of_eq z1.symm)) (Ne.symm (own_ne g0_E.lt (Nat.le_of_eq z1.symm))) (Ne.symm (own_ne g4_E.lt (Nat.le_of_eq z1.symm))) f3 f4 f5 f6 f7 f8 g6_S g7_hcpt) (by decide) (by decide) e1 (by rw [hml]; rfl) (lenOf own_pd26 rfl) (argsL := [(.ref q)]) (rest := [(.ref b1)]) rfl rfl (Nat.le_of_eq rfl) (hb hby d22_5) (by decide) (by decide) ?_
  intro T2 h2 v2 L2 X2 e2 q2
  obtain ⟨u_2, ku_2, rfl, M2, J2, y2_0, r2_0, r2_1, r2_2, r2_3⟩ := q2
  have N2 := Fr.app N0 M2
  have K2 : Keep h0 h2 [] := K1.trans J2 (allS (Or.inr (Nat.le_trans (Keep.refl h0 []).1 (Nat.le_of_eq z1.symm))) all0)
  have O2 : own_Old Z h2 := O1.keep J2 (allS (own_ge O0 (Nat.le_of_eq z1.symm)) all0)
  show G (T2.setTop (mkF m 8 #[.val (.ref q)] [(.ref b1)]))
  exact own_retA hR hret rfl rfl X2 hx (hb hby d22_8) (by decide) (by decide) (by rw [e2]; exact ⟨b1, u_2, ku_2, rfl, N2, K2, (Nat.le_trans (Keep.refl h0 []).1 (Nat.le_of_eq z1.symm)), (Nat.le_trans K1.1 y2_0), r2_0, r2_1, r2_2, r2_3⟩)
set_option maxRecDepth 65536 in
set_option maxHeartbeats 40000000 in
theorem own_max_1_18 (l : Launch) (Z : State) (a0 : Array Value) (hw : ∀ d ∈ tables_1, d.before a0 Z = true) (h0 : Heap) (O0 : own_Old Z h0) :
    own_Con l Z (⟨"java/lang/Math", "max", "(II)I"⟩ : MethodName) jdk_29_method_65_code 2 (some .int) [] ({ frames := 0, cells := 0, slots := 0, locals := 0 } : Room) #[(.int 1), (.int 18)] h0 (fun rv rh rL => rv = some (.int 18) ∧ own_Fr Z rL ∧ h0 = rh) := by
  refine own_intro (Jvm.Free.JP.mathPlain rfl (by decide +kernel)) ?_
  intro p e s m below meth c s₁ G hx hby hml hown hnm hret hZ X0 e0 hG hR
  have N0 := Fr.nil Z.heap.size
  refine own_entry (Ls := #[.val (.int 1), .val (.int 18)]) (by first | (simp [entryFrame, mkF, argsToLocals, Value.category]; done) | rfl) ?_
  show G (s₁.setTop (mkF m 0 #[.val (.int 1), .val (.int 18)] []))
  refine hG _ _ (fun t_ k_ => XS.iloadN X0.here hx rfl (hb hby d38_0) rfl k_) ?_
  refine hG _ _ (fun t_ k_ => XS.iloadN X0.here hx rfl (hb hby d38_1) rfl k_) ?_
  show G (s₁.setTop (mkF m 2 #[.val (.int 1), .val (.int 18)] [(.int 18), (.int 1)]))
  refine hG _ _ (fun t_ k_ => XS.icmpYes X0.here hx rfl (pc0 := 2) (pc' := 9) rfl (hb hby d38_2) rfl (tlt (by decide)).1 (by decide) (by decide) k_) ?_
  show G (s₁.setTop (mkF m 9 #[.val (.int 1), .val (.int 18)] []))
  refine hG _ _ (fun t_ k_ => XS.iloadN X0.here hx rfl (hb hby d38_9) rfl k_) ?_
  show G (s₁.setTop (mkF m 10 #[.val (.int 1), .val (.int 18)] [(.int 18)]))
  exact own_retI hR hret X0 hx (hb hby d38_10) (by decide) (by decide) (by rw [e0]; exact ⟨rfl, N0, rfl⟩)
theorem own_pd28 : parseMethodDescriptor "(III)I" = some ⟨[.int, .int, .int], some .int⟩ := by decide +kernel
set_option maxRecDepth 65536 in
set_option maxHeartbeats 40000000 in
theorem own_nl15_2 (l : Launch) (Z : State) (a0 : Array Value) (hw : ∀ d ∈ tables_1, d.before a0 Z = true) (h0 : Heap) (O0 : own_Old Z h0) :
    own_Con l Z (⟨"jdk/internal/util/ArraysSupport", "newLength", "(III)I"⟩ : MethodName) jdk_48_method_27_code 4 (some .int) [] ({ frames := 1, cells := 0, slots := 0, locals := 14 } : Room) #[(.int 16), (.int 1), (.int 18)] h0 (fun rv rh rL => rv = some (.int 34) ∧ own_Fr Z rL ∧ h0 = rh) := by
  refine own_intro (plainFor_of_name (by first | (simp [plainName, overriddenIn]; done) | decide +kernel)) ?_
  intro p e s m below meth c s₁ G hx hby hml hown hnm hret hZ X0 e0 hG hR
  have N0 := Fr.nil Z.heap.size
  refine own_entry (Ls := #[.val (.int 16), .val (.int 1), .val (.int 18), .unset]) (by first | (simp [entryFrame, mkF, argsToLocals, Value.category]; done) | rfl) ?_
  show G (s₁.setTop (mkF m 0 #[.val (.int 16), .val (.int 1), .val (.int 18), .unset] []))
  refine hG _ _ (fun t_ k_ => XS.iloadN X0.here hx rfl (hb hby d37_0) rfl k_) ?_
  refine hG _ _ (fun t_ k_ => XS.iloadN X0.here hx rfl (hb hby d37_1) rfl k_) ?_
  refine hG _ _ (fun t_ k_ => XS.iloadN X0.here hx rfl (hb hby d37_2) rfl k_) ?_
  show G (s₁.setTop (mkF m 3 #[.val (.int 16), .val (.int 1), .val (.int 18), .unset] [(.int 18), (.int 1), (.int 16)]))
  refine own_callS X0 hx hZ hG hown (ow hw 203 rfl) (ow hw 204 rfl) (ow hw 205 rfl) (ow hw 206 rfl) (by decide) 1 (own_max_1_18 l Z a0 hw h0 O0) (by decide) (by decide) e0 (by rw [hml]; rfl) (lenOf own_pd23 rfl) (argsL := [(.int 1), (.int 18)]) (rest := [(.int 16)]) rfl rfl (Nat.le_of_eq rfl) (hb hby d37_3) (by decide) (by decide) ?_
  intro T1 h1 v1 L1 X1 e1 q1
  obtain ⟨rfl, M1, rfl⟩ := q1
  have N1 := Fr.app N0 M1
  refine hG _ _ (fun t_ k_ => XS.iadd X1.here hx rfl (hb hby d37_6) rfl k_) ?_
  show G (T1.setTop (mkF m 7 #[.val (.int 16), .val (.int 1), .val (.int 18), .unset] [(.int ((16 : Int32) + (18 : Int32)))]))
  rw [show ((16 : Int32) + (18 : Int32)) = (34 : Int32) from by decide]
  show G (T1.setTop (mkF m 7 #[.val (.int 16), .val (.int 1), .val (.int 18), .unset] [(.int 34)]))
  refine hG _ _ (fun t_ k_ => XS.istoreN X1.here hx rfl (hb hby d37_7) rfl (l' := #[.val (.int 16), .val (.int 1), .val (.int 18), .val (.int 34)]) rfl k_) ?_
  refine hG _ _ (fun t_ k_ => XS.iconst X1.here hx rfl (hb hby d37_8) k_) ?_
  refine hG _ _ (fun t_ k_ => XS.iloadN X1.here hx rfl (hb hby d37_9) rfl k_) ?_
  show G (T1.setTop (mkF m 10 #[.val (.int 16), .val (.int 1), .val (.int 18), .val (.int 34)] [(.int 34), (.int 0)]))
  refine hG _ _ (fun t_ k_ => XS.icmpNo X1.here hx rfl (hb hby d37_10) rfl (tlt (by decide)).2.1 k_) ?_
  show G (T1.setTop (mkF m 13 #[.val (.int 16), .val (.int 1), .val (.int 18), .val (.int 34)] []))
  refine hG _ _ (fun t_ k_ => XS.iloadN X1.here hx rfl (hb hby d37_13) rfl k_) ?_
  refine hG _ _ (X1.ldcInt hx hown (mvT hZ (ow hw 207 rfl)) (g := (mkF m 14 #[.val (.int 16), .val (.int 1), .val (.int 18), .val (.int 34)] [(.int 34)])) rfl (hb hby d37_14)) ?_
  show G (T1.setTop (mkF m 16 #[.val (.int 16), .val (.int 1), .val (.int 18), .val (.int 34)] [(.int 2147483639), (.int 34)]))
  refine hG _ _ (fun t_ k_ => XS.icmpNo X1.here hx rfl (hb hby d37_16) rfl (flt (by decide)).2.2.1 k_) ?_
  show G (T1.setTop (mkF m 19 #[.val (.int 16), .val (.int 1), .val (.int 18), .val (.int 34)] []))
  refine hG _ _ (fun t_ k_ => XS.iloadN X1.here hx rfl (hb hby d37_19) rfl k_) ?_
  show G (T1.setTop (mkF m 20 #[.val (.int 16), .val (.int 1), .val (.int 18), .val (.int 34)] [(.int 34)]))
  exact own_retI hR hret X1 hx (hb hby d37_20) (by decide) (by decide) (by rw [e1]; exact ⟨rfl, N1, rfl⟩)
theorem own_pd29 : parseMethodDescriptor "(I)I" = some ⟨[.int], some .int⟩ := by decide +kernel
set_option maxRecDepth 65536 in
set_option maxHeartbeats 40000000 in
theorem own_nc15_2 (l : Launch) (Z : State) (a0 : Array Value) (hw : ∀ d ∈ tables_1, d.before a0 Z = true) (q : Addr) (d : Addr) (kd : ClassId) (be0 : Int32) (be1 : Int32) (be2 : Int32) (be3 : Int32) (be4 : Int32) (be5 : Int32) (be6 : Int32) (be7 : Int32) (be8 : Int32) (be9 : Int32) (be10 : Int32) (be11 : Int32) (be12 : Int32) (be13 : Int32) (be14 : Int32) (be15 : Int32) (h0 : Heap) (O0 : own_Old Z h0) (g0_F : Fld Z h0 q "java/lang/AbstractStringBuilder" "value" "[B" (.ref d)) (g1_F : Fld Z h0 q "java/lang/AbstractStringBuilder" "coder" "B" (.int 0)) (g2_V : Arv Z h0 d kd .byte (16 : Int32) [(.int be0), (.int be1), (.int be2), (.int be3), (.int be4), (.int be5), (.int be6), (.int be7), (.int be8), (.int be9), (.int be10), (.int be11), (.int be12), (.int be13), (.int be14), (.int be15)] (.int 0)) :
    own_Con l Z (⟨"java/lang/AbstractStringBuilder", "newCapacity", "(I)I"⟩ : MethodName) jdk_68_method_10_code 6 (some .int) [] ({ frames := 2, cells := 0, slots := 0, locals := 29 } : Room) #[(.ref q), (.int 17)] h0 (fun rv rh rL => rv = some (.int 34) ∧ own_Fr Z rL ∧ h0 = rh) := by
  refine own_intro (plainFor_of_name (by first | (simp [plainName, overriddenIn]; done) | decide +kernel)) ?_
  intro p e s m below meth c s₁ G hx hby hml hown hnm hret hZ X0 e0 hG hR
  have N0 := Fr.nil Z.heap.size
  refine own_entry (Ls := #[.val (.ref q), .val (.int 17), .unset, .unset, .unset, .unset]) (by first | (simp [entryFrame, mkF, argsToLocals, Value.category]; done) | rfl) ?_
  show G (s₁.setTop (mkF m 0 #[.val (.ref q), .val (.int 17), .unset, .unset, .unset, .unset] []))
  refine hG _ _ (fun t_ k_ => XS.aloadN X0.here hx rfl (hb hby d36_0) rfl rfl k_) ?_
  obtain ⟨T1, X1, e1, st1⟩ := getF X0 hx hZ hown (host := "") (Or.inl (ow hw 65 rfl)) Via.refl e0 g0_F (g := (mkF m 1 #[.val (.ref q), .val (.int 17), .unset, .unset, .unset, .unset] [(.ref q)])) rfl rfl (hb hby d36_1)
  refine hG _ _ st1 ?_
  obtain ⟨c2, Ar2, -, S2, M2, -, -⟩ := id g2_V
  refine hG _ _ (X1.arraylength hx (by rw [e1]; exact Ar2.1) (State.isArrayOf_alike hZ.alike Ar2.2.1) (g := (mkF m 4 #[.val (.ref q), .val (.int 17), .unset, .unset, .unset, .unset] [(.ref d)])) rfl rfl (hb hby d36_4)) ?_
  rw [len_of S2 M2]
  refine hG _ _ (fun t_ k_ => XS.istoreN X1.here hx rfl (hb hby d36_5) rfl (l' := #[.val (.ref q), .val (.int 17), .val (.int 16), .unset, .unset, .unset]) rfl k_) ?_
  refine hG _ _ (fun t_ k_ => XS.iloadN X1.here hx rfl (hb hby d36_6) rfl k_) ?_
  refine hG _ _ (fun t_ k_ => XS.aloadN X1.here hx rfl (hb hby d36_7) rfl rfl k_) ?_
  obtain ⟨T3, X3, e3, st3⟩ := getF X1 hx hZ hown (host := "") (Or.inl (ow hw 67 rfl)) Via.refl e1 g1_F (g := (mkF m 8 #[.val (.ref q), .val (.int 17), .val (.int 16), .unset, .unset, .unset] [(.ref q), (.int 17)])) rfl rfl (hb hby d36_8)
  refine hG _ _ st3 ?_
  refine hG _ _ (fun t_ k_ => XS.ishl X3.here hx rfl (hb hby d36_11) rfl k_) ?_
  show G (T3.setTop (mkF m 12 #[.val (.ref q), .val (.int 17), .val (.int 16), .unset, .unset, .unset] [(.int ((17 : Int32) <<< ((0 : Int32) &&& 31)))]))
  rw [show ((17 : Int32) <<< ((0 : Int32) &&& 31)) = (17 : Int32) from by decide]
  show G (T3.setTop (mkF m 12 #[.val (.ref q), .val (.int 17), .val (.int 16), .unset, .unset, .unset] [(.int 17)]))
  refine hG _ _ (fun t_ k_ => XS.istoreN X3.here hx rfl (hb hby d36_12) rfl (l' := #[.val (.ref q), .val (.int 17), .val (.int 16), .val (.int 17), .unset, .unset]) rfl k_) ?_
  refine hG _ _ (fun t_ k_ => XS.iloadN X3.here hx rfl (hb hby d36_13) rfl k_) ?_
  refine hG _ _ (fun t_ k_ => XS.iloadN X3.here hx rfl (hb hby d36_14) rfl k_) ?_
  refine hG _ _ (fun t_ k_ => XS.isub X3.here hx rfl (hb hby d36_15) rfl k_) ?_
  show G (T3.setTop (mkF m 16 #[.val (.ref q), .val (.int 17), .val (.int 16), .val (.int 17), .unset, .unset] [(.int ((17 : Int32) - (16 : Int32)))]))
  rw [show ((17 : Int32) - (16 : Int32)) = (1 : Int32) from by decide]
  show G (T3.setTop (mkF m 16 #[.val (.ref q), .val (.int 17), .val (.int 16), .val (.int 17), .unset, .unset] [(.int 1)]))
  refine hG _ _ (fun t_ k_ => XS.istore X3.here hx rfl (hb hby d36_16) rfl (l' := #[.val (.ref q), .val (.int 17), .val (.int 16), .val (.int 17), .val (.int 1), .unset]) rfl k_) ?_
  refine hG _ _ (fun t_ k_ => XS.iloadN X3.here hx rfl (hb hby d36_18) rfl k_) ?_
  refine hG _ _ (fun t_ k_ => XS.iload X3.here hx rfl (hb hby d36_19) rfl k_) ?_
  refine hG _ _ (fun t_ k_ => XS.iloadN X3.here hx rfl (hb hby d36_21) rfl k_) ?_
  refine hG _ _ (fun t_ k_ => XS.iconst X3.here hx rfl (hb hby d36_22) k_) ?_
  refine hG _ _ (fun t_ k_ => XS.aloadN X3.here hx rfl (hb hby d36_23) rfl rfl k_) ?_
  obtain ⟨T4, X4, e4, st4⟩ := getF X3 hx hZ hown (host := "") (Or.inl (ow hw 67 rfl)) Via.refl e3 g1_F (g := (mkF m 24 #[.val (.ref q), .val (.int 17), .val (.int 16), .val (.int 17), .val (.int 1), .unset] [(.ref q), (.int 2), (.int 16), (.int 1), (.int 16)])) rfl rfl (hb hby d36_24)
  refine hG _ _ st4 ?_
  refine hG _ _ (fun t_ k_ => XS.ishl X4.here hx rfl (hb hby d36_27) rfl k_) ?_
  show G (T4.setTop (mkF m 28 #[.val (.ref q), .val (.int 17), .val (.int 16), .val (.int 17), .val (.int 1), .unset] [(.int ((2 : Int32) <<< ((0 : Int32) &&& 31))), (.int 16), (.int 1), (.int 16)]))
  rw [show ((2 : Int32) <<< ((0 : Int32) &&& 31)) = (2 : Int32) from by decide]
  show G (T4.setTop (mkF m 28 #[.val (.ref q), .val (.int 17), .val (.int 16), .val (.int 17), .val (.int 1), .unset] [(.int 2), (.int 16), (.int 1), (.int 16)]))
  refine hG _ _ (fun t_ k_ => XS.iadd X4.here hx rfl (hb hby d36_28) rfl k_) ?_
  show G (T4.setTop (mkF m 29 #[.val (.ref q), .val (.int 17), .val (.int 16), .val (.int 17), .val (.int 1), .unset] [(.int ((16 : Int32) + (2 : Int32))), (.int 1), (.int 16)]))
  rw [show ((16 : Int32) + (2 : Int32)) = (18 : Int32) from by decide]
  show G (T4.setTop (mkF m 29 #[.val (.ref q), .val (.int 17), .val (.int 16), .val (.int 17), .val (.int 1), .unset] [(.int 18), (.int 1), (.int 16)]))
  refine own_callS X4 hx hZ hG hown (ow hw 199 rfl) (ow hw 200 rfl) (ow hw 201 rfl) (ow hw 202 rfl) (by decide) 0 (own_nl15_2 l Z a0 hw h0 O0) (by decide) (by decide) e4 (by rw [hml]; rfl) (lenOf own_pd28 rfl) (argsL := [(.int 16), (.int 1), (.int 18)]) (rest := []) rfl rfl (Nat.le_of_eq rfl) (hb hby d36_29) (by decide) (by decide) ?_
  intro T5 h5 v5 L5 X5 e5 q5
  obtain ⟨rfl, M5, rfl⟩ := q5
  have N5 := Fr.app N0 M5
  refine hG _ _ (fun t_ k_ => XS.istore X5.here hx rfl (hb hby d36_32) rfl (l' := #[.val (.ref q), .val (.int 17), .val (.int 16), .val (.int 17), .val (.int 1), .val (.int 34)]) rfl k_) ?_
  refine hG _ _ (fun t_ k_ => XS.iload X5.here hx rfl (hb hby d36_34) rfl k_) ?_
  refine hG _ _ (X5.ldcInt hx hown (mvT hZ (ow hw 208 rfl)) (g := (mkF m 36 #[.val (.ref q), .val (.int 17), .val (.int 16), .val (.int 17), .val (.int 1), .val (.int 34)] [(.int 34)])) rfl (hb hby d36_36)) ?_
  show G (T5.setTop (mkF m 38 #[.val (.ref q), .val (.int 17), .val (.int 16), .val (.int 17), .val (.int 1), .val (.int 34)] [(.int 2147483647), (.int 34)]))
  refine hG _ _ (fun t_ k_ => XS.icmpYes X5.here hx rfl (pc0 := 38) (pc' := 51) rfl (hb hby d36_38) rfl (feq (by decide)).2 (by decide) (by decide) k_) ?_
  show G (T5.setTop (mkF m 51 #[.val (.ref q), .val (.int 17), .val (.int 16), .val (.int 17), .val (.int 1), .val (.int 34)] []))
  refine hG _ _ (fun t_ k_ => XS.iload X5.here hx rfl (hb hby d36_51) rfl k_) ?_
  refine hG _ _ (fun t_ k_ => XS.aloadN X5.here hx rfl (hb hby d36_53) rfl rfl k_) ?_
  obtain ⟨T6, X6, e6, st6⟩ := getF X5 hx hZ hown (host := "") (Or.inl (ow hw 67 rfl)) Via.refl e5 g1_F (g := (mkF m 54 #[.val (.ref q), .val (.int 17), .val (.int 16), .val (.int 17), .val (.int 1), .val (.int 34)] [(.ref q), (.int 34)])) rfl rfl (hb hby d36_54)
  refine hG _ _ st6 ?_
  refine hG _ _ (fun t_ k_ => XS.ishr X6.here hx rfl (hb hby d36_57) rfl k_) ?_
  show G (T6.setTop (mkF m 58 #[.val (.ref q), .val (.int 17), .val (.int 16), .val (.int 17), .val (.int 1), .val (.int 34)] [(.int ((34 : Int32) >>> ((0 : Int32) &&& 31)))]))
  rw [show ((34 : Int32) >>> ((0 : Int32) &&& 31)) = (34 : Int32) from by decide]
  show G (T6.setTop (mkF m 58 #[.val (.ref q), .val (.int 17), .val (.int 16), .val (.int 17), .val (.int 1), .val (.int 34)] [(.int 34)]))
  exact own_retI hR hret X6 hx (hb hby d36_58) (by decide) (by decide) (by rw [e6]; exact ⟨rfl, N5, rfl⟩)
set_option maxRecDepth 65536 in
set_option maxHeartbeats 40000000 in
theorem own_min_16_34 (l : Launch) (Z : State) (a0 : Array Value) (hw : ∀ d ∈ tables_1, d.before a0 Z = true) (h0 : Heap) (O0 : own_Old Z h0) :
    own_Con l Z (⟨"java/lang/Math", "min", "(II)I"⟩ : MethodName) jdk_29_method_69_code 2 (some .int) [] ({ frames := 0, cells := 0, slots := 0, locals := 0 } : Room) #[(.int 16), (.int 34)] h0 (fun rv rh rL => rv = some (.int 16) ∧ own_Fr Z rL ∧ h0 = rh) := by
  refine own_intro (Jvm.Free.JP.mathPlain rfl (by decide +kernel)) ?_
  intro p e s m below meth c s₁ G hx hby hml hown hnm hret hZ X0 e0 hG hR
  have N0 := Fr.nil Z.heap.size
  refine own_entry (Ls := #[.val (.int 16), .val (.int 34)]) (by first | (simp [entryFrame, mkF, argsToLocals, Value.category]; done) | rfl) ?_
  show G (s₁.setTop (mkF m 0 #[.val (.int 16), .val (.int 34)] []))
  refine hG _ _ (fun t_ k_ => XS.iloadN X0.here hx rfl (hb hby d40_0) rfl k_) ?_
  refine hG _ _ (fun t_ k_ => XS.iloadN X0.here hx rfl (hb hby d40_1) rfl k_) ?_
  show G (s₁.setTop (mkF m 2 #[.val (.int 16), .val (.int 34)] [(.int 34), (.int 16)]))
  refine hG _ _ (fun t_ k_ => XS.icmpNo X0.here hx rfl (hb hby d40_2) rfl (flt (by decide)).2.2.1 k_) ?_
  show G (s₁.setTop (mkF m 5 #[.val (.int 16), .val (.int 34)] []))
  refine hG _ _ (fun t_ k_ => XS.iloadN X0.here hx rfl (hb hby d40_5) rfl k_) ?_
  refine hG _ _ (fun t_ k_ => XS.goto X0.here hx rfl (pc0 := 6) (pc' := 10) rfl (hb hby d40_6) (by decide) (by decide) k_) ?_
  show G (s₁.setTop (mkF m 10 #[.val (.int 16), .val (.int 34)] [(.int 16)]))
  exact own_retI hR hret X0 hx (hb hby d40_10) (by decide) (by decide) (by rw [e0]; exact ⟨rfl, N0, rfl⟩)
theorem own_pd30 : parseMethodDescriptor "([BI)[B" = some ⟨[(.array .byte), .int], some (.array .byte)⟩ := by decide +kernel
set_option maxRecDepth 65536 in
set_option maxHeartbeats 40000000 in
theorem own_cpo15_2 (l : Launch) (Z : State) (a0 : Array Value) (hw : ∀ d ∈ tables_1, d.before a0 Z = true) (d : Addr) (kd : ClassId) (be0 : Int32) (be1 : Int32) (be2 : Int32) (be3 : Int32) (be4 : Int32) (be5 : Int32) (be6 : Int32) (be7 : Int32) (be8 : Int32) (be9 : Int32) (be10 : Int32) (be11 : Int32) (be12 : Int32) (be13 : Int32) (be14 : Int32) (be15 : Int32) (h0 : Heap) (O0 : own_Old Z h0) (g0_V : Arv Z h0 d kd .byte (16 : Int32) [(.int be0), (.int be1), (.int be2), (.int be3), (.int be4), (.int be5), (.int be6), (.int be7), (.int be8), (.int be9), (.int be10), (.int be11), (.int be12), (.int be13), (.int be14), (.int be15)] (.int 0)) :
    own_Con l Z (⟨"java/util/Arrays", "copyOf", "([BI)[B"⟩ : MethodName) jdk_65_method_121_code 3 (some (.array .byte)) [] ({ frames := 1, cells := 1, slots := 34, locals := 40 } : Room) #[(.ref d), (.int 34)] h0 (fun rv rh rL => ∃ (u : Addr) (ku : ClassId), rv = some (.ref u) ∧ own_Fr Z rL ∧ Keep h0 rh [] ∧ h0.size ≤ u ∧ (Arv Z rh u ku .byte (34 : Int32) [(.int be0), (.int be1), (.int be2), (.int be3), (.int be4), (.int be5), (.int be6), (.int be7), (.int be8), (.int be9), (.int be10), (.int be11), (.int be12), (.int be13), (.int be14), (.int be15), (.int 0), (.int 0), (.int 0), (.int 0), (.int 0), (.int 0), (.int 0), (.int 0), (.int 0), (.int 0), (.int 0), (.int 0), (.int 0), (.int 0), (.int 0), (.int 0), (.int 0), (.int 0)] (.int 0))) := by
  refine own_intro (plainFor_of_name (by first | (simp [plainName, overriddenIn]; done) | decide +kernel)) ?_
  intro p e s m below meth c s₁ G hx hby hml hown hnm hret hZ X0 e0 hG hR
  have N0 := Fr.nil Z.heap.size
  refine own_entry (Ls := #[.val (.ref d), .val (.int 34), .unset]) (by first | (simp [entryFrame, mkF, argsToLocals, Value.category]; done) | rfl) ?_
  show G (s₁.setTop (mkF m 0 #[.val (.ref d), .val (.int 34), .unset] []))
  refine hG _ _ (fun t_ k_ => XS.iloadN X0.here hx rfl (hb hby d39_0) rfl k_) ?_
  refine hG _ _ (fun t_ k_ => XS.aloadN X0.here hx rfl (hb hby d39_1) rfl rfl k_) ?_
  obtain ⟨c1, Ar1, -, S1, M1, -, -⟩ := id g0_V
  refine hG _ _ (X0.arraylength hx (by rw [e0]; exact Ar1.1) (State.isArrayOf_alike hZ.alike Ar1.2.1) (g := (mkF m 2 #[.val (.ref d), .val (.int 34), .unset] [(.ref d), (.int 34)])) rfl rfl (hb hby d39_2)) ?_
  rw [len_of S1 M1]
  show G (s₁.setTop (mkF m 3 #[.val (.ref d), .val (.int 34), .unset] [(.int 16), (.int 34)]))
  refine hG _ _ (fun t_ k_ => XS.icmpYes X0.here hx rfl (pc0 := 3) (pc' := 14) rfl (hb hby d39_3) rfl (feq (by decide)).2 (by decide) (by decide) k_) ?_
  show G (s₁.setTop (mkF m 14 #[.val (.ref d), .val (.int 34), .unset] []))
  refine hG _ _ (fun t_ k_ => XS.iloadN X0.here hx rfl (hb hby d39_14) rfl k_) ?_
  obtain ⟨T2, h2, k2, X2, e2, E2, A2, st2⟩ := newP X0 hx hZ (ow hw 15 rfl) e0 (g := (mkF m 15 #[.val (.ref d), .val (.int 34), .unset] [(.int 34)])) rfl (hb hby d39_15) rfl (by decide) (cap := 34) (by decide) (by decide) (by decide) (by decide)
  obtain ⟨b2, z2⟩ : ∃ z, z = h0.size := ⟨_, rfl⟩
  rw [← z2] at A2 st2
  refine hG _ _ st2 ?_
  have K2 : Keep h0 h2 [] := (Keep.refl h0 []).ext E2
  have O2 : own_Old Z h2 := O0.ext E2
  have V2 : Arv Z h2 b2 k2 .byte (34 : Int32) [(.int 0), (.int 0), (.int 0), (.int 0), (.int 0), (.int 0), (.int 0), (.int 0), (.int 0), (.int 0), (.int 0), (.int 0), (.int 0), (.int 0), (.int 0), (.int 0), (.int 0), (.int 0), (.int 0), (.int 0), (.int 0), (.int 0), (.int 0), (.int 0), (.int 0), (.int 0), (.int 0), (.int 0), (.int 0), (.int 0), (.int 0), (.int 0), (.int 0), (.int 0)] (.int 0) := (Arv.new A2 (by decide)).pad (pad_rep [] (.int 0) 34)
  refine hG _ _ (fun t_ k_ => XS.astoreN X2.here hx rfl (hb hby d39_17) rfl rfl (l' := #[.val (.ref d), .val (.int 34), .val (.ref b2)]) rfl k_) ?_
  refine hG _ _ (fun t_ k_ => XS.aloadN X2.here hx rfl (hb hby d39_18) rfl rfl k_) ?_
  refine hG _ _ (fun t_ k_ => XS.iconst X2.here hx rfl (hb hby d39_19) k_) ?_
  refine hG _ _ (fun t_ k_ => XS.aloadN X2.here hx rfl (hb hby d39_20) rfl rfl k_) ?_
  refine hG _ _ (fun t_ k_ => XS.iconst X2.here hx rfl (hb hby d39_21) k_) ?_
  refine hG _ _ (fun t_ k_ => XS.aloadN X2.here hx rfl (hb hby d39_22) rfl rfl k_) ?_
  have f4 := (g0_V.ext E2)
  obtain ⟨c3, Ar3, -, S3, M3, -, -⟩ := id f4
  refine hG _ _ (X2.arraylength hx (by rw [e2]; exact Ar3.1) (State.isArrayOf_alike hZ.alike Ar3.2.1) (g := (mkF m 23 #[.val (.ref d), .val (.int 34), .val (.ref b2)] [(.ref d), (.int 0), (.ref b2), (.int 0), (.ref d)])) rfl rfl (hb hby d39_23)) ?_
  rw [len_of S3 M3]
  show G (T2.setTop (mkF m 24 #[.val (.ref d), .val (.int 34), .val (.ref b2)] [(.int 16), (.int 0), (.ref b2), (.int 0), (.ref d)]))
  refine hG _ _ (fun t_ k_ => XS.iloadN X2.here hx rfl (hb hby d39_24) rfl k_) ?_
  show G (T2.setTop (mkF m 25 #[.val (.ref d), .val (.int 34), .val (.ref b2)] [(.int 34), (.int 16), (.int 0), (.ref b2), (.int 0), (.ref d)]))
  refine own_callS X2 hx hZ hG hown (ow hw 212 rfl) (ow hw 213 rfl) (ow hw 205 rfl) (ow hw 214 rfl) (by decide) 4 (own_min_16_34 l Z a0 hw h2 O2) (by decide) (by decide) e2 (by rw [hml]; rfl) (lenOf own_pd23 rfl) (argsL := [(.int 16), (.int 34)]) (rest := [(.int 0), (.ref b2), (.int 0), (.ref d)]) rfl rfl (Nat.le_of_eq rfl) (hb hby d39_25) (by decide) (by decide) ?_
  intro T5 h5 v5 L5 X5 e5 q5
  obtain ⟨rfl, M5, rfl⟩ := q5
  have N5 := Fr.app N0 M5
  show G (T5.setTop (mkF m 28 #[.val (.ref d), .val (.int 34), .val (.ref b2)] [(.int 16), (.int 0), (.ref b2), (.int 0), (.ref d)]))
  obtain ⟨T6, h6, L6, X6, e6, N6, J6, V6, st6⟩ := cpA X5 hx hZ hown (ow hw 215 rfl) (ow hw 118 rfl) (ow hw 116 rfl) (ow hw 117 rfl) e5 f4 V2 (Or.inl ⟨rfl, rfl⟩) (by decide) (by decide) (by decide) (by decide) (by decide) rfl (Nat.le_of_ble_eq_true rfl) N5 (own_ge O0 (Nat.le_of_eq z2.symm)) (g := (mkF m 28 #[.val (.ref d), .val (.int 34), .val (.ref b2)] [(.int 16), (.int 0), (.ref b2), (.int 0), (.ref d)])) rfl (by rw [hml]; rfl) rfl (hb hby d39_28) (by decide) (W := 0) (by show 2 * 0 + _ ≤ _; exact Nat.le_of_eq rfl) (by decide)
  refine hG _ _ st6 ?_
  have K6 : Keep h0 h6 [] := K2.trans J6 (allS (Or.inr (Nat.le_trans (Keep.refl h0 []).1 (Nat.le_of_eq z2.symm))) all0)
  have O6 : own_Old Z h6 := O2.keep J6 (allS (own_ge O0 (Nat.le_of_eq z2.symm)) all0)
  have U6 : Arv Z h6 b2 k2 .byte (34 : Int32) [(.int be0), (.int be1), (.int be2), (.int be3), (.int be4), (.int be5), (.int be6), (.int be7), (.int be8), (.int be9), (.int be10), (.int be11), (.int be12), (.int be13), (.int be14), (.int be15), (.int 0), (.int 0), (.int 0), (.int 0), (.int 0), (.int 0), (.int 0), (.int 0), (.int 0), (.int 0), (.int 0), (.int 0), (.int 0), (.int 0), (.int 0), (.int 0), (.int 0), (.int 0)] (.int 0) := V6
  show G (T6.setTop (mkF m 31 #[.val (.ref d), .val (.int 34), .val (.ref b2)] []))
  refine hG _ _ (fun t_ k_ => XS.aloadN X6.here hx rfl (hb hby d39_31) rfl rfl k_) ?_
  show G (T6.setTop (mkF m 32 #[.val (.ref d), .val (.int 34), .val (.ref b2)] [(.ref b2)]))
  exact own_retA hR hret rfl rfl X6 hx (hb hby d39_32) (by decide) (by decide) (by rw [e6]; exact ⟨b2, k2, rfl, N6, K6, (Nat.le_trans (Keep.refl h0 []).1 (Nat.le_of_eq z2.symm)), U6⟩)
set_option maxRecDepth 65536 in
set_option maxHeartbeats 40000000 in
theorem own_ens15_2 (l : Launch) (Z : State) (a0 : Array Value) (hw : ∀ d ∈ tables_1, d.before a0 Z = true) (q : Addr) (d : Addr) (kd : ClassId) (be0 : Int32) (be1 : Int32) (be2 : Int32) (be3 : Int32) (be4 : Int32) (be5 : Int32) (be6 : Int32) (be7 : Int32) (be8 : Int32) (be9 : Int32) (be10 : Int32) (be11 : Int32) (be12 : Int32) (be13 : Int32) (be14 : Int32) (be15 : Int32) (h0 : Heap) (O0 : own_Old Z h0) (g0_E : Exa Z h0 q "java/lang/StringBuilder") (g1_G : Z.heap.size ≤ q) (g2_F : Fld Z h0 q "java/lang/AbstractStringBuilder" "value" "[B" (.ref d)) (g3_F : Fld Z h0 q "java/lang/AbstractStringBuilder" "coder" "B" (.int 0)) (g4_F : Fld Z h0 q "java/lang/AbstractStringBuilder" "count" "I" (.int 15)) (g5_V : Arv Z h0 d kd .byte (16 : Int32) [(.int be0), (.int be1), (.int be2), (.int be3), (.int be4), (.int be5), (.int be6), (.int be7), (.int be8), (.int be9), (.int be10), (.int be11), (.int be12), (.int be13), (.int be14), (.int be15)] (.int 0)) (g6_ne_q_d : q ≠ d) :
    own_Con l Z (⟨"java/lang/AbstractStringBuilder", "ensureCapacityInternal", "(I)V"⟩ : MethodName) jdk_68_method_9_code 3 none [] ({ frames := 3, cells := 1, slots := 34, locals := 55 } : Room) #[(.ref q), (.int 17)] h0 (fun rv rh rL => ∃ (u : Addr) (ku : ClassId), rv = none ∧ own_Fr Z rL ∧ Keep h0 rh [q] ∧ h0.size ≤ u ∧ (Exa Z rh q "java/lang/StringBuilder") ∧ (Fld Z rh q "java/lang/AbstractStringBuilder" "value" "[B" (.ref u)) ∧ (Fld Z rh q "java/lang/AbstractStringBuilder" "coder" "B" (.int 0)) ∧ (Fld Z rh q "java/lang/AbstractStringBuilder" "count" "I" (.int 15)) ∧ (Arv Z rh u ku .byte (34 : Int32) [(.int be0), (.int be1), (.int be2), (.int be3), (.int be4), (.int be5), (.int be6), (.int be7), (.int be8), (.int be9), (.int be10), (.int be11), (.int be12), (.int be13), (.int be14), (.int be15), (.int 0), (.int 0), (.int 0), (.int 0), (.int 0), (.int 0), (.int 0), (.int 0), (.int 0), (.int 0), (.int 0), (.int 0), (.int 0), (.int 0), (.int 0), (.int 0), (.int 0), (.int 0)] (.int 0))) := by
  refine own_intro (plainFor_of_name (by first | (simp [plainName, overriddenIn]; done) | decide +kernel)) ?_
  intro p e s m below meth c s₁ G hx hby hml hown hnm hret hZ X0 e0 hG hR
  have N0 := Fr.nil Z.heap.size
  refine own_entry (Ls := #[.val (.ref q), .val (.int 17), .unset]) (by first | (simp [entryFrame, mkF, argsToLocals, Value.category]; done) | rfl) ?_
  show G (s₁.setTop (mkF m 0 #[.val (.ref q), .val (.int 17), .unset] []))
  refine hG _ _ (fun t_ k_ => XS.aloadN X0.here hx rfl (hb hby d18_0) rfl rfl k_) ?_
  obtain ⟨T1, X1, e1, st1⟩ := getF X0 hx hZ hown (host := "") (Or.inl (ow hw 65 rfl)) Via.refl e0 g2_F (g := (mkF m 1 #[.val (.ref q), .val (.int 17), .unset] [(.ref q)])) rfl rfl (hb hby d18_1)
  refine hG _ _ st1 ?_
  obtain ⟨c2, Ar2, -, S2, M2, -, -⟩ := id g5_V
  refine hG _ _ (X1.arraylength hx (by rw [e1]; exact Ar2.1) (State.isArrayOf_alike hZ.alike Ar2.2.1) (g := (mkF m 4 #[.val (.ref q), .val (.int 17), .unset] [(.ref d)])) rfl rfl (hb hby d18_4)) ?_
  rw [len_of S2 M2]
  refine hG _ _ (fun t_ k_ => XS.aloadN X1.here hx rfl (hb hby d18_5) rfl rfl k_) ?_
  obtain ⟨T3, X3, e3, st3⟩ := getF X1 hx hZ hown (host := "") (Or.inl (ow hw 67 rfl)) Via.refl e1 g3_F (g := (mkF m 6 #[.val (.ref q), .val (.int 17), .unset] [(.ref q), (.int 16)])) rfl rfl (hb hby d18_6)
  refine hG _ _ st3 ?_
  refine hG _ _ (fun t_ k_ => XS.ishr X3.here hx rfl (hb hby d18_9) rfl k_) ?_
  show G (T3.setTop (mkF m 10 #[.val (.ref q), .val (.int 17), .unset] [(.int ((16 : Int32) >>> ((0 : Int32) &&& 31)))]))
  rw [show ((16 : Int32) >>> ((0 : Int32) &&& 31)) = (16 : Int32) from by decide]
  show G (T3.setTop (mkF m 10 #[.val (.ref q), .val (.int 17), .unset] [(.int 16)]))
  refine hG _ _ (fun t_ k_ => XS.istoreN X3.here hx rfl (hb hby d18_10) rfl (l' := #[.val (.ref q), .val (.int 17), .val (.int 16)]) rfl k_) ?_
  refine hG _ _ (fun t_ k_ => XS.iloadN X3.here hx rfl (hb hby d18_11) rfl k_) ?_
  refine hG _ _ (fun t_ k_ => XS.iloadN X3.here hx rfl (hb hby d18_12) rfl k_) ?_
  refine hG _ _ (fun t_ k_ => XS.isub X3.here hx rfl (hb hby d18_13) rfl k_) ?_
  show G (T3.setTop (mkF m 14 #[.val (.ref q), .val (.int 17), .val (.int 16)] [(.int ((17 : Int32) - (16 : Int32)))]))
  rw [show ((17 : Int32) - (16 : Int32)) = (1 : Int32) from by decide]
  show G (T3.setTop (mkF m 14 #[.val (.ref q), .val (.int 17), .val (.int 16)] [(.int 1)]))
  refine hG _ _ (fun t_ k_ => XS.ifNo X3.here hx rfl (hb hby d18_14) rfl ((if0 _ _).trans (tlt (by decide)).2.2.2) k_) ?_
  show G (T3.setTop (mkF m 17 #[.val (.ref q), .val (.int 17), .val (.int 16)] []))
  refine hG _ _ (fun t_ k_ => XS.aloadN X3.here hx rfl (hb hby d18_17) rfl rfl k_) ?_
  refine hG _ _ (fun t_ k_ => XS.aloadN X3.here hx rfl (hb hby d18_18) rfl rfl k_) ?_
  obtain ⟨T4, X4, e4, st4⟩ := getF X3 hx hZ hown (host := "") (Or.inl (ow hw 65 rfl)) Via.refl e3 g2_F (g := (mkF m 19 #[.val (.ref q), .val (.int 17), .val (.int 16)] [(.ref q), (.ref q)])) rfl rfl (hb hby d18_19)
  refine hG _ _ st4 ?_
  refine hG _ _ (fun t_ k_ => XS.aloadN X4.here hx rfl (hb hby d18_22) rfl rfl k_) ?_
  refine hG _ _ (fun t_ k_ => XS.iloadN X4.here hx rfl (hb hby d18_23) rfl k_) ?_
  show G (T4.setTop (mkF m 24 #[.val (.ref q), .val (.int 17), .val (.int 16)] [(.int 17), (.ref q), (.ref d), (.ref q)]))
  refine own_callP2 X4 hx hZ hG hown (ow hw 194 rfl) (ow hw 195 rfl) (ow hw 197 rfl) (ow hw 196 rfl) (ow hw 61 rfl) (ow hw 198 rfl) (by decide) 2 (own_nc15_2 l Z a0 hw q d kd be0 be1 be2 be3 be4 be5 be6 be7 be8 be9 be10 be11 be12 be13 be14 be15 h0 O0 g2_F g3_F g5_V) (by decide) (by decide) e4 g0_E (by rw [hml]; rfl) (lenOf own_pd29 rfl) (argsL := [(.int 17)]) (rest := [(.ref d), (.ref q)]) rfl rfl (Nat.le_of_eq rfl) (hb hby d18_24) (by decide) (by decide) ?_
  intro T5 h5 v5 L5 X5 e5 q5
  obtain ⟨rfl, M5, rfl⟩ := q5
  have N5 := Fr.app N0 M5
  refine hG _ _ (fun t_ k_ => XS.aloadN X5.here hx rfl (hb hby d18_27) rfl rfl k_) ?_
  obtain ⟨T6, X6, e6, st6⟩ := getF X5 hx hZ hown (host := "") (Or.inl (ow hw 67 rfl)) Via.refl e5 g3_F (g := (mkF m 28 #[.val (.ref q), .val (.int 17), .val (.int 16)] [(.ref q), (.int 34), (.ref d), (.ref q)])) rfl rfl (hb hby d18_28)
  refine hG _ _ st6 ?_
  refine hG _ _ (fun t_ k_ => XS.ishl X6.here hx rfl (hb hby d18_31) rfl k_) ?_
  show G (T6.setTop (mkF m 32 #[.val (.ref q), .val (.int 17), .val (.int 16)] [(.int ((34 : Int32) <<< ((0 : Int32) &&& 31))), (.ref d), (.ref q)]))
  rw [show ((34 : Int32) <<< ((0 : Int32) &&& 31)) = (34 : Int32) from by decide]
  show G (T6.setTop (mkF m 32 #[.val (.ref q), .val (.int 17), .val (.int 16)] [(.int 34), (.ref d), (.ref q)]))
  refine own_callS X6 hx hZ hG hown (ow hw 209 rfl) (ow hw 210 rfl) (ow hw 151 rfl) (ow hw 211 rfl) (by decide) 1 (own_cpo15_2 l Z a0 hw d kd be0 be1 be2 be3 be4 be5 be6 be7 be8 be9 be10 be11 be12 be13 be14 be15 h0 O0 g5_V) (by decide) (by decide) e6 (by rw [hml]; rfl) (lenOf own_pd30 rfl) (argsL := [(.ref d), (.int 34)]) (rest := [(.ref q)]) rfl rfl (Nat.le_of_eq rfl) (hb hby d18_32) (by decide) (by decide) ?_
  intro T7 h7 v7 L7 X7 e7 q7
  obtain ⟨u_7, ku_7, rfl, M7, J7, y7_0, r7_0⟩ := q7
  have N7 := Fr.app N5 M7
  have K7 : Keep h0 h7 [q] := (Keep.refl h0 [q]).trans J7 all0
  have O7 : own_Old Z h7 := O0.keep J7 all0
  have f9 := (g2_F.keep J7 nin0)
  have f10 := (g0_E.keep J7)
  obtain ⟨T8, h8, X8, e8, W8, st8⟩ := putF X7 hx hZ hown (host := "") (Or.inl (ow hw 65 rfl)) Via.refl e7 f9 f10 (Or.inl (ow hw 66 rfl)) (ow hw 52 rfl) (ty := (.array .byte)) (by decide) rfl rfl (g := (mkF m 35 #[.val (.ref q), .val (.int 17), .val (.int 16)] [(.ref u_7), (.ref q)])) rfl rfl (hb hby d18_35)
  refine hG _ _ st8 ?_
  have K8 : Keep h0 h8 [q] := K7.wr W8 (Or.inl (List.mem_of_getElem? (i := 0) rfl))
  have O8 : own_Old Z h8 := O7.wr W8 g1_G
  have N8 := Fr.snoc X8 N7 g1_G
  show G (T8.setTop (mkF m 38 #[.val (.ref q), .val (.int 17), .val (.int 16)] []))
  have f11 := (f10.wr W8)
  have f12 := ((g3_F.keep J7 nin0).other W8 (Or.inr (slot_ne (Or.inl (ow hw 68 rfl)) (Or.inl (ow hw 66 rfl)) (by decide) (t := .byte) (t' := (.array .byte)) (by decide) (by decide))))
  have f13 := ((g4_F.keep J7 nin0).other W8 (Or.inr (slot_ne (Or.inl (ow hw 93 rfl)) (Or.inl (ow hw 66 rfl)) (by decide) (t := .int) (t' := (.array .byte)) (by decide) (by decide))))
  have f14 := (r7_0.other W8 (Ne.symm (own_ne g0_E.lt y7_0)))
  exact own_retV hR hret X8 hx (hb hby d18_38) (by decide) (by decide) (by rw [e8]; exact ⟨u_7, ku_7, rfl, N8, K8, (Nat.le_trans (Keep.refl h0 [q]).1 y7_0), f11, (f9.same W8), f12, f13, f14⟩)
set_option maxRecDepth 65536 in
set_option maxHeartbeats 40000000 in
theorem own_gb15_2 (l : Launch) (Z : State) (a0 : Array Value) (hw : ∀ d ∈ tables_1, d.before a0 Z = true) (a : Addr) (t : Addr) (kt : ClassId) (bs0 : Int32) (bs1 : Int32) (d : Addr) (kd : ClassId) (be0 : Int32) (be1 : Int32) (be2 : Int32) (be3 : Int32) (be4 : Int32) (be5 : Int32) (be6 : Int32) (be7 : Int32) (be8 : Int32) (be9 : Int32) (be10 : Int32) (be11 : Int32) (be12 : Int32) (be13 : Int32) (be14 : Int32) (be15 : Int32) (be16 : Int32) (be17 : Int32) (be18 : Int32) (be19 : Int32) (be20 : Int32) (be21 : Int32) (be22 : Int32) (be23 : Int32) (be24 : Int32) (be25 : Int32) (be26 : Int32) (be27 : Int32) (be28 : Int32) (be29 : Int32) (be30 : Int32) (be31 : Int32) (be32 : Int32) (be33 : Int32) (cpt : Int32) (h0 : Heap) (O0 : own_Old Z h0) (g0_E : Exa Z h0 a "java/lang/String") (g1_F : Fld Z h0 a "java/lang/String" "coder" "B" (.int 0)) (g2_F : Fld Z h0 a "java/lang/String" "value" "[B" (.ref t)) (g3_V : Arv Z h0 t kt .byte (2 : Int32) [(.int bs0), (.int bs1)] (.int 0)) (g4_S : Sta Z Z.heap "java/lang/String" "COMPACT_STRINGS" "Z" (.int cpt)) (g5_hcpt : ¬ (cpt = (0 : Int32))) (g6_V : Arv Z h0 d kd .byte (34 : Int32) [(.int be0), (.int be1), (.int be2), (.int be3), (.int be4), (.int be5), (.int be6), (.int be7), (.int be8), (.int be9), (.int be10), (.int be11), (.int be12), (.int be13), (.int be14), (.int be15), (.int be16), (.int be17), (.int be18), (.int be19), (.int be20), (.int be21), (.int be22), (.int be23), (.int be24), (.int be25), (.int be26), (.int be27), (.int be28), (.int be29), (.int be30), (.int be31), (.int be32), (.int be33)] (.int 0)) (g7_G : Z.heap.size ≤ d) (g8_ne_a_d : a ≠ d) (g9_ne_t_d : t ≠ d) :
    own_Con l Z (⟨"java/lang/String", "getBytes", "([BIB)V"⟩ : MethodName) jdk_42_method_147_code 4 none [] ({ frames := 1, cells := 0, slots := 0, locals := 40 } : Room) #[(.ref a), (.ref d), (.int 15), (.int 0)] h0 (fun rv rh rL => rv = none ∧ own_Fr Z rL ∧ Keep h0 rh [d] ∧ (Arv Z rh d kd .byte (34 : Int32) [(.int be0), (.int be1), (.int be2), (.int be3), (.int be4), (.int be5), (.int be6), (.int be7), (.int be8), (.int be9), (.int be10), (.int be11), (.int be12), (.int be13), (.int be14), (.int bs0), (.int bs1), (.int be17), (.int be18), (.int be19), (.int be20), (.int be21), (.int be22), (.int be23), (.int be24), (.int be25), (.int be26), (.int be27), (.int be28), (.int be29), (.int be30), (.int be31), (.int be32), (.int be33)] (.int 0))) := by
  refine own_intro (plainFor_of_name (by first | (simp [plainName, overriddenIn]; done) | decide +kernel)) ?_
  intro p e s m below meth c s₁ G hx hby hml hown hnm hret hZ X0 e0 hG hR
  have N0 := Fr.nil Z.heap.size
  refine own_entry (Ls := #[.val (.ref a), .val (.ref d), .val (.int 15), .val (.int 0)]) (by first | (simp [entryFrame, mkF, argsToLocals, Value.category]; done) | rfl) ?_
  show G (s₁.setTop (mkF m 0 #[.val (.ref a), .val (.ref d), .val (.int 15), .val (.int 0)] []))
  refine hG _ _ (fun t_ k_ => XS.aloadN X0.here hx rfl (hb hby d21_0) rfl rfl k_) ?_
  show G (s₁.setTop (mkF m 1 #[.val (.ref a), .val (.ref d), .val (.int 15), .val (.int 0)] [(.ref a)]))
  refine own_callV (C := "java/lang/String") X0 hx hZ hG hown (ow hw 87 rfl) (ow hw 88 rfl) (ow hw 90 rfl) (ow hw 89 rfl) (ow hw 3 rfl) (ow hw 91 rfl) (by decide) 0 (own_cod0 l Z a0 hw a cpt h0 O0 g1_F g4_S g5_hcpt) (by decide) (by decide) e0 g0_E (by rw [hml]; rfl) (lenOf own_pd11 rfl) (argsL := []) (rest := []) rfl rfl (Nat.le_of_eq rfl) (hb hby d21_1) (by decide) (by decide) ?_
  intro T1 h1 v1 L1 X1 e1 q1
  obtain ⟨rfl, M1, rfl⟩ := q1
  have N1 := Fr.app N0 M1
  refine hG _ _ (fun t_ k_ => XS.iloadN X1.here hx rfl (hb hby d21_4) rfl k_) ?_
  show G (T1.setTop (mkF m 5 #[.val (.ref a), .val (.ref d), .val (.int 15), .val (.int 0)] [(.int 0), (.int 0)]))
  refine hG _ _ (fun t_ k_ => XS.icmpNo X1.here hx rfl (hb hby d21_5) rfl (teq (by decide)).2 k_) ?_
  show G (T1.setTop (mkF m 8 #[.val (.ref a), .val (.ref d), .val (.int 15), .val (.int 0)] []))
  refine hG _ _ (fun t_ k_ => XS.aloadN X1.here hx rfl (hb hby d21_8) rfl rfl k_) ?_
  obtain ⟨T2, X2, e2, st2⟩ := getF X1 hx hZ hown (host := "") (Or.inl (ow hw 23 rfl)) Via.refl e1 g2_F (g := (mkF m 9 #[.val (.ref a), .val (.ref d), .val (.int 15), .val (.int 0)] [(.ref a)])) rfl rfl (hb hby d21_9)
  refine hG _ _ st2 ?_
  refine hG _ _ (fun t_ k_ => XS.iconst X2.here hx rfl (hb hby d21_12) k_) ?_
  refine hG _ _ (fun t_ k_ => XS.aloadN X2.here hx rfl (hb hby d21_13) rfl rfl k_) ?_
  refine hG _ _ (fun t_ k_ => XS.iloadN X2.here hx rfl (hb hby d21_14) rfl k_) ?_
  refine hG _ _ (fun t_ k_ => XS.iloadN X2.here hx rfl (hb hby d21_15) rfl k_) ?_
  refine hG _ _ (fun t_ k_ => XS.ishl X2.here hx rfl (hb hby d21_16) rfl k_) ?_
  show G (T2.setTop (mkF m 17 #[.val (.ref a), .val (.ref d), .val (.int 15), .val (.int 0)] [(.int ((15 : Int32) <<< ((0 : Int32) &&& 31))), (.ref d), (.int 0), (.ref t)]))
  rw [show ((15 : Int32) <<< ((0 : Int32) &&& 31)) = (15 : Int32) from by decide]
  show G (T2.setTop (mkF m 17 #[.val (.ref a), .val (.ref d), .val (.int 15), .val (.int 0)] [(.int 15), (.ref d), (.int 0), (.ref t)]))
  refine hG _ _ (fun t_ k_ => XS.aloadN X2.here hx rfl (hb hby d21_17) rfl rfl k_) ?_
  obtain ⟨T3, X3, e3, st3⟩ := getF X2 hx hZ hown (host := "") (Or.inl (ow hw 23 rfl)) Via.refl e2 g2_F (g := (mkF m 18 #[.val (.ref a), .val (.ref d), .val (.int 15), .val (.int 0)] [(.ref a), (.int 15), (.ref d), (.int 0), (.ref t)])) rfl rfl (hb hby d21_18)
  refine hG _ _ st3 ?_
  obtain ⟨c4, Ar4, -, S4, M4, -, -⟩ := id g3_V
  refine hG _ _ (X3.arraylength hx (by rw [e3]; exact Ar4.1) (State.isArrayOf_alike hZ.alike Ar4.2.1) (g := (mkF m 21 #[.val (.ref a), .val (.ref d), .val (.int 15), .val (.int 0)] [(.ref t), (.int 15), (.ref d), (.int 0), (.ref t)])) rfl rfl (hb hby d21_21)) ?_
  rw [len_of S4 M4]
  show G (T3.setTop (mkF m 22 #[.val (.ref a), .val (.ref d), .val (.int 15), .val (.int 0)] [(.int 2), (.int 15), (.ref d), (.int 0), (.ref t)]))
  obtain ⟨T5, h5, L5, X5, e5, N5, J5, V5, st5⟩ := cpA X3 hx hZ hown (ow hw 115 rfl) (ow hw 118 rfl) (ow hw 116 rfl) (ow hw 117 rfl) e3 g3_V g6_V (Or.inl ⟨rfl, rfl⟩) (by decide) (by decide) (by decide) (by decide) (by decide) rfl (Nat.le_of_ble_eq_true rfl) N1 g7_G (g := (mkF m 22 #[.val (.ref a), .val (.ref d), .val (.int 15), .val (.int 0)] [(.int 2), (.int 15), (.ref d), (.int 0), (.ref t)])) rfl (by rw [hml]; rfl) rfl (hb hby d21_22) (by decide) (W := 0) (by show 2 * 0 + _ ≤ _; exact Nat.le_of_eq rfl) (by decide)
  refine hG _ _ st5 ?_
  have K5 : Keep h0 h5 [d] := (Keep.refl h0 [d]).trans J5 (allS (Or.inl (List.mem_of_getElem? (i := 0) rfl)) all0)
  have O5 : own_Old Z h5 := O0.keep J5 (allS g7_G all0)
  have U5 : Arv Z h5 d kd .byte (34 : Int32) [(.int be0), (.int be1), (.int be2), (.int be3), (.int be4), (.int be5), (.int be6), (.int be7), (.int be8), (.int be9), (.int be10), (.int be11), (.int be12), (.int be13), (.int be14), (.int bs0), (.int bs1), (.int be17), (.int be18), (.int be19), (.int be20), (.int be21), (.int be22), (.int be23), (.int be24), (.int be25), (.int be26), (.int be27), (.int be28), (.int be29), (.int be30), (.int be31), (.int be32), (.int be33)] (.int 0) := V5
  show G (T5.setTop (mkF m 25 #[.val (.ref a), .val (.ref d), .val (.int 15), .val (.int 0)] []))
  refine hG _ _ (fun t_ k_ => XS.goto X5.here hx rfl (pc0 := 25) (pc' := 43) rfl (hb hby d21_25) (by decide) (by decide) k_) ?_
  show G (T5.setTop (mkF m 43 #[.val (.ref a), .val (.ref d), .val (.int 15), .val (.int 0)] []))
  exact own_retV hR hret X5 hx (hb hby d21_43) (by decide) (by decide) (by rw [e5]; exact ⟨rfl, N5, K5, U5⟩)
set_option maxRecDepth 65536 in
set_option maxHeartbeats 40000000 in
theorem own_psa15_2 (l : Launch) (Z : State) (a0 : Array Value) (hw : ∀ d ∈ tables_1, d.before a0 Z = true) (a : Addr) (t : Addr) (kt : ClassId) (bs0 : Int32) (bs1 : Int32) (q : Addr) (d : Addr) (kd : ClassId) (be0 : Int32) (be1 : Int32) (be2 : Int32) (be3 : Int32) (be4 : Int32) (be5 : Int32) (be6 : Int32) (be7 : Int32) (be8 : Int32) (be9 : Int32) (be10 : Int32) (be11 : Int32) (be12 : Int32) (be13 : Int32) (be14 : Int32) (be15 : Int32) (be16 : Int32) (be17 : Int32) (be18 : Int32) (be19 : Int32) (be20 : Int32) (be21 : Int32) (be22 : Int32) (be23 : Int32) (be24 : Int32) (be25 : Int32) (be26 : Int32) (be27 : Int32) (be28 : Int32) (be29 : Int32) (be30 : Int32) (be31 : Int32) (be32 : Int32) (be33 : Int32) (cpt : Int32) (h0 : Heap) (O0 : own_Old Z h0) (g0_E : Exa Z h0 a "java/lang/String") (g1_F : Fld Z h0 a "java/lang/String" "coder" "B" (.int 0)) (g2_F : Fld Z h0 a "java/lang/String" "value" "[B" (.ref t)) (g3_V : Arv Z h0 t kt .byte (2 : Int32) [(.int bs0), (.int bs1)] (.int 0)) (g4_S : Sta Z Z.heap "java/lang/String" "COMPACT_STRINGS" "Z" (.int cpt)) (g5_hcpt : ¬ (cpt = (0 : Int32))) (g6_E : Exa Z h0 q "java/lang/StringBuilder") (g7_F : Fld Z h0 q "java/lang/AbstractStringBuilder" "value" "[B" (.ref d)) (g8_F : Fld Z h0 q "java/lang/AbstractStringBuilder" "coder" "B" (.int 0)) (g9_F : Fld Z h0 q "java/lang/AbstractStringBuilder" "count" "I" (.int 15)) (g10_V : Arv Z h0 d kd .byte (34 : Int32) [(.int be0), (.int be1), (.int be2), (.int be3), (.int be4), (.int be5), (.int be6), (.int be7), (.int be8), (.int be9), (.int be10), (.int be11), (.int be12), (.int be13), (.int be14), (.int be15), (.int be16), (.int be17), (.int be18), (.int be19), (.int be20), (.int be21), (.int be22), (.int be23), (.int be24), (.int be25), (.int be26), (.int be27), (.int be28), (.int be29), (.int be30), (.int be31), (.int be32), (.int be33)] (.int 0)) (g11_G : Z.heap.size ≤ d) (g12_ne_a_d : a ≠ d) (g13_ne_t_d : t ≠ d) :
    own_Con l Z (⟨"java/lang/AbstractStringBuilder", "putStringAt", "(ILjava/lang/String;)V"⟩ : MethodName) jdk_68_method_73_code 3 none [] ({ frames := 2, cells := 0, slots := 0, locals := 55 } : Room) #[(.ref q), (.int 15), (.ref a)] h0 (fun rv rh rL => rv = none ∧ own_Fr Z rL ∧ Keep h0 rh [d] ∧ (Arv Z rh d kd .byte (34 : Int32) [(.int be0), (.int be1), (.int be2), (.int be3), (.int be4), (.int be5), (.int be6), (.int be7), (.int be8), (.int be9), (.int be10), (.int be11), (.int be12), (.int be13), (.int be14), (.int bs0), (.int bs1), (.int be17), (.int be18), (.int be19), (.int be20), (.int be21), (.int be22), (.int be23), (.int be24), (.int be25), (.int be26), (.int be27), (.int be28), (.int be29), (.int be30), (.int be31), (.int be32), (.int be33)] (.int 0))) := by
  refine own_intro (plainFor_of_name (by first | (simp [plainName, overriddenIn]; done) | decide +kernel)) ?_
  intro p e s m below meth c s₁ G hx hby hml hown hnm hret hZ X0 e0 hG hR
  have N0 := Fr.nil Z.heap.size
  refine own_entry (Ls := #[.val (.ref q), .val (.int 15), .val (.ref a)]) (by first | (simp [entryFrame, mkF, argsToLocals, Value.category]; done) | rfl) ?_
  show G (s₁.setTop (mkF m 0 #[.val (.ref q), .val (.int 15), .val (.ref a)] []))
  refine hG _ _ (fun t_ k_ => XS.aloadN X0.here hx rfl (hb hby d19_0) rfl rfl k_) ?_
  refine hG _ _ (fun t_ k_ => XS.aloadN X0.here hx rfl (hb hby d19_1) rfl rfl k_) ?_
  show G (s₁.setTop (mkF m 2 #[.val (.ref q), .val (.int 15), .val (.ref a)] [(.ref a), (.ref q)]))
  refine own_callP2 X0 hx hZ hG hown (ow hw 104 rfl) (ow hw 105 rfl) (ow hw 107 rfl) (ow hw 106 rfl) (ow hw 61 rfl) (ow hw 108 rfl) (by decide) 0 (own_infl l Z a0 hw q a cpt h0 O0 g8_F g0_E g1_F g4_S g5_hcpt) (by decide) (by decide) e0 g6_E (by rw [hml]; rfl) (lenOf own_pd13 rfl) (argsL := [(.ref a)]) (rest := []) rfl rfl (Nat.le_of_eq rfl) (hb hby d19_2) (by decide) (by decide) ?_
  intro T1 h1 v1 L1 X1 e1 q1
  obtain ⟨rfl, M1, rfl⟩ := q1
  have N1 := Fr.app N0 M1
  refine hG _ _ (fun t_ k_ => XS.aloadN X1.here hx rfl (hb hby d19_5) rfl rfl k_) ?_
  refine hG _ _ (fun t_ k_ => XS.aloadN X1.here hx rfl (hb hby d19_6) rfl rfl k_) ?_
  obtain ⟨T2, X2, e2, st2⟩ := getF X1 hx hZ hown (host := "") (Or.inl (ow hw 65 rfl)) Via.refl e1 g7_F (g := (mkF m 7 #[.val (.ref q), .val (.int 15), .val (.ref a)] [(.ref q), (.ref a)])) rfl rfl (hb hby d19_7)
  refine hG _ _ st2 ?_
  refine hG _ _ (fun t_ k_ => XS.iloadN X2.here hx rfl (hb hby d19_10) rfl k_) ?_
  refine hG _ _ (fun t_ k_ => XS.aloadN X2.here hx rfl (hb hby d19_11) rfl rfl k_) ?_
  obtain ⟨T3, X3, e3, st3⟩ := getF X2 hx hZ hown (host := "") (Or.inl (ow hw 67 rfl)) Via.refl e2 g8_F (g := (mkF m 12 #[.val (.ref q), .val (.int 15), .val (.ref a)] [(.ref q), (.int 15), (.ref d), (.ref a)])) rfl rfl (hb hby d19_12)
  refine hG _ _ st3 ?_
  show G (T3.setTop (mkF m 15 #[.val (.ref q), .val (.int 15), .val (.ref a)] [(.int 0), (.int 15), (.ref d), (.ref a)]))
  refine own_callV (C := "java/lang/String") X3 hx hZ hG hown (ow hw 110 rfl) (ow hw 111 rfl) (ow hw 113 rfl) (ow hw 112 rfl) (ow hw 3 rfl) (ow hw 114 rfl) (by decide) 0 (own_gb15_2 l Z a0 hw a t kt bs0 bs1 d kd be0 be1 be2 be3 be4 be5 be6 be7 be8 be9 be10 be11 be12 be13 be14 be15 be16 be17 be18 be19 be20 be21 be22 be23 be24 be25 be26 be27 be28 be29 be30 be31 be32 be33 cpt h0 O0 g0_E g1_F g2_F g3_V g4_S g5_hcpt g10_V g11_G g12_ne_a_d g13_ne_t_d) (by decide) (by decide) e3 g0_E (by rw [hml]; rfl) (lenOf own_pd18 rfl) (argsL := [(.ref d), (.int 15), (.int 0)]) (rest := []) rfl rfl (Nat.le_of_eq rfl) (hb hby d19_15) (by decide) (by decide) ?_
  intro T4 h4 v4 L4 X4 e4 q4
  obtain ⟨rfl, M4, J4, r4_0⟩ := q4
  have N4 := Fr.app N1 M4
  have K4 : Keep h0 h4 [d] := (Keep.refl h0 [d]).trans J4 (allS (Or.inl (List.mem_of_getElem? (i := 0) rfl)) all0)
  have O4 : own_Old Z h4 := O0.keep J4 (allS g11_G all0)
  show G (T4.setTop (mkF m 18 #[.val (.ref q), .val (.int 15), .val (.ref a)] []))
  exact own_retV hR hret X4 hx (hb hby d19_18) (by decide) (by decide) (by rw [e4]; exact ⟨rfl, N4, K4, r4_0⟩)
set_option maxRecDepth 65536 in
set_option maxHeartbeats 40000000 in
theorem own_asba15_2 (l : Launch) (Z : State) (a0 : Array Value) (hw : ∀ d ∈ tables_1, d.before a0 Z = true) (a : Addr) (t : Addr) (kt : ClassId) (bs0 : Int32) (bs1 : Int32) (q : Addr) (d : Addr) (kd : ClassId) (be0 : Int32) (be1 : Int32) (be2 : Int32) (be3 : Int32) (be4 : Int32) (be5 : Int32) (be6 : Int32) (be7 : Int32) (be8 : Int32) (be9 : Int32) (be10 : Int32) (be11 : Int32) (be12 : Int32) (be13 : Int32) (be14 : Int32) (be15 : Int32) (cpt : Int32) (h0 : Heap) (O0 : own_Old Z h0) (g0_E : Exa Z h0 a "java/lang/String") (g1_F : Fld Z h0 a "java/lang/String" "coder" "B" (.int 0)) (g2_F : Fld Z h0 a "java/lang/String" "value" "[B" (.ref t)) (g3_V : Arv Z h0 t kt .byte (2 : Int32) [(.int bs0), (.int bs1)] (.int 0)) (g4_S : Sta Z Z.heap "java/lang/String" "COMPACT_STRINGS" "Z" (.int cpt)) (g5_hcpt : ¬ (cpt = (0 : Int32))) (g6_E : Exa Z h0 q "java/lang/StringBuilder") (g7_G : Z.heap.size ≤ q) (g8_F : Fld Z h0 q "java/lang/AbstractStringBuilder" "value" "[B" (.ref d)) (g9_F : Fld Z h0 q "java/lang/AbstractStringBuilder" "coder" "B" (.int 0)) (g10_F : Fld Z h0 q "java/lang/AbstractStringBuilder" "count" "I" (.int 15)) (g11_V : Arv Z h0 d kd .byte (16 : Int32) [(.int be0), (.int be1), (.int be2), (.int be3), (.int be4), (.int be5), (.int be6), (.int be7), (.int be8), (.int be9), (.int be10), (.int be11), (.int be12), (.int be13), (.int be14), (.int be15)] (.int 0)) (g12_G : Z.heap.size ≤ d) (g13_ne_a_d : a ≠ d) (g14_ne_t_d : t ≠ d) (g15_ne_a_q : a ≠ q) (g16_ne_t_q : t ≠ q) (g17_ne_q_d : q ≠ d) :
    own_Con l Z (⟨"java/lang/AbstractStringBuilder", "append", "(Ljava/lang/String;)Ljava/lang/AbstractStringBuilder;"⟩ : MethodName) jdk_68_method_22_code 3 (some (.object "java/lang/AbstractStringBuilder")) [] ({ frames := 4, cells := 1, slots := 34, locals := 69 } : Room) #[(.ref q), (.ref a)] h0 (fun rv rh rL => ∃ (u : Addr) (ku : ClassId), rv = some (.ref q) ∧ own_Fr Z rL ∧ Keep h0 rh [q] ∧ h0.size ≤ u ∧ (Exa Z rh q "java/lang/StringBuilder") ∧ (Fld Z rh q "java/lang/AbstractStringBuilder" "value" "[B" (.ref u)) ∧ (Fld Z rh q "java/lang/AbstractStringBuilder" "coder" "B" (.int 0)) ∧ (Fld Z rh q "java/lang/AbstractStringBuilder" "count" "I" (.int 17)) ∧ (Arv Z rh u ku .byte (34 : Int32) [(.int be0), (.int be1), (.int be2), (.int be3), (.int be4), (.int be5), (.int be6), (.int be7), (.int be8), (.int be9), (.int be10), (.int be11), (.int be12), (.int be13), (.int be14), (.int bs0), (.int bs1), (.int 0), (.int 0), (.int 0), (.int 0), (.int 0), (.int 0), (.int 0), (.int 0), (.int 0), (.int 0), (.int 0), (.int 0), (.int 0), (.int 0), (.int 0), (.int 0), (.int 0)] (.int 0))) := by
  refine own_intro (plainFor_of_name (by first | (simp [plainName, overriddenIn]; done) | decide +kernel)) ?_
  intro p e s m below meth c s₁ G hx hby hml hown hnm hret hZ X0 e0 hG hR
  have N0 := Fr.nil Z.heap.size
  refine own_entry (Ls := #[.val (.ref q), .val (.ref a), .unset]) (by first | (simp [entryFrame, mkF, argsToLocals, Value.category]; done) | rfl) ?_
  show G (s₁.setTop (mkF m 0 #[.val (.ref q), .val (.ref a), .unset] []))
  refine hG _ _ (fun t_ k_ => XS.aloadN X0.here hx rfl (hb hby d15_0) rfl rfl k_) ?_
  show G (s₁.setTop (mkF m 1 #[.val (.ref q), .val (.ref a), .unset] [(.ref a)]))
  refine hG _ _ (fun t_ k_ => XS.ifnonnullYes X0.here hx rfl (pc0 := 1) (pc' := 9) rfl (hb hby d15_1) rfl (by decide) (by decide) k_) ?_
  refine hG _ _ (fun t_ k_ => XS.aloadN X0.here hx rfl (hb hby d15_9) rfl rfl k_) ?_
  show G (s₁.setTop (mkF m 10 #[.val (.ref q), .val (.ref a), .unset] [(.ref a)]))
  refine own_callV (C := "java/lang/String") X0 hx hZ hG hown (ow hw 82 rfl) (ow hw 83 rfl) (ow hw 85 rfl) (ow hw 84 rfl) (ow hw 3 rfl) (ow hw 86 rfl) (by decide) 0 (own_lenL l Z a0 hw a t kt (2 : Int32) [(.int bs0), (.int bs1)] cpt h0 O0 g0_E g1_F g2_F g3_V g4_S g5_hcpt) (by decide) (by decide) e0 g0_E (by rw [hml]; rfl) (lenOf own_pd12 rfl) (argsL := []) (rest := []) rfl rfl (Nat.le_of_eq rfl) (hb hby d15_10) (by decide) (by decide) ?_
  intro T1 h1 v1 L1 X1 e1 q1
  obtain ⟨rfl, M1, rfl⟩ := q1
  have N1 := Fr.app N0 M1
  refine hG _ _ (fun t_ k_ => XS.istoreN X1.here hx rfl (hb hby d15_13) rfl (l' := #[.val (.ref q), .val (.ref a), .val (.int 2)]) rfl k_) ?_
  refine hG _ _ (fun t_ k_ => XS.aloadN X1.here hx rfl (hb hby d15_14) rfl rfl k_) ?_
  refine hG _ _ (fun t_ k_ => XS.aloadN X1.here hx rfl (hb hby d15_15) rfl rfl k_) ?_
  obtain ⟨T2, X2, e2, st2⟩ := getF X1 hx hZ hown (host := "") (Or.inl (ow hw 92 rfl)) Via.refl e1 g10_F (g := (mkF m 16 #[.val (.ref q), .val (.ref a), .val (.int 2)] [(.ref q), (.ref q)])) rfl rfl (hb hby d15_16)
  refine hG _ _ st2 ?_
  refine hG _ _ (fun t_ k_ => XS.iloadN X2.here hx rfl (hb hby d15_19) rfl k_) ?_
  refine hG _ _ (fun t_ k_ => XS.iadd X2.here hx rfl (hb hby d15_20) rfl k_) ?_
  show G (T2.setTop (mkF m 21 #[.val (.ref q), .val (.ref a), .val (.int 2)] [(.int ((15 : Int32) + (2 : Int32))), (.ref q)]))
  rw [show ((15 : Int32) + (2 : Int32)) = (17 : Int32) from by decide]
  show G (T2.setTop (mkF m 21 #[.val (.ref q), .val (.ref a), .val (.int 2)] [(.int 17), (.ref q)]))
  refine own_callP2 X2 hx hZ hG hown (ow hw 94 rfl) (ow hw 95 rfl) (ow hw 97 rfl) (ow hw 96 rfl) (ow hw 61 rfl) (ow hw 98 rfl) (by decide) 0 (own_ens15_2 l Z a0 hw q d kd be0 be1 be2 be3 be4 be5 be6 be7 be8 be9 be10 be11 be12 be13 be14 be15 h0 O0 g6_E g7_G g8_F g9_F g10_F g11_V g17_ne_q_d) (by decide) (by decide) e2 g6_E (by rw [hml]; rfl) (lenOf own_pd10 rfl) (argsL := [(.int 17)]) (rest := []) rfl rfl (Nat.le_of_eq rfl) (hb hby d15_21) (by decide) (by decide) ?_
  intro T3 h3 v3 L3 X3 e3 q3
  obtain ⟨u_3, ku_3, rfl, M3, J3, y3_0, r3_0, r3_1, r3_2, r3_3, r3_4⟩ := q3
  have N3 := Fr.app N1 M3
  have K3 : Keep h0 h3 [q] := (Keep.refl h0 [q]).trans J3 (allS (Or.inl (List.mem_of_getElem? (i := 0) rfl)) all0)
  have O3 : own_Old Z h3 := O0.keep J3 (allS g7_G all0)
  refine hG _ _ (fun t_ k_ => XS.aloadN X3.here hx rfl (hb hby d15_24) rfl rfl k_) ?_
  refine hG _ _ (fun t_ k_ => XS.aloadN X3.here hx rfl (hb hby d15_25) rfl rfl k_) ?_
  obtain ⟨T4, X4, e4, st4⟩ := getF X3 hx hZ hown (host := "") (Or.inl (ow hw 92 rfl)) Via.refl e3 r3_3 (g := (mkF m 26 #[.val (.ref q), .val (.ref a), .val (.int 2)] [(.ref q), (.ref q)])) rfl rfl (hb hby d15_26)
  refine hG _ _ st4 ?_
  refine hG _ _ (fun t_ k_ => XS.aloadN X4.here hx rfl (hb hby d15_29) rfl rfl k_) ?_
  show G (T4.setTop (mkF m 30 #[.val (.ref q), .val (.ref a), .val (.int 2)] [(.ref a), (.int 15), (.ref q)]))
  have f6 := (g0_E.keep J3)
  have f7 := (g1_F.keep J3 (ninS g15_ne_a_q nin0))
  have f8 := (g2_F.keep J3 (ninS g15_ne_a_q nin0))
  have f9 := (g3_V.keep J3 (ninS g16_ne_t_q nin0))
  refine own_callP2 X4 hx hZ hG hown (ow hw 99 rfl) (ow hw 100 rfl) (ow hw 102 rfl) (ow hw 101 rfl) (ow hw 61 rfl) (ow hw 103 rfl) (by decide) 0 (own_psa15_2 l Z a0 hw a t kt bs0 bs1 q u_3 ku_3 be0 be1 be2 be3 be4 be5 be6 be7 be8 be9 be10 be11 be12 be13 be14 be15 (0 : Int32) (0 : Int32) (0 : Int32) (0 : Int32) (0 : Int32) (0 : Int32) (0 : Int32) (0 : Int32) (0 : Int32) (0 : Int32) (0 : Int32) (0 : Int32) (0 : Int32) (0 : Int32) (0 : Int32) (0 : Int32) (0 : Int32) (0 : Int32) cpt h3 O3 f6 f7 f8 f9 g4_S g5_hcpt r3_0 r3_1 r3_2 r3_3 r3_4 (own_ge O0 y3_0) (own_ne g0_E.lt y3_0) (own_ne g3_V.lt y3_0)) (by decide) (by decide) e4 r3_0 (by rw [hml]; rfl) (lenOf own_pd19 rfl) (argsL := [(.int 15), (.ref a)]) (rest := []) rfl rfl (Nat.le_of_eq rfl) (hb hby d15_30) (by decide) (by decide) ?_
  intro T5 h5 v5 L5 X5 e5 q5
  obtain ⟨rfl, M5, J5, r5_0⟩ := q5
  have N5 := Fr.app N3 M5
  have K5 : Keep h0 h5 [q] := K3.trans J5 (allS (Or.inr (Nat.le_trans (Keep.refl h0 [q]).1 y3_0)) all0)
  have O5 : own_Old Z h5 := O3.keep J5 (allS (own_ge O0 y3_0) all0)
  refine hG _ _ (fun t_ k_ => XS.aloadN X5.here hx rfl (hb hby d15_33) rfl rfl k_) ?_
  refine hG _ _ (fun t_ k_ => XS.dup X5.here hx rfl (hb hby d15_34) rfl rfl k_) ?_
  have f11 := (r3_3.keep J5 (ninS (own_ne g6_E.lt y3_0) nin0))
  obtain ⟨T10, X10, e10, st10⟩ := getF X5 hx hZ hown (host := "") (Or.inl (ow hw 92 rfl)) Via.refl e5 f11 (g := (mkF m 35 #[.val (.ref q), .val (.ref a), .val (.int 2)] [(.ref q), (.ref q)])) rfl rfl (hb hby d15_35)
  refine hG _ _ st10 ?_
  refine hG _ _ (fun t_ k_ => XS.iloadN X10.here hx rfl (hb hby d15_38) rfl k_) ?_
  refine hG _ _ (fun t_ k_ => XS.iadd X10.here hx rfl (hb hby d15_39) rfl k_) ?_
  show G (T10.setTop (mkF m 40 #[.val (.ref q), .val (.ref a), .val (.int 2)] [(.int ((15 : Int32) + (2 : Int32))), (.ref q)]))
  rw [show ((15 : Int32) + (2 : Int32)) = (17 : Int32) from by decide]
  show G (T10.setTop (mkF m 40 #[.val (.ref q), .val (.ref a), .val (.int 2)] [(.int 17), (.ref q)]))
  have f13 := (r3_0.keep J5)
  obtain ⟨T12, h12, X12, e12, W12, st12⟩ := putF X10 hx hZ hown (host := "") (Or.inl (ow hw 92 rfl)) Via.refl e10 f11 f13 (Or.inl (ow hw 93 rfl)) (ow hw 52 rfl) (ty := .int) (by decide) rfl rfl (g := (mkF m 40 #[.val (.ref q), .val (.ref a), .val (.int 2)] [(.int 17), (.ref q)])) rfl rfl (hb hby d15_40)
  refine hG _ _ st12 ?_
  have K12 : Keep h0 h12 [q] := K5.wr W12 (Or.inl (List.mem_of_getElem? (i := 0) rfl))
  have O12 : own_Old Z h12 := O5.wr W12 g7_G
  have N12 := Fr.snoc X12 N5 g7_G
  refine hG _ _ (fun t_ k_ => XS.aloadN X12.here hx rfl (hb hby d15_43) rfl rfl k_) ?_
  show G (T12.setTop (mkF m 44 #[.val (.ref q), .val (.ref a), .val (.int 2)] [(.ref q)]))
  have f14 := (f13.wr W12)
  have f15 := ((r3_1.keep J5 (ninS (own_ne g6_E.lt y3_0) nin0)).other W12 (Or.inr (slot_ne (Or.inl (ow hw 66 rfl)) (Or.inl (ow hw 93 rfl)) (by decide) (t := (.array .byte)) (t' := .int) (by decide) (by decide))))
  have f16 := ((r3_2.keep J5 (ninS (own_ne g6_E.lt y3_0) nin0)).other W12 (Or.inr (slot_ne (Or.inl (ow hw 68 rfl)) (Or.inl (ow hw 93 rfl)) (by decide) (t := .byte) (t' := .int) (by decide) (by decide))))
  have f17 := (r5_0.other W12 (Ne.symm (own_ne g6_E.lt y3_0)))
  exact own_retA hR hret rfl rfl X12 hx (hb hby d15_44) (by decide) (by decide) (by rw [e12]; exact ⟨u_3, ku_3, rfl, N12, K12, (Nat.le_trans (Keep.refl h0 [q]).1 y3_0), f14, f15, f16, (f11.same W12), f17⟩)
set_option maxRecDepth 65536 in
set_option maxHeartbeats 40000000 in
theorem own_sba15_2 (l : Launch) (Z : State) (a0 : Array Value) (hw : ∀ d ∈ tables_1, d.before a0 Z = true) (a : Addr) (t : Addr) (kt : ClassId) (bs0 : Int32) (bs1 : Int32) (q : Addr) (d : Addr) (kd : ClassId) (be0 : Int32) (be1 : Int32) (be2 : Int32) (be3 : Int32) (be4 : Int32) (be5 : Int32) (be6 : Int32) (be7 : Int32) (be8 : Int32) (be9 : Int32) (be10 : Int32) (be11 : Int32) (be12 : Int32) (be13 : Int32) (be14 : Int32) (be15 : Int32) (cpt : Int32) (h0 : Heap) (O0 : own_Old Z h0) (g0_E : Exa Z h0 a "java/lang/String") (g1_F : Fld Z h0 a "java/lang/String" "coder" "B" (.int 0)) (g2_F : Fld Z h0 a "java/lang/String" "value" "[B" (.ref t)) (g3_V : Arv Z h0 t kt .byte (2 : Int32) [(.int bs0), (.int bs1)] (.int 0)) (g4_S : Sta Z Z.heap "java/lang/String" "COMPACT_STRINGS" "Z" (.int cpt)) (g5_hcpt : ¬ (cpt = (0 : Int32))) (g6_E : Exa Z h0 q "java/lang/StringBuilder") (g7_G : Z.heap.size ≤ q) (g8_F : Fld Z h0 q "java/lang/AbstractStringBuilder" "value" "[B" (.ref d)) (g9_F : Fld Z h0 q "java/lang/AbstractStringBuilder" "coder" "B" (.int 0)) (g10_F : Fld Z h0 q "java/lang/AbstractStringBuilder" "count" "I" (.int 15)) (g11_V : Arv Z h0 d kd .byte (16 : Int32) [(.int be0), (.int be1), (.int be2), (.int be3), (.int be4), (.int be5), (.int be6), (.int be7), (.int be8), (.int be9), (.int be10), (.int be11), (.int be12), (.int be13), (.int be14), (.int be15)] (.int 0)) (g12_G : Z.heap.size ≤ d) (g13_ne_a_d : a ≠ d) (g14_ne_t_d : t ≠ d) (g15_ne_a_q : a ≠ q) (g16_ne_t_q : t ≠ q) (g17_ne_q_d : q ≠ d) :
    own_Con l Z (⟨"java/lang/StringBuilder", "append", "(Ljava/lang/String;)Ljava/lang/StringBuilder;"⟩ : MethodName) jdk_67_method_7_code 2 (some (.object "java/lang/StringBuilder")) [] ({ frames := 5, cells := 1, slots := 34, locals := 83 } : Room) #[(.ref q), (.ref a)] h0 (fun rv rh rL => ∃ (u : Addr) (ku : ClassId), rv = some (.ref q) ∧ own_Fr Z rL ∧ Keep h0 rh [q] ∧ h0.size ≤ u ∧ (Exa Z rh q "java/lang/StringBuilder") ∧ (Fld Z rh q "java/lang/AbstractStringBuilder" "value" "[B" (.ref u)) ∧ (Fld Z rh q "java/lang/AbstractStringBuilder" "coder" "B" (.int 0)) ∧ (Fld Z rh q "java/lang/AbstractStringBuilder" "count" "I" (.int 17)) ∧ (Arv Z rh u ku .byte (34 : Int32) [(.int be0), (.int be1), (.int be2), (.int be3), (.int be4), (.int be5), (.int be6), (.int be7), (.int be8), (.int be9), (.int be10), (.int be11), (.int be12), (.int be13), (.int be14), (.int bs0), (.int bs1), (.int 0), (.int 0), (.int 0), (.int 0), (.int 0), (.int 0), (.int 0), (.int 0), (.int 0), (.int 0), (.int 0), (.int 0), (.int 0), (.int 0), (.int 0), (.int 0), (.int 0)] (.int 0))) := by
  refine own_intro (plainFor_of_name (by first | (simp [plainName, overriddenIn]; done) | decide +kernel)) ?_
  intro p e s m below meth c s₁ G hx hby hml hown hnm hret hZ X0 e0 hG hR
  have N0 := Fr.nil Z.heap.size
  refine own_entry (Ls := #[.val (.ref q), .val (.ref a)]) (by first | (simp [entryFrame, mkF, argsToLocals, Value.category]; done) | rfl) ?_
  show G (s₁.setTop (mkF m 0 #[.val (.ref q), .val (.ref a)] []))
  refine hG _ _ (fun t_ k_ => XS.aloadN X0.here hx rfl (hb hby d14_0) rfl rfl k_) ?_
  refine hG _ _ (fun t_ k_ => XS.aloadN X0.here hx rfl (hb hby d14_1) rfl rfl k_) ?_
  show G (s₁.setTop (mkF m 2 #[.val (.ref q), .val (.ref a)] [(.ref a), (.ref q)]))
  refine own_callU X0 hx hZ hG hown (ow hw 77 rfl) (ow hw 78 rfl) (ow hw 79 rfl) (ow hw 97 rfl) rfl (ow hw 61 rfl) (ow hw 81 rfl) (by decide) (by decide) 0 (own_asba15_2 l Z a0 hw a t kt bs0 bs1 q d kd be0 be1 be2 be3 be4 be5 be6 be7 be8 be9 be10 be11 be12 be13 be14 be15 cpt h0 O0 g0_E g1_F g2_F g3_V g4_S g5_hcpt g6_E g7_G g8_F g9_F g10_F g11_V g12_G g13_ne_a_d g14_ne_t_d g15_ne_a_q g16_ne_t_q g17_ne_q_d) (by decide) (by decide) e0 g6_E (by rw [hml]; rfl) (lenOf own_pd20 rfl) (argsL := [(.ref a)]) (rest := []) rfl rfl (Nat.le_of_eq rfl) (hb hby d14_2) (by decide) (by decide) ?_
  intro T1 h1 v1 L1 X1 e1 q1
  obtain ⟨u_1, ku_1, rfl, M1, J1, y1_0, r1_0, r1_1, r1_2, r1_3, r1_4⟩ := q1
  have N1 := Fr.app N0 M1
  have K1 : Keep h0 h1 [q] := (Keep.refl h0 [q]).trans J1 (allS (Or.inl (List.mem_of_getElem? (i := 0) rfl)) all0)
  have O1 : own_Old Z h1 := O0.keep J1 (allS g7_G all0)
  refine hG _ _ (fun t_ k_ => XS.pop X1.here hx rfl (hb hby d14_5) rfl rfl k_) ?_
  refine hG _ _ (fun t_ k_ => XS.aloadN X1.here hx rfl (hb hby d14_6) rfl rfl k_) ?_
  show G (T1.setTop (mkF m 7 #[.val (.ref q), .val (.ref a)] [(.ref q)]))
  exact own_retA hR hret rfl rfl X1 hx (hb hby d14_7) (by decide) (by decide) (by rw [e1]; exact ⟨u_1, ku_1, rfl, N1, K1, (Nat.le_trans (Keep.refl h0 [q]).1 y1_0), r1_0, r1_1, r1_2, r1_3, r1_4⟩)
set_option maxRecDepth 65536 in
set_option maxHeartbeats 40000000 in
theorem own_min_34_17 (l : Launch) (Z : State) (a0 : Array Value) (hw : ∀ d ∈ tables_1, d.before a0 Z = true) (h0 : Heap) (O0 : own_Old Z h0) :
    own_Con l Z (⟨"java/lang/Math", "min", "(II)I"⟩ : MethodName) jdk_29_method_69_code 2 (some .int) [] ({ frames := 0, cells := 0, slots := 0, locals := 0 } : Room) #[(.int 34), (.int 17)] h0 (fun rv rh rL => rv = some (.int 17) ∧ own_Fr Z rL ∧ h0 = rh) := by
  refine own_intro (Jvm.Free.JP.mathPlain rfl (by decide +kernel)) ?_
  intro p e s m below meth c s₁ G hx hby hml hown hnm hret hZ X0 e0 hG hR
  have N0 := Fr.nil Z.heap.size
  refine own_entry (Ls := #[.val (.int 34), .val (.int 17)]) (by first | (simp [entryFrame, mkF, argsToLocals, Value.category]; done) | rfl) ?_
  show G (s₁.setTop (mkF m 0 #[.val (.int 34), .val (.int 17)] []))
  refine hG _ _ (fun t_ k_ => XS.iloadN X0.here hx rfl (hb hby d40_0) rfl k_) ?_
  refine hG _ _ (fun t_ k_ => XS.iloadN X0.here hx rfl (hb hby d40_1) rfl k_) ?_
  show G (s₁.setTop (mkF m 2 #[.val (.int 34), .val (.int 17)] [(.int 17), (.int 34)]))
  refine hG _ _ (fun t_ k_ => XS.icmpYes X0.here hx rfl (pc0 := 2) (pc' := 9) rfl (hb hby d40_2) rfl (tlt (by decide)).2.2.1 (by decide) (by decide) k_) ?_
  show G (s₁.setTop (mkF m 9 #[.val (.int 34), .val (.int 17)] []))
  refine hG _ _ (fun t_ k_ => XS.iloadN X0.here hx rfl (hb hby d40_9) rfl k_) ?_
  show G (s₁.setTop (mkF m 10 #[.val (.int 34), .val (.int 17)] [(.int 17)]))
  exact own_retI hR hret X0 hx (hb hby d40_10) (by decide) (by decide) (by rw [e0]; exact ⟨rfl, N0, rfl⟩)
set_option maxRecDepth 65536 in
set_option maxHeartbeats 40000000 in
theorem own_crb34_17 (l : Launch) (Z : State) (a0 : Array Value) (hw : ∀ d ∈ tables_1, d.before a0 Z = true) (d : Addr) (kd : ClassId) (be0 : Int32) (be1 : Int32) (be2 : Int32) (be3 : Int32) (be4 : Int32) (be5 : Int32) (be6 : Int32) (be7 : Int32) (be8 : Int32) (be9 : Int32) (be10 : Int32) (be11 : Int32) (be12 : Int32) (be13 : Int32) (be14 : Int32) (be15 : Int32) (be16 : Int32) (be17 : Int32) (be18 : Int32) (be19 : Int32) (be20 : Int32) (be21 : Int32) (be22 : Int32) (be23 : Int32) (be24 : Int32) (be25 : Int32) (be26 : Int32) (be27 : Int32) (be28 : Int32) (be29 : Int32) (be30 : Int32) (be31 : Int32) (be32 : Int32) (be33 : Int32) (h0 : Heap) (O0 : own_Old Z h0) (g0_V : Arv Z h0 d kd .byte (34 : Int32) [(.int be0), (.int be1), (.int be2), (.int be3), (.int be4), (.int be5), (.int be6), (.int be7), (.int be8), (.int be9), (.int be10), (.int be11), (.int be12), (.int be13), (.int be14), (.int be15), (.int be16), (.int be17), (.int be18), (.int be19), (.int be20), (.int be21), (.int be22), (.int be23), (.int be24), (.int be25), (.int be26), (.int be27), (.int be28), (.int be29), (.int be30), (.int be31), (.int be32), (.int be33)] (.int 0)) :
    own_Con l Z (⟨"java/util/Arrays", "copyOfRangeByte", "([BII)[B"⟩ : MethodName) jdk_65_method_133_code 5 (some (.array .byte)) [] ({ frames := 1, cells := 1, slots := 17, locals := 40 } : Room) #[(.ref d), (.int 0), (.int 17)] h0 (fun rv rh rL => ∃ (u : Addr) (ku : ClassId), rv = some (.ref u) ∧ own_Fr Z rL ∧ Keep h0 rh [] ∧ h0.size ≤ u ∧ (Arv Z rh u ku .byte (17 : Int32) [(.int be0), (.int be1), (.int be2), (.int be3), (.int be4), (.int be5), (.int be6), (.int be7), (.int be8), (.int be9), (.int be10), (.int be11), (.int be12), (.int be13), (.int be14), (.int be15), (.int be16)] (.int 0))) := by
  refine own_intro (plainFor_of_name (by first | (simp [plainName, overriddenIn]; done) | decide +kernel)) ?_
  intro p e s m below meth c s₁ G hx hby hml hown hnm hret hZ X0 e0 hG hR
  have N0 := Fr.nil Z.heap.size
  refine own_entry (Ls := #[.val (.ref d), .val (.int 0), .val (.int 17), .unset, .unset]) (by first | (simp [entryFrame, mkF, argsToLocals, Value.category]; done) | rfl) ?_
  show G (s₁.setTop (mkF m 0 #[.val (.ref d), .val (.int 0), .val (.int 17), .unset, .unset] []))
  refine hG _ _ (fun t_ k_ => XS.iloadN X0.here hx rfl (hb hby d41_0) rfl k_) ?_
  refine hG _ _ (fun t_ k_ => XS.iloadN X0.here hx rfl (hb hby d41_1) rfl k_) ?_
  show G (s₁.setTop (mkF m 2 #[.val (.ref d), .val (.int 0), .val (.int 17), .unset, .unset] [(.int 17), (.int 0)]))
  refine own_callS X0 hx hZ hG hown (ow hw 219 rfl) (ow hw 220 rfl) (ow hw 151 rfl) (ow hw 221 rfl) (by decide) 0 (own_chl l Z a0 hw (0 : Int32) (17 : Int32) h0 O0 (by decide)) (by decide) (by decide) e0 (by rw [hml]; rfl) (lenOf own_pd22 rfl) (argsL := [(.int 0), (.int 17)]) (rest := []) rfl rfl (Nat.le_of_eq rfl) (hb hby d41_2) (by decide) (by decide) ?_
  intro T1 h1 v1 L1 X1 e1 q1
  obtain ⟨rfl, M1, rfl⟩ := q1
  have N1 := Fr.app N0 M1
  refine hG _ _ (fun t_ k_ => XS.iloadN X1.here hx rfl (hb hby d41_5) rfl k_) ?_
  refine hG _ _ (fun t_ k_ => XS.iloadN X1.here hx rfl (hb hby d41_6) rfl k_) ?_
  refine hG _ _ (fun t_ k_ => XS.isub X1.here hx rfl (hb hby d41_7) rfl k_) ?_
  show G (T1.setTop (mkF m 8 #[.val (.ref d), .val (.int 0), .val (.int 17), .unset, .unset] [(.int ((17 : Int32) - (0 : Int32)))]))
  rw [show ((17 : Int32) - (0 : Int32)) = (17 : Int32) from by decide]
  show G (T1.setTop (mkF m 8 #[.val (.ref d), .val (.int 0), .val (.int 17), .unset, .unset] [(.int 17)]))
  refine hG _ _ (fun t_ k_ => XS.istoreN X1.here hx rfl (hb hby d41_8) rfl (l' := #[.val (.ref d), .val (.int 0), .val (.int 17), .val (.int 17), .unset]) rfl k_) ?_
  refine hG _ _ (fun t_ k_ => XS.iloadN X1.here hx rfl (hb hby d41_9) rfl k_) ?_
  obtain ⟨T2, h2, k2, X2, e2, E2, A2, st2⟩ := newP X1 hx hZ (ow hw 15 rfl) e1 (g := (mkF m 10 #[.val (.ref d), .val (.int 0), .val (.int 17), .val (.int 17), .unset] [(.int 17)])) rfl (hb hby d41_10) rfl (by decide) (cap := 17) (by decide) (by decide) (by decide) (by decide)
  obtain ⟨b2, z2⟩ : ∃ z, z = h0.size := ⟨_, rfl⟩
  rw [← z2] at A2 st2
  refine hG _ _ st2 ?_
  have K2 : Keep h0 h2 [] := (Keep.refl h0 []).ext E2
  have O2 : own_Old Z h2 := O0.ext E2
  have V2 : Arv Z h2 b2 k2 .byte (17 : Int32) [(.int 0), (.int 0), (.int 0), (.int 0), (.int 0), (.int 0), (.int 0), (.int 0), (.int 0), (.int 0), (.int 0), (.int 0), (.int 0), (.int 0), (.int 0), (.int 0), (.int 0)] (.int 0) := (Arv.new A2 (by decide)).pad (pad_rep [] (.int 0) 17)
  refine hG _ _ (fun t_ k_ => XS.astore X2.here hx rfl (hb hby d41_12) rfl rfl (l' := #[.val (.ref d), .val (.int 0), .val (.int 17), .val (.int 17), .val (.ref b2)]) rfl k_) ?_
  refine hG _ _ (fun t_ k_ => XS.aloadN X2.here hx rfl (hb hby d41_14) rfl rfl k_) ?_
  refine hG _ _ (fun t_ k_ => XS.iloadN X2.here hx rfl (hb hby d41_15) rfl k_) ?_
  refine hG _ _ (fun t_ k_ => XS.aload X2.here hx rfl (hb hby d41_16) rfl rfl k_) ?_
  refine hG _ _ (fun t_ k_ => XS.iconst X2.here hx rfl (hb hby d41_18) k_) ?_
  refine hG _ _ (fun t_ k_ => XS.aloadN X2.here hx rfl (hb hby d41_19) rfl rfl k_) ?_
  show G (T2.setTop (mkF m 20 #[.val (.ref d), .val (.int 0), .val (.int 17), .val (.int 17), .val (.ref b2)] [(.ref d), (.int 0), (.ref b2), (.int 0), (.ref d)]))
  have f4 := (g0_V.ext E2)
  obtain ⟨c3, Ar3, -, S3, M3, -, -⟩ := id f4
  refine hG _ _ (X2.arraylength hx (by rw [e2]; exact Ar3.1) (State.isArrayOf_alike hZ.alike Ar3.2.1) (g := (mkF m 20 #[.val (.ref d), .val (.int 0), .val (.int 17), .val (.int 17), .val (.ref b2)] [(.ref d), (.int 0), (.ref b2), (.int 0), (.ref d)])) rfl rfl (hb hby d41_20)) ?_
  rw [len_of S3 M3]
  refine hG _ _ (fun t_ k_ => XS.iloadN X2.here hx rfl (hb hby d41_21) rfl k_) ?_
  refine hG _ _ (fun t_ k_ => XS.isub X2.here hx rfl (hb hby d41_22) rfl k_) ?_
  show G (T2.setTop (mkF m 23 #[.val (.ref d), .val (.int 0), .val (.int 17), .val (.int 17), .val (.ref b2)] [(.int ((34 : Int32) - (0 : Int32))), (.int 0), (.ref b2), (.int 0), (.ref d)]))
  rw [show ((34 : Int32) - (0 : Int32)) = (34 : Int32) from by decide]
  show G (T2.setTop (mkF m 23 #[.val (.ref d), .val (.int 0), .val (.int 17), .val (.int 17), .val (.ref b2)] [(.int 34), (.int 0), (.ref b2), (.int 0), (.ref d)]))
  refine hG _ _ (fun t_ k_ => XS.iloadN X2.here hx rfl (hb hby d41_23) rfl k_) ?_
  show G (T2.setTop (mkF m 24 #[.val (.ref d), .val (.int 0), .val (.int 17), .val (.int 17), .val (.ref b2)] [(.int 17), (.int 34), (.int 0), (.ref b2), (.int 0), (.ref d)]))
  refine own_callS X2 hx hZ hG hown (ow hw 212 rfl) (ow hw 213 rfl) (ow hw 205 rfl) (ow hw 214 rfl) (by decide) 4 (own_min_34_17 l Z a0 hw h2 O2) (by decide) (by decide) e2 (by rw [hml]; rfl) (lenOf own_pd23 rfl) (argsL := [(.int 34), (.int 17)]) (rest := [(.int 0), (.ref b2), (.int 0), (.ref d)]) rfl rfl (Nat.le_of_eq rfl) (hb hby d41_24) (by decide) (by decide) ?_
  intro T5 h5 v5 L5 X5 e5 q5
  obtain ⟨rfl, M5, rfl⟩ := q5
  have N5 := Fr.app N1 M5
  show G (T5.setTop (mkF m 27 #[.val (.ref d), .val (.int 0), .val (.int 17), .val (.int 17), .val (.ref b2)] [(.int 17), (.int 0), (.ref b2), (.int 0), (.ref d)]))
  obtain ⟨T6, h6, L6, X6, e6, N6, J6, V6, st6⟩ := cpA X5 hx hZ hown (ow hw 215 rfl) (ow hw 118 rfl) (ow hw 116 rfl) (ow hw 117 rfl) e5 f4 V2 (Or.inl ⟨rfl, rfl⟩) (by decide) (by decide) (by decide) (by decide) (by decide) rfl (Nat.le_of_ble_eq_true rfl) N5 (own_ge O0 (Nat.le_of_eq z2.symm)) (g := (mkF m 27 #[.val (.ref d), .val (.int 0), .val (.int 17), .val (.int 17), .val (.ref b2)] [(.int 17), (.int 0), (.ref b2), (.int 0), (.ref d)])) rfl (by rw [hml]; rfl) rfl (hb hby d41_27) (by decide) (W := 0) (by show 2 * 0 + _ ≤ _; exact Nat.le_of_eq rfl) (by decide)
  refine hG _ _ st6 ?_
  have K6 : Keep h0 h6 [] := K2.trans J6 (allS (Or.inr (Nat.le_trans (Keep.refl h0 []).1 (Nat.le_of_eq z2.symm))) all0)
  have O6 : own_Old Z h6 := O2.keep J6 (allS (own_ge O0 (Nat.le_of_eq z2.symm)) all0)
  have U6 : Arv Z h6 b2 k2 .byte (17 : Int32) [(.int be0), (.int be1), (.int be2), (.int be3), (.int be4), (.int be5), (.int be6), (.int be7), (.int be8), (.int be9), (.int be10), (.int be11), (.int be12), (.int be13), (.int be14), (.int be15), (.int be16)] (.int 0) := V6
  show G (T6.setTop (mkF m 30 #[.val (.ref d), .val (.int 0), .val (.int 17), .val (.int 17), .val (.ref b2)] []))
  refine hG _ _ (fun t_ k_ => XS.aload X6.here hx rfl (hb hby d41_30) rfl rfl k_) ?_
  show G (T6.setTop (mkF m 32 #[.val (.ref d), .val (.int 0), .val (.int 17), .val (.int 17), .val (.ref b2)] [(.ref b2)]))
  exact own_retA hR hret rfl rfl X6 hx (hb hby d41_32) (by decide) (by decide) (by rw [e6]; exact ⟨b2, k2, rfl, N6, K6, (Nat.le_trans (Keep.refl h0 []).1 (Nat.le_of_eq z2.symm)), U6⟩)
set_option maxRecDepth 65536 in
set_option maxHeartbeats 40000000 in
theorem own_cr34_17 (l : Launch) (Z : State) (a0 : Array Value) (hw : ∀ d ∈ tables_1, d.before a0 Z = true) (d : Addr) (kd : ClassId) (be0 : Int32) (be1 : Int32) (be2 : Int32) (be3 : Int32) (be4 : Int32) (be5 : Int32) (be6 : Int32) (be7 : Int32) (be8 : Int32) (be9 : Int32) (be10 : Int32) (be11 : Int32) (be12 : Int32) (be13 : Int32) (be14 : Int32) (be15 : Int32) (be16 : Int32) (be17 : Int32) (be18 : Int32) (be19 : Int32) (be20 : Int32) (be21 : Int32) (be22 : Int32) (be23 : Int32) (be24 : Int32) (be25 : Int32) (be26 : Int32) (be27 : Int32) (be28 : Int32) (be29 : Int32) (be30 : Int32) (be31 : Int32) (be32 : Int32) (be33 : Int32) (h0 : Heap) (O0 : own_Old Z h0) (g0_V : Arv Z h0 d kd .byte (34 : Int32) [(.int be0), (.int be1), (.int be2), (.int be3), (.int be4), (.int be5), (.int be6), (.int be7), (.int be8), (.int be9), (.int be10), (.int be11), (.int be12), (.int be13), (.int be14), (.int be15), (.int be16), (.int be17), (.int be18), (.int be19), (.int be20), (.int be21), (.int be22), (.int be23), (.int be24), (.int be25), (.int be26), (.int be27), (.int be28), (.int be29), (.int be30), (.int be31), (.int be32), (.int be33)] (.int 0)) :
    own_Con l Z (⟨"java/util/Arrays", "copyOfRange", "([BII)[B"⟩ : MethodName) jdk_65_method_132_code 3 (some (.array .byte)) [] ({ frames := 2, cells := 1, slots := 17, locals := 56 } : Room) #[(.ref d), (.int 0), (.int 17)] h0 (fun rv rh rL => ∃ (u : Addr) (ku : ClassId), rv = some (.ref u) ∧ own_Fr Z rL ∧ Keep h0 rh [] ∧ h0.size ≤ u ∧ (Arv Z rh u ku .byte (17 : Int32) [(.int be0), (.int be1), (.int be2), (.int be3), (.int be4), (.int be5), (.int be6), (.int be7), (.int be8), (.int be9), (.int be10), (.int be11), (.int be12), (.int be13), (.int be14), (.int be15), (.int be16)] (.int 0))) := by
  refine own_intro (plainFor_of_name (by first | (simp [plainName, overriddenIn]; done) | decide +kernel)) ?_
  intro p e s m below meth c s₁ G hx hby hml hown hnm hret hZ X0 e0 hG hR
  have N0 := Fr.nil Z.heap.size
  refine own_entry (Ls := #[.val (.ref d), .val (.int 0), .val (.int 17)]) (by first | (simp [entryFrame, mkF, argsToLocals, Value.category]; done) | rfl) ?_
  show G (s₁.setTop (mkF m 0 #[.val (.ref d), .val (.int 0), .val (.int 17)] []))
  refine hG _ _ (fun t_ k_ => XS.iloadN X0.here hx rfl (hb hby d29_0) rfl k_) ?_
  show G (s₁.setTop (mkF m 1 #[.val (.ref d), .val (.int 0), .val (.int 17)] [(.int 0)]))
  refine hG _ _ (fun t_ k_ => XS.ifNo X0.here hx rfl (hb hby d29_1) rfl ((if0 _ _).trans (teq (by decide)).2) k_) ?_
  show G (s₁.setTop (mkF m 4 #[.val (.ref d), .val (.int 0), .val (.int 17)] []))
  refine hG _ _ (fun t_ k_ => XS.iloadN X0.here hx rfl (hb hby d29_4) rfl k_) ?_
  refine hG _ _ (fun t_ k_ => XS.aloadN X0.here hx rfl (hb hby d29_5) rfl rfl k_) ?_
  obtain ⟨c1, Ar1, -, S1, M1, -, -⟩ := id g0_V
  refine hG _ _ (X0.arraylength hx (by rw [e0]; exact Ar1.1) (State.isArrayOf_alike hZ.alike Ar1.2.1) (g := (mkF m 6 #[.val (.ref d), .val (.int 0), .val (.int 17)] [(.ref d), (.int 17)])) rfl rfl (hb hby d29_6)) ?_
  rw [len_of S1 M1]
  show G (s₁.setTop (mkF m 7 #[.val (.ref d), .val (.int 0), .val (.int 17)] [(.int 34), (.int 17)]))
  refine hG _ _ (fun t_ k_ => XS.icmpNo X0.here hx rfl (hb hby d29_7) rfl (feq (by decide)).1 k_) ?_
  show G (s₁.setTop (mkF m 10 #[.val (.ref d), .val (.int 0), .val (.int 17)] []))
  refine hG _ _ (fun t_ k_ => XS.aloadN X0.here hx rfl (hb hby d29_10) rfl rfl k_) ?_
  refine hG _ _ (fun t_ k_ => XS.iloadN X0.here hx rfl (hb hby d29_11) rfl k_) ?_
  refine hG _ _ (fun t_ k_ => XS.iloadN X0.here hx rfl (hb hby d29_12) rfl k_) ?_
  show G (s₁.setTop (mkF m 13 #[.val (.ref d), .val (.int 0), .val (.int 17)] [(.int 17), (.int 0), (.ref d)]))
  refine own_callS X0 hx hZ hG hown (ow hw 216 rfl) (ow hw 217 rfl) (ow hw 151 rfl) (ow hw 218 rfl) (by decide) 0 (own_crb34_17 l Z a0 hw d kd be0 be1 be2 be3 be4 be5 be6 be7 be8 be9 be10 be11 be12 be13 be14 be15 be16 be17 be18 be19 be20 be21 be22 be23 be24 be25 be26 be27 be28 be29 be30 be31 be32 be33 h0 O0 g0_V) (by decide) (by decide) e0 (by rw [hml]; rfl) (lenOf own_pd24 rfl) (argsL := [(.ref d), (.int 0), (.int 17)]) (rest := []) rfl rfl (Nat.le_of_eq rfl) (hb hby d29_13) (by decide) (by decide) ?_
  intro T2 h2 v2 L2 X2 e2 q2
  obtain ⟨u_2, ku_2, rfl, M2, J2, y2_0, r2_0⟩ := q2
  have N2 := Fr.app N0 M2
  have K2 : Keep h0 h2 [] := (Keep.refl h0 []).trans J2 all0
  have O2 : own_Old Z h2 := O0.keep J2 all0
  show G (T2.setTop (mkF m 16 #[.val (.ref d), .val (.int 0), .val (.int 17)] [(.ref u_2)]))
  exact own_retA hR hret rfl rfl X2 hx (hb hby d29_16) (by decide) (by decide) (by rw [e2]; exact ⟨u_2, ku_2, rfl, N2, K2, (Nat.le_trans (Keep.refl h0 []).1 y2_0), r2_0⟩)
set_option maxRecDepth 65536 in
set_option maxHeartbeats 40000000 in
theorem own_sin34_17 (l : Launch) (Z : State) (a0 : Array Value) (hw : ∀ d ∈ tables_1, d.before a0 Z = true) (a : Addr) (q : Addr) (d : Addr) (kd : ClassId) (be0 : Int32) (be1 : Int32) (be2 : Int32) (be3 : Int32) (be4 : Int32) (be5 : Int32) (be6 : Int32) (be7 : Int32) (be8 : Int32) (be9 : Int32) (be10 : Int32) (be11 : Int32) (be12 : Int32) (be13 : Int32) (be14 : Int32) (be15 : Int32) (be16 : Int32) (be17 : Int32) (be18 : Int32) (be19 : Int32) (be20 : Int32) (be21 : Int32) (be22 : Int32) (be23 : Int32) (be24 : Int32) (be25 : Int32) (be26 : Int32) (be27 : Int32) (be28 : Int32) (be29 : Int32) (be30 : Int32) (be31 : Int32) (be32 : Int32) (be33 : Int32) (cpt : Int32) (v0 : Value) (v1 : Value) (h0 : Heap) (O0 : own_Old Z h0) (g0_E : Exa Z h0 a "java/lang/String") (g1_F : Fld Z h0 a "java/lang/String" "coder" "B" v0) (g2_F : Fld Z h0 a "java/lang/String" "value" "[B" v1) (g3_G : Z.heap.size ≤ a) (g4_ne_a_q : a ≠ q) (g5_ne_a_d : a ≠ d) (g6_E : Exa Z h0 q "java/lang/StringBuilder") (g7_F : Fld Z h0 q "java/lang/AbstractStringBuilder" "value" "[B" (.ref d)) (g8_F : Fld Z h0 q "java/lang/AbstractStringBuilder" "coder" "B" (.int 0)) (g9_F : Fld Z h0 q "java/lang/AbstractStringBuilder" "count" "I" (.int 17)) (g10_V : Arv Z h0 d kd .byte (34 : Int32) [(.int be0), (.int be1), (.int be2), (.int be3), (.int be4), (.int be5), (.int be6), (.int be7), (.int be8), (.int be9), (.int be10), (.int be11), (.int be12), (.int be13), (.int be14), (.int be15), (.int be16), (.int be17), (.int be18), (.int be19), (.int be20), (.int be21), (.int be22), (.int be23), (.int be24), (.int be25), (.int be26), (.int be27), (.int be28), (.int be29), (.int be30), (.int be31), (.int be32), (.int be33)] (.int 0)) (g11_S : Sta Z Z.heap "java/lang/String" "COMPACT_STRINGS" "Z" (.int cpt)) (g12_hcpt : ¬ (cpt = (0 : Int32))) :
    own_Con l Z (⟨"java/lang/String", "<init>", "(Ljava/lang/AbstractStringBuilder;Ljava/lang/Void;)V"⟩ : MethodName) jdk_42_method_150_code 5 none [] ({ frames := 3, cells := 1, slots := 17, locals := 71 } : Room) #[(.ref a), (.ref q), .null] h0 (fun rv rh rL => ∃ (u : Addr) (ku : ClassId), rv = none ∧ own_Fr Z rL ∧ Keep h0 rh [a] ∧ h0.size ≤ u ∧ (Exa Z rh a "java/lang/String") ∧ (Fld Z rh a "java/lang/String" "coder" "B" (.int 0)) ∧ (Fld Z rh a "java/lang/String" "value" "[B" (.ref u)) ∧ (Arv Z rh u ku .byte (17 : Int32) [(.int be0), (.int be1), (.int be2), (.int be3), (.int be4), (.int be5), (.int be6), (.int be7), (.int be8), (.int be9), (.int be10), (.int be11), (.int be12), (.int be13), (.int be14), (.int be15), (.int be16)] (.int 0))) := by
  refine own_intro (plainFor_of_name (by first | (simp [plainName, overriddenIn]; done) | decide +kernel)) ?_
  intro p e s m below meth c s₁ G hx hby hml hown hnm hret hZ X0 e0 hG hR
  have N0 := Fr.nil Z.heap.size
  refine own_entry (Ls := #[.val (.ref a), .val (.ref q), .val .null, .unset, .unset]) (by first | (simp [entryFrame, mkF, argsToLocals, Value.category]; done) | rfl) ?_
  show G (s₁.setTop (mkF m 0 #[.val (.ref a), .val (.ref q), .val .null, .unset, .unset] []))
  refine hG _ _ (fun t_ k_ => XS.aloadN X0.here hx rfl (hb hby d24_0) rfl rfl k_) ?_
  show G (s₁.setTop (mkF m 1 #[.val (.ref a), .val (.ref q), .val .null, .unset, .unset] [(.ref a)]))
  obtain ⟨T1, X1, e1, st1⟩ := initO X0 hx hZ hown (ow hw 20 rfl) (ow hw 21 rfl) (ow hw 22 rfl) e0 (g := (mkF m 1 #[.val (.ref a), .val (.ref q), .val .null, .unset, .unset] [(.ref a)])) rfl (by rw [hml]; rfl) rfl (hb hby d24_1) (by decide) (W := 0) (by show 2 * 0 + _ ≤ _; exact Nat.le_of_eq rfl) (by decide)
  refine hG _ _ st1 ?_
  show G (T1.setTop (mkF m 4 #[.val (.ref a), .val (.ref q), .val .null, .unset, .unset] []))
  refine hG _ _ (fun t_ k_ => XS.aloadN X1.here hx rfl (hb hby d24_4) rfl rfl k_) ?_
  show G (T1.setTop (mkF m 5 #[.val (.ref a), .val (.ref q), .val .null, .unset, .unset] [(.ref q)]))
  refine own_callV (C := "java/lang/StringBuilder") X1 hx hZ hG hown (ow hw 131 rfl) (ow hw 132 rfl) (ow hw 134 rfl) (ow hw 133 rfl) (ow hw 61 rfl) (ow hw 135 rfl) (by decide) 0 (own_getv l Z a0 hw q d h0 O0 g7_F) (by decide) (by decide) e1 g6_E (by rw [hml]; rfl) (lenOf own_pd14 rfl) (argsL := []) (rest := []) rfl rfl (Nat.le_of_eq rfl) (hb hby d24_5) (by decide) (by decide) ?_
  intro T2 h2 v2 L2 X2 e2 q2
  obtain ⟨rfl, M2, rfl⟩ := q2
  have N2 := Fr.app N0 M2
  refine hG _ _ (fun t_ k_ => XS.astoreN X2.here hx rfl (hb hby d24_8) rfl rfl (l' := #[.val (.ref a), .val (.ref q), .val .null, .val (.ref d), .unset]) rfl k_) ?_
  refine hG _ _ (fun t_ k_ => XS.aloadN X2.here hx rfl (hb hby d24_9) rfl rfl k_) ?_
  show G (T2.setTop (mkF m 10 #[.val (.ref a), .val (.ref q), .val .null, .val (.ref d), .unset] [(.ref q)]))
  refine own_callVZ (C := "java/lang/StringBuilder") X2 hx hZ hG hown (ow hw 136 rfl) (ow hw 137 rfl) (ow hw 139 rfl) (ow hw 97 rfl) rfl (ow hw 140 rfl) (ow hw 53 rfl) (ow hw 141 rfl) (by decide) 0 (own_sbl l Z a0 hw q (17 : Int32) h0 O0 g6_E g9_F) (by decide) (by decide) e2 g6_E (by rw [hml]; rfl) (lenOf own_pd12 rfl) (argsL := []) (rest := []) rfl rfl (Nat.le_of_eq rfl) (hb hby d24_10) (by decide) (by decide) ?_
  intro T3 h3 v3 L3 X3 e3 q3
  obtain ⟨rfl, M3, rfl⟩ := q3
  have N3 := Fr.app N2 M3
  refine hG _ _ (fun t_ k_ => XS.istore X3.here hx rfl (hb hby d24_13) rfl (l' := #[.val (.ref a), .val (.ref q), .val .null, .val (.ref d), .val (.int 17)]) rfl k_) ?_
  refine hG _ _ (fun t_ k_ => XS.aloadN X3.here hx rfl (hb hby d24_15) rfl rfl k_) ?_
  show G (T3.setTop (mkF m 16 #[.val (.ref a), .val (.ref q), .val .null, .val (.ref d), .val (.int 17)] [(.ref q)]))
  refine own_callV (C := "java/lang/StringBuilder") X3 hx hZ hG hown (ow hw 144 rfl) (ow hw 145 rfl) (ow hw 147 rfl) (ow hw 146 rfl) (ow hw 61 rfl) (ow hw 148 rfl) (by decide) 0 (own_asbL l Z a0 hw q cpt h0 O0 g8_F g11_S g12_hcpt) (by decide) (by decide) e3 g6_E (by rw [hml]; rfl) (lenOf own_pd15 rfl) (argsL := []) (rest := []) rfl rfl (Nat.le_of_eq rfl) (hb hby d24_16) (by decide) (by decide) ?_
  intro T4 h4 v4 L4 X4 e4 q4
  obtain ⟨rfl, M4, rfl⟩ := q4
  have N4 := Fr.app N3 M4
  show G (T4.setTop (mkF m 19 #[.val (.ref a), .val (.ref q), .val .null, .val (.ref d), .val (.int 17)] [(.int 1)]))
  refine hG _ _ (fun t_ k_ => XS.ifNo X4.here hx rfl (hb hby d24_19) rfl ((if0 _ _).trans (feq (by decide)).1) k_) ?_
  show G (T4.setTop (mkF m 22 #[.val (.ref a), .val (.ref q), .val .null, .val (.ref d), .val (.int 17)] []))
  refine hG _ _ (fun t_ k_ => XS.aloadN X4.here hx rfl (hb hby d24_22) rfl rfl k_) ?_
  refine hG _ _ (fun t_ k_ => XS.iconst X4.here hx rfl (hb hby d24_23) k_) ?_
  obtain ⟨T5, h5, X5, e5, W5, st5⟩ := putFN X4 hx hZ hown (ow hw 25 rfl) Via.refl e4 g1_F g0_E (Or.inr ⟨(ow hw 26 rfl), rfl, hnm⟩) (ow hw 11 rfl) (ty := .byte) (v' := (.int 0)) (by decide) rfl rfl (g := (mkF m 24 #[.val (.ref a), .val (.ref q), .val .null, .val (.ref d), .val (.int 17)] [(.int 0), (.ref a)])) rfl rfl (hb hby d24_24)
  refine hG _ _ st5 ?_
  have K5 : Keep h0 h5 [a] := (Keep.refl h0 [a]).wr W5 (Or.inl (List.mem_of_getElem? (i := 0) rfl))
  have O5 : own_Old Z h5 := O0.wr W5 g3_G
  have N5 := Fr.snoc X5 N4 g3_G
  refine hG _ _ (fun t_ k_ => XS.aloadN X5.here hx rfl (hb hby d24_27) rfl rfl k_) ?_
  refine hG _ _ (fun t_ k_ => XS.aloadN X5.here hx rfl (hb hby d24_28) rfl rfl k_) ?_
  refine hG _ _ (fun t_ k_ => XS.iconst X5.here hx rfl (hb hby d24_29) k_) ?_
  refine hG _ _ (fun t_ k_ => XS.iload X5.here hx rfl (hb hby d24_30) rfl k_) ?_
  show G (T5.setTop (mkF m 32 #[.val (.ref a), .val (.ref q), .val .null, .val (.ref d), .val (.int 17)] [(.int 17), (.int 0), (.ref d), (.ref a)]))
  have f7 := (g10_V.other W5 (Ne.symm g5_ne_a_d))
  refine own_callS X5 hx hZ hG hown (ow hw 149 rfl) (ow hw 150 rfl) (ow hw 151 rfl) (ow hw 152 rfl) (by decide) 1 (own_cr34_17 l Z a0 hw d kd be0 be1 be2 be3 be4 be5 be6 be7 be8 be9 be10 be11 be12 be13 be14 be15 be16 be17 be18 be19 be20 be21 be22 be23 be24 be25 be26 be27 be28 be29 be30 be31 be32 be33 h5 O5 f7) (by decide) (by decide) e5 (by rw [hml]; rfl) (lenOf own_pd24 rfl) (argsL := [(.ref d), (.int 0), (.int 17)]) (rest := [(.ref a)]) rfl rfl (Nat.le_of_eq rfl) (hb hby d24_32) (by decide) (by decide) ?_
  intro T6 h6 v6 L6 X6 e6 q6
  obtain ⟨u_6, ku_6, rfl, M6, J6, y6_0, r6_0⟩ := q6
  have N6 := Fr.app N5 M6
  have K6 : Keep h0 h6 [a] := K5.trans J6 all0
  have O6 : own_Old Z h6 := O5.keep J6 all0
  have f9 := ((g2_F.other W5 (Or.inr (slot_ne (Or.inr (ow hw 24 rfl)) (Or.inr (ow hw 26 rfl)) (by decide) (t := (.array .byte)) (t' := .byte) (by decide) (by decide)))).keep J6 nin0)
  have f10 := ((g0_E.wr W5).keep J6)
  obtain ⟨T8, h8, X8, e8, W8, st8⟩ := putF X6 hx hZ hown (host := "") (Or.inl (ow hw 23 rfl)) Via.refl e6 f9 f10 (Or.inr ⟨(ow hw 24 rfl), rfl, hnm⟩) (ow hw 11 rfl) (ty := (.array .byte)) (by decide) rfl rfl (g := (mkF m 35 #[.val (.ref a), .val (.ref q), .val .null, .val (.ref d), .val (.int 17)] [(.ref u_6), (.ref a)])) rfl rfl (hb hby d24_35)
  refine hG _ _ st8 ?_
  have K8 : Keep h0 h8 [a] := K6.wr W8 (Or.inl (List.mem_of_getElem? (i := 0) rfl))
  have O8 : own_Old Z h8 := O6.wr W8 g3_G
  have N8 := Fr.snoc X8 N6 g3_G
  refine hG _ _ (fun t_ k_ => XS.goto X8.here hx rfl (pc0 := 38) (pc' := 97) rfl (hb hby d24_38) (by decide) (by decide) k_) ?_
  show G (T8.setTop (mkF m 97 #[.val (.ref a), .val (.ref q), .val .null, .val (.ref d), .val (.int 17)] []))
  have f11 := (f10.wr W8)
  have f12 := (((g1_F.same W5).keep J6 nin0).other W8 (Or.inr (slot_ne (Or.inr (ow hw 26 rfl)) (Or.inr (ow hw 24 rfl)) (by decide) (t := .byte) (t' := (.array .byte)) (by decide) (by decide))))
  have f13 := (r6_0.other W8 (Ne.symm (own_ne (g1_F.same W5).lt y6_0)))
  exact own_retV hR hret X8 hx (hb hby d24_97) (by decide) (by decide) (by rw [e8]; exact ⟨u_6, ku_6, rfl, N8, K8, (Nat.le_trans K5.1 y6_0), f11, f12, (f9.same W8), f13⟩)
set_option maxRecDepth 65536 in
set_option maxHeartbeats 40000000 in
theorem own_sis34_17 (l : Launch) (Z : State) (a0 : Array Value) (hw : ∀ d ∈ tables_1, d.before a0 Z = true) (a : Addr) (q : Addr) (d : Addr) (kd : ClassId) (be0 : Int32) (be1 : Int32) (be2 : Int32) (be3 : Int32) (be4 : Int32) (be5 : Int32) (be6 : Int32) (be7 : Int32) (be8 : Int32) (be9 : Int32) (be10 : Int32) (be11 : Int32) (be12 : Int32) (be13 : Int32) (be14 : Int32) (be15 : Int32) (be16 : Int32) (be17 : Int32) (be18 : Int32) (be19 : Int32) (be20 : Int32) (be21 : Int32) (be22 : Int32) (be23 : Int32) (be24 : Int32) (be25 : Int32) (be26 : Int32) (be27 : Int32) (be28 : Int32) (be29 : Int32) (be30 : Int32) (be31 : Int32) (be32 : Int32) (be33 : Int32) (cpt : Int32) (v0 : Value) (v1 : Value) (h0 : Heap) (O0 : own_Old Z h0) (g0_E : Exa Z h0 a "java/lang/String") (g1_F : Fld Z h0 a "java/lang/String" "coder" "B" v0) (g2_F : Fld Z h0 a "java/lang/String" "value" "[B" v1) (g3_G : Z.heap.size ≤ a) (g4_ne_a_q : a ≠ q) (g5_ne_a_d : a ≠ d) (g6_E : Exa Z h0 q "java/lang/StringBuilder") (g7_F : Fld Z h0 q "java/lang/AbstractStringBuilder" "value" "[B" (.ref d)) (g8_F : Fld Z h0 q "java/lang/AbstractStringBuilder" "coder" "B" (.int 0)) (g9_F : Fld Z h0 q "java/lang/AbstractStringBuilder" "count" "I" (.int 17)) (g10_V : Arv Z h0 d kd .byte (34 : Int32) [(.int be0), (.int be1), (.int be2), (.int be3), (.int be4), (.int be5), (.int be6), (.int be7), (.int be8), (.int be9), (.int be10), (.int be11), (.int be12), (.int be13), (.int be14), (.int be15), (.int be16), (.int be17), (.int be18), (.int be19), (.int be20), (.int be21), (.int be22), (.int be23), (.int be24), (.int be25), (.int be26), (.int be27), (.int be28), (.int be29), (.int be30), (.int be31), (.int be32), (.int be33)] (.int 0)) (g11_S : Sta Z Z.heap "java/lang/String" "COMPACT_STRINGS" "Z" (.int cpt)) (g12_hcpt : ¬ (cpt = (0 : Int32))) :
    own_Con l Z (⟨"java/lang/String", "<init>", "(Ljava/lang/StringBuilder;)V"⟩ : MethodName) jdk_42_method_53_code 2 none [] ({ frames := 4, cells := 1, slots := 17, locals := 87 } : Room) #[(.ref a), (.ref q)] h0 (fun rv rh rL => ∃ (u : Addr) (ku : ClassId), rv = none ∧ own_Fr Z rL ∧ Keep h0 rh [a] ∧ h0.size ≤ u ∧ (Exa Z rh a "java/lang/String") ∧ (Fld Z rh a "java/lang/String" "coder" "B" (.int 0)) ∧ (Fld Z rh a "java/lang/String" "value" "[B" (.ref u)) ∧ (Arv Z rh u ku .byte (17 : Int32) [(.int be0), (.int be1), (.int be2), (.int be3), (.int be4), (.int be5), (.int be6), (.int be7), (.int be8), (.int be9), (.int be10), (.int be11), (.int be12), (.int be13), (.int be14), (.int be15), (.int be16)] (.int 0))) := by
  refine own_intro (plainFor_of_name (by first | (simp [plainName, overriddenIn]; done) | decide +kernel)) ?_
  intro p e s m below meth c s₁ G hx hby hml hown hnm hret hZ X0 e0 hG hR
  have N0 := Fr.nil Z.heap.size
  refine own_entry (Ls := #[.val (.ref a), .val (.ref q)]) (by first | (simp [entryFrame, mkF, argsToLocals, Value.category]; done) | rfl) ?_
  show G (s₁.setTop (mkF m 0 #[.val (.ref a), .val (.ref q)] []))
  refine hG _ _ (fun t_ k_ => XS.aloadN X0.here hx rfl (hb hby d23_0) rfl rfl k_) ?_
  refine hG _ _ (fun t_ k_ => XS.aloadN X0.here hx rfl (hb hby d23_1) rfl rfl k_) ?_
  refine hG _ _ (fun t_ k_ => XS.aconstNull X0.here hx rfl (hb hby d23_2) k_) ?_
  show G (s₁.setTop (mkF m 3 #[.val (.ref a), .val (.ref q)] [.null, (.ref q), (.ref a)]))
  refine own_callI X0 hx hZ hG hown rfl (ow hw 128 rfl) (ow hw 129 rfl) (ow hw 3 rfl) (ow hw 130 rfl) (by decide) 0 (own_sin34_17 l Z a0 hw a q d kd be0 be1 be2 be3 be4 be5 be6 be7 be8 be9 be10 be11 be12 be13 be14 be15 be16 be17 be18 be19 be20 be21 be22 be23 be24 be25 be26 be27 be28 be29 be30 be31 be32 be33 cpt v0 v1 h0 O0 g0_E g1_F g2_F g3_G g4_ne_a_q g5_ne_a_d g6_E g7_F g8_F g9_F g10_V g11_S g12_hcpt) (by decide) (by decide) e0 (by rw [hml]; rfl) (lenOf own_pd25 rfl) (argsL := [(.ref q), .null]) (rest := []) rfl rfl (Nat.le_of_eq rfl) (hb hby d23_3) (by decide) (by decide) ?_
  intro T1 h1 v1 L1 X1 e1 q1
  obtain ⟨u_1, ku_1, rfl, M1, J1, y1_0, r1_0, r1_1, r1_2, r1_3⟩ := q1
  have N1 := Fr.app N0 M1
  have K1 : Keep h0 h1 [a] := (Keep.refl h0 [a]).trans J1 (allS (Or.inl (List.mem_of_getElem? (i := 0) rfl)) all0)
  have O1 : own_Old Z h1 := O0.keep J1 (allS g3_G all0)
  show G (T1.setTop (mkF m 6 #[.val (.ref a), .val (.ref q)] []))
  exact own_retV hR hret X1 hx (hb hby d23_6) (by decide) (by decide) (by rw [e1]; exact ⟨u_1, ku_1, rfl, N1, K1, (Nat.le_trans (Keep.refl h0 [a]).1 y1_0), r1_0, r1_1, r1_2, r1_3⟩)
set_option maxRecDepth 65536 in
set_option maxHeartbeats 40000000 in
theorem own_sbt34_17 (l : Launch) (Z : State) (a0 : Array Value) (hw : ∀ d ∈ tables_1, d.before a0 Z = true) (q : Addr) (d : Addr) (kd : ClassId) (be0 : Int32) (be1 : Int32) (be2 : Int32) (be3 : Int32) (be4 : Int32) (be5 : Int32) (be6 : Int32) (be7 : Int32) (be8 : Int32) (be9 : Int32) (be10 : Int32) (be11 : Int32) (be12 : Int32) (be13 : Int32) (be14 : Int32) (be15 : Int32) (be16 : Int32) (be17 : Int32) (be18 : Int32) (be19 : Int32) (be20 : Int32) (be21 : Int32) (be22 : Int32) (be23 : Int32) (be24 : Int32) (be25 : Int32) (be26 : Int32) (be27 : Int32) (be28 : Int32) (be29 : Int32) (be30 : Int32) (be31 : Int32) (be32 : Int32) (be33 : Int32) (cpt : Int32) (h0 : Heap) (O0 : own_Old Z h0) (g0_E : Exa Z h0 q "java/lang/StringBuilder") (g1_F : Fld Z h0 q "java/lang/AbstractStringBuilder" "value" "[B" (.ref d)) (g2_F : Fld Z h0 q "java/lang/AbstractStringBuilder" "coder" "B" (.int 0)) (g3_F : Fld Z h0 q "java/lang/AbstractStringBuilder" "count" "I" (.int 17)) (g4_V : Arv Z h0 d kd .byte (34 : Int32) [(.int be0), (.int be1), (.int be2), (.int be3), (.int be4), (.int be5), (.int be6), (.int be7), (.int be8), (.int be9), (.int be10), (.int be11), (.int be12), (.int be13), (.int be14), (.int be15), (.int be16), (.int be17), (.int be18), (.int be19), (.int be20), (.int be21), (.int be22), (.int be23), (.int be24), (.int be25), (.int be26), (.int be27), (.int be28), (.int be29), (.int be30), (.int be31), (.int be32), (.int be33)] (.int 0)) (g5_S : Sta Z Z.heap "java/lang/String" "COMPACT_STRINGS" "Z" (.int cpt)) (g6_hcpt : ¬ (cpt = (0 : Int32))) :
    own_Con l Z (⟨"java/lang/StringBuilder", "toString", "()Ljava/lang/String;"⟩ : MethodName) jdk_67_method_42_code 1 (some (.object "java/lang/String")) [] ({ frames := 5, cells := 2, slots := 21, locals := 101 } : Room) #[(.ref q)] h0 (fun rv rh rL => ∃ (a : Addr) (u : Addr) (ku : ClassId), rv = some (.ref a) ∧ own_Fr Z rL ∧ Keep h0 rh [] ∧ h0.size ≤ a ∧ h0.size ≤ u ∧ (Exa Z rh a "java/lang/String") ∧ (Fld Z rh a "java/lang/String" "coder" "B" (.int 0)) ∧ (Fld Z rh a "java/lang/String" "value" "[B" (.ref u)) ∧ (Arv Z rh u ku .byte (17 : Int32) [(.int be0), (.int be1), (.int be2), (.int be3), (.int be4), (.int be5), (.int be6), (.int be7), (.int be8), (.int be9), (.int be10), (.int be11), (.int be12), (.int be13), (.int be14), (.int be15), (.int be16)] (.int 0))) := by
  refine own_intro (plainFor_of_name (by first | (simp [plainName, overriddenIn]; done) | decide +kernel)) ?_
  intro p e s m below meth c s₁ G hx hby hml hown hnm hret hZ X0 e0 hG hR
  have N0 := Fr.nil Z.heap.size
  refine own_entry (Ls := #[.val (.ref q)]) (by first | (simp [entryFrame, mkF, argsToLocals, Value.category]; done) | rfl) ?_
  show G (s₁.setTop (mkF m 0 #[.val (.ref q)] []))
  obtain ⟨T1, h1, X1, e1, E1, A1, D1, -, st1⟩ := newO X0 hx hZ hown (ow hw 124 rfl) (ow hw 11 rfl) (ow hw 3 rfl) e0 (g := (mkF m 0 #[.val (.ref q)] [])) rfl (hb hby d22_0) (by decide) (by decide)
  obtain ⟨b1, z1⟩ : ∃ z, z = h0.size := ⟨_, rfl⟩
  rw [← z1] at A1 D1 st1
  refine hG _ _ st1 ?_
  have K1 : Keep h0 h1 [] := (Keep.refl h0 []).ext E1
  have O1 : own_Old Z h1 := O0.ext E1
  refine hG _ _ (fun t_ k_ => XS.dup X1.here hx rfl (hb hby d22_3) rfl rfl k_) ?_
  refine hG _ _ (fun t_ k_ => XS.aloadN X1.here hx rfl (hb hby d22_4) rfl rfl k_) ?_
  show G (T1.setTop (mkF m 5 #[.val (.ref q)] [(.ref q), (.ref b1), (.ref b1)]))
  have f3 := (g0_E.ext E1)
  have f4 := (g1_F.ext E1)
  have f5 := (g2_F.ext E1)
  have f6 := (g3_F.ext E1)
  have f7 := (g4_V.ext E1)
  refine own_callI X1 hx hZ hG hown rfl (ow hw 125 rfl) (ow hw 126 rfl) (ow hw 3 rfl) (ow hw 127 rfl) (by decide) 1 (own_sis34_17 l Z a0 hw b1 q d kd be0 be1 be2 be3 be4 be5 be6 be7 be8 be9 be10 be11 be12 be13 be14 be15 be16 be17 be18 be19 be20 be21 be22 be23 be24 be25 be26 be27 be28 be29 be30 be31 be32 be33 cpt (.int 0) .null h1 O1 A1 (D1 (Or.inr (ow hw 26 rfl)) (ty := .byte) (by decide)) (D1 (Or.inr (ow hw 24 rfl)) (ty := (.array .byte)) (by decide)) (own_ge O0 (Nat.le_of_eq z1.symm)) (Ne.symm (own_ne g0_E.lt (Nat.le_of_eq z1.symm))) (Ne.symm (own_ne g4_V.lt (Nat.le_of_eq z1.symm))) f3 f4 f5 f6 f7 g5_S g6_hcpt) (by decide) (by decide) e1 (by rw [hml]; rfl) (lenOf own_pd26 rfl) (argsL := [(.ref q)]) (rest := [(.ref b1)]) rfl rfl (Nat.le_of_eq rfl) (hb hby d22_5) (by decide) (by decide) ?_
  intro T2 h2 v2 L2 X2 e2 q2
  obtain ⟨u_2, ku_2, rfl, M2, J2, y2_0, r2_0, r2_1, r2_2, r2_3⟩ := q2
  have N2 := Fr.app N0 M2
  have K2 : Keep h0 h2 [] := K1.trans J2 (allS (Or.inr (Nat.le_trans (Keep.refl h0 []).1 (Nat.le_of_eq z1.symm))) all0)
  have O2 : own_Old Z h2 := O1.keep J2 (allS (own_ge O0 (Nat.le_of_eq z1.symm)) all0)
  show G (T2.setTop (mkF m 8 #[.val (.ref q)] [(.ref b1)]))
  exact own_retA hR hret rfl rfl X2 hx (hb hby d22_8) (by decide) (by decide) (by rw [e2]; exact ⟨b1, u_2, ku_2, rfl, N2, K2, (Nat.le_trans (Keep.refl h0 []).1 (Nat.le_of_eq z1.symm)), (Nat.le_trans K1.1 y2_0), r2_0, r2_1, r2_2, r2_3⟩)
set_option maxRecDepth 65536 in
set_option maxHeartbeats 40000000 in
theorem own_max_2_18 (l : Launch) (Z : State) (a0 : Array Value) (hw : ∀ d ∈ tables_1, d.before a0 Z = true) (h0 : Heap) (O0 : own_Old Z h0) :
    own_Con l Z (⟨"java/lang/Math", "max", "(II)I"⟩ : MethodName) jdk_29_method_65_code 2 (some .int) [] ({ frames := 0, cells := 0, slots := 0, locals := 0 } : Room) #[(.int 2), (.int 18)] h0 (fun rv rh rL => rv = some (.int 18) ∧ own_Fr Z rL ∧ h0 = rh) := by
  refine own_intro (Jvm.Free.JP.mathPlain rfl (by decide +kernel)) ?_
  intro p e s m below meth c s₁ G hx hby hml hown hnm hret hZ X0 e0 hG hR
  have N0 := Fr.nil Z.heap.size
  refine own_entry (Ls := #[.val (.int 2), .val (.int 18)]) (by first | (simp [entryFrame, mkF, argsToLocals, Value.category]; done) | rfl) ?_
  show G (s₁.setTop (mkF m 0 #[.val (.int 2), .val (.int 18)] []))
  refine hG _ _ (fun t_ k_ => XS.iloadN X0.here hx rfl (hb hby d38_0) rfl k_) ?_
  refine hG _ _ (fun t_ k_ => XS.iloadN X0.here hx rfl (hb hby d38_1) rfl k_) ?_
  show G (s₁.setTop (mkF m 2 #[.val (.int 2), .val (.int 18)] [(.int 18), (.int 2)]))
  refine hG _ _ (fun t_ k_ => XS.icmpYes X0.here hx rfl (pc0 := 2) (pc' := 9) rfl (hb hby d38_2) rfl (tlt (by decide)).1 (by decide) (by decide) k_) ?_
  show G (s₁.setTop (mkF m 9 #[.val (.int 2), .val (.int 18)] []))
  refine hG _ _ (fun t_ k_ => XS.iloadN X0.here hx rfl (hb hby d38_9) rfl k_) ?_
  show G (s₁.setTop (mkF m 10 #[.val (.int 2), .val (.int 18)] [(.int 18)]))
  exact own_retI hR hret X0 hx (hb hby d38_10) (by decide) (by decide) (by rw [e0]; exact ⟨rfl, N0, rfl⟩)
set_option maxRecDepth 65536 in
set_option maxHeartbeats 40000000 in
theorem own_nl15_3 (l : Launch) (Z : State) (a0 : Array Value) (hw : ∀ d ∈ tables_1, d.before a0 Z = true) (h0 : Heap) (O0 : own_Old Z h0) :
    own_Con l Z (⟨"jdk/internal/util/ArraysSupport", "newLength", "(III)I"⟩ : MethodName) jdk_48_method_27_code 4 (some .int) [] ({ frames := 1, cells := 0, slots := 0, locals := 14 } : Room) #[(.int 16), (.int 2), (.int 18)] h0 (fun rv rh rL => rv = some (.int 34) ∧ own_Fr Z rL ∧ h0 = rh) := by
  refine own_intro (plainFor_of_name (by first | (simp [plainName, overriddenIn]; done) | decide +kernel)) ?_
  intro p e s m below meth c s₁ G hx hby hml hown hnm hret hZ X0 e0 hG hR
  have N0 := Fr.nil Z.heap.size
  refine own_entry (Ls := #[.val (.int 16), .val (.int 2), .val (.int 18), .unset]) (by first | (simp [entryFrame, mkF, argsToLocals, Value.category]; done) | rfl) ?_
  show G (s₁.setTop (mkF m 0 #[.val (.int 16), .val (.int 2), .val (.int 18), .unset] []))
  refine hG _ _ (fun t_ k_ => XS.iloadN X0.here hx rfl (hb hby d37_0) rfl k_) ?_
  refine hG _ _ (fun t_ k_ => XS.iloadN X0.here hx rfl (hb hby d37_1) rfl k_) ?_
  refine hG _ _ (fun t_ k_ => XS.iloadN X0.here hx rfl (hb hby d37_2) rfl k_) ?_
  show G (s₁.setTop (mkF m 3 #[.val (.int 16), .val (.int 2), .val (.int 18), .unset] [(.int 18), (.int 2), (.int 16)]))
  refine own_callS X0 hx hZ hG hown (ow hw 203 rfl) (ow hw 204 rfl) (ow hw 205 rfl) (ow hw 206 rfl) (by decide) 1 (own_max_2_18 l Z a0 hw h0 O0) (by decide) (by decide) e0 (by rw [hml]; rfl) (lenOf own_pd23 rfl) (argsL := [(.int 2), (.int 18)]) (rest := [(.int 16)]) rfl rfl (Nat.le_of_eq rfl) (hb hby d37_3) (by decide) (by decide) ?_
  intro T1 h1 v1 L1 X1 e1 q1
  obtain ⟨rfl, M1, rfl⟩ := q1
  have N1 := Fr.app N0 M1
  refine hG _ _ (fun t_ k_ => XS.iadd X1.here hx rfl (hb hby d37_6) rfl k_) ?_
  show G (T1.setTop (mkF m 7 #[.val (.int 16), .val (.int 2), .val (.int 18), .unset] [(.int ((16 : Int32) + (18 : Int32)))]))
  rw [show ((16 : Int32) + (18 : Int32)) = (34 : Int32) from by decide]
  show G (T1.setTop (mkF m 7 #[.val (.int 16), .val (.int 2), .val (.int 18), .unset] [(.int 34)]))
  refine hG _ _ (fun t_ k_ => XS.istoreN X1.here hx rfl (hb hby d37_7) rfl (l' := #[.val (.int 16), .val (.int 2), .val (.int 18), .val (.int 34)]) rfl k_) ?_
  refine hG _ _ (fun t_ k_ => XS.iconst X1.here hx rfl (hb hby d37_8) k_) ?_
  refine hG _ _ (fun t_ k_ => XS.iloadN X1.here hx rfl (hb hby d37_9) rfl k_) ?_
  show G (T1.setTop (mkF m 10 #[.val (.int 16), .val (.int 2), .val (.int 18), .val (.int 34)] [(.int 34), (.int 0)]))
  refine hG _ _ (fun t_ k_ => XS.icmpNo X1.here hx rfl (hb hby d37_10) rfl (tlt (by decide)).2.1 k_) ?_
  show G (T1.setTop (mkF m 13 #[.val (.int 16), .val (.int 2), .val (.int 18), .val (.int 34)] []))
  refine hG _ _ (fun t_ k_ => XS.iloadN X1.here hx rfl (hb hby d37_13) rfl k_) ?_
  refine hG _ _ (X1.ldcInt hx hown (mvT hZ (ow hw 207 rfl)) (g := (mkF m 14 #[.val (.int 16), .val (.int 2), .val (.int 18), .val (.int 34)] [(.int 34)])) rfl (hb hby d37_14)) ?_
  show G (T1.setTop (mkF m 16 #[.val (.int 16), .val (.int 2), .val (.int 18), .val (.int 34)] [(.int 2147483639), (.int 34)]))
  refine hG _ _ (fun t_ k_ => XS.icmpNo X1.here hx rfl (hb hby d37_16) rfl (flt (by decide)).2.2.1 k_) ?_
  show G (T1.setTop (mkF m 19 #[.val (.int 16), .val (.int 2), .val (.int 18), .val (.int 34)] []))
  refine hG _ _ (fun t_ k_ => XS.iloadN X1.here hx rfl (hb hby d37_19) rfl k_) ?_
  show G (T1.setTop (mkF m 20 #[.val (.int 16), .val (.int 2), .val (.int 18), .val (.int 34)] [(.int 34)]))
  exact own_retI hR hret X1 hx (hb hby d37_20) (by decide) (by decide) (by rw [e1]; exact ⟨rfl, N1, rfl⟩)
set_option maxRecDepth 65536 in
set_option maxHeartbeats 40000000 in
theorem own_nc15_3 (l : Launch) (Z : State) (a0 : Array Value) (hw : ∀ d ∈ tables_1, d.before a0 Z = true) (q : Addr) (d : Addr) (kd : ClassId) (be0 : Int32) (be1 : Int32) (be2 : Int32) (be3 : Int32) (be4 : Int32) (be5 : Int32) (be6 : Int32) (be7 : Int32) (be8 : Int32) (be9 : Int32) (be10 : Int32) (be11 : Int32) (be12 : Int32) (be13 : Int32) (be14 : Int32) (be15 : Int32) (h0 : Heap) (O0 : own_Old Z h0) (g0_F : Fld Z h0 q "java/lang/AbstractStringBuilder" "value" "[B" (.ref d)) (g1_F : Fld Z h0 q "java/lang/AbstractStringBuilder" "coder" "B" (.int 0)) (g2_V : Arv Z h0 d kd .byte (16 : Int32) [(.int be0), (.int be1), (.int be2), (.int be3), (.int be4), (.int be5), (.int be6), (.int be7), (.int be8), (.int be9), (.int be10), (.int be11), (.int be12), (.int be13), (.int be14), (.int be15)] (.int 0)) :
    own_Con l Z (⟨"java/lang/AbstractStringBuilder", "newCapacity", "(I)I"⟩ : MethodName) jdk_68_method_10_code 6 (some .int) [] ({ frames := 2, cells := 0, slots := 0, locals := 29 } : Room) #[(.ref q), (.int 18)] h0 (fun rv rh rL => rv = some (.int 34) ∧ own_Fr Z rL ∧ h0 = rh) := by
  refine own_intro (plainFor_of_name (by first | (simp [plainName, overriddenIn]; done) | decide +kernel)) ?_
  intro p e s m below meth c s₁ G hx hby hml hown hnm hret hZ X0 e0 hG hR
  have N0 := Fr.nil Z.heap.size
  refine own_entry (Ls := #[.val (.ref q), .val (.int 18), .unset, .unset, .unset, .unset]) (by first | (simp [entryFrame, mkF, argsToLocals, Value.category]; done) | rfl) ?_
  show G (s₁.setTop (mkF m 0 #[.val (.ref q), .val (.int 18), .unset, .unset, .unset, .unset] []))
  refine hG _ _ (fun t_ k_ => XS.aloadN X0.here hx rfl (hb hby d36_0) rfl rfl k_) ?_
  obtain ⟨T1, X1, e1, st1⟩ := getF X0 hx hZ hown (host := "") (Or.inl (ow hw 65 rfl)) Via.refl e0 g0_F (g := (mkF m 1 #[.val (.ref q), .val (.int 18), .unset, .unset, .unset, .unset] [(.ref q)])) rfl rfl (hb hby d36_1)
  refine hG _ _ st1 ?_
  obtain ⟨c2, Ar2, -, S2, M2, -, -⟩ := id g2_V
  refine hG _ _ (X1.arraylength hx (by rw [e1]; exact Ar2.1) (State.isArrayOf_alike hZ.alike Ar2.2.1) (g := (mkF m 4 #[.val (.ref q), .val (.int 18), .unset, .unset, .unset, .unset] [(.ref d)])) rfl rfl (hb hby d36_4)) ?_
  rw [len_of S2 M2]
  refine hG _ _ (fun t_ k_ => XS.istoreN X1.here hx rfl (hb hby d36_5) rfl (l' := #[.val (.ref q), .val (.int 18), .val (.int 16), .unset, .unset, .unset]) rfl k_) ?_
  refine hG _ _ (fun t_ k_ => XS.iloadN X1.here hx rfl (hb hby d36_6) rfl k_) ?_
  refine hG _ _ (fun t_ k_ => XS.aloadN X1.here hx rfl (hb hby d36_7) rfl rfl k_) ?_
  obtain ⟨T3, X3, e3, st3⟩ := getF X1 hx hZ hown (host := "") (Or.inl (ow hw 67 rfl)) Via.refl e1 g1_F (g := (mkF m 8 #[.val (.ref q), .val (.int 18), .val (.int 16), .unset, .unset, .unset] [(.ref q), (.int 18)])) rfl rfl (hb hby d36_8)
  refine hG _ _ st3 ?_
  refine hG _ _ (fun t_ k_ => XS.ishl X3.here hx rfl (hb hby d36_11) rfl k_) ?_
  show G (T3.setTop (mkF m 12 #[.val (.ref q), .val (.int 18), .val (.int 16), .unset, .unset, .unset] [(.int ((18 : Int32) <<< ((0 : Int32) &&& 31)))]))
  rw [show ((18 : Int32) <<< ((0 : Int32) &&& 31)) = (18 : Int32) from by decide]
  show G (T3.setTop (mkF m 12 #[.val (.ref q), .val (.int 18), .val (.int 16), .unset, .unset, .unset] [(.int 18)]))
  refine hG _ _ (fun t_ k_ => XS.istoreN X3.here hx rfl (hb hby d36_12) rfl (l' := #[.val (.ref q), .val (.int 18), .val (.int 16), .val (.int 18), .unset, .unset]) rfl k_) ?_
  refine hG _ _ (fun t_ k_ => XS.iloadN X3.here hx rfl (hb hby d36_13) rfl k_) ?_
  refine hG _ _ (fun t_ k_ => XS.iloadN X3.here hx rfl (hb hby d36_14) rfl k_) ?_
  refine hG _ _ (fun t_ k_ => XS.isub X3.here hx rfl (hb hby d36_15) rfl k_) ?_
  show G (T3.setTop (mkF m 16 #[.val (.ref q), .val (.int 18), .val (.int 16), .val (.int 18), .unset, .unset] [(.int ((18 : Int32) - (16 : Int32)))]))
  rw [show ((18 : Int32) - (16 : Int32)) = (2 : Int32) from by decide]
  show G (T3.setTop (mkF m 16 #[.val (.ref q), .val (.int 18), .val (.int 16), .val (.int 18), .unset, .unset] [(.int 2)]))
  refine hG _ _ (fun t_ k_ => XS.istore X3.here hx rfl (hb hby d36_16) rfl (l' := #[.val (.ref q), .val (.int 18), .val (.int 16), .val (.int 18), .val (.int 2), .unset]) rfl k_) ?_
  refine hG _ _ (fun t_ k_ => XS.iloadN X3.here hx rfl (hb hby d36_18) rfl k_) ?_
  refine hG _ _ (fun t_ k_ => XS.iload X3.here hx rfl (hb hby d36_19) rfl k_) ?_
  refine hG _ _ (fun t_ k_ => XS.iloadN X3.here hx rfl (hb hby d36_21) rfl k_) ?_
  refine hG _ _ (fun t_ k_ => XS.iconst X3.here hx rfl (hb hby d36_22) k_) ?_
  refine hG _ _ (fun t_ k_ => XS.aloadN X3.here hx rfl (hb hby d36_23) rfl rfl k_) ?_
  obtain ⟨T4, X4, e4, st4⟩ := getF X3 hx hZ hown (host := "") (Or.inl (ow hw 67 rfl)) Via.refl e3 g1_F (g := (mkF m 24 #[.val (.ref q), .val (.int 18), .val (.int 16), .val (.int 18), .val (.int 2), .unset] [(.ref q), (.int 2), (.int 16), (.int 2), (.int 16)])) rfl rfl (hb hby d36_24)
  refine hG _ _ st4 ?_
  refine hG _ _ (fun t_ k_ => XS.ishl X4.here hx rfl (hb hby d36_27) rfl k_) ?_
  show G (T4.setTop (mkF m 28 #[.val (.ref q), .val (.int 18), .val (.int 16), .val (.int 18), .val (.int 2), .unset] [(.int ((2 : Int32) <<< ((0 : Int32) &&& 31))), (.int 16), (.int 2), (.int 16)]))
  rw [show ((2 : Int32) <<< ((0 : Int32) &&& 31)) = (2 : Int32) from by decide]
  show G (T4.setTop (mkF m 28 #[.val (.ref q), .val (.int 18), .val (.int 16), .val (.int 18), .val (.int 2), .unset] [(.int 2), (.int 16), (.int 2), (.int 16)]))
  refine hG _ _ (fun t_ k_ => XS.iadd X4.here hx rfl (hb hby d36_28) rfl k_) ?_
  show G (T4.setTop (mkF m 29 #[.val (.ref q), .val (.int 18), .val (.int 16), .val (.int 18), .val (.int 2), .unset] [(.int ((16 : Int32) + (2 : Int32))), (.int 2), (.int 16)]))
  rw [show ((16 : Int32) + (2 : Int32)) = (18 : Int32) from by decide]
  show G (T4.setTop (mkF m 29 #[.val (.ref q), .val (.int 18), .val (.int 16), .val (.int 18), .val (.int 2), .unset] [(.int 18), (.int 2), (.int 16)]))
  refine own_callS X4 hx hZ hG hown (ow hw 199 rfl) (ow hw 200 rfl) (ow hw 201 rfl) (ow hw 202 rfl) (by decide) 0 (own_nl15_3 l Z a0 hw h0 O0) (by decide) (by decide) e4 (by rw [hml]; rfl) (lenOf own_pd28 rfl) (argsL := [(.int 16), (.int 2), (.int 18)]) (rest := []) rfl rfl (Nat.le_of_eq rfl) (hb hby d36_29) (by decide) (by decide) ?_
  intro T5 h5 v5 L5 X5 e5 q5
  obtain ⟨rfl, M5, rfl⟩ := q5
  have N5 := Fr.app N0 M5
  refine hG _ _ (fun t_ k_ => XS.istore X5.here hx rfl (hb hby d36_32) rfl (l' := #[.val (.ref q), .val (.int 18), .val (.int 16), .val (.int 18), .val (.int 2), .val (.int 34)]) rfl k_) ?_
  refine hG _ _ (fun t_ k_ => XS.iload X5.here hx rfl (hb hby d36_34) rfl k_) ?_
  refine hG _ _ (X5.ldcInt hx hown (mvT hZ (ow hw 208 rfl)) (g := (mkF m 36 #[.val (.ref q), .val (.int 18), .val (.int 16), .val (.int 18), .val (.int 2), .val (.int 34)] [(.int 34)])) rfl (hb hby d36_36)) ?_
  show G (T5.setTop (mkF m 38 #[.val (.ref q), .val (.int 18), .val (.int 16), .val (.int 18), .val (.int 2), .val (.int 34)] [(.int 2147483647), (.int 34)]))
  refine hG _ _ (fun t_ k_ => XS.icmpYes X5.here hx rfl (pc0 := 38) (pc' := 51) rfl (hb hby d36_38) rfl (feq (by decide)).2 (by decide) (by decide) k_) ?_
  show G (T5.setTop (mkF m 51 #[.val (.ref q), .val (.int 18), .val (.int 16), .val (.int 18), .val (.int 2), .val (.int 34)] []))
  refine hG _ _ (fun t_ k_ => XS.iload X5.here hx rfl (hb hby d36_51) rfl k_) ?_
  refine hG _ _ (fun t_ k_ => XS.aloadN X5.here hx rfl (hb hby d36_53) rfl rfl k_) ?_
  obtain ⟨T6, X6, e6, st6⟩ := getF X5 hx hZ hown (host := "") (Or.inl (ow hw 67 rfl)) Via.refl e5 g1_F (g := (mkF m 54 #[.val (.ref q), .val (.int 18), .val (.int 16), .val (.int 18), .val (.int 2), .val (.int 34)] [(.ref q), (.int 34)])) rfl rfl (hb hby d36_54)
  refine hG _ _ st6 ?_
  refine hG _ _ (fun t_ k_ => XS.ishr X6.here hx rfl (hb hby d36_57) rfl k_) ?_
  show G (T6.setTop (mkF m 58 #[.val (.ref q), .val (.int 18), .val (.int 16), .val (.int 18), .val (.int 2), .val (.int 34)] [(.int ((34 : Int32) >>> ((0 : Int32) &&& 31)))]))
  rw [show ((34 : Int32) >>> ((0 : Int32) &&& 31)) = (34 : Int32) from by decide]
  show G (T6.setTop (mkF m 58 #[.val (.ref q), .val (.int 18), .val (.int 16), .val (.int 18), .val (.int 2), .val (.int 34)] [(.int 34)]))
  exact own_retI hR hret X6 hx (hb hby d36_58) (by decide) (by decide) (by rw [e6]; exact ⟨rfl, N5, rfl⟩)
set_option maxRecDepth 65536 in
set_option maxHeartbeats 40000000 in
theorem own_cpo15_3 (l : Launch) (Z : State) (a0 : Array Value) (hw : ∀ d ∈ tables_1, d.before a0 Z = true) (d : Addr) (kd : ClassId) (be0 : Int32) (be1 : Int32) (be2 : Int32) (be3 : Int32) (be4 : Int32) (be5 : Int32) (be6 : Int32) (be7 : Int32) (be8 : Int32) (be9 : Int32) (be10 : Int32) (be11 : Int32) (be12 : Int32) (be13 : Int32) (be14 : Int32) (be15 : Int32) (h0 : Heap) (O0 : own_Old Z h0) (g0_V : Arv Z h0 d kd .byte (16 : Int32) [(.int be0), (.int be1), (.int be2), (.int be3), (.int be4), (.int be5), (.int be6), (.int be7), (.int be8), (.int be9), (.int be10), (.int be11), (.int be12), (.int be13), (.int be14), (.int be15)] (.int 0)) :
    own_Con l Z (⟨"java/util/Arrays", "copyOf", "([BI)[B"⟩ : MethodName) jdk_65_method_121_code 3 (some (.array .byte)) [] ({ frames := 1, cells := 1, slots := 34, locals := 40 } : Room) #[(.ref d), (.int 34)] h0 (fun rv rh rL => ∃ (u : Addr) (ku : ClassId), rv = some (.ref u) ∧ own_Fr Z rL ∧ Keep h0 rh [] ∧ h0.size ≤ u ∧ (Arv Z rh u ku .byte (34 : Int32) [(.int be0), (.int be1), (.int be2), (.int be3), (.int be4), (.int be5), (.int be6), (.int be7), (.int be8), (.int be9), (.int be10), (.int be11), (.int be12), (.int be13), (.int be14), (.int be15), (.int 0), (.int 0), (.int 0), (.int 0), (.int 0), (.int 0), (.int 0), (.int 0), (.int 0), (.int 0), (.int 0), (.int 0), (.int 0), (.int 0), (.int 0), (.int 0), (.int 0), (.int 0)] (.int 0))) := by
  refine own_intro (plainFor_of_name (by first | (simp [plainName, overriddenIn]; done) | decide +kernel)) ?_
  intro p e s m below meth c s₁ G hx hby hml hown hnm hret hZ X0 e0 hG hR
  have N0 := Fr.nil Z.heap.size
  refine own_entry (Ls := #[.val (.ref d), .val (.int 34), .unset]) (by first | (simp [entryFrame, mkF, argsToLocals, Value.category]; done) | rfl) ?_
  show G (s₁.setTop (mkF m 0 #[.val (.ref d), .val (.int 34), .unset] []))
  refine hG _ _ (fun t_ k_ => XS.iloadN X0.here hx rfl (hb hby d39_0) rfl k_) ?_
  refine hG _ _ (fun t_ k_ => XS.aloadN X0.here hx rfl (hb hby d39_1) rfl rfl k_) ?_
  obtain ⟨c1, Ar1, -, S1, M1, -, -⟩ := id g0_V
  refine hG _ _ (X0.arraylength hx (by rw [e0]; exact Ar1.1) (State.isArrayOf_alike hZ.alike Ar1.2.1) (g := (mkF m 2 #[.val (.ref d), .val (.int 34), .unset] [(.ref d), (.int 34)])) rfl rfl (hb hby d39_2)) ?_
  rw [len_of S1 M1]
  show G (s₁.setTop (mkF m 3 #[.val (.ref d), .val (.int 34), .unset] [(.int 16), (.int 34)]))
  refine hG _ _ (fun t_ k_ => XS.icmpYes X0.here hx rfl (pc0 := 3) (pc' := 14) rfl (hb hby d39_3) rfl (feq (by decide)).2 (by decide) (by decide) k_) ?_
  show G (s₁.setTop (mkF m 14 #[.val (.ref d), .val (.int 34), .unset] []))
  refine hG _ _ (fun t_ k_ => XS.iloadN X0.here hx rfl (hb hby d39_14) rfl k_) ?_
  obtain ⟨T2, h2, k2, X2, e2, E2, A2, st2⟩ := newP X0 hx hZ (ow hw 15 rfl) e0 (g := (mkF m 15 #[.val (.ref d), .val (.int 34), .unset] [(.int 34)])) rfl (hb hby d39_15) rfl (by decide) (cap := 34) (by decide) (by decide) (by decide) (by decide)
  obtain ⟨b2, z2⟩ : ∃ z, z = h0.size := ⟨_, rfl⟩
  rw [← z2] at A2 st2
  refine hG _ _ st2 ?_
  have K2 : Keep h0 h2 [] := (Keep.refl h0 []).ext E2
  have O2 : own_Old Z h2 := O0.ext E2
  have V2 : Arv Z h2 b2 k2 .byte (34 : Int32) [(.int 0), (.int 0), (.int 0), (.int 0), (.int 0), (.int 0), (.int 0), (.int 0), (.int 0), (.int 0), (.int 0), (.int 0), (.int 0), (.int 0), (.int 0), (.int 0), (.int 0), (.int 0), (.int 0), (.int 0), (.int 0), (.int 0), (.int 0), (.int 0), (.int 0), (.int 0), (.int 0), (.int 0), (.int 0), (.int 0), (.int 0), (.int 0), (.int 0), (.int 0)] (.int 0) := (Arv.new A2 (by decide)).pad (pad_rep [] (.int 0) 34)
  refine hG _ _ (fun t_ k_ => XS.astoreN X2.here hx rfl (hb hby d39_17) rfl rfl (l' := #[.val (.ref d), .val (.int 34), .val (.ref b2)]) rfl k_) ?_
  refine hG _ _ (fun t_ k_ => XS.aloadN X2.here hx rfl (hb hby d39_18) rfl rfl k_) ?_
  refine hG _ _ (fun t_ k_ => XS.iconst X2.here hx rfl (hb hby d39_19) k_) ?_
  refine hG _ _ (fun t_ k_ => XS.aloadN X2.here hx rfl (hb hby d39_20) rfl rfl k_) ?_
  refine hG _ _ (fun t_ k_ => XS.iconst X2.here hx rfl (hb hby d39_21) k_) ?_
  refine hG _ _ (fun t_ k_ => XS.aloadN X2.here hx rfl (hb hby d39_22) rfl rfl k_) ?_
  have f4 := (g0_V.ext E2)
  obtain ⟨c3, Ar3, -, S3, M3, -, -⟩ := id f4
  refine hG _ _ (X2.arraylength hx (by rw [e2]; exact Ar3.1) (State.isArrayOf_alike hZ.alike Ar3.2.1) (g := (mkF m 23 #[.val (.ref d), .val (.int 34), .val (.ref b2)] [(.ref d), (.int 0), (.ref b2), (.int 0), (.ref d)])) rfl rfl (hb hby d39_23)) ?_
  rw [len_of S3 M3]
  show G (T2.setTop (mkF m 24 #[.val (.ref d), .val (.int 34), .val (.ref b2)] [(.int 16), (.int 0), (.ref b2), (.int 0), (.ref d)]))
  refine hG _ _ (fun t_ k_ => XS.iloadN X2.here hx rfl (hb hby d39_24) rfl k_) ?_
  show G (T2.setTop (mkF m 25 #[.val (.ref d), .val (.int 34), .val (.ref b2)] [(.int 34), (.int 16), (.int 0), (.ref b2), (.int 0), (.ref d)]))
  refine own_callS X2 hx hZ hG hown (ow hw 212 rfl) (ow hw 213 rfl) (ow hw 205 rfl) (ow hw 214 rfl) (by decide) 4 (own_min_16_34 l Z a0 hw h2 O2) (by decide) (by decide) e2 (by rw [hml]; rfl) (lenOf own_pd23 rfl) (argsL := [(.int 16), (.int 34)]) (rest := [(.int 0), (.ref b2), (.int 0), (.ref d)]) rfl rfl (Nat.le_of_eq rfl) (hb hby d39_25) (by decide) (by decide) ?_
  intro T5 h5 v5 L5 X5 e5 q5
  obtain ⟨rfl, M5, rfl⟩ := q5
  have N5 := Fr.app N0 M5
  show G (T5.setTop (mkF m 28 #[.val (.ref d), .val (.int 34), .val (.ref b2)] [(.int 16), (.int 0), (.ref b2), (.int 0), (.ref d)]))
  obtain ⟨T6, h6, L6, X6, e6, N6, J6, V6, st6⟩ := cpA X5 hx hZ hown (ow hw 215 rfl) (ow hw 118 rfl) (ow hw 116 rfl) (ow hw 117 rfl) e5 f4 V2 (Or.inl ⟨rfl, rfl⟩) (by decide) (by decide) (by decide) (by decide) (by decide) rfl (Nat.le_of_ble_eq_true rfl) N5 (own_ge O0 (Nat.le_of_eq z2.symm)) (g := (mkF m 28 #[.val (.ref d), .val (.int 34), .val (.ref b2)] [(.int 16), (.int 0), (.ref b2), (.int 0), (.ref d)])) rfl (by rw [hml]; rfl) rfl (hb hby d39_28) (by decide) (W := 0) (by show 2 * 0 + _ ≤ _; exact Nat.le_of_eq rfl) (by decide)
  refine hG _ _ st6 ?_
  have K6 : Keep h0 h6 [] := K2.trans J6 (allS (Or.inr (Nat.le_trans (Keep.refl h0 []).1 (Nat.le_of_eq z2.symm))) all0)
  have O6 : own_Old Z h6 := O2.keep J6 (allS (own_ge O0 (Nat.le_of_eq z2.symm)) all0)
  have U6 : Arv Z h6 b2 k2 .byte (34 : Int32) [(.int be0), (.int be1), (.int be2), (.int be3), (.int be4), (.int be5), (.int be6), (.int be7), (.int be8), (.int be9), (.int be10), (.int be11), (.int be12), (.int be13), (.int be14), (.int be15), (.int 0), (.int 0), (.int 0), (.int 0), (.int 0), (.int 0), (.int 0), (.int 0), (.int 0), (.int 0), (.int 0), (.int 0), (.int 0), (.int 0), (.int 0), (.int 0), (.int 0), (.int 0)] (.int 0) := V6
  show G (T6.setTop (mkF m 31 #[.val (.ref d), .val (.int 34), .val (.ref b2)] []))
  refine hG _ _ (fun t_ k_ => XS.aloadN X6.here hx rfl (hb hby d39_31) rfl rfl k_) ?_
  show G (T6.setTop (mkF m 32 #[.val (.ref d), .val (.int 34), .val (.ref b2)] [(.ref b2)]))
  exact own_retA hR hret rfl rfl X6 hx (hb hby d39_32) (by decide) (by decide) (by rw [e6]; exact ⟨b2, k2, rfl, N6, K6, (Nat.le_trans (Keep.refl h0 []).1 (Nat.le_of_eq z2.symm)), U6⟩)
set_option maxRecDepth 65536 in
set_option maxHeartbeats 40000000 in
theorem own_ens15_3 (l : Launch) (Z : State) (a0 : Array Value) (hw : ∀ d ∈ tables_1, d.before a0 Z = true) (q : Addr) (d : Addr) (kd : ClassId) (be0 : Int32) (be1 : Int32) (be2 : Int32) (be3 : Int32) (be4 : Int32) (be5 : Int32) (be6 : Int32) (be7 : Int32) (be8 : Int32) (be9 : Int32) (be10 : Int32) (be11 : Int32) (be12 : Int32) (be13 : Int32) (be14 : Int32) (be15 : Int32) (h0 : Heap) (O0 : own_Old Z h0) (g0_E : Exa Z h0 q "java/lang/StringBuilder") (g1_G : Z.heap.size ≤ q) (g2_F : Fld Z h0 q "java/lang/AbstractStringBuilder" "value" "[B" (.ref d)) (g3_F : Fld Z h0 q "java/lang/AbstractStringBuilder" "coder" "B" (.int 0)) (g4_F : Fld Z h0 q "java/lang/AbstractStringBuilder" "count" "I" (.int 15)) (g5_V : Arv Z h0 d kd .byte (16 : Int32) [(.int be0), (.int be1), (.int be2), (.int be3), (.int be4), (.int be5), (.int be6), (.int be7), (.int be8), (.int be9), (.int be10), (.int be11), (.int be12), (.int be13), (.int be14), (.int be15)] (.int 0)) (g6_ne_q_d : q ≠ d) :
    own_Con l Z (⟨"java/lang/AbstractStringBuilder", "ensureCapacityInternal", "(I)V"⟩ : MethodName) jdk_68_method_9_code 3 none [] ({ frames := 3, cells := 1, slots := 34, locals := 55 } : Room) #[(.ref q), (.int 18)] h0 (fun rv rh rL => ∃ (u : Addr) (ku : ClassId), rv = none ∧ own_Fr Z rL ∧ Keep h0 rh [q] ∧ h0.size ≤ u ∧ (Exa Z rh q "java/lang/StringBuilder") ∧ (Fld Z rh q "java/lang/AbstractStringBuilder" "value" "[B" (.ref u)) ∧ (Fld Z rh q "java/lang/AbstractStringBuilder" "coder" "B" (.int 0)) ∧ (Fld Z rh q "java/lang/AbstractStringBuilder" "count" "I" (.int 15)) ∧ (Arv Z rh u ku .byte (34 : Int32) [(.int be0), (.int be1), (.int be2), (.int be3), (.int be4), (.int be5), (.int be6), (.int be7), (.int be8), (.int be9), (.int be10), (.int be11), (.int be12), (.int be13), (.int be14), (.int be15), (.int 0), (.int 0), (.int 0), (.int 0), (.int 0), (.int 0), (.int 0), (.int 0), (.int 0), (.int 0), (.int 0), (.int 0), (.int 0), (.int 0), (.int 0), (.int 0), (.int 0), (.int 0)] (.int 0))) := by
  refine own_intro (plainFor_of_name (by first | (simp [plainName, overriddenIn]; done) | decide +kernel)) ?_
  intro p e s m below meth c s₁ G hx hby hml hown hnm hret hZ X0 e0 hG hR
  have N0 := Fr.nil Z.heap.size
  refine own_entry (Ls := #[.val (.ref q), .val (.int 18), .unset]) (by first | (simp [entryFrame, mkF, argsToLocals, Value.category]; done) | rfl) ?_
  show G (s₁.setTop (mkF m 0 #[.val (.ref q), .val (.int 18), .unset] []))
  refine hG _ _ (fun t_ k_ => XS.aloadN X0.here hx rfl (hb hby d18_0) rfl rfl k_) ?_
  obtain ⟨T1, X1, e1, st1⟩ := getF X0 hx hZ hown (host := "") (Or.inl (ow hw 65 rfl)) Via.refl e0 g2_F (g := (mkF m 1 #[.val (.ref q), .val (.int 18), .unset] [(.ref q)])) rfl rfl (hb hby d18_1)
  refine hG _ _ st1 ?_
  obtain ⟨c2, Ar2, -, S2, M2, -, -⟩ := id g5_V
  refine hG _ _ (X1.arraylength hx (by rw [e1]; exact Ar2.1) (State.isArrayOf_alike hZ.alike Ar2.2.1) (g := (mkF m 4 #[.val (.ref q), .val (.int 18), .unset] [(.ref d)])) rfl rfl (hb hby d18_4)) ?_
  rw [len_of S2 M2]
  refine hG _ _ (fun t_ k_ => XS.aloadN X1.here hx rfl (hb hby d18_5) rfl rfl k_) ?_
  obtain ⟨T3, X3, e3, st3⟩ := getF X1 hx hZ hown (host := "") (Or.inl (ow hw 67 rfl)) Via.refl e1 g3_F (g := (mkF m 6 #[.val (.ref q), .val (.int 18), .unset] [(.ref q), (.int 16)])) rfl rfl (hb hby d18_6)
  refine hG _ _ st3 ?_
  refine hG _ _ (fun t_ k_ => XS.ishr X3.here hx rfl (hb hby d18_9) rfl k_) ?_
  show G (T3.setTop (mkF m 10 #[.val (.ref q), .val (.int 18), .unset] [(.int ((16 : Int32) >>> ((0 : Int32) &&& 31)))]))
  rw [show ((16 : Int32) >>> ((0 : Int32) &&& 31)) = (16 : Int32) from by decide]
  show G (T3.setTop (mkF m 10 #[.val (.ref q), .val (.int 18), .unset] [(.int 16)]))
  refine hG _ _ (fun t_ k_ => XS.istoreN X3.here hx rfl (hb hby d18_10) rfl (l' := #[.val (.ref q), .val (.int 18), .val (.int 16)]) rfl k_) ?_
  refine hG _ _ (fun t_ k_ => XS.iloadN X3.here hx rfl (hb hby d18_11) rfl k_) ?_
  refine hG _ _ (fun t_ k_ => XS.iloadN X3.here hx rfl (hb hby d18_12) rfl k_) ?_
  refine hG _ _ (fun t_ k_ => XS.isub X3.here hx rfl (hb hby d18_13) rfl k_) ?_
  show G (T3.setTop (mkF m 14 #[.val (.ref q), .val (.int 18), .val (.int 16)] [(.int ((18 : Int32) - (16 : Int32)))]))
  rw [show ((18 : Int32) - (16 : Int32)) = (2 : Int32) from by decide]
  show G (T3.setTop (mkF m 14 #[.val (.ref q), .val (.int 18), .val (.int 16)] [(.int 2)]))
  refine hG _ _ (fun t_ k_ => XS.ifNo X3.here hx rfl (hb hby d18_14) rfl ((if0 _ _).trans (tlt (by decide)).2.2.2) k_) ?_
  show G (T3.setTop (mkF m 17 #[.val (.ref q), .val (.int 18), .val (.int 16)] []))
  refine hG _ _ (fun t_ k_ => XS.aloadN X3.here hx rfl (hb hby d18_17) rfl rfl k_) ?_
  refine hG _ _ (fun t_ k_ => XS.aloadN X3.here hx rfl (hb hby d18_18) rfl rfl k_) ?_
  obtain ⟨T4, X4, e4, st4⟩ := getF X3 hx hZ hown (host := "") (Or.inl (ow hw 65 rfl)) Via.refl e3 g2_F (g := (mkF m 19 #[.val (.ref q), .val (.int 18), .val (.int 16)] [(.ref q), (.ref q)])) rfl rfl (hb hby d18_19)
  refine hG _ _ st4 ?_
  refine hG _ _ (fun t_ k_ => XS.aloadN X4.here hx rfl (hb hby d18_22) rfl rfl k_) ?_
  refine hG _ _ (fun t_ k_ => XS.iloadN X4.here hx rfl (hb hby d18_23) rfl k_) ?_
  show G (T4.setTop (mkF m 24 #[.val (.ref q), .val (.int 18), .val (.int 16)] [(.int 18), (.ref q), (.ref d), (.ref q)]))
  refine own_callP2 X4 hx hZ hG hown (ow hw 194 rfl) (ow hw 195 rfl) (ow hw 197 rfl) (ow hw 196 rfl) (ow hw 61 rfl) (ow hw 198 rfl) (by decide) 2 (own_nc15_3 l Z a0 hw q d kd be0 be1 be2 be3 be4 be5 be6 be7 be8 be9 be10 be11 be12 be13 be14 be15 h0 O0 g2_F g3_F g5_V) (by decide) (by decide) e4 g0_E (by rw [hml]; rfl) (lenOf own_pd29 rfl) (argsL := [(.int 18)]) (rest := [(.ref d), (.ref q)]) rfl rfl (Nat.le_of_eq rfl) (hb hby d18_24) (by decide) (by decide) ?_
  intro T5 h5 v5 L5 X5 e5 q5
  obtain ⟨rfl, M5, rfl⟩ := q5
  have N5 := Fr.app N0 M5
  refine hG _ _ (fun t_ k_ => XS.aloadN X5.here hx rfl (hb hby d18_27) rfl rfl k_) ?_
  obtain ⟨T6, X6, e6, st6⟩ := getF X5 hx hZ hown (host := "") (Or.inl (ow hw 67 rfl)) Via.refl e5 g3_F (g := (mkF m 28 #[.val (.ref q), .val (.int 18), .val (.int 16)] [(.ref q), (.int 34), (.ref d), (.ref q)])) rfl rfl (hb hby d18_28)
  refine hG _ _ st6 ?_
  refine hG _ _ (fun t_ k_ => XS.ishl X6.here hx rfl (hb hby d18_31) rfl k_) ?_
  show G (T6.setTop (mkF m 32 #[.val (.ref q), .val (.int 18), .val (.int 16)] [(.int ((34 : Int32) <<< ((0 : Int32) &&& 31))), (.ref d), (.ref q)]))
  rw [show ((34 : Int32) <<< ((0 : Int32) &&& 31)) = (34 : Int32) from by decide]
  show G (T6.setTop (mkF m 32 #[.val (.ref q), .val (.int 18), .val (.int 16)] [(.int 34), (.ref d), (.ref q)]))
  refine own_callS X6 hx hZ hG hown (ow hw 209 rfl) (ow hw 210 rfl) (ow hw 151 rfl) (ow hw 211 rfl) (by decide) 1 (own_cpo15_3 l Z a0 hw d kd be0 be1 be2 be3 be4 be5 be6 be7 be8 be9 be10 be11 be12 be13 be14 be15 h0 O0 g5_V) (by decide) (by decide) e6 (by rw [hml]; rfl) (lenOf own_pd30 rfl) (argsL := [(.ref d), (.int 34)]) (rest := [(.ref q)]) rfl rfl (Nat.le_of_eq rfl) (hb hby d18_32) (by decide) (by decide) ?_
  intro T7 h7 v7 L7 X7 e7 q7
  obtain ⟨u_7, ku_7, rfl, M7, J7, y7_0, r7_0⟩ := q7
  have N7 := Fr.app N5 M7
  have K7 : Keep h0 h7 [q] := (Keep.refl h0 [q]).trans J7 all0
  have O7 : own_Old Z h7 := O0.keep J7 all0
  have f9 := (g2_F.keep J7 nin0)
  have f10 := (g0_E.keep J7)
  obtain ⟨T8, h8, X8, e8, W8, st8⟩ := putF X7 hx hZ hown (host := "") (Or.inl (ow hw 65 rfl)) Via.refl e7 f9 f10 (Or.inl (ow hw 66 rfl)) (ow hw 52 rfl) (ty := (.array .byte)) (by decide) rfl rfl (g := (mkF m 35 #[.val (.ref q), .val (.int 18), .val (.int 16)] [(.ref u_7), (.ref q)])) rfl rfl (hb hby d18_35)
  refine hG _ _ st8 ?_
  have K8 : Keep h0 h8 [q] := K7.wr W8 (Or.inl (List.mem_of_getElem? (i := 0) rfl))
  have O8 : own_Old Z h8 := O7.wr W8 g1_G
  have N8 := Fr.snoc X8 N7 g1_G
  show G (T8.setTop (mkF m 38 #[.val (.ref q), .val (.int 18), .val (.int 16)] []))
  have f11 := (f10.wr W8)
  have f12 := ((g3_F.keep J7 nin0).other W8 (Or.inr (slot_ne (Or.inl (ow hw 68 rfl)) (Or.inl (ow hw 66 rfl)) (by decide) (t := .byte) (t' := (.array .byte)) (by decide) (by decide))))
  have f13 := ((g4_F.keep J7 nin0).other W8 (Or.inr (slot_ne (Or.inl (ow hw 93 rfl)) (Or.inl (ow hw 66 rfl)) (by decide) (t := .int) (t' := (.array .byte)) (by decide) (by decide))))
  have f14 := (r7_0.other W8 (Ne.symm (own_ne g0_E.lt y7_0)))
  exact own_retV hR hret X8 hx (hb hby d18_38) (by decide) (by decide) (by rw [e8]; exact ⟨u_7, ku_7, rfl, N8, K8, (Nat.le_trans (Keep.refl h0 [q]).1 y7_0), f11, (f9.same W8), f12, f13, f14⟩)
set_option maxRecDepth 65536 in
set_option maxHeartbeats 40000000 in
theorem own_gb15_3 (l : Launch) (Z : State) (a0 : Array Value) (hw : ∀ d ∈ tables_1, d.before a0 Z = true) (a : Addr) (t : Addr) (kt : ClassId) (bs0 : Int32) (bs1 : Int32) (bs2 : Int32) (d : Addr) (kd : ClassId) (be0 : Int32) (be1 : Int32) (be2 : Int32) (be3 : Int32) (be4 : Int32) (be5 : Int32) (be6 : Int32) (be7 : Int32) (be8 : Int32) (be9 : Int32) (be10 : Int32) (be11 : Int32) (be12 : Int32) (be13 : Int32) (be14 : Int32) (be15 : Int32) (be16 : Int32) (be17 : Int32) (be18 : Int32) (be19 : Int32) (be20 : Int32) (be21 : Int32) (be22 : Int32) (be23 : Int32) (be24 : Int32) (be25 : Int32) (be26 : Int32) (be27 : Int32) (be28 : Int32) (be29 : Int32) (be30 : Int32) (be31 : Int32) (be32 : Int32) (be33 : Int32) (cpt : Int32) (h0 : Heap) (O0 : own_Old Z h0) (g0_E : Exa Z h0 a "java/lang/String") (g1_F : Fld Z h0 a "java/lang/String" "coder" "B" (.int 0)) (g2_F : Fld Z h0 a "java/lang/String" "value" "[B" (.ref t)) (g3_V : Arv Z h0 t kt .byte (3 : Int32) [(.int bs0), (.int bs1), (.int bs2)] (.int 0)) (g4_S : Sta Z Z.heap "java/lang/String" "COMPACT_STRINGS" "Z" (.int cpt)) (g5_hcpt : ¬ (cpt = (0 : Int32))) (g6_V : Arv Z h0 d kd .byte (34 : Int32) [(.int be0), (.int be1), (.int be2), (.int be3), (.int be4), (.int be5), (.int be6), (.int be7), (.int be8), (.int be9), (.int be10), (.int be11), (.int be12), (.int be13), (.int be14), (.int be15), (.int be16), (.int be17), (.int be18), (.int be19), (.int be20), (.int be21), (.int be22), (.int be23), (.int be24), (.int be25), (.int be26), (.int be27), (.int be28), (.int be29), (.int be30), (.int be31), (.int be32), (.int be33)] (.int 0)) (g7_G : Z.heap.size ≤ d) (g8_ne_a_d : a ≠ d) (g9_ne_t_d : t ≠ d) :
    own_Con l Z (⟨"java/lang/String", "getBytes", "([BIB)V"⟩ : MethodName) jdk_42_method_147_code 4 none [] ({ frames := 1, cells := 0, slots := 0, locals := 40 } : Room) #[(.ref a), (.ref d), (.int 15), (.int 0)] h0 (fun rv rh rL => rv = none ∧ own_Fr Z rL ∧ Keep h0 rh [d] ∧ (Arv Z rh d kd .byte (34 : Int32) [(.int be0), (.int be1), (.int be2), (.int be3), (.int be4), (.int be5), (.int be6), (.int be7), (.int be8), (.int be9), (.int be10), (.int be11), (.int be12), (.int be13), (.int be14), (.int bs0), (.int bs1), (.int bs2), (.int be18), (.int be19), (.int be20), (.int be21), (.int be22), (.int be23), (.int be24), (.int be25), (.int be26), (.int be27), (.int be28), (.int be29), (.int be30), (.int be31), (.int be32), (.int be33)] (.int 0))) := by
  refine own_intro (plainFor_of_name (by first | (simp [plainName, overriddenIn]; done) | decide +kernel)) ?_
  intro p e s m below meth c s₁ G hx hby hml hown hnm hret hZ X0 e0 hG hR
  have N0 := Fr.nil Z.heap.size
  refine own_entry (Ls := #[.val (.ref a), .val (.ref d), .val (.int 15), .val (.int 0)]) (by first | (simp [entryFrame, mkF, argsToLocals, Value.category]; done) | rfl) ?_
  show G (s₁.setTop (mkF m 0 #[.val (.ref a), .val (.ref d), .val (.int 15), .val (.int 0)] []))
  refine hG _ _ (fun t_ k_ => XS.aloadN X0.here hx rfl (hb hby d21_0) rfl rfl k_) ?_
  show G (s₁.setTop (mkF m 1 #[.val (.ref a), .val (.ref d), .val (.int 15), .val (.int 0)] [(.ref a)]))
  refine own_callV (C := "java/lang/String") X0 hx hZ hG hown (ow hw 87 rfl) (ow hw 88 rfl) (ow hw 90 rfl) (ow hw 89 rfl) (ow hw 3 rfl) (ow hw 91 rfl) (by decide) 0 (own_cod0 l Z a0 hw a cpt h0 O0 g1_F g4_S g5_hcpt) (by decide) (by decide) e0 g0_E (by rw [hml]; rfl) (lenOf own_pd11 rfl) (argsL := []) (rest := []) rfl rfl (Nat.le_of_eq rfl) (hb hby d21_1) (by decide) (by decide) ?_
  intro T1 h1 v1 L1 X1 e1 q1
  obtain ⟨rfl, M1, rfl⟩ := q1
  have N1 := Fr.app N0 M1
  refine hG _ _ (fun t_ k_ => XS.iloadN X1.here hx rfl (hb hby d21_4) rfl k_) ?_
  show G (T1.setTop (mkF m 5 #[.val (.ref a), .val (.ref d), .val (.int 15), .val (.int 0)] [(.int 0), (.int 0)]))
  refine hG _ _ (fun t_ k_ => XS.icmpNo X1.here hx rfl (hb hby d21_5) rfl (teq (by decide)).2 k_) ?_
  show G (T1.setTop (mkF m 8 #[.val (.ref a), .val (.ref d), .val (.int 15), .val (.int 0)] []))
  refine hG _ _ (fun t_ k_ => XS.aloadN X1.here hx rfl (hb hby d21_8) rfl rfl k_) ?_
  obtain ⟨T2, X2, e2, st2⟩ := getF X1 hx hZ hown (host := "") (Or.inl (ow hw 23 rfl)) Via.refl e1 g2_F (g := (mkF m 9 #[.val (.ref a), .val (.ref d), .val (.int 15), .val (.int 0)] [(.ref a)])) rfl rfl (hb hby d21_9)
  refine hG _ _ st2 ?_
  refine hG _ _ (fun t_ k_ => XS.iconst X2.here hx rfl (hb hby d21_12) k_) ?_
  refine hG _ _ (fun t_ k_ => XS.aloadN X2.here hx rfl (hb hby d21_13) rfl rfl k_) ?_
  refine hG _ _ (fun t_ k_ => XS.iloadN X2.here hx rfl (hb hby d21_14) rfl k_) ?_
  refine hG _ _ (fun t_ k_ => XS.iloadN X2.here hx rfl (hb hby d21_15) rfl k_) ?_
  refine hG _ _ (fun t_ k_ => XS.ishl X2.here hx rfl (hb hby d21_16) rfl k_) ?_
  show G (T2.setTop (mkF m 17 #[.val (.ref a), .val (.ref d), .val (.int 15), .val (.int 0)] [(.int ((15 : Int32) <<< ((0 : Int32) &&& 31))), (.ref d), (.int 0), (.ref t)]))
  rw [show ((15 : Int32) <<< ((0 : Int32) &&& 31)) = (15 : Int32) from by decide]
  show G (T2.setTop (mkF m 17 #[.val (.ref a), .val (.ref d), .val (.int 15), .val (.int 0)] [(.int 15), (.ref d), (.int 0), (.ref t)]))
  refine hG _ _ (fun t_ k_ => XS.aloadN X2.here hx rfl (hb hby d21_17) rfl rfl k_) ?_
  obtain ⟨T3, X3, e3, st3⟩ := getF X2 hx hZ hown (host := "") (Or.inl (ow hw 23 rfl)) Via.refl e2 g2_F (g := (mkF m 18 #[.val (.ref a), .val (.ref d), .val (.int 15), .val (.int 0)] [(.ref a), (.int 15), (.ref d), (.int 0), (.ref t)])) rfl rfl (hb hby d21_18)
  refine hG _ _ st3 ?_
  obtain ⟨c4, Ar4, -, S4, M4, -, -⟩ := id g3_V
  refine hG _ _ (X3.arraylength hx (by rw [e3]; exact Ar4.1) (State.isArrayOf_alike hZ.alike Ar4.2.1) (g := (mkF m 21 #[.val (.ref a), .val (.ref d), .val (.int 15), .val (.int 0)] [(.ref t), (.int 15), (.ref d), (.int 0), (.ref t)])) rfl rfl (hb hby d21_21)) ?_
  rw [len_of S4 M4]
  show G (T3.setTop (mkF m 22 #[.val (.ref a), .val (.ref d), .val (.int 15), .val (.int 0)] [(.int 3), (.int 15), (.ref d), (.int 0), (.ref t)]))
  obtain ⟨T5, h5, L5, X5, e5, N5, J5, V5, st5⟩ := cpA X3 hx hZ hown (ow hw 115 rfl) (ow hw 118 rfl) (ow hw 116 rfl) (ow hw 117 rfl) e3 g3_V g6_V (Or.inl ⟨rfl, rfl⟩) (by decide) (by decide) (by decide) (by decide) (by decide) rfl (Nat.le_of_ble_eq_true rfl) N1 g7_G (g := (mkF m 22 #[.val (.ref a), .val (.ref d), .val (.int 15), .val (.int 0)] [(.int 3), (.int 15), (.ref d), (.int 0), (.ref t)])) rfl (by rw [hml]; rfl) rfl (hb hby d21_22) (by decide) (W := 0) (by show 2 * 0 + _ ≤ _; exact Nat.le_of_eq rfl) (by decide)
  refine hG _ _ st5 ?_
  have K5 : Keep h0 h5 [d] := (Keep.refl h0 [d]).trans J5 (allS (Or.inl (List.mem_of_getElem? (i := 0) rfl)) all0)
  have O5 : own_Old Z h5 := O0.keep J5 (allS g7_G all0)
  have U5 : Arv Z h5 d kd .byte (34 : Int32) [(.int be0), (.int be1), (.int be2), (.int be3), (.int be4), (.int be5), (.int be6), (.int be7), (.int be8), (.int be9), (.int be10), (.int be11), (.int be12), (.int be13), (.int be14), (.int bs0), (.int bs1), (.int bs2), (.int be18), (.int be19), (.int be20), (.int be21), (.int be22), (.int be23), (.int be24), (.int be25), (.int be26), (.int be27), (.int be28), (.int be29), (.int be30), (.int be31), (.int be32), (.int be33)] (.int 0) := V5
  show G (T5.setTop (mkF m 25 #[.val (.ref a), .val (.ref d), .val (.int 15), .val (.int 0)] []))
  refine hG _ _ (fun t_ k_ => XS.goto X5.here hx rfl (pc0 := 25) (pc' := 43) rfl (hb hby d21_25) (by decide) (by decide) k_) ?_
  show G (T5.setTop (mkF m 43 #[.val (.ref a), .val (.ref d), .val (.int 15), .val (.int 0)] []))
  exact own_retV hR hret X5 hx (hb hby d21_43) (by decide) (by decide) (by rw [e5]; exact ⟨rfl, N5, K5, U5⟩)
set_option maxRecDepth 65536 in
set_option maxHeartbeats 40000000 in
theorem own_psa15_3 (l : Launch) (Z : State) (a0 : Array Value) (hw : ∀ d ∈ tables_1, d.before a0 Z = true) (a : Addr) (t : Addr) (kt : ClassId) (bs0 : Int32) (bs1 : Int32) (bs2 : Int32) (q : Addr) (d : Addr) (kd : ClassId) (be0 : Int32) (be1 : Int32) (be2 : Int32) (be3 : Int32) (be4 : Int32) (be5 : Int32) (be6 : Int32) (be7 : Int32) (be8 : Int32) (be9 : Int32) (be10 : Int32) (be11 : Int32) (be12 : Int32) (be13 : Int32) (be14 : Int32) (be15 : Int32) (be16 : Int32) (be17 : Int32) (be18 : Int32) (be19 : Int32) (be20 : Int32) (be21 : Int32) (be22 : Int32) (be23 : Int32) (be24 : Int32) (be25 : Int32) (be26 : Int32) (be27 : Int32) (be28 : Int32) (be29 : Int32) (be30 : Int32) (be31 : Int32) (be32 : Int32) (be33 : Int32) (cpt : Int32) (h0 : Heap) (O0 : own_Old Z h0) (g0_E : Exa Z h0 a "java/lang/String") (g1_F : Fld Z h0 a "java/lang/String" "coder" "B" (.int 0)) (g2_F : Fld Z h0 a "java/lang/String" "value" "[B" (.ref t)) (g3_V : Arv Z h0 t kt .byte (3 : Int32) [(.int bs0), (.int bs1), (.int bs2)] (.int 0)) (g4_S : Sta Z Z.heap "java/lang/String" "COMPACT_STRINGS" "Z" (.int cpt)) (g5_hcpt : ¬ (cpt = (0 : Int32))) (g6_E : Exa Z h0 q "java/lang/StringBuilder") (g7_F : Fld Z h0 q "java/lang/AbstractStringBuilder" "value" "[B" (.ref d)) (g8_F : Fld Z h0 q "java/lang/AbstractStringBuilder" "coder" "B" (.int 0)) (g9_F : Fld Z h0 q "java/lang/AbstractStringBuilder" "count" "I" (.int 15)) (g10_V : Arv Z h0 d kd .byte (34 : Int32) [(.int be0), (.int be1), (.int be2), (.int be3), (.int be4), (.int be5), (.int be6), (.int be7), (.int be8), (.int be9), (.int be10), (.int be11), (.int be12), (.int be13), (.int be14), (.int be15), (.int be16), (.int be17), (.int be18), (.int be19), (.int be20), (.int be21), (.int be22), (.int be23), (.int be24), (.int be25), (.int be26), (.int be27), (.int be28), (.int be29), (.int be30), (.int be31), (.int be32), (.int be33)] (.int 0)) (g11_G : Z.heap.size ≤ d) (g12_ne_a_d : a ≠ d) (g13_ne_t_d : t ≠ d) :
    own_Con l Z (⟨"java/lang/AbstractStringBuilder", "putStringAt", "(ILjava/lang/String;)V"⟩ : MethodName) jdk_68_method_73_code 3 none [] ({ frames := 2, cells := 0, slots := 0, locals := 55 } : Room) #[(.ref q), (.int 15), (.ref a)] h0 (fun rv rh rL => rv = none ∧ own_Fr Z rL ∧ Keep h0 rh [d] ∧ (Arv Z rh d kd .byte (34 : Int32) [(.int be0), (.int be1), (.int be2), (.int be3), (.int be4), (.int be5), (.int be6), (.int be7), (.int be8), (.int be9), (.int be10), (.int be11), (.int be12), (.int be13), (.int be14), (.int bs0), (.int bs1), (.int bs2), (.int be18), (.int be19), (.int be20), (.int be21), (.int be22), (.int be23), (.int be24), (.int be25), (.int be26), (.int be27), (.int be28), (.int be29), (.int be30), (.int be31), (.int be32), (.int be33)] (.int 0))) := by
  refine own_intro (plainFor_of_name (by first | (simp [plainName, overriddenIn]; done) | decide +kernel)) ?_
  intro p e s m below meth c s₁ G hx hby hml hown hnm hret hZ X0 e0 hG hR
  have N0 := Fr.nil Z.heap.size
  refine own_entry (Ls := #[.val (.ref q), .val (.int 15), .val (.ref a)]) (by first | (simp [entryFrame, mkF, argsToLocals, Value.category]; done) | rfl) ?_
  show G (s₁.setTop (mkF m 0 #[.val (.ref q), .val (.int 15), .val (.ref a)] []))
  refine hG _ _ (fun t_ k_ => XS.aloadN X0.here hx rfl (hb hby d19_0) rfl rfl k_) ?_
  refine hG _ _ (fun t_ k_ => XS.aloadN X0.here hx rfl (hb hby d19_1) rfl rfl k_) ?_
  show G (s₁.setTop (mkF m 2 #[.val (.ref q), .val (.int 15), .val (.ref a)] [(.ref a), (.ref q)]))
  refine own_callP2 X0 hx hZ hG hown (ow hw 104 rfl) (ow hw 105 rfl) (ow hw 107 rfl) (ow hw 106 rfl) (ow hw 61 rfl) (ow hw 108 rfl) (by decide) 0 (own_infl l Z a0 hw q a cpt h0 O0 g8_F g0_E g1_F g4_S g5_hcpt) (by decide) (by decide) e0 g6_E (by rw [hml]; rfl) (lenOf own_pd13 rfl) (argsL := [(.ref a)]) (rest := []) rfl rfl (Nat.le_of_eq rfl) (hb hby d19_2) (by decide) (by decide) ?_
  intro T1 h1 v1 L1 X1 e1 q1
  obtain ⟨rfl, M1, rfl⟩ := q1
  have N1 := Fr.app N0 M1
  refine hG _ _ (fun t_ k_ => XS.aloadN X1.here hx rfl (hb hby d19_5) rfl rfl k_) ?_
  refine hG _ _ (fun t_ k_ => XS.aloadN X1.here hx rfl (hb hby d19_6) rfl rfl k_) ?_
  obtain ⟨T2, X2, e2, st2⟩ := getF X1 hx hZ hown (host := "") (Or.inl (ow hw 65 rfl)) Via.refl e1 g7_F (g := (mkF m 7 #[.val (.ref q), .val (.int 15), .val (.ref a)] [(.ref q), (.ref a)])) rfl rfl (hb hby d19_7)
  refine hG _ _ st2 ?_
  refine hG _ _ (fun t_ k_ => XS.iloadN X2.here hx rfl (hb hby d19_10) rfl k_) ?_
  refine hG _ _ (fun t_ k_ => XS.aloadN X2.here hx rfl (hb hby d19_11) rfl rfl k_) ?_
  obtain ⟨T3, X3, e3, st3⟩ := getF X2 hx hZ hown (host := "") (Or.inl (ow hw 67 rfl)) Via.refl e2 g8_F (g := (mkF m 12 #[.val (.ref q), .val (.int 15), .val (.ref a)] [(.ref q), (.int 15), (.ref d), (.ref a)])) rfl rfl (hb hby d19_12)
  refine hG _ _ st3 ?_
  show G (T3.setTop (mkF m 15 #[.val (.ref q), .val (.int 15), .val (.ref a)] [(.int 0), (.int 15), (.ref d), (.ref a)]))
  refine own_callV (C := "java/lang/String") X3 hx hZ hG hown (ow hw 110 rfl) (ow hw 111 rfl) (ow hw 113 rfl) (ow hw 112 rfl) (ow hw 3 rfl) (ow hw 114 rfl) (by decide) 0 (own_gb15_3 l Z a0 hw a t kt bs0 bs1 bs2 d kd be0 be1 be2 be3 be4 be5 be6 be7 be8 be9 be10 be11 be12 be13 be14 be15 be16 be17 be18 be19 be20 be21 be22 be23 be24 be25 be26 be27 be28 be29 be30 be31 be32 be33 cpt h0 O0 g0_E g1_F g2_F g3_V g4_S g5_hcpt g10_V g11_G g12_ne_a_d g13_ne_t_d) (by decide) (by decide) e3 g0_E (by rw [hml]; rfl) (lenOf own_pd18 rfl) (argsL := [(.ref d), (.int 15), (.int 0)]) (rest := []) rfl rfl (Nat.le_of_eq rfl) (hb hby d19_15) (by decide) (by decide) ?_
  intro T4 h4 v4 L4 X4 e4 q4
  obtain ⟨rfl, M4, J4, r4_0⟩ := q4
  have N4 := Fr.app N1 M4
  have K4 : Keep h0 h4 [d] := (Keep.refl h0 [d]).trans J4 (allS (Or.inl (List.mem_of_getElem? (i := 0) rfl)) all0)
  have O4 : own_Old Z h4 := O0.keep J4 (allS g11_G all0)
  show G (T4.setTop (mkF m 18 #[.val (.ref q), .val (.int 15), .val (.ref a)] []))
  exact own_retV hR hret X4 hx (hb hby d19_18) (by decide) (by decide) (by rw [e4]; exact ⟨rfl, N4, K4, r4_0⟩)
set_option maxRecDepth 65536 in
set_option maxHeartbeats 40000000 in
theorem own_asba15_3 (l : Launch) (Z : State) (a0 : Array Value) (hw : ∀ d ∈ tables_1, d.before a0 Z = true) (a : Addr) (t : Addr) (kt : ClassId) (bs0 : Int32) (bs1 : Int32) (bs2 : Int32) (q : Addr) (d : Addr) (kd : ClassId) (be0 : Int32) (be1 : Int32) (be2 : Int32) (be3 : Int32) (be4 : Int32) (be5 : Int32) (be6 : Int32) (be7 : Int32) (be8 : Int32) (be9 : Int32) (be10 : Int32) (be11 : Int32) (be12 : Int32) (be13 : Int32) (be14 : Int32) (be15 : Int32) (cpt : Int32) (h0 : Heap) (O0 : own_Old Z h0) (g0_E : Exa Z h0 a "java/lang/String") (g1_F : Fld Z h0 a "java/lang/String" "coder" "B" (.int 0)) (g2_F : Fld Z h0 a "java/lang/String" "value" "[B" (.ref t)) (g3_V : Arv Z h0 t kt .byte (3 : Int32) [(.int bs0), (.int bs1), (.int bs2)] (.int 0)) (g4_S : Sta Z Z.heap "java/lang/String" "COMPACT_STRINGS" "Z" (.int cpt)) (g5_hcpt : ¬ (cpt = (0 : Int32))) (g6_E : Exa Z h0 q "java/lang/StringBuilder") (g7_G : Z.heap.size ≤ q) (g8_F : Fld Z h0 q "java/lang/AbstractStringBuilder" "value" "[B" (.ref d)) (g9_F : Fld Z h0 q "java/lang/AbstractStringBuilder" "coder" "B" (.int 0)) (g10_F : Fld Z h0 q "java/lang/AbstractStringBuilder" "count" "I" (.int 15)) (g11_V : Arv Z h0 d kd .byte (16 : Int32) [(.int be0), (.int be1), (.int be2), (.int be3), (.int be4), (.int be5), (.int be6), (.int be7), (.int be8), (.int be9), (.int be10), (.int be11), (.int be12), (.int be13), (.int be14), (.int be15)] (.int 0)) (g12_G : Z.heap.size ≤ d) (g13_ne_a_d : a ≠ d) (g14_ne_t_d : t ≠ d) (g15_ne_a_q : a ≠ q) (g16_ne_t_q : t ≠ q) (g17_ne_q_d : q ≠ d) :
    own_Con l Z (⟨"java/lang/AbstractStringBuilder", "append", "(Ljava/lang/String;)Ljava/lang/AbstractStringBuilder;"⟩ : MethodName) jdk_68_method_22_code 3 (some (.object "java/lang/AbstractStringBuilder")) [] ({ frames := 4, cells := 1, slots := 34, locals := 69 } : Room) #[(.ref q), (.ref a)] h0 (fun rv rh rL => ∃ (u : Addr) (ku : ClassId), rv = some (.ref q) ∧ own_Fr Z rL ∧ Keep h0 rh [q] ∧ h0.size ≤ u ∧ (Exa Z rh q "java/lang/StringBuilder") ∧ (Fld Z rh q "java/lang/AbstractStringBuilder" "value" "[B" (.ref u)) ∧ (Fld Z rh q "java/lang/AbstractStringBuilder" "coder" "B" (.int 0)) ∧ (Fld Z rh q "java/lang/AbstractStringBuilder" "count" "I" (.int 18)) ∧ (Arv Z rh u ku .byte (34 : Int32) [(.int be0), (.int be1), (.int be2), (.int be3), (.int be4), (.int be5), (.int be6), (.int be7), (.int be8), (.int be9), (.int be10), (.int be11), (.int be12), (.int be13), (.int be14), (.int bs0), (.int bs1), (.int bs2), (.int 0), (.int 0), (.int 0), (.int 0), (.int 0), (.int 0), (.int 0), (.int 0), (.int 0), (.int 0), (.int 0), (.int 0), (.int 0), (.int 0), (.int 0), (.int 0)] (.int 0))) := by
  refine own_intro (plainFor_of_name (by first | (simp [plainName, overriddenIn]; done) | decide +kernel)) ?_
  intro p e s m below meth c s₁ G hx hby hml hown hnm hret hZ X0 e0 hG hR
  have N0 := Fr.nil Z.heap.size
  refine own_entry (Ls := #[.val (.ref q), .val (.ref a), .unset]) (by first | (simp [entryFrame, mkF, argsToLocals, Value.category]; done) | rfl) ?_
  show G (s₁.setTop (mkF m 0 #[.val (.ref q), .val (.ref a), .unset] []))
  refine hG _ _ (fun t_ k_ => XS.aloadN X0.here hx rfl (hb hby d15_0) rfl rfl k_) ?_
  show G (s₁.setTop (mkF m 1 #[.val (.ref q), .val (.ref a), .unset] [(.ref a)]))
  refine hG _ _ (fun t_ k_ => XS.ifnonnullYes X0.here hx rfl (pc0 := 1) (pc' := 9) rfl (hb hby d15_1) rfl (by decide) (by decide) k_) ?_
  refine hG _ _ (fun t_ k_ => XS.aloadN X0.here hx rfl (hb hby d15_9) rfl rfl k_) ?_
  show G (s₁.setTop (mkF m 10 #[.val (.ref q), .val (.ref a), .unset] [(.ref a)]))
  refine own_callV (C := "java/lang/String") X0 hx hZ hG hown (ow hw 82 rfl) (ow hw 83 rfl) (ow hw 85 rfl) (ow hw 84 rfl) (ow hw 3 rfl) (ow hw 86 rfl) (by decide) 0 (own_lenL l Z a0 hw a t kt (3 : Int32) [(.int bs0), (.int bs1), (.int bs2)] cpt h0 O0 g0_E g1_F g2_F g3_V g4_S g5_hcpt) (by decide) (by decide) e0 g0_E (by rw [hml]; rfl) (lenOf own_pd12 rfl) (argsL := []) (rest := []) rfl rfl (Nat.le_of_eq rfl) (hb hby d15_10) (by decide) (by decide) ?_
  intro T1 h1 v1 L1 X1 e1 q1
  obtain ⟨rfl, M1, rfl⟩ := q1
  have N1 := Fr.app N0 M1
  refine hG _ _ (fun t_ k_ => XS.istoreN X1.here hx rfl (hb hby d15_13) rfl (l' := #[.val (.ref q), .val (.ref a), .val (.int 3)]) rfl k_) ?_
  refine hG _ _ (fun t_ k_ => XS.aloadN X1.here hx rfl (hb hby d15_14) rfl rfl k_) ?_
  refine hG _ _ (fun t_ k_ => XS.aloadN X1.here hx rfl (hb hby d15_15) rfl rfl k_) ?_
  obtain ⟨T2, X2, e2, st2⟩ := getF X1 hx hZ hown (host := "") (Or.inl (ow hw 92 rfl)) Via.refl e1 g10_F (g := (mkF m 16 #[.val (.ref q), .val (.ref a), .val (.int 3)] [(.ref q), (.ref q)])) rfl rfl (hb hby d15_16)
  refine hG _ _ st2 ?_
  refine hG _ _ (fun t_ k_ => XS.iloadN X2.here hx rfl (hb hby d15_19) rfl k_) ?_
  refine hG _ _ (fun t_ k_ => XS.iadd X2.here hx rfl (hb hby d15_20) rfl k_) ?_
  show G (T2.setTop (mkF m 21 #[.val (.ref q), .val (.ref a), .val (.int 3)] [(.int ((15 : Int32) + (3 : Int32))), (.ref q)]))
  rw [show ((15 : Int32) + (3 : Int32)) = (18 : Int32) from by decide]
  show G (T2.setTop (mkF m 21 #[.val (.ref q), .val (.ref a), .val (.int 3)] [(.int 18), (.ref q)]))
  refine own_callP2 X2 hx hZ hG hown (ow hw 94 rfl) (ow hw 95 rfl) (ow hw 97 rfl) (ow hw 96 rfl) (ow hw 61 rfl) (ow hw 98 rfl) (by decide) 0 (own_ens15_3 l Z a0 hw q d kd be0 be1 be2 be3 be4 be5 be6 be7 be8 be9 be10 be11 be12 be13 be14 be15 h0 O0 g6_E g7_G g8_F g9_F g10_F g11_V g17_ne_q_d) (by decide) (by decide) e2 g6_E (by rw [hml]; rfl) (lenOf own_pd10 rfl) (argsL := [(.int 18)]) (rest := []) rfl rfl (Nat.le_of_eq rfl) (hb hby d15_21) (by decide) (by decide) ?_
  intro T3 h3 v3 L3 X3 e3 q3
  obtain ⟨u_3, ku_3, rfl, M3, J3, y3_0, r3_0, r3_1, r3_2, r3_3, r3_4⟩ := q3
  have N3 := Fr.app N1 M3
  have K3 : Keep h0 h3 [q] := (Keep.refl h0 [q]).trans J3 (allS (Or.inl (List.mem_of_getElem? (i := 0) rfl)) all0)
  have O3 : own_Old Z h3 := O0.keep J3 (allS g7_G all0)
  refine hG _ _ (fun t_ k_ => XS.aloadN X3.here hx rfl (hb hby d15_24) rfl rfl k_) ?_
  refine hG _ _ (fun t_ k_ => XS.aloadN X3.here hx rfl (hb hby d15_25) rfl rfl k_) ?_
  obtain ⟨T4, X4, e4, st4⟩ := getF X3 hx hZ hown (host := "") (Or.inl (ow hw 92 rfl)) Via.refl e3 r3_3 (g := (mkF m 26 #[.val (.ref q), .val (.ref a), .val (.int 3)] [(.ref q), (.ref q)])) rfl rfl (hb hby d15_26)
  refine hG _ _ st4 ?_
  refine hG _ _ (fun t_ k_ => XS.aloadN X4.here hx rfl (hb hby d15_29) rfl rfl k_) ?_
  show G (T4.setTop (mkF m 30 #[.val (.ref q), .val (.ref a), .val (.int 3)] [(.ref a), (.int 15), (.ref q)]))
  have f6 := (g0_E.keep J3)
  have f7 := (g1_F.keep J3 (ninS g15_ne_a_q nin0))
  have f8 := (g2_F.keep J3 (ninS g15_ne_a_q nin0))
  have f9 := (g3_V.keep J3 (ninS g16_ne_t_q nin0))
  refine own_callP2 X4 hx hZ hG hown (ow hw 99 rfl) (ow hw 100 rfl) (ow hw 102 rfl) (ow hw 101 rfl) (ow hw 61 rfl) (ow hw 103 rfl) (by decide) 0 (own_psa15_3 l Z a0 hw a t kt bs0 bs1 bs2 q u_3 ku_3 be0 be1 be2 be3 be4 be5 be6 be7 be8 be9 be10 be11 be12 be13 be14 be15 (0 : Int32) (0 : Int32) (0 : Int32) (0 : Int32) (0 : Int32) (0 : Int32) (0 : Int32) (0 : Int32) (0 : Int32) (0 : Int32) (0 : Int32) (0 : Int32) (0 : Int32) (0 : Int32) (0 : Int32) (0 : Int32) (0 : Int32) (0 : Int32) cpt h3 O3 f6 f7 f8 f9 g4_S g5_hcpt r3_0 r3_1 r3_2 r3_3 r3_4 (own_ge O0 y3_0) (own_ne g0_E.lt y3_0) (own_ne g3_V.lt y3_0)) (by decide) (by decide) e4 r3_0 (by rw [hml]; rfl) (lenOf own_pd19 rfl) (argsL := [(.int 15), (.ref a)]) (rest := []) rfl rfl (Nat.le_of_eq rfl) (hb hby d15_30) (by decide) (by decide) ?_
  intro T5 h5 v5 L5 X5 e5 q5
  obtain ⟨rfl, M5, J5, r5_0⟩ := q5
  have N5 := Fr.app N3 M5
  have K5 : Keep h0 h5 [q] := K3.trans J5 (allS (Or.inr (Nat.le_trans (Keep.refl h0 [q]).1 y3_0)) all0)
  have O5 : own_Old Z h5 := O3.keep J5 (allS (own_ge O0 y3_0) all0)
  refine hG _ _ (fun t_ k_ => XS.aloadN X5.here hx rfl (hb hby d15_33) rfl rfl k_) ?_
  refine hG _ _ (fun t_ k_ => XS.dup X5.here hx rfl (hb hby d15_34) rfl rfl k_) ?_
  have f11 := (r3_3.keep J5 (ninS (own_ne g6_E.lt y3_0) nin0))
  obtain ⟨T10, X10, e10, st10⟩ := getF X5 hx hZ hown (host := "") (Or.inl (ow hw 92 rfl)) Via.refl e5 f11 (g := (mkF m 35 #[.val (.ref q), .val (.ref a), .val (.int 3)] [(.ref q), (.ref q)])) rfl rfl (hb hby d15_35)
  refine hG _ _ st10 ?_
  refine hG _ _ (fun t_ k_ => XS.iloadN X10.here hx rfl (hb hby d15_38) rfl k_) ?_
  refine hG _ _ (fun t_ k_ => XS.iadd X10.here hx rfl (hb hby d15_39) rfl k_) ?_
  show G (T10.setTop (mkF m 40 #[.val (.ref q), .val (.ref a), .val (.int 3)] [(.int ((15 : Int32) + (3 : Int32))), (.ref q)]))
  rw [show ((15 : Int32) + (3 : Int32)) = (18 : Int32) from by decide]
  show G (T10.setTop (mkF m 40 #[.val (.ref q), .val (.ref a), .val (.int 3)] [(.int 18), (.ref q)]))
  have f13 := (r3_0.keep J5)
  obtain ⟨T12, h12, X12, e12, W12, st12⟩ := putF X10 hx hZ hown (host := "") (Or.inl (ow hw 92 rfl)) Via.refl e10 f11 f13 (Or.inl (ow hw 93 rfl)) (ow hw 52 rfl) (ty := .int) (by decide) rfl rfl (g := (mkF m 40 #[.val (.ref q), .val (.ref a), .val (.int 3)] [(.int 18), (.ref q)])) rfl rfl (hb hby d15_40)
  refine hG _ _ st12 ?_
  have K12 : Keep h0 h12 [q] := K5.wr W12 (Or.inl (List.mem_of_getElem? (i := 0) rfl))
  have O12 : own_Old Z h12 := O5.wr W12 g7_G
  have N12 := Fr.snoc X12 N5 g7_G
  refine hG _ _ (fun t_ k_ => XS.aloadN X12.here hx rfl (hb hby d15_43) rfl rfl k_) ?_
  show G (T12.setTop (mkF m 44 #[.val (.ref q), .val (.ref a), .val (.int 3)] [(.ref q)]))
  have f14 := (f13.wr W12)
  have f15 := ((r3_1.keep J5 (ninS (own_ne g6_E.lt y3_0) nin0)).other W12 (Or.inr (slot_ne (Or.inl (ow hw 66 rfl)) (Or.inl (ow hw 93 rfl)) (by decide) (t := (.array .byte)) (t' := .int) (by decide) (by decide))))
  have f16 := ((r3_2.keep J5 (ninS (own_ne g6_E.lt y3_0) nin0)).other W12 (Or.inr (slot_ne (Or.inl (ow hw 68 rfl)) (Or.inl (ow hw 93 rfl)) (by decide) (t := .byte) (t' := .int) (by decide) (by decide))))
  have f17 := (r5_0.other W12 (Ne.symm (own_ne g6_E.lt y3_0)))
  exact own_retA hR hret rfl rfl X12 hx (hb hby d15_44) (by decide) (by decide) (by rw [e12]; exact ⟨u_3, ku_3, rfl, N12, K12, (Nat.le_trans (Keep.refl h0 [q]).1 y3_0), f14, f15, f16, (f11.same W12), f17⟩)
set_option maxRecDepth 65536 in
set_option maxHeartbeats 40000000 in
theorem own_sba15_3 (l : Launch) (Z : State) (a0 : Array Value) (hw : ∀ d ∈ tables_1, d.before a0 Z = true) (a : Addr) (t : Addr) (kt : ClassId) (bs0 : Int32) (bs1 : Int32) (bs2 : Int32) (q : Addr) (d : Addr) (kd : ClassId) (be0 : Int32) (be1 : Int32) (be2 : Int32) (be3 : Int32) (be4 : Int32) (be5 : Int32) (be6 : Int32) (be7 : Int32) (be8 : Int32) (be9 : Int32) (be10 : Int32) (be11 : Int32) (be12 : Int32) (be13 : Int32) (be14 : Int32) (be15 : Int32) (cpt : Int32) (h0 : Heap) (O0 : own_Old Z h0) (g0_E : Exa Z h0 a "java/lang/String") (g1_F : Fld Z h0 a "java/lang/String" "coder" "B" (.int 0)) (g2_F : Fld Z h0 a "java/lang/String" "value" "[B" (.ref t)) (g3_V : Arv Z h0 t kt .byte (3 : Int32) [(.int bs0), (.int bs1), (.int bs2)] (.int 0)) (g4_S : Sta Z Z.heap "java/lang/String" "COMPACT_STRINGS" "Z" (.int cpt)) (g5_hcpt : ¬ (cpt = (0 : Int32))) (g6_E : Exa Z h0 q "java/lang/StringBuilder") (g7_G : Z.heap.size ≤ q) (g8_F : Fld Z h0 q "java/lang/AbstractStringBuilder" "value" "[B" (.ref d)) (g9_F : Fld Z h0 q "java/lang/AbstractStringBuilder" "coder" "B" (.int 0)) (g10_F : Fld Z h0 q "java/lang/AbstractStringBuilder" "count" "I" (.int 15)) (g11_V : Arv Z h0 d kd .byte (16 : Int32) [(.int be0), (.int be1), (.int be2), (.int be3), (.int be4), (.int be5), (.int be6), (.int be7), (.int be8), (.int be9), (.int be10), (.int be11), (.int be12), (.int be13), (.int be14), (.int be15)] (.int 0)) (g12_G : Z.heap.size ≤ d) (g13_ne_a_d : a ≠ d) (g14_ne_t_d : t ≠ d) (g15_ne_a_q : a ≠ q) (g16_ne_t_q : t ≠ q) (g17_ne_q_d : q ≠ d) :
    own_Con l Z (⟨"java/lang/StringBuilder", "append", "(Ljava/lang/String;)Ljava/lang/StringBuilder;"⟩ : MethodName) jdk_67_method_7_code 2 (some (.object "java/lang/StringBuilder")) [] ({ frames := 5, cells := 1, slots := 34, locals := 83 } : Room) #[(.ref q), (.ref a)] h0 (fun rv rh rL => ∃ (u : Addr) (ku : ClassId), rv = some (.ref q) ∧ own_Fr Z rL ∧ Keep h0 rh [q] ∧ h0.size ≤ u ∧ (Exa Z rh q "java/lang/StringBuilder") ∧ (Fld Z rh q "java/lang/AbstractStringBuilder" "value" "[B" (.ref u)) ∧ (Fld Z rh q "java/lang/AbstractStringBuilder" "coder" "B" (.int 0)) ∧ (Fld Z rh q "java/lang/AbstractStringBuilder" "count" "I" (.int 18)) ∧ (Arv Z rh u ku .byte (34 : Int32) [(.int be0), (.int be1), (.int be2), (.int be3), (.int be4), (.int be5), (.int be6), (.int be7), (.int be8), (.int be9), (.int be10), (.int be11), (.int be12), (.int be13), (.int be14), (.int bs0), (.int bs1), (.int bs2), (.int 0), (.int 0), (.int 0), (.int 0), (.int 0), (.int 0), (.int 0), (.int 0), (.int 0), (.int 0), (.int 0), (.int 0), (.int 0), (.int 0), (.int 0), (.int 0)] (.int 0))) := by
  refine own_intro (plainFor_of_name (by first | (simp [plainName, overriddenIn]; done) | decide +kernel)) ?_
  intro p e s m below meth c s₁ G hx hby hml hown hnm hret hZ X0 e0 hG hR
  have N0 := Fr.nil Z.heap.size
  refine own_entry (Ls := #[.val (.ref q), .val (.ref a)]) (by first | (simp [entryFrame, mkF, argsToLocals, Value.category]; done) | rfl) ?_
  show G (s₁.setTop (mkF m 0 #[.val (.ref q), .val (.ref a)] []))
  refine hG _ _ (fun t_ k_ => XS.aloadN X0.here hx rfl (hb hby d14_0) rfl rfl k_) ?_
  refine hG _ _ (fun t_ k_ => XS.aloadN X0.here hx rfl (hb hby d14_1) rfl rfl k_) ?_
  show G (s₁.setTop (mkF m 2 #[.val (.ref q), .val (.ref a)] [(.ref a), (.ref q)]))
  refine own_callU X0 hx hZ hG hown (ow hw 77 rfl) (ow hw 78 rfl) (ow hw 79 rfl) (ow hw 97 rfl) rfl (ow hw 61 rfl) (ow hw 81 rfl) (by decide) (by decide) 0 (own_asba15_3 l Z a0 hw a t kt bs0 bs1 bs2 q d kd be0 be1 be2 be3 be4 be5 be6 be7 be8 be9 be10 be11 be12 be13 be14 be15 cpt h0 O0 g0_E g1_F g2_F g3_V g4_S g5_hcpt g6_E g7_G g8_F g9_F g10_F g11_V g12_G g13_ne_a_d g14_ne_t_d g15_ne_a_q g16_ne_t_q g17_ne_q_d) (by decide) (by decide) e0 g6_E (by rw [hml]; rfl) (lenOf own_pd20 rfl) (argsL := [(.ref a)]) (rest := []) rfl rfl (Nat.le_of_eq rfl) (hb hby d14_2) (by decide) (by decide) ?_
  intro T1 h1 v1 L1 X1 e1 q1
  obtain ⟨u_1, ku_1, rfl, M1, J1, y1_0, r1_0, r1_1, r1_2, r1_3, r1_4⟩ := q1
  have N1 := Fr.app N0 M1
  have K1 : Keep h0 h1 [q] := (Keep.refl h0 [q]).trans J1 (allS (Or.inl (List.mem_of_getElem? (i := 0) rfl)) all0)
  have O1 : own_Old Z h1 := O0.keep J1 (allS g7_G all0)
  refine hG _ _ (fun t_ k_ => XS.pop X1.here hx rfl (hb hby d14_5) rfl rfl k_) ?_
  refine hG _ _ (fun t_ k_ => XS.aloadN X1.here hx rfl (hb hby d14_6) rfl rfl k_) ?_
  show G (T1.setTop (mkF m 7 #[.val (.ref q), .val (.ref a)] [(.ref q)]))
  exact own_retA hR hret rfl rfl X1 hx (hb hby d14_7) (by decide) (by decide) (by rw [e1]; exact ⟨u_1, ku_1, rfl, N1, K1, (Nat.le_trans (Keep.refl h0 [q]).1 y1_0), r1_0, r1_1, r1_2, r1_3, r1_4⟩)
set_option maxRecDepth 65536 in
set_option maxHeartbeats 40000000 in
theorem own_min_34_18 (l : Launch) (Z : State) (a0 : Array Value) (hw : ∀ d ∈ tables_1, d.before a0 Z = true) (h0 : Heap) (O0 : own_Old Z h0) :
    own_Con l Z (⟨"java/lang/Math", "min", "(II)I"⟩ : MethodName) jdk_29_method_69_code 2 (some .int) [] ({ frames := 0, cells := 0, slots := 0, locals := 0 } : Room) #[(.int 34), (.int 18)] h0 (fun rv rh rL => rv = some (.int 18) ∧ own_Fr Z rL ∧ h0 = rh) := by
  refine own_intro (Jvm.Free.JP.mathPlain rfl (by decide +kernel)) ?_
  intro p e s m below meth c s₁ G hx hby hml hown hnm hret hZ X0 e0 hG hR
  have N0 := Fr.nil Z.heap.size
  refine own_entry (Ls := #[.val (.int 34), .val (.int 18)]) (by first | (simp [entryFrame, mkF, argsToLocals, Value.category]; done) | rfl) ?_
  show G (s₁.setTop (mkF m 0 #[.val (.int 34), .val (.int 18)] []))
  refine hG _ _ (fun t_ k_ => XS.iloadN X0.here hx rfl (hb hby d40_0) rfl k_) ?_
  refine hG _ _ (fun t_ k_ => XS.iloadN X0.here hx rfl (hb hby d40_1) rfl k_) ?_
  show G (s₁.setTop (mkF m 2 #[.val (.int 34), .val (.int 18)] [(.int 18), (.int 34)]))
  refine hG _ _ (fun t_ k_ => XS.icmpYes X0.here hx rfl (pc0 := 2) (pc' := 9) rfl (hb hby d40_2) rfl (tlt (by decide)).2.2.1 (by decide) (by decide) k_) ?_
  show G (s₁.setTop (mkF m 9 #[.val (.int 34), .val (.int 18)] []))
  refine hG _ _ (fun t_ k_ => XS.iloadN X0.here hx rfl (hb hby d40_9) rfl k_) ?_
  show G (s₁.setTop (mkF m 10 #[.val (.int 34), .val (.int 18)] [(.int 18)]))
  exact own_retI hR hret X0 hx (hb hby d40_10) (by decide) (by decide) (by rw [e0]; exact ⟨rfl, N0, rfl⟩)
set_option maxRecDepth 65536 in
set_option maxHeartbeats 40000000 in
theorem own_crb34_18 (l : Launch) (Z : State) (a0 : Array Value) (hw : ∀ d ∈ tables_1, d.before a0 Z = true) (d : Addr) (kd : ClassId) (be0 : Int32) (be1 : Int32) (be2 : Int32) (be3 : Int32) (be4 : Int32) (be5 : Int32) (be6 : Int32) (be7 : Int32) (be8 : Int32) (be9 : Int32) (be10 : Int32) (be11 : Int32) (be12 : Int32) (be13 : Int32) (be14 : Int32) (be15 : Int32) (be16 : Int32) (be17 : Int32) (be18 : Int32) (be19 : Int32) (be20 : Int32) (be21 : Int32) (be22 : Int32) (be23 : Int32) (be24 : Int32) (be25 : Int32) (be26 : Int32) (be27 : Int32) (be28 : Int32) (be29 : Int32) (be30 : Int32) (be31 : Int32) (be32 : Int32) (be33 : Int32) (h0 : Heap) (O0 : own_Old Z h0) (g0_V : Arv Z h0 d kd .byte (34 : Int32) [(.int be0), (.int be1), (.int be2), (.int be3), (.int be4), (.int be5), (.int be6), (.int be7), (.int be8), (.int be9), (.int be10), (.int be11), (.int be12), (.int be13), (.int be14), (.int be15), (.int be16), (.int be17), (.int be18), (.int be19), (.int be20), (.int be21), (.int be22), (.int be23), (.int be24), (.int be25), (.int be26), (.int be27), (.int be28), (.int be29), (.int be30), (.int be31), (.int be32), (.int be33)] (.int 0)) :
    own_Con l Z (⟨"java/util/Arrays", "copyOfRangeByte", "([BII)[B"⟩ : MethodName) jdk_65_method_133_code 5 (some (.array .byte)) [] ({ frames := 1, cells := 1, slots := 18, locals := 40 } : Room) #[(.ref d), (.int 0), (.int 18)] h0 (fun rv rh rL => ∃ (u : Addr) (ku : ClassId), rv = some (.ref u) ∧ own_Fr Z rL ∧ Keep h0 rh [] ∧ h0.size ≤ u ∧ (Arv Z rh u ku .byte (18 : Int32) [(.int be0), (.int be1), (.int be2), (.int be3), (.int be4), (.int be5), (.int be6), (.int be7), (.int be8), (.int be9), (.int be10), (.int be11), (.int be12), (.int be13), (.int be14), (.int be15), (.int be16), (.int be17)] (.int 0))) := by
  refine own_intro (plainFor_of_name (by first | (simp [plainName, overriddenIn]; done) | decide +kernel)) ?_
  intro p e s m below meth c s₁ G hx hby hml hown hnm hret hZ X0 e0 hG hR
  have N0 := Fr.nil Z.heap.size
  refine own_entry (Ls := #[.val (.ref d), .val (.int 0), .val (.int 18), .unset, .unset]) (by first | (simp [entryFrame, mkF, argsToLocals, Value.category]; done) | rfl) ?_
  show G (s₁.setTop (mkF m 0 #[.val (.ref d), .val (.int 0), .val (.int 18), .unset, .unset] []))
  refine hG _ _ (fun t_ k_ => XS.iloadN X0.here hx rfl (hb hby d41_0) rfl k_) ?_
  refine hG _ _ (fun t_ k_ => XS.iloadN X0.here hx rfl (hb hby d41_1) rfl k_) ?_
  show G (s₁.setTop (mkF m 2 #[.val (.ref d), .val (.int 0), .val (.int 18), .unset, .unset] [(.int 18), (.int 0)]))
  refine own_callS X0 hx hZ hG hown (ow hw 219 rfl) (ow hw 220 rfl) (ow hw 151 rfl) (ow hw 221 rfl) (by decide) 0 (own_chl l Z a0 hw (0 : Int32) (18 : Int32) h0 O0 (by decide)) (by decide) (by decide) e0 (by rw [hml]; rfl) (lenOf own_pd22 rfl) (argsL := [(.int 0), (.int 18)]) (rest := []) rfl rfl (Nat.le_of_eq rfl) (hb hby d41_2) (by decide) (by decide) ?_
  intro T1 h1 v1 L1 X1 e1 q1
  obtain ⟨rfl, M1, rfl⟩ := q1
  have N1 := Fr.app N0 M1
  refine hG _ _ (fun t_ k_ => XS.iloadN X1.here hx rfl (hb hby d41_5) rfl k_) ?_
  refine hG _ _ (fun t_ k_ => XS.iloadN X1.here hx rfl (hb hby d41_6) rfl k_) ?_
  refine hG _ _ (fun t_ k_ => XS.isub X1.here hx rfl (hb hby d41_7) rfl k_) ?_
  show G (T1.setTop (mkF m 8 #[.val (.ref d), .val (.int 0), .val (.int 18), .unset, .unset] [(.int ((18 : Int32) - (0 : Int32)))]))
  rw [show ((18 : Int32) - (0 : Int32)) = (18 : Int32) from by decide]
  show G (T1.setTop (mkF m 8 #[.val (.ref d), .val (.int 0), .val (.int 18), .unset, .unset] [(.int 18)]))
  refine hG _ _ (fun t_ k_ => XS.istoreN X1.here hx rfl (hb hby d41_8) rfl (l' := #[.val (.ref d), .val (.int 0), .val (.int 18), .val (.int 18), .unset]) rfl k_) ?_
  refine hG _ _ (fun t_ k_ => XS.iloadN X1.here hx rfl (hb hby d41_9) rfl k_) ?_
  obtain ⟨T2, h2, k2, X2, e2, E2, A2, st2⟩ := newP X1 hx hZ (ow hw 15 rfl) e1 (g := (mkF m 10 #[.val (.ref d), .val (.int 0), .val (.int 18), .val (.int 18), .unset] [(.int 18)])) rfl (hb hby d41_10) rfl (by decide) (cap := 18) (by decide) (by decide) (by decide) (by decide)
  obtain ⟨b2, z2⟩ : ∃ z, z = h0.size := ⟨_, rfl⟩
  rw [← z2] at A2 st2
  refine hG _ _ st2 ?_
  have K2 : Keep h0 h2 [] := (Keep.refl h0 []).ext E2
  have O2 : own_Old Z h2 := O0.ext E2
  have V2 : Arv Z h2 b2 k2 .byte (18 : Int32) [(.int 0), (.int 0), (.int 0), (.int 0), (.int 0), (.int 0), (.int 0), (.int 0), (.int 0), (.int 0), (.int 0), (.int 0), (.int 0), (.int 0), (.int 0), (.int 0), (.int 0), (.int 0)] (.int 0) := (Arv.new A2 (by decide)).pad (pad_rep [] (.int 0) 18)
  refine hG _ _ (fun t_ k_ => XS.astore X2.here hx rfl (hb hby d41_12) rfl rfl (l' := #[.val (.ref d), .val (.int 0), .val (.int 18), .val (.int 18), .val (.ref b2)]) rfl k_) ?_
  refine hG _ _ (fun t_ k_ => XS.aloadN X2.here hx rfl (hb hby d41_14) rfl rfl k_) ?_
  refine hG _ _ (fun t_ k_ => XS.iloadN X2.here hx rfl (hb hby d41_15) rfl k_) ?_
  refine hG _ _ (fun t_ k_ => XS.aload X2.here hx rfl (hb hby d41_16) rfl rfl k_) ?_
  refine hG _ _ (fun t_ k_ => XS.iconst X2.here hx rfl (hb hby d41_18) k_) ?_
  refine hG _ _ (fun t_ k_ => XS.aloadN X2.here hx rfl (hb hby d41_19) rfl rfl k_) ?_
  show G (T2.setTop (mkF m 20 #[.val (.ref d), .val (.int 0), .val (.int 18), .val (.int 18), .val (.ref b2)] [(.ref d), (.int 0), (.ref b2), (.int 0), (.ref d)]))
  have f4 := (g0_V.ext E2)
  obtain ⟨c3, Ar3, -, S3, M3, -, -⟩ := id f4
  refine hG _ _ (X2.arraylength hx (by rw [e2]; exact Ar3.1) (State.isArrayOf_alike hZ.alike Ar3.2.1) (g := (mkF m 20 #[.val (.ref d), .val (.int 0), .val (.int 18), .val (.int 18), .val (.ref b2)] [(.ref d), (.int 0), (.ref b2), (.int 0), (.ref d)])) rfl rfl (hb hby d41_20)) ?_
  rw [len_of S3 M3]
  refine hG _ _ (fun t_ k_ => XS.iloadN X2.here hx rfl (hb hby d41_21) rfl k_) ?_
  refine hG _ _ (fun t_ k_ => XS.isub X2.here hx rfl (hb hby d41_22) rfl k_) ?_
  show G (T2.setTop (mkF m 23 #[.val (.ref d), .val (.int 0), .val (.int 18), .val (.int 18), .val (.ref b2)] [(.int ((34 : Int32) - (0 : Int32))), (.int 0), (.ref b2), (.int 0), (.ref d)]))
  rw [show ((34 : Int32) - (0 : Int32)) = (34 : Int32) from by decide]
  show G (T2.setTop (mkF m 23 #[.val (.ref d), .val (.int 0), .val (.int 18), .val (.int 18), .val (.ref b2)] [(.int 34), (.int 0), (.ref b2), (.int 0), (.ref d)]))
  refine hG _ _ (fun t_ k_ => XS.iloadN X2.here hx rfl (hb hby d41_23) rfl k_) ?_
  show G (T2.setTop (mkF m 24 #[.val (.ref d), .val (.int 0), .val (.int 18), .val (.int 18), .val (.ref b2)] [(.int 18), (.int 34), (.int 0), (.ref b2), (.int 0), (.ref d)]))
  refine own_callS X2 hx hZ hG hown (ow hw 212 rfl) (ow hw 213 rfl) (ow hw 205 rfl) (ow hw 214 rfl) (by decide) 4 (own_min_34_18 l Z a0 hw h2 O2) (by decide) (by decide) e2 (by rw [hml]; rfl) (lenOf own_pd23 rfl) (argsL := [(.int 34), (.int 18)]) (rest := [(.int 0), (.ref b2), (.int 0), (.ref d)]) rfl rfl (Nat.le_of_eq rfl) (hb hby d41_24) (by decide) (by decide) ?_
  intro T5 h5 v5 L5 X5 e5 q5
  obtain ⟨rfl, M5, rfl⟩ := q5
  have N5 := Fr.app N1 M5
  show G (T5.setTop (mkF m 27 #[.val (.ref d), .val (.int 0), .val (.int 18), .val (.int 18), .val (.ref b2)] [(.int 18), (.int 0), (.ref b2), (.int 0), (.ref d)]))
  obtain ⟨T6, h6, L6, X6, e6, N6, J6, V6, st6⟩ := cpA X5 hx hZ hown (ow hw 215 rfl) (ow hw 118 rfl) (ow hw 116 rfl) (ow hw 117 rfl) e5 f4 V2 (Or.inl ⟨rfl, rfl⟩) (by decide) (by decide) (by decide) (by decide) (by decide) rfl (Nat.le_of_ble_eq_true rfl) N5 (own_ge O0 (Nat.le_of_eq z2.symm)) (g := (mkF m 27 #[.val (.ref d), .val (.int 0), .val (.int 18), .val (.int 18), .val (.ref b2)] [(.int 18), (.int 0), (.ref b2), (.int 0), (.ref d)])) rfl (by rw [hml]; rfl) rfl (hb hby d41_27) (by decide) (W := 0) (by show 2 * 0 + _ ≤ _; exact Nat.le_of_eq rfl) (by decide)
  refine hG _ _ st6 ?_
  have K6 : Keep h0 h6 [] := K2.trans J6 (allS (Or.inr (Nat.le_trans (Keep.refl h0 []).1 (Nat.le_of_eq z2.symm))) all0)
  have O6 : own_Old Z h6 := O2.keep J6 (allS (own_ge O0 (Nat.le_of_eq z2.symm)) all0)
  have U6 : Arv Z h6 b2 k2 .byte (18 : Int32) [(.int be0), (.int be1), (.int be2), (.int be3), (.int be4), (.int be5), (.int be6), (.int be7), (.int be8), (.int be9), (.int be10), (.int be11), (.int be12), (.int be13), (.int be14), (.int be15), (.int be16), (.int be17)] (.int 0) := V6
  show G (T6.setTop (mkF m 30 #[.val (.ref d), .val (.int 0), .val (.int 18), .val (.int 18), .val (.ref b2)] []))
  refine hG _ _ (fun t_ k_ => XS.aload X6.here hx rfl (hb hby d41_30) rfl rfl k_) ?_
  show G (T6.setTop (mkF m 32 #[.val (.ref d), .val (.int 0), .val (.int 18), .val (.int 18), .val (.ref b2)] [(.ref b2)]))
  exact own_retA hR hret rfl rfl X6 hx (hb hby d41_32) (by decide) (by decide) (by rw [e6]; exact ⟨b2, k2, rfl, N6, K6, (Nat.le_trans (Keep.refl h0 []).1 (Nat.le_of_eq z2.symm)), U6⟩)
set_option maxRecDepth 65536 in
set_option maxHeartbeats 40000000 in
theorem own_cr34_18 (l : Launch) (Z : State) (a0 : Array Value) (hw : ∀ d ∈ tables_1, d.before a0 Z = true) (d : Addr) (kd : ClassId) (be0 : Int32) (be1 : Int32) (be2 : Int32) (be3 : Int32) (be4 : Int32) (be5 : Int32) (be6 : Int32) (be7 : Int32) (be8 : Int32) (be9 : Int32) (be10 : Int32) (be11 : Int32) (be12 : Int32) (be13 : Int32) (be14 : Int32) (be15 : Int32) (be16 : Int32) (be17 : Int32) (be18 : Int32) (be19 : Int32) (be20 : Int32) (be21 : Int32) (be22 : Int32) (be23 : Int32) (be24 : Int32) (be25 : Int32) (be26 : Int32) (be27 : Int32) (be28 : Int32) (be29 : Int32) (be30 : Int32) (be31 : Int32) (be32 : Int32) (be33 : Int32) (h0 : Heap) (O0 : own_Old Z h0) (g0_V : Arv Z h0 d kd .byte (34 : Int32) [(.int be0), (.int be1), (.int be2), (.int be3), (.int be4), (.int be5), (.int be6), (.int be7), (.int be8), (.int be9), (.int be10), (.int be11), (.int be12), (.int be13), (.int be14), (.int be15), (.int be16), (.int be17), (.int be18), (.int be19), (.int be20), (.int be21), (.int be22), (.int be23), (.int be24), (.int be25), (.int be26), (.int be27), (.int be28), (.int be29), (.int be30), (.int be31), (.int be32), (.int be33)] (.int 0)) :
    own_Con l Z (⟨"java/util/Arrays", "copyOfRange", "([BII)[B"⟩ : MethodName) jdk_65_method_132_code 3 (some (.array .byte)) [] ({ frames := 2, cells := 1, slots := 18, locals := 56 } : Room) #[(.ref d), (.int 0), (.int 18)] h0 (fun rv rh rL => ∃ (u : Addr) (ku : ClassId), rv = some (.ref u) ∧ own_Fr Z rL ∧ Keep h0 rh [] ∧ h0.size ≤ u ∧ (Arv Z rh u ku .byte (18 : Int32) [(.int be0), (.int be1), (.int be2), (.int be3), (.int be4), (.int be5), (.int be6), (.int be7), (.int be8), (.int be9), (.int be10), (.int be11), (.int be12), (.int be13), (.int be14), (.int be15), (.int be16), (.int be17)] (.int 0))) := by
  refine own_intro (plainFor_of_name (by first | (simp [plainName, overriddenIn]; done) | decide +kernel)) ?_
  intro p e s m below meth c s₁ G hx hby hml hown hnm hret hZ X0 e0 hG hR
  have N0 := Fr.nil Z.heap.size
  refine own_entry (Ls := #[.val (.ref d), .val (.int 0), .val (.int 18)]) (by first | (simp [entryFrame, mkF, argsToLocals, Value.category]; done) | rfl) ?_
  show G (s₁.setTop (mkF m 0 #[.val (.ref d), .val (.int 0), .val (.int 18)] []))
  refine hG _ _ (fun t_ k_ => XS.iloadN X0.here hx rfl (hb hby d29_0) rfl k_) ?_
  show G (s₁.setTop (mkF m 1 #[.val (.ref d), .val (.int 0), .val (.int 18)] [(.int 0)]))
  refine hG _ _ (fun t_ k_ => XS.ifNo X0.here hx rfl (hb hby d29_1) rfl ((if0 _ _).trans (teq (by decide)).2) k_) ?_
  show G (s₁.setTop (mkF m 4 #[.val (.ref d), .val (.int 0), .val (.int 18)] []))
  refine hG _ _ (fun t_ k_ => XS.iloadN X0.here hx rfl (hb hby d29_4) rfl k_) ?_
  refine hG _ _ (fun t_ k_ => XS.aloadN X0.here hx rfl (hb hby d29_5) rfl rfl k_) ?_
  obtain ⟨c1, Ar1, -, S1, M1, -, -⟩ := id g0_V
  refine hG _ _ (X0.arraylength hx (by rw [e0]; exact Ar1.1) (State.isArrayOf_alike hZ.alike Ar1.2.1) (g := (mkF m 6 #[.val (.ref d), .val (.int 0), .val (.int 18)] [(.ref d), (.int 18)])) rfl rfl (hb hby d29_6)) ?_
  rw [len_of S1 M1]
  show G (s₁.setTop (mkF m 7 #[.val (.ref d), .val (.int 0), .val (.int 18)] [(.int 34), (.int 18)]))
  refine hG _ _ (fun t_ k_ => XS.icmpNo X0.here hx rfl (hb hby d29_7) rfl (feq (by decide)).1 k_) ?_
  show G (s₁.setTop (mkF m 10 #[.val (.ref d), .val (.int 0), .val (.int 18)] []))
  refine hG _ _ (fun t_ k_ => XS.aloadN X0.here hx rfl (hb hby d29_10) rfl rfl k_) ?_
  refine hG _ _ (fun t_ k_ => XS.iloadN X0.here hx rfl (hb hby d29_11) rfl k_) ?_
  refine hG _ _ (fun t_ k_ => XS.iloadN X0.here hx rfl (hb hby d29_12) rfl k_) ?_
  show G (s₁.setTop (mkF m 13 #[.val (.ref d), .val (.int 0), .val (.int 18)] [(.int 18), (.int 0), (.ref d)]))
  refine own_callS X0 hx hZ hG hown (ow hw 216 rfl) (ow hw 217 rfl) (ow hw 151 rfl) (ow hw 218 rfl) (by decide) 0 (own_crb34_18 l Z a0 hw d kd be0 be1 be2 be3 be4 be5 be6 be7 be8 be9 be10 be11 be12 be13 be14 be15 be16 be17 be18 be19 be20 be21 be22 be23 be24 be25 be26 be27 be28 be29 be30 be31 be32 be33 h0 O0 g0_V) (by decide) (by decide) e0 (by rw [hml]; rfl) (lenOf own_pd24 rfl) (argsL := [(.ref d), (.int 0), (.int 18)]) (rest := []) rfl rfl (Nat.le_of_eq rfl) (hb hby d29_13) (by decide) (by decide) ?_
  intro T2 h2 v2 L2 X2 e2 q2
  obtain ⟨u_2, ku_2, rfl, M2, J2, y2_0, r2_0⟩ := q2
  have N2 := Fr.app N0 M2
  have K2 : Keep h0 h2 [] := (Keep.refl h0 []).trans J2 all0
  have O2 : own_Old Z h2 := O0.keep J2 all0
  show G (T2.setTop (mkF m 16 #[.val (.ref d), .val (.int 0), .val (.int 18)] [(.ref u_2)]))
  exact own_retA hR hret rfl rfl X2 hx (hb hby d29_16) (by decide) (by decide) (by rw [e2]; exact ⟨u_2, ku_2, rfl, N2, K2, (Nat.le_trans (Keep.refl h0 []).1 y2_0), r2_0⟩)
set_option maxRecDepth 65536 in
set_option maxHeartbeats 40000000 in
theorem own_sin34_18 (l : Launch) (Z : State) (a0 : Array Value) (hw : ∀ d ∈ tables_1, d.before a0 Z = true) (a : Addr) (q : Addr) (d : Addr) (kd : ClassId) (be0 : Int32) (be1 : Int32) (be2 : Int32) (be3 : Int32) (be4 : Int32) (be5 : Int32) (be6 : Int32) (be7 : Int32) (be8 : Int32) (be9 : Int32) (be10 : Int32) (be11 : Int32) (be12 : Int32) (be13 : Int32) (be14 : Int32) (be15 : Int32) (be16 : Int32) (be17 : Int32) (be18 : Int32) (be19 : Int32) (be20 : Int32) (be21 : Int32) (be22 : Int32) (be23 : Int32) (be24 : Int32) (be25 : Int32) (be26 : Int32) (be27 : Int32) (be28 : Int32) (be29 : Int32) (be30 : Int32) (be31 : Int32) (be32 : Int32) (be33 : Int32) (cpt : Int32) (v0 : Value) (v1 : Value) (h0 : Heap) (O0 : own_Old Z h0) (g0_E : Exa Z h0 a "java/lang/String") (g1_F : Fld Z h0 a "java/lang/String" "coder" "B" v0) (g2_F : Fld Z h0 a "java/lang/String" "value" "[B" v1) (g3_G : Z.heap.size ≤ a) (g4_ne_a_q : a ≠ q) (g5_ne_a_d : a ≠ d) (g6_E : Exa Z h0 q "java/lang/StringBuilder") (g7_F : Fld Z h0 q "java/lang/AbstractStringBuilder" "value" "[B" (.ref d)) (g8_F : Fld Z h0 q "java/lang/AbstractStringBuilder" "coder" "B" (.int 0)) (g9_F : Fld Z h0 q "java/lang/AbstractStringBuilder" "count" "I" (.int 18)) (g10_V : Arv Z h0 d kd .byte (34 : Int32) [(.int be0), (.int be1), (.int be2), (.int be3), (.int be4), (.int be5), (.int be6), (.int be7), (.int be8), (.int be9), (.int be10), (.int be11), (.int be12), (.int be13), (.int be14), (.int be15), (.int be16), (.int be17), (.int be18), (.int be19), (.int be20), (.int be21), (.int be22), (.int be23), (.int be24), (.int be25), (.int be26), (.int be27), (.int be28), (.int be29), (.int be30), (.int be31), (.int be32), (.int be33)] (.int 0)) (g11_S : Sta Z Z.heap "java/lang/String" "COMPACT_STRINGS" "Z" (.int cpt)) (g12_hcpt : ¬ (cpt = (0 : Int32))) :
    own_Con l Z (⟨"java/lang/String", "<init>", "(Ljava/lang/AbstractStringBuilder;Ljava/lang/Void;)V"⟩ : MethodName) jdk_42_method_150_code 5 none [] ({ frames := 3, cells := 1, slots := 18, locals := 71 } : Room) #[(.ref a), (.ref q), .null] h0 (fun rv rh rL => ∃ (u : Addr) (ku : ClassId), rv = none ∧ own_Fr Z rL ∧ Keep h0 rh [a] ∧ h0.size ≤ u ∧ (Exa Z rh a "java/lang/String") ∧ (Fld Z rh a "java/lang/String" "coder" "B" (.int 0)) ∧ (Fld Z rh a "java/lang/String" "value" "[B" (.ref u)) ∧ (Arv Z rh u ku .byte (18 : Int32) [(.int be0), (.int be1), (.int be2), (.int be3), (.int be4), (.int be5), (.int be6), (.int be7), (.int be8), (.int be9), (.int be10), (.int be11), (.int be12), (.int be13), (.int be14), (.int be15), (.int be16), (.int be17)] (.int 0))) := by
  refine own_intro (plainFor_of_name (by first | (simp [plainName, overriddenIn]; done) | decide +kernel)) ?_
  intro p e s m below meth c s₁ G hx hby hml hown hnm hret hZ X0 e0 hG hR
  have N0 := Fr.nil Z.heap.size
  refine own_entry (Ls := #[.val (.ref a), .val (.ref q), .val .null, .unset, .unset]) (by first | (simp [entryFrame, mkF, argsToLocals, Value.category]; done) | rfl) ?_
  show G (s₁.setTop (mkF m 0 #[.val (.ref a), .val (.ref q), .val .null, .unset, .unset] []))
  refine hG _ _ (fun t_ k_ => XS.aloadN X0.here hx rfl (hb hby d24_0) rfl rfl k_) ?_
  show G (s₁.setTop (mkF m 1 #[.val (.ref a), .val (.ref q), .val .null, .unset, .unset] [(.ref a)]))
  obtain ⟨T1, X1, e1, st1⟩ := initO X0 hx hZ hown (ow hw 20 rfl) (ow hw 21 rfl) (ow hw 22 rfl) e0 (g := (mkF m 1 #[.val (.ref a), .val (.ref q), .val .null, .unset, .unset] [(.ref a)])) rfl (by rw [hml]; rfl) rfl (hb hby d24_1) (by decide) (W := 0) (by show 2 * 0 + _ ≤ _; exact Nat.le_of_eq rfl) (by decide)
  refine hG _ _ st1 ?_
  show G (T1.setTop (mkF m 4 #[.val (.ref a), .val (.ref q), .val .null, .unset, .unset] []))
  refine hG _ _ (fun t_ k_ => XS.aloadN X1.here hx rfl (hb hby d24_4) rfl rfl k_) ?_
  show G (T1.setTop (mkF m 5 #[.val (.ref a), .val (.ref q), .val .null, .unset, .unset] [(.ref q)]))
  refine own_callV (C := "java/lang/StringBuilder") X1 hx hZ hG hown (ow hw 131 rfl) (ow hw 132 rfl) (ow hw 134 rfl) (ow hw 133 rfl) (ow hw 61 rfl) (ow hw 135 rfl) (by decide) 0 (own_getv l Z a0 hw q d h0 O0 g7_F) (by decide) (by decide) e1 g6_E (by rw [hml]; rfl) (lenOf own_pd14 rfl) (argsL := []) (rest := []) rfl rfl (Nat.le_of_eq rfl) (hb hby d24_5) (by decide) (by decide) ?_
  intro T2 h2 v2 L2 X2 e2 q2
  obtain ⟨rfl, M2, rfl⟩ := q2
  have N2 := Fr.app N0 M2
  refine hG _ _ (fun t_ k_ => XS.astoreN X2.here hx rfl (hb hby d24_8) rfl rfl (l' := #[.val (.ref a), .val (.ref q), .val .null, .val (.ref d), .unset]) rfl k_) ?_
  refine hG _ _ (fun t_ k_ => XS.aloadN X2.here hx rfl (hb hby d24_9) rfl rfl k_) ?_
  show G (T2.setTop (mkF m 10 #[.val (.ref a), .val (.ref q), .val .null, .val (.ref d), .unset] [(.ref q)]))
  refine own_callVZ (C := "java/lang/StringBuilder") X2 hx hZ hG hown (ow hw 136 rfl) (ow hw 137 rfl) (ow hw 139 rfl) (ow hw 97 rfl) rfl (ow hw 140 rfl) (ow hw 53 rfl) (ow hw 141 rfl) (by decide) 0 (own_sbl l Z a0 hw q (18 : Int32) h0 O0 g6_E g9_F) (by decide) (by decide) e2 g6_E (by rw [hml]; rfl) (lenOf own_pd12 rfl) (argsL := []) (rest := []) rfl rfl (Nat.le_of_eq rfl) (hb hby d24_10) (by decide) (by decide) ?_
  intro T3 h3 v3 L3 X3 e3 q3
  obtain ⟨rfl, M3, rfl⟩ := q3
  have N3 := Fr.app N2 M3
  refine hG _ _ (fun t_ k_ => XS.istore X3.here hx rfl (hb hby d24_13) rfl (l' := #[.val (.ref a), .val (.ref q), .val .null, .val (.ref d), .val (.int 18)]) rfl k_) ?_
  refine hG _ _ (fun t_ k_ => XS.aloadN X3.here hx rfl (hb hby d24_15) rfl rfl k_) ?_
  show G (T3.setTop (mkF m 16 #[.val (.ref a), .val (.ref q), .val .null, .val (.ref d), .val (.int 18)] [(.ref q)]))
  refine own_callV (C := "java/lang/StringBuilder") X3 hx hZ hG hown (ow hw 144 rfl) (ow hw 145 rfl) (ow hw 147 rfl) (ow hw 146 rfl) (ow hw 61 rfl) (ow hw 148 rfl) (by decide) 0 (own_asbL l Z a0 hw q cpt h0 O0 g8_F g11_S g12_hcpt) (by decide) (by decide) e3 g6_E (by rw [hml]; rfl) (lenOf own_pd15 rfl) (argsL := []) (rest := []) rfl rfl (Nat.le_of_eq rfl) (hb hby d24_16) (by decide) (by decide) ?_
  intro T4 h4 v4 L4 X4 e4 q4
  obtain ⟨rfl, M4, rfl⟩ := q4
  have N4 := Fr.app N3 M4
  show G (T4.setTop (mkF m 19 #[.val (.ref a), .val (.ref q), .val .null, .val (.ref d), .val (.int 18)] [(.int 1)]))
  refine hG _ _ (fun t_ k_ => XS.ifNo X4.here hx rfl (hb hby d24_19) rfl ((if0 _ _).trans (feq (by decide)).1) k_) ?_
  show G (T4.setTop (mkF m 22 #[.val (.ref a), .val (.ref q), .val .null, .val (.ref d), .val (.int 18)] []))
  refine hG _ _ (fun t_ k_ => XS.aloadN X4.here hx rfl (hb hby d24_22) rfl rfl k_) ?_
  refine hG _ _ (fun t_ k_ => XS.iconst X4.here hx rfl (hb hby d24_23) k_) ?_
  obtain ⟨T5, h5, X5, e5, W5, st5⟩ := putFN X4 hx hZ hown (ow hw 25 rfl) Via.refl e4 g1_F g0_E (Or.inr ⟨(ow hw 26 rfl), rfl, hnm⟩) (ow hw 11 rfl) (ty := .byte) (v' := (.int 0)) (by decide) rfl rfl (g := (mkF m 24 #[.val (.ref a), .val (.ref q), .val .null, .val (.ref d), .val (.int 18)] [(.int 0), (.ref a)])) rfl rfl (hb hby d24_24)
  refine hG _ _ st5 ?_
  have K5 : Keep h0 h5 [a] := (Keep.refl h0 [a]).wr W5 (Or.inl (List.mem_of_getElem? (i := 0) rfl))
  have O5 : own_Old Z h5 := O0.wr W5 g3_G
  have N5 := Fr.snoc X5 N4 g3_G
  refine hG _ _ (fun t_ k_ => XS.aloadN X5.here hx rfl (hb hby d24_27) rfl rfl k_) ?_
  refine hG _ _ (fun t_ k_ => XS.aloadN X5.here hx rfl (hb hby d24_28) rfl rfl k_) ?_
  refine hG _ _ (fun t_ k_ => XS.iconst X5.here hx rfl (hb hby d24_29) k_) ?_
  refine hG _ _ (fun t_ k_ => XS.iload X5.here hx rfl (hb hby d24_30) rfl k_) ?_
  show G (T5.setTop (mkF m 32 #[.val (.ref a), .val (.ref q), .val .null, .val (.ref d), .val (.int 18)] [(.int 18), (.int 0), (.ref d), (.ref a)]))
  have f7 := (g10_V.other W5 (Ne.symm g5_ne_a_d))
  refine own_callS X5 hx hZ hG hown (ow hw 149 rfl) (ow hw 150 rfl) (ow hw 151 rfl) (ow hw 152 rfl) (by decide) 1 (own_cr34_18 l Z a0 hw d kd be0 be1 be2 be3 be4 be5 be6 be7 be8 be9 be10 be11 be12 be13 be14 be15 be16 be17 be18 be19 be20 be21 be22 be23 be24 be25 be26 be27 be28 be29 be30 be31 be32 be33 h5 O5 f7) (by decide) (by decide) e5 (by rw [hml]; rfl) (lenOf own_pd24 rfl) (argsL := [(.ref d), (.int 0), (.int 18)]) (rest := [(.ref a)]) rfl rfl (Nat.le_of_eq rfl) (hb hby d24_32) (by decide) (by decide) ?_
  intro T6 h6 v6 L6 X6 e6 q6
  obtain ⟨u_6, ku_6, rfl, M6, J6, y6_0, r6_0⟩ := q6
  have N6 := Fr.app N5 M6
  have K6 : Keep h0 h6 [a] := K5.trans J6 all0
  have O6 : own_Old Z h6 := O5.keep J6 all0
  have f9 := ((g2_F.other W5 (Or.inr (slot_ne (Or.inr (ow hw 24 rfl)) (Or.inr (ow hw 26 rfl)) (by decide) (t := (.array .byte)) (t' := .byte) (by decide) (by decide)))).keep J6 nin0)
  have f10 := ((g0_E.wr W5).keep J6)
  obtain ⟨T8, h8, X8, e8, W8, st8⟩ := putF X6 hx hZ hown (host := "") (Or.inl (ow hw 23 rfl)) Via.refl e6 f9 f10 (Or.inr ⟨(ow hw 24 rfl), rfl, hnm⟩) (ow hw 11 rfl) (ty := (.array .byte)) (by decide) rfl rfl (g := (mkF m 35 #[.val (.ref a), .val (.ref q), .val .null, .val (.ref d), .val (.int 18)] [(.ref u_6), (.ref a)])) rfl rfl (hb hby d24_35)
  refine hG _ _ st8 ?_
  have K8 : Keep h0 h8 [a] := K6.wr W8 (Or.inl (List.mem_of_getElem? (i := 0) rfl))
  have O8 : own_Old Z h8 := O6.wr W8 g3_G
  have N8 := Fr.snoc X8 N6 g3_G
  refine hG _ _ (fun t_ k_ => XS.goto X8.here hx rfl (pc0 := 38) (pc' := 97) rfl (hb hby d24_38) (by decide) (by decide) k_) ?_
  show G (T8.setTop (mkF m 97 #[.val (.ref a), .val (.ref q), .val .null, .val (.ref d), .val (.int 18)] []))
  have f11 := (f10.wr W8)
  have f12 := (((g1_F.same W5).keep J6 nin0).other W8 (Or.inr (slot_ne (Or.inr (ow hw 26 rfl)) (Or.inr (ow hw 24 rfl)) (by decide) (t := .byte) (t' := (.array .byte)) (by decide) (by decide))))
  have f13 := (r6_0.other W8 (Ne.symm (own_ne (g1_F.same W5).lt y6_0)))
  exact own_retV hR hret X8 hx (hb hby d24_97) (by decide) (by decide) (by rw [e8]; exact ⟨u_6, ku_6, rfl, N8, K8, (Nat.le_trans K5.1 y6_0), f11, f12, (f9.same W8), f13⟩)
set_option maxRecDepth 65536 in
set_option maxHeartbeats 40000000 in
theorem own_sis34_18 (l : Launch) (Z : State) (a0 : Array Value) (hw : ∀ d ∈ tables_1, d.before a0 Z = true) (a : Addr) (q : Addr) (d : Addr) (kd : ClassId) (be0 : Int32) (be1 : Int32) (be2 : Int32) (be3 : Int32) (be4 : Int32) (be5 : Int32) (be6 : Int32) (be7 : Int32) (be8 : Int32) (be9 : Int32) (be10 : Int32) (be11 : Int32) (be12 : Int32) (be13 : Int32) (be14 : Int32) (be15 : Int32) (be16 : Int32) (be17 : Int32) (be18 : Int32) (be19 : Int32) (be20 : Int32) (be21 : Int32) (be22 : Int32) (be23 : Int32) (be24 : Int32) (be25 : Int32) (be26 : Int32) (be27 : Int32) (be28 : Int32) (be29 : Int32) (be30 : Int32) (be31 : Int32) (be32 : Int32) (be33 : Int32) (cpt : Int32) (v0 : Value) (v1 : Value) (h0 : Heap) (O0 : own_Old Z h0) (g0_E : Exa Z h0 a "java/lang/String") (g1_F : Fld Z h0 a "java/lang/String" "coder" "B" v0) (g2_F : Fld Z h0 a "java/lang/String" "value" "[B" v1) (g3_G : Z.heap.size ≤ a) (g4_ne_a_q : a ≠ q) (g5_ne_a_d : a ≠ d) (g6_E : Exa Z h0 q "java/lang/StringBuilder") (g7_F : Fld Z h0 q "java/lang/AbstractStringBuilder" "value" "[B" (.ref d)) (g8_F : Fld Z h0 q "java/lang/AbstractStringBuilder" "coder" "B" (.int 0)) (g9_F : Fld Z h0 q "java/lang/AbstractStringBuilder" "count" "I" (.int 18)) (g10_V : Arv Z h0 d kd .byte (34 : Int32) [(.int be0), (.int be1), (.int be2), (.int be3), (.int be4), (.int be5), (.int be6), (.int be7), (.int be8), (.int be9), (.int be10), (.int be11), (.int be12), (.int be13), (.int be14), (.int be15), (.int be16), (.int be17), (.int be18), (.int be19), (.int be20), (.int be21), (.int be22), (.int be23), (.int be24), (.int be25), (.int be26), (.int be27), (.int be28), (.int be29), (.int be30), (.int be31), (.int be32), (.int be33)] (.int 0)) (g11_S : Sta Z Z.heap "java/lang/String" "COMPACT_STRINGS" "Z" (.int cpt)) (g12_hcpt : ¬ (cpt = (0 : Int32))) :
    own_Con l Z (⟨"java/lang/String", "<init>", "(Ljava/lang/StringBuilder;)V"⟩ : MethodName) jdk_42_method_53_code 2 none [] ({ frames := 4, cells := 1, slots := 18, locals := 87 } : Room) #[(.ref a), (.ref q)] h0 (fun rv rh rL => ∃ (u : Addr) (ku : ClassId), rv = none ∧ own_Fr Z rL ∧ Keep h0 rh [a] ∧ h0.size ≤ u ∧ (Exa Z rh a "java/lang/String") ∧ (Fld Z rh a "java/lang/String" "coder" "B" (.int 0)) ∧ (Fld Z rh a "java/lang/String" "value" "[B" (.ref u)) ∧ (Arv Z rh u ku .byte (18 : Int32) [(.int be0), (.int be1), (.int be2), (.int be3), (.int be4), (.int be5), (.int be6), (.int be7), (.int be8), (.int be9), (.int be10), (.int be11), (.int be12), (.int be13), (.int be14), (.int be15), (.int be16), (.int be17)] (.int 0))) := by
  refine own_intro (plainFor_of_name (by first | (simp [plainName, overriddenIn]; done) | decide +kernel)) ?_
  intro p e s m below meth c s₁ G hx hby hml hown hnm hret hZ X0 e0 hG hR
  have N0 := Fr.nil Z.heap.size
  refine own_entry (Ls := #[.val (.ref a), .val (.ref q)]) (by first | (simp [entryFrame, mkF, argsToLocals, Value.category]; done) | rfl) ?_
  show G (s₁.setTop (mkF m 0 #[.val (.ref a), .val (.ref q)] []))
  refine hG _ _ (fun t_ k_ => XS.aloadN X0.here hx rfl (hb hby d23_0) rfl rfl k_) ?_
  refine hG _ _ (fun t_ k_ => XS.aloadN X0.here hx rfl (hb hby d23_1) rfl rfl k_) ?_
  refine hG _ _ (fun t_ k_ => XS.aconstNull X0.here hx rfl (hb hby d23_2) k_) ?_
  show G (s₁.setTop (mkF m 3 #[.val (.ref a), .val (.ref q)] [.null, (.ref q), (.ref a)]))
  refine own_callI X0 hx hZ hG hown rfl (ow hw 128 rfl) (ow hw 129 rfl) (ow hw 3 rfl) (ow hw 130 rfl) (by decide) 0 (own_sin34_18 l Z a0 hw a q d kd be0 be1 be2 be3 be4 be5 be6 be7 be8 be9 be10 be11 be12 be13 be14 be15 be16 be17 be18 be19 be20 be21 be22 be23 be24 be25 be26 be27 be28 be29 be30 be31 be32 be33 cpt v0 v1 h0 O0 g0_E g1_F g2_F g3_G g4_ne_a_q g5_ne_a_d g6_E g7_F g8_F g9_F g10_V g11_S g12_hcpt) (by decide) (by decide) e0 (by rw [hml]; rfl) (lenOf own_pd25 rfl) (argsL := [(.ref q), .null]) (rest := []) rfl rfl (Nat.le_of_eq rfl) (hb hby d23_3) (by decide) (by decide) ?_
  intro T1 h1 v1 L1 X1 e1 q1
  obtain ⟨u_1, ku_1, rfl, M1, J1, y1_0, r1_0, r1_1, r1_2, r1_3⟩ := q1
  have N1 := Fr.app N0 M1
  have K1 : Keep h0 h1 [a] := (Keep.refl h0 [a]).trans J1 (allS (Or.inl (List.mem_of_getElem? (i := 0) rfl)) all0)
  have O1 : own_Old Z h1 := O0.keep J1 (allS g3_G all0)
  show G (T1.setTop (mkF m 6 #[.val (.ref a), .val (.ref q)] []))
  exact own_retV hR hret X1 hx (hb hby d23_6) (by decide) (by decide) (by rw [e1]; exact ⟨u_1, ku_1, rfl, N1, K1, (Nat.le_trans (Keep.refl h0 [a]).1 y1_0), r1_0, r1_1, r1_2, r1_3⟩)
set_option maxRecDepth 65536 in
set_option maxHeartbeats 40000000 in
theorem own_sbt34_18 (l : Launch) (Z : State) (a0 : Array Value) (hw : ∀ d ∈ tables_1, d.before a0 Z = true) (q : Addr) (d : Addr) (kd : ClassId) (be0 : Int32) (be1 : Int32) (be2 : Int32) (be3 : Int32) (be4 : Int32) (be5 : Int32) (be6 : Int32) (be7 : Int32) (be8 : Int32) (be9 : Int32) (be10 : Int32) (be11 : Int32) (be12 : Int32) (be13 : Int32) (be14 : Int32) (be15 : Int32) (be16 : Int32) (be17 : Int32) (be18 : Int32) (be19 : Int32) (be20 : Int32) (be21 : Int32) (be22 : Int32) (be23 : Int32) (be24 : Int32) (be25 : Int32) (be26 : Int32) (be27 : Int32) (be28 : Int32) (be29 : Int32) (be30 : Int32) (be31 : Int32) (be32 : Int32) (be33 : Int32) (cpt : Int32) (h0 : Heap) (O0 : own_Old Z h0) (g0_E : Exa Z h0 q "java/lang/StringBuilder") (g1_F : Fld Z h0 q "java/lang/AbstractStringBuilder" "value" "[B" (.ref d)) (g2_F : Fld Z h0 q "java/lang/AbstractStringBuilder" "coder" "B" (.int 0)) (g3_F : Fld Z h0 q "java/lang/AbstractStringBuilder" "count" "I" (.int 18)) (g4_V : Arv Z h0 d kd .byte (34 : Int32) [(.int be0), (.int be1), (.int be2), (.int be3), (.int be4), (.int be5), (.int be6), (.int be7), (.int be8), (.int be9), (.int be10), (.int be11), (.int be12), (.int be13), (.int be14), (.int be15), (.int be16), (.int be17), (.int be18), (.int be19), (.int be20), (.int be21), (.int be22), (.int be23), (.int be24), (.int be25), (.int be26), (.int be27), (.int be28), (.int be29), (.int be30), (.int be31), (.int be32), (.int be33)] (.int 0)) (g5_S : Sta Z Z.heap "java/lang/String" "COMPACT_STRINGS" "Z" (.int cpt)) (g6_hcpt : ¬ (cpt = (0 : Int32))) :
    own_Con l Z (⟨"java/lang/StringBuilder", "toString", "()Ljava/lang/String;"⟩ : MethodName) jdk_67_method_42_code 1 (some (.object "java/lang/String")) [] ({ frames := 5, cells := 2, slots := 22, locals := 101 } : Room) #[(.ref q)] h0 (fun rv rh rL => ∃ (a : Addr) (u : Addr) (ku : ClassId), rv = some (.ref a) ∧ own_Fr Z rL ∧ Keep h0 rh [] ∧ h0.size ≤ a ∧ h0.size ≤ u ∧ (Exa Z rh a "java/lang/String") ∧ (Fld Z rh a "java/lang/String" "coder" "B" (.int 0)) ∧ (Fld Z rh a "java/lang/String" "value" "[B" (.ref u)) ∧ (Arv Z rh u ku .byte (18 : Int32) [(.int be0), (.int be1), (.int be2), (.int be3), (.int be4), (.int be5), (.int be6), (.int be7), (.int be8), (.int be9), (.int be10), (.int be11), (.int be12), (.int be13), (.int be14), (.int be15), (.int be16), (.int be17)] (.int 0))) := by
  refine own_intro (plainFor_of_name (by first | (simp [plainName, overriddenIn]; done) | decide +kernel)) ?_
  intro p e s m below meth c s₁ G hx hby hml hown hnm hret hZ X0 e0 hG hR
  have N0 := Fr.nil Z.heap.size
  refine own_entry (Ls := #[.val (.ref q)]) (by first | (simp [entryFrame, mkF, argsToLocals, Value.category]; done) | rfl) ?_
  show G (s₁.setTop (mkF m 0 #[.val (.ref q)] []))
  obtain ⟨T1, h1, X1, e1, E1, A1, D1, -, st1⟩ := newO X0 hx hZ hown (ow hw 124 rfl) (ow hw 11 rfl) (ow hw 3 rfl) e0 (g := (mkF m 0 #[.val (.ref q)] [])) rfl (hb hby d22_0) (by decide) (by decide)
  obtain ⟨b1, z1⟩ : ∃ z, z = h0.size := ⟨_, rfl⟩
  rw [← z1] at A1 D1 st1
  refine hG _ _ st1 ?_
  have K1 : Keep h0 h1 [] := (Keep.refl h0 []).ext E1
  have O1 : own_Old Z h1 := O0.ext E1
  refine hG _ _ (fun t_ k_ => XS.dup X1.here hx rfl (hb hby d22_3) rfl rfl k_) ?_
  refine hG _ _ (fun t_ k_ => XS.aloadN X1.here hx rfl (hb hby d22_4) rfl rfl k_) ?_
  show G (T1.setTop (mkF m 5 #[.val (.ref q)] [(.ref q), (.ref b1), (.ref b1)]))
  have f3 := (g0_E.ext E1)
  have f4 := (g1_F.ext E1)
  have f5 := (g2_F.ext E1)
  have f6 := (g3_F.ext E1)
  have f7 := (g4_V.ext E1)
  refine own_callI X1 hx hZ hG hown rfl (ow hw 125 rfl) (ow hw 126 rfl) (ow hw 3 rfl) (ow hw 127 rfl) (by decide) 1 (own_sis34_18 l Z a0 hw b1 q d kd be0 be1 be2 be3 be4 be5 be6 be7 be8 be9 be10 be11 be12 be13 be14 be15 be16 be17 be18 be19 be20 be21 be22 be23 be24 be25 be26 be27 be28 be29 be30 be31 be32 be33 cpt (.int 0) .null h1 O1 A1 (D1 (Or.inr (ow hw 26 rfl)) (ty := .byte) (by decide)) (D1 (Or.inr (ow hw 24 rfl)) (ty := (.array .byte)) (by decide)) (own_ge O0 (Nat.le_of_eq z1.symm)) (Ne.symm (own_ne g0_E.lt (Nat.le_of_eq z1.symm))) (Ne.symm (own_ne g4_V.lt (Nat.le_of_eq z1.symm))) f3 f4 f5 f6 f7 g5_S g6_hcpt) (by decide) (by decide) e1 (by rw [hml]; rfl) (lenOf own_pd26 rfl) (argsL := [(.ref q)]) (rest := [(.ref b1)]) rfl rfl (Nat.le_of_eq rfl) (hb hby d22_5) (by decide) (by decide) ?_
  intro T2 h2 v2 L2 X2 e2 q2
  obtain ⟨u_2, ku_2, rfl, M2, J2, y2_0, r2_0, r2_1, r2_2, r2_3⟩ := q2
  have N2 := Fr.app N0 M2
  have K2 : Keep h0 h2 [] := K1.trans J2 (allS (Or.inr (Nat.le_trans (Keep.refl h0 []).1 (Nat.le_of_eq z1.symm))) all0)
  have O2 : own_Old Z h2 := O1.keep J2 (allS (own_ge O0 (Nat.le_of_eq z1.symm)) all0)
  show G (T2.setTop (mkF m 8 #[.val (.ref q)] [(.ref b1)]))
  exact own_retA hR hret rfl rfl X2 hx (hb hby d22_8) (by decide) (by decide) (by rw [e2]; exact ⟨b1, u_2, ku_2, rfl, N2, K2, (Nat.le_trans (Keep.refl h0 []).1 (Nat.le_of_eq z1.symm)), (Nat.le_trans K1.1 y2_0), r2_0, r2_1, r2_2, r2_3⟩)
theorem own_pd31 : parseMethodDescriptor "(ZLjava/lang/String;)V" = some ⟨[.boolean, (.object "java/lang/String")], none⟩ := by decide +kernel
set_option maxRecDepth 65536 in
set_option maxHeartbeats 40000000 in
theorem own_finit (l : Launch) (Z : State) (a0 : Array Value) (hw : ∀ d ∈ tables_1, d.before a0 Z = true) (a : Addr) (x0 : Int32) (x1 : Value) (u0 : Value) (u1 : Value) (h0 : Heap) (O0 : own_Old Z h0) (g0_hx1 : x1.isRef = true) (g1_E : Exa Z h0 a "com/example/research_access_policy/researchaccesspolicy/rules/Decision") (g2_G : Z.heap.size ≤ a) (g3_F : Fld Z h0 a "com/example/research_access_policy/researchaccesspolicy/rules/Decision" "allowed" "Z" u0) (g4_F : Fld Z h0 a "com/example/research_access_policy/researchaccesspolicy/rules/Decision" "reason" "Ljava/lang/String;" u1) :
    own_Con l Z (⟨"com/example/research_access_policy/researchaccesspolicy/rules/Decision", "<init>", "(ZLjava/lang/String;)V"⟩ : MethodName) prog_12_method_1_code 3 none [] ({ frames := 2, cells := 0, slots := 0, locals := 24 } : Room) #[(.ref a), (.int x0), x1] h0 (fun rv rh rL => rv = none ∧ own_Fr Z rL ∧ Keep h0 rh [a] ∧ (Exa Z rh a "com/example/research_access_policy/researchaccesspolicy/rules/Decision") ∧ (Fld Z rh a "com/example/research_access_policy/researchaccesspolicy/rules/Decision" "allowed" "Z" (.int (nar .boolean x0))) ∧ (Fld Z rh a "com/example/research_access_policy/researchaccesspolicy/rules/Decision" "reason" "Ljava/lang/String;" x1)) := by
  refine own_intro (plainFor_of_name (by first | (simp [plainName, overriddenIn]; done) | decide +kernel)) ?_
  intro p e s m below meth c s₁ G hx hby hml hown hnm hret hZ X0 e0 hG hR
  have N0 := Fr.nil Z.heap.size
  refine own_entry (Ls := #[.val (.ref a), .val (.int x0), .val x1]) (by rcases ref_cases g0_hx1 with rfl | ⟨_, rfl⟩ <;> first | (simp [entryFrame, mkF, argsToLocals, Value.category]; done) | rfl) ?_
  show G (s₁.setTop (mkF m 0 #[.val (.ref a), .val (.int x0), .val x1] []))
  refine hG _ _ (fun t_ k_ => XS.aloadN X0.here hx rfl (hb hby d30_0) rfl rfl k_) ?_
  show G (s₁.setTop (mkF m 1 #[.val (.ref a), .val (.int x0), .val x1] [(.ref a)]))
  refine own_callI X0 hx hZ hG hown rfl (ow hw 165 rfl) (ow hw 166 rfl) (ow hw 168 rfl) (ow hw 169 rfl) (by decide) 0 (own_rec l Z a0 hw a h0 O0) (by decide) (by decide) e0 (by rw [hml]; rfl) (lenOf own_pd0 rfl) (argsL := []) (rest := []) rfl rfl (Nat.le_of_eq rfl) (hb hby d30_1) (by decide) (by decide) ?_
  intro T1 h1 v1 L1 X1 e1 q1
  obtain ⟨rfl, M1, rfl⟩ := q1
  have N1 := Fr.app N0 M1
  refine hG _ _ (fun t_ k_ => XS.aloadN X1.here hx rfl (hb hby d30_4) rfl rfl k_) ?_
  refine hG _ _ (fun t_ k_ => XS.iloadN X1.here hx rfl (hb hby d30_5) rfl k_) ?_
  obtain ⟨T2, h2, X2, e2, W2, st2⟩ := putFN X1 hx hZ hown (ow hw 171 rfl) Via.refl e1 g3_F g1_E (Or.inr ⟨(ow hw 172 rfl), rfl, hnm⟩) (ow hw 50 rfl) (ty := .boolean) (v' := (.int (nar .boolean x0))) (by decide) rfl (fits_nar_bool _) (g := (mkF m 6 #[.val (.ref a), .val (.int x0), .val x1] [(.int x0), (.ref a)])) rfl rfl (hb hby d30_6)
  refine hG _ _ st2 ?_
  have K2 : Keep h0 h2 [a] := (Keep.refl h0 [a]).wr W2 (Or.inl (List.mem_of_getElem? (i := 0) rfl))
  have O2 : own_Old Z h2 := O0.wr W2 g2_G
  have N2 := Fr.snoc X2 N1 g2_G
  refine hG _ _ (fun t_ k_ => XS.aloadN X2.here hx rfl (hb hby d30_9) rfl rfl k_) ?_
  refine hG _ _ (fun t_ k_ => XS.aloadN X2.here hx rfl (hb hby d30_10) rfl g0_hx1 k_) ?_
  have f4 := (g4_F.other W2 (Or.inr (slot_ne (Or.inr (ow hw 174 rfl)) (Or.inr (ow hw 172 rfl)) (by decide) (t := (.object "java/lang/String")) (t' := .boolean) (by decide) (by decide))))
  have f5 := (g1_E.wr W2)
  obtain ⟨T3, h3, X3, e3, W3, st3⟩ := putF X2 hx hZ hown (host := "") (Or.inl (ow hw 173 rfl)) Via.refl e2 f4 f5 (Or.inr ⟨(ow hw 174 rfl), rfl, hnm⟩) (ow hw 50 rfl) (ty := (.object "java/lang/String")) (by decide) (own_narR rfl g0_hx1) (own_fitR rfl g0_hx1) (g := (mkF m 11 #[.val (.ref a), .val (.int x0), .val x1] [x1, (.ref a)])) rfl rfl (hb hby d30_11)
  refine hG _ _ st3 ?_
  have K3 : Keep h0 h3 [a] := K2.wr W3 (Or.inl (List.mem_of_getElem? (i := 0) rfl))
  have O3 : own_Old Z h3 := O2.wr W3 g2_G
  have N3 := Fr.snoc X3 N2 g2_G
  show G (T3.setTop (mkF m 14 #[.val (.ref a), .val (.int x0), .val x1] []))
  have f6 := (f5.wr W3)
  have f7 := ((g3_F.same W2).other W3 (Or.inr (slot_ne (Or.inr (ow hw 172 rfl)) (Or.inr (ow hw 174 rfl)) (by decide) (t := .boolean) (t' := (.object "java/lang/String")) (by decide) (by decide))))
  exact own_retV hR hret X3 hx (hb hby d30_14) (by decide) (by decide) (by rw [e3]; exact ⟨rfl, N3, K3, f6, f7, (f4.same W3)⟩)
set_option maxRecDepth 65536 in
set_option maxHeartbeats 40000000 in
theorem own_get_allowed (l : Launch) (Z : State) (a0 : Array Value) (hw : ∀ d ∈ tables_1, d.before a0 Z = true) (a : Addr) (x : Int32) (h0 : Heap) (O0 : own_Old Z h0) (g0_F : Fld Z h0 a "com/example/research_access_policy/researchaccesspolicy/rules/Decision" "allowed" "Z" (.int x)) :
    own_Con l Z (⟨"com/example/research_access_policy/researchaccesspolicy/rules/Decision", "allowed", "()Z"⟩ : MethodName) prog_12_method_7_code 1 (some .boolean) [] ({ frames := 0, cells := 0, slots := 0, locals := 0 } : Room) #[(.ref a)] h0 (fun rv rh rL => rv = some (.int (nar .boolean x)) ∧ own_Fr Z rL ∧ h0 = rh) := by
  refine own_intro (plainFor_of_name (by first | (simp [plainName, overriddenIn]; done) | decide +kernel)) ?_
  intro p e s m below meth c s₁ G hx hby hml hown hnm hret hZ X0 e0 hG hR
  have N0 := Fr.nil Z.heap.size
  refine own_entry (Ls := #[.val (.ref a)]) (by first | (simp [entryFrame, mkF, argsToLocals, Value.category]; done) | rfl) ?_
  show G (s₁.setTop (mkF m 0 #[.val (.ref a)] []))
  refine hG _ _ (fun t_ k_ => XS.aloadN X0.here hx rfl (hb hby d33_0) rfl rfl k_) ?_
  obtain ⟨T1, X1, e1, st1⟩ := getF X0 hx hZ hown (host := "") (Or.inl (ow hw 171 rfl)) Via.refl e0 g0_F (g := (mkF m 1 #[.val (.ref a)] [(.ref a)])) rfl rfl (hb hby d33_1)
  refine hG _ _ st1 ?_
  show G (T1.setTop (mkF m 4 #[.val (.ref a)] [(.int x)]))
  exact own_retN hR hret (by simp) X1 hx (hb hby d33_4) (by decide) (by decide) (by rw [e1]; exact ⟨rfl, N0, rfl⟩)
set_option maxRecDepth 65536 in
set_option maxHeartbeats 40000000 in
theorem own_get_reason (l : Launch) (Z : State) (a0 : Array Value) (hw : ∀ d ∈ tables_1, d.before a0 Z = true) (a : Addr) (x : Value) (h0 : Heap) (O0 : own_Old Z h0) (g0_hx : x.isRef = true) (g1_F : Fld Z h0 a "com/example/research_access_policy/researchaccesspolicy/rules/Decision" "reason" "Ljava/lang/String;" x) :
    own_Con l Z (⟨"com/example/research_access_policy/researchaccesspolicy/rules/Decision", "reason", "()Ljava/lang/String;"⟩ : MethodName) prog_12_method_8_code 1 (some (.object "java/lang/String")) [] ({ frames := 0, cells := 0, slots := 0, locals := 0 } : Room) #[(.ref a)] h0 (fun rv rh rL => rv = some x ∧ own_Fr Z rL ∧ h0 = rh) := by
  refine own_intro (plainFor_of_name (by first | (simp [plainName, overriddenIn]; done) | decide +kernel)) ?_
  intro p e s m below meth c s₁ G hx hby hml hown hnm hret hZ X0 e0 hG hR
  have N0 := Fr.nil Z.heap.size
  refine own_entry (Ls := #[.val (.ref a)]) (by first | (simp [entryFrame, mkF, argsToLocals, Value.category]; done) | rfl) ?_
  show G (s₁.setTop (mkF m 0 #[.val (.ref a)] []))
  refine hG _ _ (fun t_ k_ => XS.aloadN X0.here hx rfl (hb hby d32_0) rfl rfl k_) ?_
  obtain ⟨T1, X1, e1, st1⟩ := getF X0 hx hZ hown (host := "") (Or.inl (ow hw 173 rfl)) Via.refl e0 g1_F (g := (mkF m 1 #[.val (.ref a)] [(.ref a)])) rfl rfl (hb hby d32_1)
  refine hG _ _ st1 ?_
  show G (T1.setTop (mkF m 4 #[.val (.ref a)] [x]))
  exact own_retA hR hret rfl g0_hx X1 hx (hb hby d32_4) (by decide) (by decide) (by rw [e1]; exact ⟨rfl, N0, rfl⟩)
theorem own_pd32 : parseMethodDescriptor "(Ljava/lang/String;)Lcom/example/research_access_policy/researchaccesspolicy/rules/Decision;" = some ⟨[(.object "java/lang/String")], some (.object "com/example/research_access_policy/researchaccesspolicy/rules/Decision")⟩ := by decide +kernel
set_option maxRecDepth 65536 in
set_option maxHeartbeats 40000000 in
theorem own_ba0 (l : Launch) (Z : State) (a0 : Array Value) (hw : ∀ d ∈ tables_1, d.before a0 Z = true) (hEL : EW Z a0 consts_1) (a : Addr) (t : Addr) (kt : ClassId) (cpt : Int32) (h0 : Heap) (O0 : own_Old Z h0) (g0_E : Exa Z h0 a "java/lang/String") (g1_F : Fld Z h0 a "java/lang/String" "coder" "B" (.int 0)) (g2_F : Fld Z h0 a "java/lang/String" "value" "[B" (.ref t)) (g3_V : Arv Z h0 t kt .byte (0 : Int32) [] (.int 0)) (g4_S : Sta Z Z.heap "java/lang/String" "COMPACT_STRINGS" "Z" (.int cpt)) (g5_hcpt : ¬ (cpt = (0 : Int32))) :
    own_ConW l Z consts_1 (⟨"com/example/research_access_policy/researchaccesspolicy/rules/Decision", "beamlineAdmin", "(Ljava/lang/String;)Lcom/example/research_access_policy/researchaccesspolicy/rules/Decision;"⟩ : MethodName) prog_12_method_2_code 1 (some (.object "com/example/research_access_policy/researchaccesspolicy/rules/Decision")) [] ({ frames := 6, cells := 7, slots := 105, locals := 116 } : Room) #[(.ref a)] h0 (fun rv rh rL => ∃ (q : Addr) (r : Addr) (u : Addr) (ku : ClassId), rv = some (.ref q) ∧ own_Fr Z rL ∧ Keep h0 rh [] ∧ h0.size ≤ q ∧ h0.size ≤ r ∧ h0.size ≤ u ∧ (Exa Z rh q "com/example/research_access_policy/researchaccesspolicy/rules/Decision") ∧ (Fld Z rh q "com/example/research_access_policy/researchaccesspolicy/rules/Decision" "allowed" "Z" (.int (nar .boolean (1 : Int32)))) ∧ (Fld Z rh q "com/example/research_access_policy/researchaccesspolicy/rules/Decision" "reason" "Ljava/lang/String;" (.ref r)) ∧ (Exa Z rh r "java/lang/String") ∧ (Fld Z rh r "java/lang/String" "coder" "B" (.int 0)) ∧ (Fld Z rh r "java/lang/String" "value" "[B" (.ref u)) ∧ (Arv Z rh u ku .byte (15 : Int32) [(.int 98), (.int 101), (.int 97), (.int 109), (.int 108), (.int 105), (.int 110), (.int 101), (.int 45), (.int 97), (.int 100), (.int 109), (.int 105), (.int 110), (.int 32)] (.int 0))) := by
  refine own_introW hEL (plainFor_of_name (by first | (simp [plainName, overriddenIn]; done) | decide +kernel)) ?_
  intro p e s m below meth c s₁ G hx hby hml hown hnm hret hZ X0 e0 H0 SI0 hG hR
  have N0 := Fr.nil Z.heap.size
  refine own_entry (Ls := #[.val (.ref a)]) (by first | (simp [entryFrame, mkF, argsToLocals, Value.category]; done) | rfl) ?_
  show G (s₁.setTop (mkF m 0 #[.val (.ref a)] []))
  obtain ⟨T1, h1, X1, e1, E1, A1, D1, -, st1⟩ := newO X0 hx hZ hown (ow hw 49 rfl) (ow hw 50 rfl) (ow hw 47 rfl) e0 (g := (mkF m 0 #[.val (.ref a)] [])) rfl (hb hby d11_0) (by decide) (by decide)
  obtain ⟨b1, z1⟩ : ∃ z, z = h0.size := ⟨_, rfl⟩
  rw [← z1] at A1 D1 st1
  refine hG _ _ st1 ?_
  have R1 := (CHr.ext E1 H0)
  have C1 := (CHr.refl H0).trans R1
  have K1 : Keep h0 h1 [] := (Keep.refl h0 []).ext E1
  have O1 : own_Old Z h1 := O0.ext E1
  refine hG _ _ (fun t_ k_ => XS.dup X1.here hx rfl (hb hby d11_3) rfl rfl k_) ?_
  refine hG _ _ (fun t_ k_ => XS.iconst X1.here hx rfl (hb hby d11_4) k_) ?_
  obtain ⟨T2, h2, X2, e2, E2, A2, D2, -, st2⟩ := newO X1 hx hZ hown (ow hw 51 rfl) (ow hw 52 rfl) (ow hw 53 rfl) e1 (g := (mkF m 5 #[.val (.ref a)] [(.int 1), (.ref b1), (.ref b1)])) rfl (hb hby d11_5) (by decide) (by decide)
  obtain ⟨b2, z2⟩ : ∃ z, z = h1.size := ⟨_, rfl⟩
  rw [← z2] at A2 D2 st2
  refine hG _ _ st2 ?_
  have R2 := (CHr.ext E2 R1.1)
  have C2 := C1.trans R2
  have K2 : Keep h0 h2 [] := K1.ext E2
  have O2 : own_Old Z h2 := O1.ext E2
  refine hG _ _ (fun t_ k_ => XS.dup X2.here hx rfl (hb hby d11_8) rfl rfl k_) ?_
  show G (T2.setTop (mkF m 9 #[.val (.ref a)] [(.ref b2), (.ref b2), (.int 1), (.ref b1), (.ref b1)]))
  refine own_callI X2 hx hZ hG hown rfl (ow hw 54 rfl) (ow hw 55 rfl) (ow hw 53 rfl) (ow hw 56 rfl) (by decide) 4 (own_sbi l Z a0 hw b2 cpt .null (.int 0) (.int 0) h2 O2 A2 (own_ge O1 (Nat.le_of_eq z2.symm)) (D2 (Or.inl (ow hw 66 rfl)) (ty := (.array .byte)) (by decide)) (D2 (Or.inl (ow hw 68 rfl)) (ty := .byte) (by decide)) (D2 (Or.inl (ow hw 93 rfl)) (ty := .int) (by decide)) g4_S g5_hcpt) (by decide) (by decide) e2 (by rw [hml]; rfl) (lenOf own_pd0 rfl) (argsL := []) (rest := [(.ref b2), (.int 1), (.ref b1), (.ref b1)]) rfl rfl (Nat.le_of_eq rfl) (hb hby d11_9) (by decide) (by decide) ?_
  intro T3 h3 v3 L3 X3 e3 q3
  obtain ⟨d_3, kd_3, rfl, M3, J3, y3_0, r3_0, r3_1, r3_2, r3_3, r3_4, r3_5⟩ := q3
  have N3 := Fr.app N0 M3
  have sf4 : Safe Z consts_1 _ h2 b2 := (Safe.exa hZ.alike A2 (by decide) (by decide))
  have R3 := (CHr.keep J3 (allS sf4 all0) R2.1)
  have C3 := C2.trans R3
  have K3 : Keep h0 h3 [] := K2.trans J3 (allS (Or.inr (Nat.le_trans K1.1 (Nat.le_of_eq z2.symm))) all0)
  have O3 : own_Old Z h3 := O2.keep J3 (allS (own_ge O1 (Nat.le_of_eq z2.symm)) all0)
  obtain ⟨a5, T5, h5, k5, b5, kc5, X5, e5, E5, SI5, hk5, hZ5, hown5, Ea5, Fc5, Fv5, V5, la5, lb5, Y5, Li5, Nq5, st5⟩ := ldcCH X3 hx hZ hown (ow hw 69 rfl) (own_wS hw) e3 SI0 (Nat.le_trans (Nat.le_trans (Nat.le_trans (Nat.le_refl _) R1.2.1) R2.2.1) R3.2.1) hEL (List.mem_of_getElem? (i := 0) rfl) R3.1 (vs := [(.int 98), (.int 101), (.int 97), (.int 109), (.int 108), (.int 105), (.int 110), (.int 101), (.int 45), (.int 97), (.int 100), (.int 109), (.int 105), (.int 110), (.int 32)]) (z := (15 : Int32)) ⟨by decide, by decide⟩ (by decide) rfl (g := (mkF m 12 #[.val (.ref a)] [(.ref b2), (.int 1), (.ref b1), (.ref b1)])) rfl (hb hby d11_12) (n := 60) (by decide) (by decide) (by decide) (by decide)
  refine hG _ _ st5 ?_
  have R5 := Y5
  have C5 := C3.trans R5
  have K5 : Keep h0 h5 [] := K3.ext E5
  have O5 : own_Old Z h5 := O3.ext E5
  show G (T5.setTop (mkF m 14 #[.val (.ref a)] [(.ref a5), (.ref b2), (.int 1), (.ref b1), (.ref b1)]))
  have sf6 := (R5.safe r3_0.lt (R3.safe A2.lt sf4))
  have sf7 : Safe Z consts_1 _ h5 d_3 := (R5.safe r3_4.lt (Safe.keep J3 (allS sf4 all0) R2.1 (Safe.new y3_0)))
  have f9 := (r3_0.ext E5)
  have f10 := (r3_1.ext E5)
  have f11 := (r3_2.ext E5)
  have f12 := (r3_3.ext E5)
  have f13 := (r3_5.ext E5)
  refine own_callV (C := "java/lang/StringBuilder") X5 hx hZ5 hG hown5 (ow hw 72 rfl) (ow hw 73 rfl) (ow hw 75 rfl) (ow hw 74 rfl) (ow hw 53 rfl) (ow hw 76 rfl) (by decide) 3 (own_sba0_15 l Z a0 hw a5 b5 kc5 (98 : Int32) (101 : Int32) (97 : Int32) (109 : Int32) (108 : Int32) (105 : Int32) (110 : Int32) (101 : Int32) (45 : Int32) (97 : Int32) (100 : Int32) (109 : Int32) (105 : Int32) (110 : Int32) (32 : Int32) b2 d_3 kd_3 (0 : Int32) (0 : Int32) (0 : Int32) (0 : Int32) (0 : Int32) (0 : Int32) (0 : Int32) (0 : Int32) (0 : Int32) (0 : Int32) (0 : Int32) (0 : Int32) (0 : Int32) (0 : Int32) (0 : Int32) (0 : Int32) cpt h5 O5 Ea5 Fc5 Fv5 V5 g4_S g5_hcpt f9 (own_ge O1 (Nat.le_of_eq z2.symm)) f10 f11 f12 f13 (own_ge O2 y3_0) (Ne.symm (Nq5 d_3 sf7).1) (Ne.symm (Nq5 d_3 sf7).2) (Ne.symm (Nq5 b2 sf6).1) (Ne.symm (Nq5 b2 sf6).2) (own_ne A2.lt y3_0)) (by decide) (by decide) e5 f9 (by rw [hml]; rfl) (lenOf own_pd21 rfl) (argsL := [(.ref a5)]) (rest := [(.int 1), (.ref b1), (.ref b1)]) rfl rfl (Nat.le_of_eq rfl) (hb hby d11_14) (by decide) (by decide) ?_
  intro T8 h8 v8 L8 X8 e8 q8
  obtain ⟨rfl, M8, J8, r8_0, r8_1, r8_2, r8_3, r8_4⟩ := q8
  have N8 := Fr.app N3 M8
  have R8 := (CHr.keep J8 (allS sf6 (allS sf7 all0)) R5.1)
  have C8 := C5.trans R8
  have K8 : Keep h0 h8 [] := K5.trans J8 (allS (Or.inr (Nat.le_trans K1.1 (Nat.le_of_eq z2.symm))) (allS (Or.inr (Nat.le_trans K2.1 y3_0)) all0))
  have O8 : own_Old Z h8 := O5.keep J8 (allS (own_ge O1 (Nat.le_of_eq z2.symm)) (allS (own_ge O2 y3_0) all0))
  refine hG _ _ (fun t_ k_ => XS.aloadN X8.here hx rfl (hb hby d11_17) rfl rfl k_) ?_
  show G (T8.setTop (mkF m 18 #[.val (.ref a)] [(.ref a), (.ref b2), (.int 1), (.ref b1), (.ref b1)]))
  have f15 := (((((g0_E.ext E1).ext E2).keep J3).ext E5).keep J8)
  have f16 := (((((g1_F.ext E1).ext E2).keep J3 (ninS (own_ne (Nat.lt_of_lt_of_le g0_E.lt E1.1) (Nat.le_of_eq z2.symm)) nin0)).ext E5).keep J8 (ninS (own_ne (Nat.lt_of_lt_of_le g0_E.lt E1.1) (Nat.le_of_eq z2.symm)) (ninS (own_ne (Nat.lt_of_lt_of_le (Nat.lt_of_lt_of_le g0_E.lt E1.1) E2.1) y3_0) nin0)))
  have f17 := (((((g2_F.ext E1).ext E2).keep J3 (ninS (own_ne (Nat.lt_of_lt_of_le g0_E.lt E1.1) (Nat.le_of_eq z2.symm)) nin0)).ext E5).keep J8 (ninS (own_ne (Nat.lt_of_lt_of_le g0_E.lt E1.1) (Nat.le_of_eq z2.symm)) (ninS (own_ne (Nat.lt_of_lt_of_le (Nat.lt_of_lt_of_le g0_E.lt E1.1) E2.1) y3_0) nin0)))
  have f18 := (((((g3_V.ext E1).ext E2).keep J3 (ninS (own_ne (Nat.lt_of_lt_of_le g3_V.lt E1.1) (Nat.le_of_eq z2.symm)) nin0)).ext E5).keep J8 (ninS (own_ne (Nat.lt_of_lt_of_le g3_V.lt E1.1) (Nat.le_of_eq z2.symm)) (ninS (own_ne (Nat.lt_of_lt_of_le (Nat.lt_of_lt_of_le g3_V.lt E1.1) E2.1) y3_0) nin0)))
  refine own_callV (C := "java/lang/StringBuilder") X8 hx hZ5 hG hown5 (ow hw 72 rfl) (ow hw 73 rfl) (ow hw 75 rfl) (ow hw 74 rfl) (ow hw 53 rfl) (ow hw 76 rfl) (by decide) 3 (own_sba15_0 l Z a0 hw a t kt b2 d_3 kd_3 (98 : Int32) (101 : Int32) (97 : Int32) (109 : Int32) (108 : Int32) (105 : Int32) (110 : Int32) (101 : Int32) (45 : Int32) (97 : Int32) (100 : Int32) (109 : Int32) (105 : Int32) (110 : Int32) (32 : Int32) (0 : Int32) cpt h8 O8 f15 f16 f17 f18 g4_S g5_hcpt r8_0 (own_ge O1 (Nat.le_of_eq z2.symm)) r8_1 r8_2 r8_3 r8_4 (own_ge O2 y3_0) (own_ne (Nat.lt_of_lt_of_le (Nat.lt_of_lt_of_le g0_E.lt E1.1) E2.1) y3_0) (own_ne (Nat.lt_of_lt_of_le (Nat.lt_of_lt_of_le g3_V.lt E1.1) E2.1) y3_0) (own_ne (Nat.lt_of_lt_of_le g0_E.lt E1.1) (Nat.le_of_eq z2.symm)) (own_ne (Nat.lt_of_lt_of_le g3_V.lt E1.1) (Nat.le_of_eq z2.symm)) (own_ne A2.lt y3_0)) (by decide) (by decide) e8 r8_0 (by rw [hml]; rfl) (lenOf own_pd21 rfl) (argsL := [(.ref a)]) (rest := [(.int 1), (.ref b1), (.ref b1)]) rfl rfl (Nat.le_of_eq rfl) (hb hby d11_18) (by decide) (by decide) ?_
  intro T14 h14 v14 L14 X14 e14 q14
  obtain ⟨rfl, M14, J14, r14_0, r14_1, r14_2, r14_3, r14_4⟩ := q14
  have N14 := Fr.app N8 M14
  have sf19 := (R8.safe f13.lt sf7)
  have sf20 := (R8.safe f9.lt sf6)
  have R14 := (CHr.keep J14 (allS sf20 (allS sf19 all0)) R8.1)
  have C14 := C8.trans R14
  have K14 : Keep h0 h14 [] := K8.trans J14 (allS (Or.inr (Nat.le_trans K1.1 (Nat.le_of_eq z2.symm))) (allS (Or.inr (Nat.le_trans K2.1 y3_0)) all0))
  have O14 : own_Old Z h14 := O8.keep J14 (allS (own_ge O1 (Nat.le_of_eq z2.symm)) (allS (own_ge O2 y3_0) all0))
  show G (T14.setTop (mkF m 21 #[.val (.ref a)] [(.ref b2), (.int 1), (.ref b1), (.ref b1)]))
  refine own_callV (C := "java/lang/StringBuilder") X14 hx hZ5 hG hown5 (ow hw 119 rfl) (ow hw 120 rfl) (ow hw 122 rfl) (ow hw 121 rfl) (ow hw 53 rfl) (ow hw 123 rfl) (by decide) 3 (own_sbt16_15 l Z a0 hw b2 d_3 kd_3 (98 : Int32) (101 : Int32) (97 : Int32) (109 : Int32) (108 : Int32) (105 : Int32) (110 : Int32) (101 : Int32) (45 : Int32) (97 : Int32) (100 : Int32) (109 : Int32) (105 : Int32) (110 : Int32) (32 : Int32) (0 : Int32) cpt h14 O14 r14_0 r14_1 r14_2 r14_3 r14_4 g4_S g5_hcpt) (by decide) (by decide) e14 r14_0 (by rw [hml]; rfl) (lenOf own_pd27 rfl) (argsL := []) (rest := [(.int 1), (.ref b1), (.ref b1)]) rfl rfl (Nat.le_of_eq rfl) (hb hby d11_21) (by decide) (by decide) ?_
  intro T21 h21 v21 L21 X21 e21 q21
  obtain ⟨a_21, u_21, ku_21, rfl, M21, J21, y21_0, y21_1, r21_0, r21_1, r21_2, r21_3⟩ := q21
  have N21 := Fr.app N14 M21
  have R21 := (CHr.keep J21 all0 R14.1)
  have C21 := C14.trans R21
  have K21 : Keep h0 h21 [] := K14.trans J21 all0
  have O21 : own_Old Z h21 := O14.keep J21 all0
  show G (T21.setTop (mkF m 24 #[.val (.ref a)] [(.ref a_21), (.int 1), (.ref b1), (.ref b1)]))
  have f23 := ((((((A1.ext E2).keep J3).ext E5).keep J8).keep J14).keep J21)
  have f24 := (((((((D1 (Or.inr (ow hw 172 rfl)) (ty := .boolean) (by decide)).ext E2).keep J3 (ninS (own_ne A1.lt (Nat.le_of_eq z2.symm)) nin0)).ext E5).keep J8 (ninS (own_ne A1.lt (Nat.le_of_eq z2.symm)) (ninS (own_ne (Nat.lt_of_lt_of_le A1.lt E2.1) y3_0) nin0))).keep J14 (ninS (own_ne A1.lt (Nat.le_of_eq z2.symm)) (ninS (own_ne (Nat.lt_of_lt_of_le A1.lt E2.1) y3_0) nin0))).keep J21 nin0)
  have f25 := (((((((D1 (Or.inr (ow hw 174 rfl)) (ty := (.object "java/lang/String")) (by decide)).ext E2).keep J3 (ninS (own_ne A1.lt (Nat.le_of_eq z2.symm)) nin0)).ext E5).keep J8 (ninS (own_ne A1.lt (Nat.le_of_eq z2.symm)) (ninS (own_ne (Nat.lt_of_lt_of_le A1.lt E2.1) y3_0) nin0))).keep J14 (ninS (own_ne A1.lt (Nat.le_of_eq z2.symm)) (ninS (own_ne (Nat.lt_of_lt_of_le A1.lt E2.1) y3_0) nin0))).keep J21 nin0)
  refine own_callI X21 hx hZ5 hG hown5 rfl (ow hw 162 rfl) (ow hw 163 rfl) (ow hw 47 rfl) (ow hw 164 rfl) (by decide) 1 (own_finit l Z a0 hw b1 (1 : Int32) (.ref a_21) (.int 0) .null h21 O21 rfl f23 (own_ge O0 (Nat.le_of_eq z1.symm)) f24 f25) (by decide) (by decide) e21 (by rw [hml]; rfl) (lenOf own_pd31 rfl) (argsL := [(.int 1), (.ref a_21)]) (rest := [(.ref b1)]) rfl rfl (Nat.le_of_eq rfl) (hb hby d11_24) (by decide) (by decide) ?_
  intro T22 h22 v22 L22 X22 e22 q22
  obtain ⟨rfl, M22, J22, r22_0, r22_1, r22_2⟩ := q22
  have N22 := Fr.app N21 M22
  have sf26 : Safe Z consts_1 _ h21 b1 := (Safe.exa hZ5.alike f23 (by decide) (by decide))
  have R22 := (CHr.keep J22 (allS sf26 all0) R21.1)
  have C22 := C21.trans R22
  have K22 : Keep h0 h22 [] := K21.trans J22 (allS (Or.inr (Nat.le_trans (Keep.refl h0 []).1 (Nat.le_of_eq z1.symm))) all0)
  have O22 : own_Old Z h22 := O21.keep J22 (allS (own_ge O0 (Nat.le_of_eq z1.symm)) all0)
  show G (T22.setTop (mkF m 27 #[.val (.ref a)] [(.ref b1)]))
  have f27 := (r21_0.keep J22)
  have f28 := (r21_1.keep J22 (ninS (Ne.symm (own_ne (Nat.lt_of_lt_of_le (Nat.lt_of_lt_of_le (Nat.lt_of_lt_of_le (Nat.lt_of_lt_of_le (Nat.lt_of_lt_of_le A1.lt E2.1) J3.1) E5.1) J8.1) J14.1) y21_0)) nin0))
  have f29 := (r21_2.keep J22 (ninS (Ne.symm (own_ne (Nat.lt_of_lt_of_le (Nat.lt_of_lt_of_le (Nat.lt_of_lt_of_le (Nat.lt_of_lt_of_le (Nat.lt_of_lt_of_le A1.lt E2.1) J3.1) E5.1) J8.1) J14.1) y21_0)) nin0))
  have f30 := (r21_3.keep J22 (ninS (Ne.symm (own_ne (Nat.lt_of_lt_of_le (Nat.lt_of_lt_of_le (Nat.lt_of_lt_of_le (Nat.lt_of_lt_of_le (Nat.lt_of_lt_of_le A1.lt E2.1) J3.1) E5.1) J8.1) J14.1) y21_1)) nin0))
  exact own_retAW hR hret rfl rfl X22 hx (hb hby d11_27) e22 SI5 (Nat.le_trans (Nat.le_trans (Nat.le_trans (Nat.le_trans hk5 R8.2.1) R14.2.1) R21.2.1) R22.2.1) hZ5 C22 (by decide) (by decide) ⟨b1, a_21, u_21, ku_21, rfl, N22, K22, (Nat.le_trans (Keep.refl h0 []).1 (Nat.le_of_eq z1.symm)), (Nat.le_trans K14.1 y21_0), (Nat.le_trans K14.1 y21_1), r22_0, r22_1, r22_2, f27, f28, f29, f30⟩
set_option maxRecDepth 65536 in
set_option maxHeartbeats 40000000 in
theorem own_ba1 (l : Launch) (Z : State) (a0 : Array Value) (hw : ∀ d ∈ tables_1, d.before a0 Z = true) (hEL : EW Z a0 consts_1) (a : Addr) (t : Addr) (kt : ClassId) (bs0 : Int32) (cpt : Int32) (h0 : Heap) (O0 : own_Old Z h0) (g0_E : Exa Z h0 a "java/lang/String") (g1_F : Fld Z h0 a "java/lang/String" "coder" "B" (.int 0)) (g2_F : Fld Z h0 a "java/lang/String" "value" "[B" (.ref t)) (g3_V : Arv Z h0 t kt .byte (1 : Int32) [(.int bs0)] (.int 0)) (g4_S : Sta Z Z.heap "java/lang/String" "COMPACT_STRINGS" "Z" (.int cpt)) (g5_hcpt : ¬ (cpt = (0 : Int32))) :
    own_ConW l Z consts_1 (⟨"com/example/research_access_policy/researchaccesspolicy/rules/Decision", "beamlineAdmin", "(Ljava/lang/String;)Lcom/example/research_access_policy/researchaccesspolicy/rules/Decision;"⟩ : MethodName) prog_12_method_2_code 1 (some (.object "com/example/research_access_policy/researchaccesspolicy/rules/Decision")) [] ({ frames := 5, cells := 7, slots := 106, locals := 99 } : Room) #[(.ref a)] h0 (fun rv rh rL => ∃ (q : Addr) (r : Addr) (u : Addr) (ku : ClassId), rv = some (.ref q) ∧ own_Fr Z rL ∧ Keep h0 rh [] ∧ h0.size ≤ q ∧ h0.size ≤ r ∧ h0.size ≤ u ∧ (Exa Z rh q "com/example/research_access_policy/researchaccesspolicy/rules/Decision") ∧ (Fld Z rh q "com/example/research_access_policy/researchaccesspolicy/rules/Decision" "allowed" "Z" (.int (nar .boolean (1 : Int32)))) ∧ (Fld Z rh q "com/example/research_access_policy/researchaccesspolicy/rules/Decision" "reason" "Ljava/lang/String;" (.ref r)) ∧ (Exa Z rh r "java/lang/String") ∧ (Fld Z rh r "java/lang/String" "coder" "B" (.int 0)) ∧ (Fld Z rh r "java/lang/String" "value" "[B" (.ref u)) ∧ (Arv Z rh u ku .byte (16 : Int32) [(.int 98), (.int 101), (.int 97), (.int 109), (.int 108), (.int 105), (.int 110), (.int 101), (.int 45), (.int 97), (.int 100), (.int 109), (.int 105), (.int 110), (.int 32), (.int bs0)] (.int 0))) := by
  refine own_introW hEL (plainFor_of_name (by first | (simp [plainName, overriddenIn]; done) | decide +kernel)) ?_
  intro p e s m below meth c s₁ G hx hby hml hown hnm hret hZ X0 e0 H0 SI0 hG hR
  have N0 := Fr.nil Z.heap.size
  refine own_entry (Ls := #[.val (.ref a)]) (by first | (simp [entryFrame, mkF, argsToLocals, Value.category]; done) | rfl) ?_
  show G (s₁.setTop (mkF m 0 #[.val (.ref a)] []))
  obtain ⟨T1, h1, X1, e1, E1, A1, D1, -, st1⟩ := newO X0 hx hZ hown (ow hw 49 rfl) (ow hw 50 rfl) (ow hw 47 rfl) e0 (g := (mkF m 0 #[.val (.ref a)] [])) rfl (hb hby d11_0) (by decide) (by decide)
  obtain ⟨b1, z1⟩ : ∃ z, z = h0.size := ⟨_, rfl⟩
  rw [← z1] at A1 D1 st1
  refine hG _ _ st1 ?_
  have R1 := (CHr.ext E1 H0)
  have C1 := (CHr.refl H0).trans R1
  have K1 : Keep h0 h1 [] := (Keep.refl h0 []).ext E1
  have O1 : own_Old Z h1 := O0.ext E1
  refine hG _ _ (fun t_ k_ => XS.dup X1.here hx rfl (hb hby d11_3) rfl rfl k_) ?_
  refine hG _ _ (fun t_ k_ => XS.iconst X1.here hx rfl (hb hby d11_4) k_) ?_
  obtain ⟨T2, h2, X2, e2, E2, A2, D2, -, st2⟩ := newO X1 hx hZ hown (ow hw 51 rfl) (ow hw 52 rfl) (ow hw 53 rfl) e1 (g := (mkF m 5 #[.val (.ref a)] [(.int 1), (.ref b1), (.ref b1)])) rfl (hb hby d11_5) (by decide) (by decide)
  obtain ⟨b2, z2⟩ : ∃ z, z = h1.size := ⟨_, rfl⟩
  rw [← z2] at A2 D2 st2
  refine hG _ _ st2 ?_
  have R2 := (CHr.ext E2 R1.1)
  have C2 := C1.trans R2
  have K2 : Keep h0 h2 [] := K1.ext E2
  have O2 : own_Old Z h2 := O1.ext E2
  refine hG _ _ (fun t_ k_ => XS.dup X2.here hx rfl (hb hby d11_8) rfl rfl k_) ?_
  show G (T2.setTop (mkF m 9 #[.val (.ref a)] [(.ref b2), (.ref b2), (.int 1), (.ref b1), (.ref b1)]))
  refine own_callI X2 hx hZ hG hown rfl (ow hw 54 rfl) (ow hw 55 rfl) (ow hw 53 rfl) (ow hw 56 rfl) (by decide) 4 (own_sbi l Z a0 hw b2 cpt .null (.int 0) (.int 0) h2 O2 A2 (own_ge O1 (Nat.le_of_eq z2.symm)) (D2 (Or.inl (ow hw 66 rfl)) (ty := (.array .byte)) (by decide)) (D2 (Or.inl (ow hw 68 rfl)) (ty := .byte) (by decide)) (D2 (Or.inl (ow hw 93 rfl)) (ty := .int) (by decide)) g4_S g5_hcpt) (by decide) (by decide) e2 (by rw [hml]; rfl) (lenOf own_pd0 rfl) (argsL := []) (rest := [(.ref b2), (.int 1), (.ref b1), (.ref b1)]) rfl rfl (Nat.le_of_eq rfl) (hb hby d11_9) (by decide) (by decide) ?_
  intro T3 h3 v3 L3 X3 e3 q3
  obtain ⟨d_3, kd_3, rfl, M3, J3, y3_0, r3_0, r3_1, r3_2, r3_3, r3_4, r3_5⟩ := q3
  have N3 := Fr.app N0 M3
  have sf4 : Safe Z consts_1 _ h2 b2 := (Safe.exa hZ.alike A2 (by decide) (by decide))
  have R3 := (CHr.keep J3 (allS sf4 all0) R2.1)
  have C3 := C2.trans R3
  have K3 : Keep h0 h3 [] := K2.trans J3 (allS (Or.inr (Nat.le_trans K1.1 (Nat.le_of_eq z2.symm))) all0)
  have O3 : own_Old Z h3 := O2.keep J3 (allS (own_ge O1 (Nat.le_of_eq z2.symm)) all0)
  obtain ⟨a5, T5, h5, k5, b5, kc5, X5, e5, E5, SI5, hk5, hZ5, hown5, Ea5, Fc5, Fv5, V5, la5, lb5, Y5, Li5, Nq5, st5⟩ := ldcCH X3 hx hZ hown (ow hw 69 rfl) (own_wS hw) e3 SI0 (Nat.le_trans (Nat.le_trans (Nat.le_trans (Nat.le_refl _) R1.2.1) R2.2.1) R3.2.1) hEL (List.mem_of_getElem? (i := 0) rfl) R3.1 (vs := [(.int 98), (.int 101), (.int 97), (.int 109), (.int 108), (.int 105), (.int 110), (.int 101), (.int 45), (.int 97), (.int 100), (.int 109), (.int 105), (.int 110), (.int 32)]) (z := (15 : Int32)) ⟨by decide, by decide⟩ (by decide) rfl (g := (mkF m 12 #[.val (.ref a)] [(.ref b2), (.int 1), (.ref b1), (.ref b1)])) rfl (hb hby d11_12) (n := 60) (by decide) (by decide) (by decide) (by decide)
  refine hG _ _ st5 ?_
  have R5 := Y5
  have C5 := C3.trans R5
  have K5 : Keep h0 h5 [] := K3.ext E5
  have O5 : own_Old Z h5 := O3.ext E5
  show G (T5.setTop (mkF m 14 #[.val (.ref a)] [(.ref a5), (.ref b2), (.int 1), (.ref b1), (.ref b1)]))
  have sf6 := (R5.safe r3_0.lt (R3.safe A2.lt sf4))
  have sf7 : Safe Z consts_1 _ h5 d_3 := (R5.safe r3_4.lt (Safe.keep J3 (allS sf4 all0) R2.1 (Safe.new y3_0)))
  have f9 := (r3_0.ext E5)
  have f10 := (r3_1.ext E5)
  have f11 := (r3_2.ext E5)
  have f12 := (r3_3.ext E5)
  have f13 := (r3_5.ext E5)
  refine own_callV (C := "java/lang/StringBuilder") X5 hx hZ5 hG hown5 (ow hw 72 rfl) (ow hw 73 rfl) (ow hw 75 rfl) (ow hw 74 rfl) (ow hw 53 rfl) (ow hw 76 rfl) (by decide) 3 (own_sba0_15 l Z a0 hw a5 b5 kc5 (98 : Int32) (101 : Int32) (97 : Int32) (109 : Int32) (108 : Int32) (105 : Int32) (110 : Int32) (101 : Int32) (45 : Int32) (97 : Int32) (100 : Int32) (109 : Int32) (105 : Int32) (110 : Int32) (32 : Int32) b2 d_3 kd_3 (0 : Int32) (0 : Int32) (0 : Int32) (0 : Int32) (0 : Int32) (0 : Int32) (0 : Int32) (0 : Int32) (0 : Int32) (0 : Int32) (0 : Int32) (0 : Int32) (0 : Int32) (0 : Int32) (0 : Int32) (0 : Int32) cpt h5 O5 Ea5 Fc5 Fv5 V5 g4_S g5_hcpt f9 (own_ge O1 (Nat.le_of_eq z2.symm)) f10 f11 f12 f13 (own_ge O2 y3_0) (Ne.symm (Nq5 d_3 sf7).1) (Ne.symm (Nq5 d_3 sf7).2) (Ne.symm (Nq5 b2 sf6).1) (Ne.symm (Nq5 b2 sf6).2) (own_ne A2.lt y3_0)) (by decide) (by decide) e5 f9 (by rw [hml]; rfl) (lenOf own_pd21 rfl) (argsL := [(.ref a5)]) (rest := [(.int 1), (.ref b1), (.ref b1)]) rfl rfl (Nat.le_of_eq rfl) (hb hby d11_14) (by decide) (by decide) ?_
  intro T8 h8 v8 L8 X8 e8 q8
  obtain ⟨rfl, M8, J8, r8_0, r8_1, r8_2, r8_3, r8_4⟩ := q8
  have N8 := Fr.app N3 M8
  have R8 := (CHr.keep J8 (allS sf6 (allS sf7 all0)) R5.1)
  have C8 := C5.trans R8
  have K8 : Keep h0 h8 [] := K5.trans J8 (allS (Or.inr (Nat.le_trans K1.1 (Nat.le_of_eq z2.symm))) (allS (Or.inr (Nat.le_trans K2.1 y3_0)) all0))
  have O8 : own_Old Z h8 := O5.keep J8 (allS (own_ge O1 (Nat.le_of_eq z2.symm)) (allS (own_ge O2 y3_0) all0))
  refine hG _ _ (fun t_ k_ => XS.aloadN X8.here hx rfl (hb hby d11_17) rfl rfl k_) ?_
  show G (T8.setTop (mkF m 18 #[.val (.ref a)] [(.ref a), (.ref b2), (.int 1), (.ref b1), (.ref b1)]))
  have f15 := (((((g0_E.ext E1).ext E2).keep J3).ext E5).keep J8)
  have f16 := (((((g1_F.ext E1).ext E2).keep J3 (ninS (own_ne (Nat.lt_of_lt_of_le g0_E.lt E1.1) (Nat.le_of_eq z2.symm)) nin0)).ext E5).keep J8 (ninS (own_ne (Nat.lt_of_lt_of_le g0_E.lt E1.1) (Nat.le_of_eq z2.symm)) (ninS (own_ne (Nat.lt_of_lt_of_le (Nat.lt_of_lt_of_le g0_E.lt E1.1) E2.1) y3_0) nin0)))
  have f17 := (((((g2_F.ext E1).ext E2).keep J3 (ninS (own_ne (Nat.lt_of_lt_of_le g0_E.lt E1.1) (Nat.le_of_eq z2.symm)) nin0)).ext E5).keep J8 (ninS (own_ne (Nat.lt_of_lt_of_le g0_E.lt E1.1) (Nat.le_of_eq z2.symm)) (ninS (own_ne (Nat.lt_of_lt_of_le (Nat.lt_of_lt_of_le g0_E.lt E1.1) E2.1) y3_0) nin0)))
  have f18 := (((((g3_V.ext E1).ext E2).keep J3 (ninS (own_ne (Nat.lt_of_lt_of_le g3_V.lt E1.1) (Nat.le_of_eq z2.symm)) nin0)).ext E5).keep J8 (ninS (own_ne (Nat.lt_of_lt_of_le g3_V.lt E1.1) (Nat.le_of_eq z2.symm)) (ninS (own_ne (Nat.lt_of_lt_of_le (Nat.lt_of_lt_of_le g3_V.lt E1.1) E2.1) y3_0) nin0)))
  refine own_callV (C := "java/lang/StringBuilder") X8 hx hZ5 hG hown5 (ow hw 72 rfl) (ow hw 73 rfl) (ow hw 75 rfl) (ow hw 74 rfl) (ow hw 53 rfl) (ow hw 76 rfl) (by decide) 3 (own_sba15_1 l Z a0 hw a t kt bs0 b2 d_3 kd_3 (98 : Int32) (101 : Int32) (97 : Int32) (109 : Int32) (108 : Int32) (105 : Int32) (110 : Int32) (101 : Int32) (45 : Int32) (97 : Int32) (100 : Int32) (109 : Int32) (105 : Int32) (110 : Int32) (32 : Int32) (0 : Int32) cpt h8 O8 f15 f16 f17 f18 g4_S g5_hcpt r8_0 (own_ge O1 (Nat.le_of_eq z2.symm)) r8_1 r8_2 r8_3 r8_4 (own_ge O2 y3_0) (own_ne (Nat.lt_of_lt_of_le (Nat.lt_of_lt_of_le g0_E.lt E1.1) E2.1) y3_0) (own_ne (Nat.lt_of_lt_of_le (Nat.lt_of_lt_of_le g3_V.lt E1.1) E2.1) y3_0) (own_ne (Nat.lt_of_lt_of_le g0_E.lt E1.1) (Nat.le_of_eq z2.symm)) (own_ne (Nat.lt_of_lt_of_le g3_V.lt E1.1) (Nat.le_of_eq z2.symm)) (own_ne A2.lt y3_0)) (by decide) (by decide) e8 r8_0 (by rw [hml]; rfl) (lenOf own_pd21 rfl) (argsL := [(.ref a)]) (rest := [(.int 1), (.ref b1), (.ref b1)]) rfl rfl (Nat.le_of_eq rfl) (hb hby d11_18) (by decide) (by decide) ?_
  intro T14 h14 v14 L14 X14 e14 q14
  obtain ⟨rfl, M14, J14, r14_0, r14_1, r14_2, r14_3, r14_4⟩ := q14
  have N14 := Fr.app N8 M14
  have sf19 := (R8.safe f13.lt sf7)
  have sf20 := (R8.safe f9.lt sf6)
  have R14 := (CHr.keep J14 (allS sf20 (allS sf19 all0)) R8.1)
  have C14 := C8.trans R14
  have K14 : Keep h0 h14 [] := K8.trans J14 (allS (Or.inr (Nat.le_trans K1.1 (Nat.le_of_eq z2.symm))) (allS (Or.inr (Nat.le_trans K2.1 y3_0)) all0))
  have O14 : own_Old Z h14 := O8.keep J14 (allS (own_ge O1 (Nat.le_of_eq z2.symm)) (allS (own_ge O2 y3_0) all0))
  show G (T14.setTop (mkF m 21 #[.val (.ref a)] [(.ref b2), (.int 1), (.ref b1), (.ref b1)]))
  have f22 := (((r3_4.ext E5).keep J8).keep J14)
  refine own_callV (C := "java/lang/StringBuilder") X14 hx hZ5 hG hown5 (ow hw 119 rfl) (ow hw 120 rfl) (ow hw 122 rfl) (ow hw 121 rfl) (ow hw 53 rfl) (ow hw 123 rfl) (by decide) 3 (own_sbt16_16 l Z a0 hw b2 d_3 kd_3 (98 : Int32) (101 : Int32) (97 : Int32) (109 : Int32) (108 : Int32) (105 : Int32) (110 : Int32) (101 : Int32) (45 : Int32) (97 : Int32) (100 : Int32) (109 : Int32) (105 : Int32) (110 : Int32) (32 : Int32) bs0 cpt h14 O14 r14_0 r14_1 r14_2 r14_3 f22 r14_4 g4_S g5_hcpt) (by decide) (by decide) e14 r14_0 (by rw [hml]; rfl) (lenOf own_pd27 rfl) (argsL := []) (rest := [(.int 1), (.ref b1), (.ref b1)]) rfl rfl (Nat.le_of_eq rfl) (hb hby d11_21) (by decide) (by decide) ?_
  intro T21 h21 v21 L21 X21 e21 q21
  obtain ⟨a_21, u_21, ku_21, rfl, M21, J21, y21_0, y21_1, r21_0, r21_1, r21_2, r21_3⟩ := q21
  have N21 := Fr.app N14 M21
  have R21 := (CHr.keep J21 all0 R14.1)
  have C21 := C14.trans R21
  have K21 : Keep h0 h21 [] := K14.trans J21 all0
  have O21 : own_Old Z h21 := O14.keep J21 all0
  show G (T21.setTop (mkF m 24 #[.val (.ref a)] [(.ref a_21), (.int 1), (.ref b1), (.ref b1)]))
  have f24 := ((((((A1.ext E2).keep J3).ext E5).keep J8).keep J14).keep J21)
  have f25 := (((((((D1 (Or.inr (ow hw 172 rfl)) (ty := .boolean) (by decide)).ext E2).keep J3 (ninS (own_ne A1.lt (Nat.le_of_eq z2.symm)) nin0)).ext E5).keep J8 (ninS (own_ne A1.lt (Nat.le_of_eq z2.symm)) (ninS (own_ne (Nat.lt_of_lt_of_le A1.lt E2.1) y3_0) nin0))).keep J14 (ninS (own_ne A1.lt (Nat.le_of_eq z2.symm)) (ninS (own_ne (Nat.lt_of_lt_of_le A1.lt E2.1) y3_0) nin0))).keep J21 nin0)
  have f26 := (((((((D1 (Or.inr (ow hw 174 rfl)) (ty := (.object "java/lang/String")) (by decide)).ext E2).keep J3 (ninS (own_ne A1.lt (Nat.le_of_eq z2.symm)) nin0)).ext E5).keep J8 (ninS (own_ne A1.lt (Nat.le_of_eq z2.symm)) (ninS (own_ne (Nat.lt_of_lt_of_le A1.lt E2.1) y3_0) nin0))).keep J14 (ninS (own_ne A1.lt (Nat.le_of_eq z2.symm)) (ninS (own_ne (Nat.lt_of_lt_of_le A1.lt E2.1) y3_0) nin0))).keep J21 nin0)
  refine own_callI X21 hx hZ5 hG hown5 rfl (ow hw 162 rfl) (ow hw 163 rfl) (ow hw 47 rfl) (ow hw 164 rfl) (by decide) 1 (own_finit l Z a0 hw b1 (1 : Int32) (.ref a_21) (.int 0) .null h21 O21 rfl f24 (own_ge O0 (Nat.le_of_eq z1.symm)) f25 f26) (by decide) (by decide) e21 (by rw [hml]; rfl) (lenOf own_pd31 rfl) (argsL := [(.int 1), (.ref a_21)]) (rest := [(.ref b1)]) rfl rfl (Nat.le_of_eq rfl) (hb hby d11_24) (by decide) (by decide) ?_
  intro T23 h23 v23 L23 X23 e23 q23
  obtain ⟨rfl, M23, J23, r23_0, r23_1, r23_2⟩ := q23
  have N23 := Fr.app N21 M23
  have sf27 : Safe Z consts_1 _ h21 b1 := (Safe.exa hZ5.alike f24 (by decide) (by decide))
  have R23 := (CHr.keep J23 (allS sf27 all0) R21.1)
  have C23 := C21.trans R23
  have K23 : Keep h0 h23 [] := K21.trans J23 (allS (Or.inr (Nat.le_trans (Keep.refl h0 []).1 (Nat.le_of_eq z1.symm))) all0)
  have O23 : own_Old Z h23 := O21.keep J23 (allS (own_ge O0 (Nat.le_of_eq z1.symm)) all0)
  show G (T23.setTop (mkF m 27 #[.val (.ref a)] [(.ref b1)]))
  have f28 := (r21_0.keep J23)
  have f29 := (r21_1.keep J23 (ninS (Ne.symm (own_ne (Nat.lt_of_lt_of_le (Nat.lt_of_lt_of_le (Nat.lt_of_lt_of_le (Nat.lt_of_lt_of_le (Nat.lt_of_lt_of_le A1.lt E2.1) J3.1) E5.1) J8.1) J14.1) y21_0)) nin0))
  have f30 := (r21_2.keep J23 (ninS (Ne.symm (own_ne (Nat.lt_of_lt_of_le (Nat.lt_of_lt_of_le (Nat.lt_of_lt_of_le (Nat.lt_of_lt_of_le (Nat.lt_of_lt_of_le A1.lt E2.1) J3.1) E5.1) J8.1) J14.1) y21_0)) nin0))
  have f31 := (r21_3.keep J23 (ninS (Ne.symm (own_ne (Nat.lt_of_lt_of_le (Nat.lt_of_lt_of_le (Nat.lt_of_lt_of_le (Nat.lt_of_lt_of_le (Nat.lt_of_lt_of_le A1.lt E2.1) J3.1) E5.1) J8.1) J14.1) y21_1)) nin0))
  exact own_retAW hR hret rfl rfl X23 hx (hb hby d11_27) e23 SI5 (Nat.le_trans (Nat.le_trans (Nat.le_trans (Nat.le_trans hk5 R8.2.1) R14.2.1) R21.2.1) R23.2.1) hZ5 C23 (by decide) (by decide) ⟨b1, a_21, u_21, ku_21, rfl, N23, K23, (Nat.le_trans (Keep.refl h0 []).1 (Nat.le_of_eq z1.symm)), (Nat.le_trans K14.1 y21_0), (Nat.le_trans K14.1 y21_1), r23_0, r23_1, r23_2, f28, f29, f30, f31⟩
set_option maxRecDepth 65536 in
set_option maxHeartbeats 40000000 in
theorem own_ba2 (l : Launch) (Z : State) (a0 : Array Value) (hw : ∀ d ∈ tables_1, d.before a0 Z = true) (hEL : EW Z a0 consts_1) (a : Addr) (t : Addr) (kt : ClassId) (bs0 : Int32) (bs1 : Int32) (cpt : Int32) (h0 : Heap) (O0 : own_Old Z h0) (g0_E : Exa Z h0 a "java/lang/String") (g1_F : Fld Z h0 a "java/lang/String" "coder" "B" (.int 0)) (g2_F : Fld Z h0 a "java/lang/String" "value" "[B" (.ref t)) (g3_V : Arv Z h0 t kt .byte (2 : Int32) [(.int bs0), (.int bs1)] (.int 0)) (g4_S : Sta Z Z.heap "java/lang/String" "COMPACT_STRINGS" "Z" (.int cpt)) (g5_hcpt : ¬ (cpt = (0 : Int32))) :
    own_ConW l Z consts_1 (⟨"com/example/research_access_policy/researchaccesspolicy/rules/Decision", "beamlineAdmin", "(Ljava/lang/String;)Lcom/example/research_access_policy/researchaccesspolicy/rules/Decision;"⟩ : MethodName) prog_12_method_2_code 1 (some (.object "com/example/research_access_policy/researchaccesspolicy/rules/Decision")) [] ({ frames := 6, cells := 8, slots := 141, locals := 116 } : Room) #[(.ref a)] h0 (fun rv rh rL => ∃ (q : Addr) (r : Addr) (u : Addr) (ku : ClassId), rv = some (.ref q) ∧ own_Fr Z rL ∧ Keep h0 rh [] ∧ h0.size ≤ q ∧ h0.size ≤ r ∧ h0.size ≤ u ∧ (Exa Z rh q "com/example/research_access_policy/researchaccesspolicy/rules/Decision") ∧ (Fld Z rh q "com/example/research_access_policy/researchaccesspolicy/rules/Decision" "allowed" "Z" (.int (nar .boolean (1 : Int32)))) ∧ (Fld Z rh q "com/example/research_access_policy/researchaccesspolicy/rules/Decision" "reason" "Ljava/lang/String;" (.ref r)) ∧ (Exa Z rh r "java/lang/String") ∧ (Fld Z rh r "java/lang/String" "coder" "B" (.int 0)) ∧ (Fld Z rh r "java/lang/String" "value" "[B" (.ref u)) ∧ (Arv Z rh u ku .byte (17 : Int32) [(.int 98), (.int 101), (.int 97), (.int 109), (.int 108), (.int 105), (.int 110), (.int 101), (.int 45), (.int 97), (.int 100), (.int 109), (.int 105), (.int 110), (.int 32), (.int bs0), (.int bs1)] (.int 0))) := by
  refine own_introW hEL (plainFor_of_name (by first | (simp [plainName, overriddenIn]; done) | decide +kernel)) ?_
  intro p e s m below meth c s₁ G hx hby hml hown hnm hret hZ X0 e0 H0 SI0 hG hR
  have N0 := Fr.nil Z.heap.size
  refine own_entry (Ls := #[.val (.ref a)]) (by first | (simp [entryFrame, mkF, argsToLocals, Value.category]; done) | rfl) ?_
  show G (s₁.setTop (mkF m 0 #[.val (.ref a)] []))
  obtain ⟨T1, h1, X1, e1, E1, A1, D1, -, st1⟩ := newO X0 hx hZ hown (ow hw 49 rfl) (ow hw 50 rfl) (ow hw 47 rfl) e0 (g := (mkF m 0 #[.val (.ref a)] [])) rfl (hb hby d11_0) (by decide) (by decide)
  obtain ⟨b1, z1⟩ : ∃ z, z = h0.size := ⟨_, rfl⟩
  rw [← z1] at A1 D1 st1
  refine hG _ _ st1 ?_
  have R1 := (CHr.ext E1 H0)
  have C1 := (CHr.refl H0).trans R1
  have K1 : Keep h0 h1 [] := (Keep.refl h0 []).ext E1
  have O1 : own_Old Z h1 := O0.ext E1
  refine hG _ _ (fun t_ k_ => XS.dup X1.here hx rfl (hb hby d11_3) rfl rfl k_) ?_
  refine hG _ _ (fun t_ k_ => XS.iconst X1.here hx rfl (hb hby d11_4) k_) ?_
  obtain ⟨T2, h2, X2, e2, E2, A2, D2, -, st2⟩ := newO X1 hx hZ hown (ow hw 51 rfl) (ow hw 52 rfl) (ow hw 53 rfl) e1 (g := (mkF m 5 #[.val (.ref a)] [(.int 1), (.ref b1), (.ref b1)])) rfl (hb hby d11_5) (by decide) (by decide)
  obtain ⟨b2, z2⟩ : ∃ z, z = h1.size := ⟨_, rfl⟩
  rw [← z2] at A2 D2 st2
  refine hG _ _ st2 ?_
  have R2 := (CHr.ext E2 R1.1)
  have C2 := C1.trans R2
  have K2 : Keep h0 h2 [] := K1.ext E2
  have O2 : own_Old Z h2 := O1.ext E2
  refine hG _ _ (fun t_ k_ => XS.dup X2.here hx rfl (hb hby d11_8) rfl rfl k_) ?_
  show G (T2.setTop (mkF m 9 #[.val (.ref a)] [(.ref b2), (.ref b2), (.int 1), (.ref b1), (.ref b1)]))
  refine own_callI X2 hx hZ hG hown rfl (ow hw 54 rfl) (ow hw 55 rfl) (ow hw 53 rfl) (ow hw 56 rfl) (by decide) 4 (own_sbi l Z a0 hw b2 cpt .null (.int 0) (.int 0) h2 O2 A2 (own_ge O1 (Nat.le_of_eq z2.symm)) (D2 (Or.inl (ow hw 66 rfl)) (ty := (.array .byte)) (by decide)) (D2 (Or.inl (ow hw 68 rfl)) (ty := .byte) (by decide)) (D2 (Or.inl (ow hw 93 rfl)) (ty := .int) (by decide)) g4_S g5_hcpt) (by decide) (by decide) e2 (by rw [hml]; rfl) (lenOf own_pd0 rfl) (argsL := []) (rest := [(.ref b2), (.int 1), (.ref b1), (.ref b1)]) rfl rfl (Nat.le_of_eq rfl) (hb hby d11_9) (by decide) (by decide) ?_
  intro T3 h3 v3 L3 X3 e3 q3
  obtain ⟨d_3, kd_3, rfl, M3, J3, y3_0, r3_0, r3_1, r3_2, r3_3, r3_4, r3_5⟩ := q3
  have N3 := Fr.app N0 M3
  have sf4 : Safe Z consts_1 _ h2 b2 := (Safe.exa hZ.alike A2 (by decide) (by decide))
  have R3 := (CHr.keep J3 (allS sf4 all0) R2.1)
  have C3 := C2.trans R3
  have K3 : Keep h0 h3 [] := K2.trans J3 (allS (Or.inr (Nat.le_trans K1.1 (Nat.le_of_eq z2.symm))) all0)
  have O3 : own_Old Z h3 := O2.keep J3 (allS (own_ge O1 (Nat.le_of_eq z2.symm)) all0)
  obtain ⟨a5, T5, h5, k5, b5, kc5, X5, e5, E5, SI5, hk5, hZ5, hown5, Ea5, Fc5, Fv5, V5, la5, lb5, Y5, Li5, Nq5, st5⟩ := ldcCH X3 hx hZ hown (ow hw 69 rfl) (own_wS hw) e3 SI0 (Nat.le_trans (Nat.le_trans (Nat.le_trans (Nat.le_refl _) R1.2.1) R2.2.1) R3.2.1) hEL (List.mem_of_getElem? (i := 0) rfl) R3.1 (vs := [(.int 98), (.int 101), (.int 97), (.int 109), (.int 108), (.int 105), (.int 110), (.int 101), (.int 45), (.int 97), (.int 100), (.int 109), (.int 105), (.int 110), (.int 32)]) (z := (15 : Int32)) ⟨by decide, by decide⟩ (by decide) rfl (g := (mkF m 12 #[.val (.ref a)] [(.ref b2), (.int 1), (.ref b1), (.ref b1)])) rfl (hb hby d11_12) (n := 60) (by decide) (by decide) (by decide) (by decide)
  refine hG _ _ st5 ?_
  have R5 := Y5
  have C5 := C3.trans R5
  have K5 : Keep h0 h5 [] := K3.ext E5
  have O5 : own_Old Z h5 := O3.ext E5
  show G (T5.setTop (mkF m 14 #[.val (.ref a)] [(.ref a5), (.ref b2), (.int 1), (.ref b1), (.ref b1)]))
  have sf6 := (R5.safe r3_0.lt (R3.safe A2.lt sf4))
  have sf7 : Safe Z consts_1 _ h5 d_3 := (R5.safe r3_4.lt (Safe.keep J3 (allS sf4 all0) R2.1 (Safe.new y3_0)))
  have f9 := (r3_0.ext E5)
  have f10 := (r3_1.ext E5)
  have f11 := (r3_2.ext E5)
  have f12 := (r3_3.ext E5)
  have f13 := (r3_5.ext E5)
  refine own_callV (C := "java/lang/StringBuilder") X5 hx hZ5 hG hown5 (ow hw 72 rfl) (ow hw 73 rfl) (ow hw 75 rfl) (ow hw 74 rfl) (ow hw 53 rfl) (ow hw 76 rfl) (by decide) 3 (own_sba0_15 l Z a0 hw a5 b5 kc5 (98 : Int32) (101 : Int32) (97 : Int32) (109 : Int32) (108 : Int32) (105 : Int32) (110 : Int32) (101 : Int32) (45 : Int32) (97 : Int32) (100 : Int32) (109 : Int32) (105 : Int32) (110 : Int32) (32 : Int32) b2 d_3 kd_3 (0 : Int32) (0 : Int32) (0 : Int32) (0 : Int32) (0 : Int32) (0 : Int32) (0 : Int32) (0 : Int32) (0 : Int32) (0 : Int32) (0 : Int32) (0 : Int32) (0 : Int32) (0 : Int32) (0 : Int32) (0 : Int32) cpt h5 O5 Ea5 Fc5 Fv5 V5 g4_S g5_hcpt f9 (own_ge O1 (Nat.le_of_eq z2.symm)) f10 f11 f12 f13 (own_ge O2 y3_0) (Ne.symm (Nq5 d_3 sf7).1) (Ne.symm (Nq5 d_3 sf7).2) (Ne.symm (Nq5 b2 sf6).1) (Ne.symm (Nq5 b2 sf6).2) (own_ne A2.lt y3_0)) (by decide) (by decide) e5 f9 (by rw [hml]; rfl) (lenOf own_pd21 rfl) (argsL := [(.ref a5)]) (rest := [(.int 1), (.ref b1), (.ref b1)]) rfl rfl (Nat.le_of_eq rfl) (hb hby d11_14) (by decide) (by decide) ?_
  intro T8 h8 v8 L8 X8 e8 q8
  obtain ⟨rfl, M8, J8, r8_0, r8_1, r8_2, r8_3, r8_4⟩ := q8
  have N8 := Fr.app N3 M8
  have R8 := (CHr.keep J8 (allS sf6 (allS sf7 all0)) R5.1)
  have C8 := C5.trans R8
  have K8 : Keep h0 h8 [] := K5.trans J8 (allS (Or.inr (Nat.le_trans K1.1 (Nat.le_of_eq z2.symm))) (allS (Or.inr (Nat.le_trans K2.1 y3_0)) all0))
  have O8 : own_Old Z h8 := O5.keep J8 (allS (own_ge O1 (Nat.le_of_eq z2.symm)) (allS (own_ge O2 y3_0) all0))
  refine hG _ _ (fun t_ k_ => XS.aloadN X8.here hx rfl (hb hby d11_17) rfl rfl k_) ?_
  show G (T8.setTop (mkF m 18 #[.val (.ref a)] [(.ref a), (.ref b2), (.int 1), (.ref b1), (.ref b1)]))
  have f15 := (((((g0_E.ext E1).ext E2).keep J3).ext E5).keep J8)
  have f16 := (((((g1_F.ext E1).ext E2).keep J3 (ninS (own_ne (Nat.lt_of_lt_of_le g0_E.lt E1.1) (Nat.le_of_eq z2.symm)) nin0)).ext E5).keep J8 (ninS (own_ne (Nat.lt_of_lt_of_le g0_E.lt E1.1) (Nat.le_of_eq z2.symm)) (ninS (own_ne (Nat.lt_of_lt_of_le (Nat.lt_of_lt_of_le g0_E.lt E1.1) E2.1) y3_0) nin0)))
  have f17 := (((((g2_F.ext E1).ext E2).keep J3 (ninS (own_ne (Nat.lt_of_lt_of_le g0_E.lt E1.1) (Nat.le_of_eq z2.symm)) nin0)).ext E5).keep J8 (ninS (own_ne (Nat.lt_of_lt_of_le g0_E.lt E1.1) (Nat.le_of_eq z2.symm)) (ninS (own_ne (Nat.lt_of_lt_of_le (Nat.lt_of_lt_of_le g0_E.lt E1.1) E2.1) y3_0) nin0)))
  have f18 := (((((g3_V.ext E1).ext E2).keep J3 (ninS (own_ne (Nat.lt_of_lt_of_le g3_V.lt E1.1) (Nat.le_of_eq z2.symm)) nin0)).ext E5).keep J8 (ninS (own_ne (Nat.lt_of_lt_of_le g3_V.lt E1.1) (Nat.le_of_eq z2.symm)) (ninS (own_ne (Nat.lt_of_lt_of_le (Nat.lt_of_lt_of_le g3_V.lt E1.1) E2.1) y3_0) nin0)))
  refine own_callV (C := "java/lang/StringBuilder") X8 hx hZ5 hG hown5 (ow hw 72 rfl) (ow hw 73 rfl) (ow hw 75 rfl) (ow hw 74 rfl) (ow hw 53 rfl) (ow hw 76 rfl) (by decide) 3 (own_sba15_2 l Z a0 hw a t kt bs0 bs1 b2 d_3 kd_3 (98 : Int32) (101 : Int32) (97 : Int32) (109 : Int32) (108 : Int32) (105 : Int32) (110 : Int32) (101 : Int32) (45 : Int32) (97 : Int32) (100 : Int32) (109 : Int32) (105 : Int32) (110 : Int32) (32 : Int32) (0 : Int32) cpt h8 O8 f15 f16 f17 f18 g4_S g5_hcpt r8_0 (own_ge O1 (Nat.le_of_eq z2.symm)) r8_1 r8_2 r8_3 r8_4 (own_ge O2 y3_0) (own_ne (Nat.lt_of_lt_of_le (Nat.lt_of_lt_of_le g0_E.lt E1.1) E2.1) y3_0) (own_ne (Nat.lt_of_lt_of_le (Nat.lt_of_lt_of_le g3_V.lt E1.1) E2.1) y3_0) (own_ne (Nat.lt_of_lt_of_le g0_E.lt E1.1) (Nat.le_of_eq z2.symm)) (own_ne (Nat.lt_of_lt_of_le g3_V.lt E1.1) (Nat.le_of_eq z2.symm)) (own_ne A2.lt y3_0)) (by decide) (by decide) e8 r8_0 (by rw [hml]; rfl) (lenOf own_pd21 rfl) (argsL := [(.ref a)]) (rest := [(.int 1), (.ref b1), (.ref b1)]) rfl rfl (Nat.le_of_eq rfl) (hb hby d11_18) (by decide) (by decide) ?_
  intro T14 h14 v14 L14 X14 e14 q14
  obtain ⟨u_14, ku_14, rfl, M14, J14, y14_0, r14_0, r14_1, r14_2, r14_3, r14_4⟩ := q14
  have N14 := Fr.app N8 M14
  have sf19 := (R8.safe f9.lt sf6)
  have R14 := (CHr.keep J14 (allS sf19 all0) R8.1)
  have C14 := C8.trans R14
  have K14 : Keep h0 h14 [] := K8.trans J14 (allS (Or.inr (Nat.le_trans K1.1 (Nat.le_of_eq z2.symm))) all0)
  have O14 : own_Old Z h14 := O8.keep J14 (allS (own_ge O1 (Nat.le_of_eq z2.symm)) all0)
  show G (T14.setTop (mkF m 21 #[.val (.ref a)] [(.ref b2), (.int 1), (.ref b1), (.ref b1)]))
  refine own_callV (C := "java/lang/StringBuilder") X14 hx hZ5 hG hown5 (ow hw 119 rfl) (ow hw 120 rfl) (ow hw 122 rfl) (ow hw 121 rfl) (ow hw 53 rfl) (ow hw 123 rfl) (by decide) 3 (own_sbt34_17 l Z a0 hw b2 u_14 ku_14 (98 : Int32) (101 : Int32) (97 : Int32) (109 : Int32) (108 : Int32) (105 : Int32) (110 : Int32) (101 : Int32) (45 : Int32) (97 : Int32) (100 : Int32) (109 : Int32) (105 : Int32) (110 : Int32) (32 : Int32) bs0 bs1 (0 : Int32) (0 : Int32) (0 : Int32) (0 : Int32) (0 : Int32) (0 : Int32) (0 : Int32) (0 : Int32) (0 : Int32) (0 : Int32) (0 : Int32) (0 : Int32) (0 : Int32) (0 : Int32) (0 : Int32) (0 : Int32) (0 : Int32) cpt h14 O14 r14_0 r14_1 r14_2 r14_3 r14_4 g4_S g5_hcpt) (by decide) (by decide) e14 r14_0 (by rw [hml]; rfl) (lenOf own_pd27 rfl) (argsL := []) (rest := [(.int 1), (.ref b1), (.ref b1)]) rfl rfl (Nat.le_of_eq rfl) (hb hby d11_21) (by decide) (by decide) ?_
  intro T20 h20 v20 L20 X20 e20 q20
  obtain ⟨a_20, u_20, ku_20, rfl, M20, J20, y20_0, y20_1, r20_0, r20_1, r20_2, r20_3⟩ := q20
  have N20 := Fr.app N14 M20
  have R20 := (CHr.keep J20 all0 R14.1)
  have C20 := C14.trans R20
  have K20 : Keep h0 h20 [] := K14.trans J20 all0
  have O20 : own_Old Z h20 := O14.keep J20 all0
  show G (T20.setTop (mkF m 24 #[.val (.ref a)] [(.ref a_20), (.int 1), (.ref b1), (.ref b1)]))
  have f22 := ((((((A1.ext E2).keep J3).ext E5).keep J8).keep J14).keep J20)
  have f23 := (((((((D1 (Or.inr (ow hw 172 rfl)) (ty := .boolean) (by decide)).ext E2).keep J3 (ninS (own_ne A1.lt (Nat.le_of_eq z2.symm)) nin0)).ext E5).keep J8 (ninS (own_ne A1.lt (Nat.le_of_eq z2.symm)) (ninS (own_ne (Nat.lt_of_lt_of_le A1.lt E2.1) y3_0) nin0))).keep J14 (ninS (own_ne A1.lt (Nat.le_of_eq z2.symm)) nin0)).keep J20 nin0)
  have f24 := (((((((D1 (Or.inr (ow hw 174 rfl)) (ty := (.object "java/lang/String")) (by decide)).ext E2).keep J3 (ninS (own_ne A1.lt (Nat.le_of_eq z2.symm)) nin0)).ext E5).keep J8 (ninS (own_ne A1.lt (Nat.le_of_eq z2.symm)) (ninS (own_ne (Nat.lt_of_lt_of_le A1.lt E2.1) y3_0) nin0))).keep J14 (ninS (own_ne A1.lt (Nat.le_of_eq z2.symm)) nin0)).keep J20 nin0)
  refine own_callI X20 hx hZ5 hG hown5 rfl (ow hw 162 rfl) (ow hw 163 rfl) (ow hw 47 rfl) (ow hw 164 rfl) (by decide) 1 (own_finit l Z a0 hw b1 (1 : Int32) (.ref a_20) (.int 0) .null h20 O20 rfl f22 (own_ge O0 (Nat.le_of_eq z1.symm)) f23 f24) (by decide) (by decide) e20 (by rw [hml]; rfl) (lenOf own_pd31 rfl) (argsL := [(.int 1), (.ref a_20)]) (rest := [(.ref b1)]) rfl rfl (Nat.le_of_eq rfl) (hb hby d11_24) (by decide) (by decide) ?_
  intro T21 h21 v21 L21 X21 e21 q21
  obtain ⟨rfl, M21, J21, r21_0, r21_1, r21_2⟩ := q21
  have N21 := Fr.app N20 M21
  have sf25 : Safe Z consts_1 _ h20 b1 := (Safe.exa hZ5.alike f22 (by decide) (by decide))
  have R21 := (CHr.keep J21 (allS sf25 all0) R20.1)
  have C21 := C20.trans R21
  have K21 : Keep h0 h21 [] := K20.trans J21 (allS (Or.inr (Nat.le_trans (Keep.refl h0 []).1 (Nat.le_of_eq z1.symm))) all0)
  have O21 : own_Old Z h21 := O20.keep J21 (allS (own_ge O0 (Nat.le_of_eq z1.symm)) all0)
  show G (T21.setTop (mkF m 27 #[.val (.ref a)] [(.ref b1)]))
  have f26 := (r20_0.keep J21)
  have f27 := (r20_1.keep J21 (ninS (Ne.symm (own_ne (Nat.lt_of_lt_of_le (Nat.lt_of_lt_of_le (Nat.lt_of_lt_of_le (Nat.lt_of_lt_of_le (Nat.lt_of_lt_of_le A1.lt E2.1) J3.1) E5.1) J8.1) J14.1) y20_0)) nin0))
  have f28 := (r20_2.keep J21 (ninS (Ne.symm (own_ne (Nat.lt_of_lt_of_le (Nat.lt_of_lt_of_le (Nat.lt_of_lt_of_le (Nat.lt_of_lt_of_le (Nat.lt_of_lt_of_le A1.lt E2.1) J3.1) E5.1) J8.1) J14.1) y20_0)) nin0))
  have f29 := (r20_3.keep J21 (ninS (Ne.symm (own_ne (Nat.lt_of_lt_of_le (Nat.lt_of_lt_of_le (Nat.lt_of_lt_of_le (Nat.lt_of_lt_of_le (Nat.lt_of_lt_of_le A1.lt E2.1) J3.1) E5.1) J8.1) J14.1) y20_1)) nin0))
  exact own_retAW hR hret rfl rfl X21 hx (hb hby d11_27) e21 SI5 (Nat.le_trans (Nat.le_trans (Nat.le_trans (Nat.le_trans hk5 R8.2.1) R14.2.1) R20.2.1) R21.2.1) hZ5 C21 (by decide) (by decide) ⟨b1, a_20, u_20, ku_20, rfl, N21, K21, (Nat.le_trans (Keep.refl h0 []).1 (Nat.le_of_eq z1.symm)), (Nat.le_trans K14.1 y20_0), (Nat.le_trans K14.1 y20_1), r21_0, r21_1, r21_2, f26, f27, f28, f29⟩
set_option maxRecDepth 65536 in
set_option maxHeartbeats 40000000 in
theorem own_ba3 (l : Launch) (Z : State) (a0 : Array Value) (hw : ∀ d ∈ tables_1, d.before a0 Z = true) (hEL : EW Z a0 consts_1) (a : Addr) (t : Addr) (kt : ClassId) (bs0 : Int32) (bs1 : Int32) (bs2 : Int32) (cpt : Int32) (h0 : Heap) (O0 : own_Old Z h0) (g0_E : Exa Z h0 a "java/lang/String") (g1_F : Fld Z h0 a "java/lang/String" "coder" "B" (.int 0)) (g2_F : Fld Z h0 a "java/lang/String" "value" "[B" (.ref t)) (g3_V : Arv Z h0 t kt .byte (3 : Int32) [(.int bs0), (.int bs1), (.int bs2)] (.int 0)) (g4_S : Sta Z Z.heap "java/lang/String" "COMPACT_STRINGS" "Z" (.int cpt)) (g5_hcpt : ¬ (cpt = (0 : Int32))) :
    own_ConW l Z consts_1 (⟨"com/example/research_access_policy/researchaccesspolicy/rules/Decision", "beamlineAdmin", "(Ljava/lang/String;)Lcom/example/research_access_policy/researchaccesspolicy/rules/Decision;"⟩ : MethodName) prog_12_method_2_code 1 (some (.object "com/example/research_access_policy/researchaccesspolicy/rules/Decision")) [] ({ frames := 6, cells := 8, slots := 142, locals := 116 } : Room) #[(.ref a)] h0 (fun rv rh rL => ∃ (q : Addr) (r : Addr) (u : Addr) (ku : ClassId), rv = some (.ref q) ∧ own_Fr Z rL ∧ Keep h0 rh [] ∧ h0.size ≤ q ∧ h0.size ≤ r ∧ h0.size ≤ u ∧ (Exa Z rh q "com/example/research_access_policy/researchaccesspolicy/rules/Decision") ∧ (Fld Z rh q "com/example/research_access_policy/researchaccesspolicy/rules/Decision" "allowed" "Z" (.int (nar .boolean (1 : Int32)))) ∧ (Fld Z rh q "com/example/research_access_policy/researchaccesspolicy/rules/Decision" "reason" "Ljava/lang/String;" (.ref r)) ∧ (Exa Z rh r "java/lang/String") ∧ (Fld Z rh r "java/lang/String" "coder" "B" (.int 0)) ∧ (Fld Z rh r "java/lang/String" "value" "[B" (.ref u)) ∧ (Arv Z rh u ku .byte (18 : Int32) [(.int 98), (.int 101), (.int 97), (.int 109), (.int 108), (.int 105), (.int 110), (.int 101), (.int 45), (.int 97), (.int 100), (.int 109), (.int 105), (.int 110), (.int 32), (.int bs0), (.int bs1), (.int bs2)] (.int 0))) := by
  refine own_introW hEL (plainFor_of_name (by first | (simp [plainName, overriddenIn]; done) | decide +kernel)) ?_
  intro p e s m below meth c s₁ G hx hby hml hown hnm hret hZ X0 e0 H0 SI0 hG hR
  have N0 := Fr.nil Z.heap.size
  refine own_entry (Ls := #[.val (.ref a)]) (by first | (simp [entryFrame, mkF, argsToLocals, Value.category]; done) | rfl) ?_
  show G (s₁.setTop (mkF m 0 #[.val (.ref a)] []))
  obtain ⟨T1, h1, X1, e1, E1, A1, D1, -, st1⟩ := newO X0 hx hZ hown (ow hw 49 rfl) (ow hw 50 rfl) (ow hw 47 rfl) e0 (g := (mkF m 0 #[.val (.ref a)] [])) rfl (hb hby d11_0) (by decide) (by decide)
  obtain ⟨b1, z1⟩ : ∃ z, z = h0.size := ⟨_, rfl⟩
  rw [← z1] at A1 D1 st1
  refine hG _ _ st1 ?_
  have R1 := (CHr.ext E1 H0)
  have C1 := (CHr.refl H0).trans R1
  have K1 : Keep h0 h1 [] := (Keep.refl h0 []).ext E1
  have O1 : own_Old Z h1 := O0.ext E1
  refine hG _ _ (fun t_ k_ => XS.dup X1.here hx rfl (hb hby d11_3) rfl rfl k_) ?_
  refine hG _ _ (fun t_ k_ => XS.iconst X1.here hx rfl (hb hby d11_4) k_) ?_
  obtain ⟨T2, h2, X2, e2, E2, A2, D2, -, st2⟩ := newO X1 hx hZ hown (ow hw 51 rfl) (ow hw 52 rfl) (ow hw 53 rfl) e1 (g := (mkF m 5 #[.val (.ref a)] [(.int 1), (.ref b1), (.ref b1)])) rfl (hb hby d11_5) (by decide) (by decide)
  obtain ⟨b2, z2⟩ : ∃ z, z = h1.size := ⟨_, rfl⟩
  rw [← z2] at A2 D2 st2
  refine hG _ _ st2 ?_
  have R2 := (CHr.ext E2 R1.1)
  have C2 := C1.trans R2
  have K2 : Keep h0 h2 [] := K1.ext E2
  have O2 : own_Old Z h2 := O1.ext E2
  refine hG _ _ (fun t_ k_ => XS.dup X2.here hx rfl (hb hby d11_8) rfl rfl k_) ?_
  show G (T2.setTop (mkF m 9 #[.val (.ref a)] [(.ref b2), (.ref b2), (.int 1), (.ref b1), (.ref b1)]))
  refine own_callI X2 hx hZ hG hown rfl (ow hw 54 rfl) (ow hw 55 rfl) (ow hw 53 rfl) (ow hw 56 rfl) (by decide) 4 (own_sbi l Z a0 hw b2 cpt .null (.int 0) (.int 0) h2 O2 A2 (own_ge O1 (Nat.le_of_eq z2.symm)) (D2 (Or.inl (ow hw 66 rfl)) (ty := (.array .byte)) (by decide)) (D2 (Or.inl (ow hw 68 rfl)) (ty := .byte) (by decide)) (D2 (Or.inl (ow hw 93 rfl)) (ty := .int) (by decide)) g4_S g5_hcpt) (by decide) (by decide) e2 (by rw [hml]; rfl) (lenOf own_pd0 rfl) (argsL := []) (rest := [(.ref b2), (.int 1), (.ref b1), (.ref b1)]) rfl rfl (Nat.le_of_eq rfl) (hb hby d11_9) (by decide) (by decide) ?_
  intro T3 h3 v3 L3 X3 e3 q3
  obtain ⟨d_3, kd_3, rfl, M3, J3, y3_0, r3_0, r3_1, r3_2, r3_3, r3_4, r3_5⟩ := q3
  have N3 := Fr.app N0 M3
  have sf4 : Safe Z consts_1 _ h2 b2 := (Safe.exa hZ.alike A2 (by decide) (by decide))
  have R3 := (CHr.keep J3 (allS sf4 all0) R2.1)
  have C3 := C2.trans R3
  have K3 : Keep h0 h3 [] := K2.trans J3 (allS (Or.inr (Nat.le_trans K1.1 (Nat.le_of_eq z2.symm))) all0)
  have O3 : own_Old Z h3 := O2.keep J3 (allS (own_ge O1 (Nat.le_of_eq z2.symm)) all0)
  obtain ⟨a5, T5, h5, k5, b5, kc5, X5, e5, E5, SI5, hk5, hZ5, hown5, Ea5, Fc5, Fv5, V5, la5, lb5, Y5, Li5, Nq5, st5⟩ := ldcCH X3 hx hZ hown (ow hw 69 rfl) (own_wS hw) e3 SI0 (Nat.le_trans (Nat.le_trans (Nat.le_trans (Nat.le_refl _) R1.2.1) R2.2.1) R3.2.1) hEL (List.mem_of_getElem? (i := 0) rfl) R3.1 (vs := [(.int 98), (.int 101), (.int 97), (.int 109), (.int 108), (.int 105), (.int 110), (.int 101), (.int 45), (.int 97), (.int 100), (.int 109), (.int 105), (.int 110), (.int 32)]) (z := (15 : Int32)) ⟨by decide, by decide⟩ (by decide) rfl (g := (mkF m 12 #[.val (.ref a)] [(.ref b2), (.int 1), (.ref b1), (.ref b1)])) rfl (hb hby d11_12) (n := 60) (by decide) (by decide) (by decide) (by decide)
  refine hG _ _ st5 ?_
  have R5 := Y5
  have C5 := C3.trans R5
  have K5 : Keep h0 h5 [] := K3.ext E5
  have O5 : own_Old Z h5 := O3.ext E5
  show G (T5.setTop (mkF m 14 #[.val (.ref a)] [(.ref a5), (.ref b2), (.int 1), (.ref b1), (.ref b1)]))
  have sf6 := (R5.safe r3_0.lt (R3.safe A2.lt sf4))
  have sf7 : Safe Z consts_1 _ h5 d_3 := (R5.safe r3_4.lt (Safe.keep J3 (allS sf4 all0) R2.1 (Safe.new y3_0)))
  have f9 := (r3_0.ext E5)
  have f10 := (r3_1.ext E5)
  have f11 := (r3_2.ext E5)
  have f12 := (r3_3.ext E5)
  have f13 := (r3_5.ext E5)
  refine own_callV (C := "java/lang/StringBuilder") X5 hx hZ5 hG hown5 (ow hw 72 rfl) (ow hw 73 rfl) (ow hw 75 rfl) (ow hw 74 rfl) (ow hw 53 rfl) (ow hw 76 rfl) (by decide) 3 (own_sba0_15 l Z a0 hw a5 b5 kc5 (98 : Int32) (101 : Int32) (97 : Int32) (109 : Int32) (108 : Int32) (105 : Int32) (110 : Int32) (101 : Int32) (45 : Int32) (97 : Int32) (100 : Int32) (109 : Int32) (105 : Int32) (110 : Int32) (32 : Int32) b2 d_3 kd_3 (0 : Int32) (0 : Int32) (0 : Int32) (0 : Int32) (0 : Int32) (0 : Int32) (0 : Int32) (0 : Int32) (0 : Int32) (0 : Int32) (0 : Int32) (0 : Int32) (0 : Int32) (0 : Int32) (0 : Int32) (0 : Int32) cpt h5 O5 Ea5 Fc5 Fv5 V5 g4_S g5_hcpt f9 (own_ge O1 (Nat.le_of_eq z2.symm)) f10 f11 f12 f13 (own_ge O2 y3_0) (Ne.symm (Nq5 d_3 sf7).1) (Ne.symm (Nq5 d_3 sf7).2) (Ne.symm (Nq5 b2 sf6).1) (Ne.symm (Nq5 b2 sf6).2) (own_ne A2.lt y3_0)) (by decide) (by decide) e5 f9 (by rw [hml]; rfl) (lenOf own_pd21 rfl) (argsL := [(.ref a5)]) (rest := [(.int 1), (.ref b1), (.ref b1)]) rfl rfl (Nat.le_of_eq rfl) (hb hby d11_14) (by decide) (by decide) ?_
  intro T8 h8 v8 L8 X8 e8 q8
  obtain ⟨rfl, M8, J8, r8_0, r8_1, r8_2, r8_3, r8_4⟩ := q8
  have N8 := Fr.app N3 M8
  have R8 := (CHr.keep J8 (allS sf6 (allS sf7 all0)) R5.1)
  have C8 := C5.trans R8
  have K8 : Keep h0 h8 [] := K5.trans J8 (allS (Or.inr (Nat.le_trans K1.1 (Nat.le_of_eq z2.symm))) (allS (Or.inr (Nat.le_trans K2.1 y3_0)) all0))
  have O8 : own_Old Z h8 := O5.keep J8 (allS (own_ge O1 (Nat.le_of_eq z2.symm)) (allS (own_ge O2 y3_0) all0))
  refine hG _ _ (fun t_ k_ => XS.aloadN X8.here hx rfl (hb hby d11_17) rfl rfl k_) ?_
  show G (T8.setTop (mkF m 18 #[.val (.ref a)] [(.ref a), (.ref b2), (.int 1), (.ref b1), (.ref b1)]))
  have f15 := (((((g0_E.ext E1).ext E2).keep J3).ext E5).keep J8)
  have f16 := (((((g1_F.ext E1).ext E2).keep J3 (ninS (own_ne (Nat.lt_of_lt_of_le g0_E.lt E1.1) (Nat.le_of_eq z2.symm)) nin0)).ext E5).keep J8 (ninS (own_ne (Nat.lt_of_lt_of_le g0_E.lt E1.1) (Nat.le_of_eq z2.symm)) (ninS (own_ne (Nat.lt_of_lt_of_le (Nat.lt_of_lt_of_le g0_E.lt E1.1) E2.1) y3_0) nin0)))
  have f17 := (((((g2_F.ext E1).ext E2).keep J3 (ninS (own_ne (Nat.lt_of_lt_of_le g0_E.lt E1.1) (Nat.le_of_eq z2.symm)) nin0)).ext E5).keep J8 (ninS (own_ne (Nat.lt_of_lt_of_le g0_E.lt E1.1) (Nat.le_of_eq z2.symm)) (ninS (own_ne (Nat.lt_of_lt_of_le (Nat.lt_of_lt_of_le g0_E.lt E1.1) E2.1) y3_0) nin0)))
  have f18 := (((((g3_V.ext E1).ext E2).keep J3 (ninS (own_ne (Nat.lt_of_lt_of_le g3_V.lt E1.1) (Nat.le_of_eq z2.symm)) nin0)).ext E5).keep J8 (ninS (own_ne (Nat.lt_of_lt_of_le g3_V.lt E1.1) (Nat.le_of_eq z2.symm)) (ninS (own_ne (Nat.lt_of_lt_of_le (Nat.lt_of_lt_of_le g3_V.lt E1.1) E2.1) y3_0) nin0)))
  refine own_callV (C := "java/lang/StringBuilder") X8 hx hZ5 hG hown5 (ow hw 72 rfl) (ow hw 73 rfl) (ow hw 75 rfl) (ow hw 74 rfl) (ow hw 53 rfl) (ow hw 76 rfl) (by decide) 3 (own_sba15_3 l Z a0 hw a t kt bs0 bs1 bs2 b2 d_3 kd_3 (98 : Int32) (101 : Int32) (97 : Int32) (109 : Int32) (108 : Int32) (105 : Int32) (110 : Int32) (101 : Int32) (45 : Int32) (97 : Int32) (100 : Int32) (109 : Int32) (105 : Int32) (110 : Int32) (32 : Int32) (0 : Int32) cpt h8 O8 f15 f16 f17 f18 g4_S g5_hcpt r8_0 (own_ge O1 (Nat.le_of_eq z2.symm)) r8_1 r8_2 r8_3 r8_4 (own_ge O2 y3_0) (own_ne (Nat.lt_of_lt_of_le (Nat.lt_of_lt_of_le g0_E.lt E1.1) E2.1) y3_0) (own_ne (Nat.lt_of_lt_of_le (Nat.lt_of_lt_of_le g3_V.lt E1.1) E2.1) y3_0) (own_ne (Nat.lt_of_lt_of_le g0_E.lt E1.1) (Nat.le_of_eq z2.symm)) (own_ne (Nat.lt_of_lt_of_le g3_V.lt E1.1) (Nat.le_of_eq z2.symm)) (own_ne A2.lt y3_0)) (by decide) (by decide) e8 r8_0 (by rw [hml]; rfl) (lenOf own_pd21 rfl) (argsL := [(.ref a)]) (rest := [(.int 1), (.ref b1), (.ref b1)]) rfl rfl (Nat.le_of_eq rfl) (hb hby d11_18) (by decide) (by decide) ?_
  intro T14 h14 v14 L14 X14 e14 q14
  obtain ⟨u_14, ku_14, rfl, M14, J14, y14_0, r14_0, r14_1, r14_2, r14_3, r14_4⟩ := q14
  have N14 := Fr.app N8 M14
  have sf19 := (R8.safe f9.lt sf6)
  have R14 := (CHr.keep J14 (allS sf19 all0) R8.1)
  have C14 := C8.trans R14
  have K14 : Keep h0 h14 [] := K8.trans J14 (allS (Or.inr (Nat.le_trans K1.1 (Nat.le_of_eq z2.symm))) all0)
  have O14 : own_Old Z h14 := O8.keep J14 (allS (own_ge O1 (Nat.le_of_eq z2.symm)) all0)
  show G (T14.setTop (mkF m 21 #[.val (.ref a)] [(.ref b2), (.int 1), (.ref b1), (.ref b1)]))
  refine own_callV (C := "java/lang/StringBuilder") X14 hx hZ5 hG hown5 (ow hw 119 rfl) (ow hw 120 rfl) (ow hw 122 rfl) (ow hw 121 rfl) (ow hw 53 rfl) (ow hw 123 rfl) (by decide) 3 (own_sbt34_18 l Z a0 hw b2 u_14 ku_14 (98 : Int32) (101 : Int32) (97 : Int32) (109 : Int32) (108 : Int32) (105 : Int32) (110 : Int32) (101 : Int32) (45 : Int32) (97 : Int32) (100 : Int32) (109 : Int32) (105 : Int32) (110 : Int32) (32 : Int32) bs0 bs1 bs2 (0 : Int32) (0 : Int32) (0 : Int32) (0 : Int32) (0 : Int32) (0 : Int32) (0 : Int32) (0 : Int32) (0 : Int32) (0 : Int32) (0 : Int32) (0 : Int32) (0 : Int32) (0 : Int32) (0 : Int32) (0 : Int32) cpt h14 O14 r14_0 r14_1 r14_2 r14_3 r14_4 g4_S g5_hcpt) (by decide) (by decide) e14 r14_0 (by rw [hml]; rfl) (lenOf own_pd27 rfl) (argsL := []) (rest := [(.int 1), (.ref b1), (.ref b1)]) rfl rfl (Nat.le_of_eq rfl) (hb hby d11_21) (by decide) (by decide) ?_
  intro T20 h20 v20 L20 X20 e20 q20
  obtain ⟨a_20, u_20, ku_20, rfl, M20, J20, y20_0, y20_1, r20_0, r20_1, r20_2, r20_3⟩ := q20
  have N20 := Fr.app N14 M20
  have R20 := (CHr.keep J20 all0 R14.1)
  have C20 := C14.trans R20
  have K20 : Keep h0 h20 [] := K14.trans J20 all0
  have O20 : own_Old Z h20 := O14.keep J20 all0
  show G (T20.setTop (mkF m 24 #[.val (.ref a)] [(.ref a_20), (.int 1), (.ref b1), (.ref b1)]))
  have f22 := ((((((A1.ext E2).keep J3).ext E5).keep J8).keep J14).keep J20)
  have f23 := (((((((D1 (Or.inr (ow hw 172 rfl)) (ty := .boolean) (by decide)).ext E2).keep J3 (ninS (own_ne A1.lt (Nat.le_of_eq z2.symm)) nin0)).ext E5).keep J8 (ninS (own_ne A1.lt (Nat.le_of_eq z2.symm)) (ninS (own_ne (Nat.lt_of_lt_of_le A1.lt E2.1) y3_0) nin0))).keep J14 (ninS (own_ne A1.lt (Nat.le_of_eq z2.symm)) nin0)).keep J20 nin0)
  have f24 := (((((((D1 (Or.inr (ow hw 174 rfl)) (ty := (.object "java/lang/String")) (by decide)).ext E2).keep J3 (ninS (own_ne A1.lt (Nat.le_of_eq z2.symm)) nin0)).ext E5).keep J8 (ninS (own_ne A1.lt (Nat.le_of_eq z2.symm)) (ninS (own_ne (Nat.lt_of_lt_of_le A1.lt E2.1) y3_0) nin0))).keep J14 (ninS (own_ne A1.lt (Nat.le_of_eq z2.symm)) nin0)).keep J20 nin0)
  refine own_callI X20 hx hZ5 hG hown5 rfl (ow hw 162 rfl) (ow hw 163 rfl) (ow hw 47 rfl) (ow hw 164 rfl) (by decide) 1 (own_finit l Z a0 hw b1 (1 : Int32) (.ref a_20) (.int 0) .null h20 O20 rfl f22 (own_ge O0 (Nat.le_of_eq z1.symm)) f23 f24) (by decide) (by decide) e20 (by rw [hml]; rfl) (lenOf own_pd31 rfl) (argsL := [(.int 1), (.ref a_20)]) (rest := [(.ref b1)]) rfl rfl (Nat.le_of_eq rfl) (hb hby d11_24) (by decide) (by decide) ?_
  intro T21 h21 v21 L21 X21 e21 q21
  obtain ⟨rfl, M21, J21, r21_0, r21_1, r21_2⟩ := q21
  have N21 := Fr.app N20 M21
  have sf25 : Safe Z consts_1 _ h20 b1 := (Safe.exa hZ5.alike f22 (by decide) (by decide))
  have R21 := (CHr.keep J21 (allS sf25 all0) R20.1)
  have C21 := C20.trans R21
  have K21 : Keep h0 h21 [] := K20.trans J21 (allS (Or.inr (Nat.le_trans (Keep.refl h0 []).1 (Nat.le_of_eq z1.symm))) all0)
  have O21 : own_Old Z h21 := O20.keep J21 (allS (own_ge O0 (Nat.le_of_eq z1.symm)) all0)
  show G (T21.setTop (mkF m 27 #[.val (.ref a)] [(.ref b1)]))
  have f26 := (r20_0.keep J21)
  have f27 := (r20_1.keep J21 (ninS (Ne.symm (own_ne (Nat.lt_of_lt_of_le (Nat.lt_of_lt_of_le (Nat.lt_of_lt_of_le (Nat.lt_of_lt_of_le (Nat.lt_of_lt_of_le A1.lt E2.1) J3.1) E5.1) J8.1) J14.1) y20_0)) nin0))
  have f28 := (r20_2.keep J21 (ninS (Ne.symm (own_ne (Nat.lt_of_lt_of_le (Nat.lt_of_lt_of_le (Nat.lt_of_lt_of_le (Nat.lt_of_lt_of_le (Nat.lt_of_lt_of_le A1.lt E2.1) J3.1) E5.1) J8.1) J14.1) y20_0)) nin0))
  have f29 := (r20_3.keep J21 (ninS (Ne.symm (own_ne (Nat.lt_of_lt_of_le (Nat.lt_of_lt_of_le (Nat.lt_of_lt_of_le (Nat.lt_of_lt_of_le (Nat.lt_of_lt_of_le A1.lt E2.1) J3.1) E5.1) J8.1) J14.1) y20_1)) nin0))
  exact own_retAW hR hret rfl rfl X21 hx (hb hby d11_27) e21 SI5 (Nat.le_trans (Nat.le_trans (Nat.le_trans (Nat.le_trans hk5 R8.2.1) R14.2.1) R20.2.1) R21.2.1) hZ5 C21 (by decide) (by decide) ⟨b1, a_20, u_20, ku_20, rfl, N21, K21, (Nat.le_trans (Keep.refl h0 []).1 (Nat.le_of_eq z1.symm)), (Nat.le_trans K14.1 y20_0), (Nat.le_trans K14.1 y20_1), r21_0, r21_1, r21_2, f26, f27, f28, f29⟩
theorem own_pd33 : parseMethodDescriptor "(IIII)Z" = some ⟨[.int, .int, .int, .int], some .boolean⟩ := by decide +kernel
set_option maxRecDepth 65536 in
set_option maxHeartbeats 40000000 in
theorem own_law (l : Launch) (Z : State) (a0 : Array Value) (hw : ∀ d ∈ tables_1, d.before a0 Z = true) (ws : List Jvm.Cond) (hEL : EW Z a0 consts_1) (i0 : Int32) (i1 : Int32) (i2 : Int32) (i3 : Int32) (cpt : Int32) (h0 : Heap) (O0 : own_Old Z h0) (g0_S : Sta Z Z.heap "java/lang/String" "COMPACT_STRINGS" "Z" (.int cpt)) (g1_hcpt : ¬ (cpt = (0 : Int32))) :
    own_ConW l Z consts_1 x code maxLocals ret ws room_1 #[(.int i0), (.int i1), (.int i2), (.int i3)] h0 (fun rv rh rL => rv = some (.int 1) ∧ own_Fr Z rL ∧ Keep h0 rh []) := by
  refine own_introW hEL (plainFor_of_name (by first | (simp [plainName, overriddenIn]; done) | decide +kernel)) ?_
  intro p e s m below meth c s₁ G hx hby hml hown hnm hret hZ X0 e0 H0 SI0 hG hR
  have N0 := Fr.nil Z.heap.size
  refine own_entry (Ls := #[.val (.int i0), .val (.int i1), .val (.int i2), .val (.int i3), .unset, .unset, .unset, .unset, .unset, .unset, .unset, .unset]) (by first | (simp [entryFrame, mkF, argsToLocals, Value.category, maxLocals]; done) | rfl) ?_
  show G (s₁.setTop (mkF m 0 #[.val (.int i0), .val (.int i1), .val (.int i2), .val (.int i3), .unset, .unset, .unset, .unset, .unset, .unset, .unset, .unset] []))
  refine hG _ _ (fun t_ k_ => XS.iloadN X0.here hx rfl (hb hby at_0) rfl k_) ?_
  refine hG _ _ (X0.ldcInt hx hown (mvT hZ (ow hw 0 rfl)) (g := (mkF m 1 #[.val (.int i0), .val (.int i1), .val (.int i2), .val (.int i3), .unset, .unset, .unset, .unset, .unset, .unset, .unset, .unset] [(.int i3)])) rfl (hb hby at_1)) ?_
  refine hG _ _ (fun t_ k_ => XS.iand X0.here hx rfl (hb hby at_3) rfl k_) ?_
  refine hG _ _ (fun t_ k_ => XS.iconst X0.here hx rfl (hb hby at_4) k_) ?_
  refine hG _ _ (fun t_ k_ => iremM X0 hx rfl (hb hby at_5) rfl (by decide) k_) ?_
  refine hG _ _ (fun t_ k_ => XS.istore X0.here hx rfl (hb hby at_6) rfl (l' := #[.val (.int i0), .val (.int i1), .val (.int i2), .val (.int i3), .val (.int ((i3 &&& (2147483647 : Int32)) % (4 : Int32))), .unset, .unset, .unset, .unset, .unset, .unset, .unset]) rfl k_) ?_
  show G (s₁.setTop (mkF m 8 #[.val (.int i0), .val (.int i1), .val (.int i2), .val (.int i3), .val (.int ((i3 &&& (2147483647 : Int32)) % (4 : Int32))), .unset, .unset, .unset, .unset, .unset, .unset, .unset] []))
  generalize hn_q1 : ((i3 &&& (2147483647 : Int32)) % (4 : Int32)) = q1
  rcases own_r4 hn_q1 with rfl | rfl | rfl | rfl
  · skip
    show G (s₁.setTop (mkF m 8 #[.val (.int i0), .val (.int i1), .val (.int i2), .val (.int i3), .val (.int 0), .unset, .unset, .unset, .unset, .unset, .unset, .unset] []))
    refine hG _ _ (fun t_ k_ => XS.iloadN X0.here hx rfl (hb hby at_8) rfl k_) ?_
    refine hG _ _ (fun t_ k_ => XS.sipush X0.here hx rfl (hb hby at_9) k_) ?_
    refine hG _ _ (fun t_ k_ => XS.iand X0.here hx rfl (hb hby at_12) rfl k_) ?_
    refine hG _ _ (fun t_ k_ => XS.i2c X0.here hx rfl (hb hby at_13) rfl k_) ?_
    show G (s₁.setTop (mkF m 14 #[.val (.int i0), .val (.int i1), .val (.int i2), .val (.int i3), .val (.int 0), .unset, .unset, .unset, .unset, .unset, .unset, .unset] [(.int ((i0 &&& (255 : Int32)).toUInt32.toUInt16.toUInt32.toInt32))]))
    generalize hn_c2 : ((i0 &&& (255 : Int32)).toUInt32.toUInt16.toUInt32.toInt32) = c2
    have hr_c2 := own_mask8 hn_c2
    show G (s₁.setTop (mkF m 14 #[.val (.int i0), .val (.int i1), .val (.int i2), .val (.int i3), .val (.int 0), .unset, .unset, .unset, .unset, .unset, .unset, .unset] [(.int c2)]))
    refine hG _ _ (fun t_ k_ => XS.istore X0.here hx rfl (hb hby at_14) rfl (l' := #[.val (.int i0), .val (.int i1), .val (.int i2), .val (.int i3), .val (.int 0), .val (.int c2), .unset, .unset, .unset, .unset, .unset, .unset]) rfl k_) ?_
    refine hG _ _ (fun t_ k_ => XS.iloadN X0.here hx rfl (hb hby at_16) rfl k_) ?_
    refine hG _ _ (fun t_ k_ => XS.sipush X0.here hx rfl (hb hby at_17) k_) ?_
    refine hG _ _ (fun t_ k_ => XS.iand X0.here hx rfl (hb hby at_20) rfl k_) ?_
    refine hG _ _ (fun t_ k_ => XS.i2c X0.here hx rfl (hb hby at_21) rfl k_) ?_
    show G (s₁.setTop (mkF m 22 #[.val (.int i0), .val (.int i1), .val (.int i2), .val (.int i3), .val (.int 0), .val (.int c2), .unset, .unset, .unset, .unset, .unset, .unset] [(.int ((i1 &&& (255 : Int32)).toUInt32.toUInt16.toUInt32.toInt32))]))
    generalize hn_c3 : ((i1 &&& (255 : Int32)).toUInt32.toUInt16.toUInt32.toInt32) = c3
    have hr_c3 := own_mask8 hn_c3
    show G (s₁.setTop (mkF m 22 #[.val (.int i0), .val (.int i1), .val (.int i2), .val (.int i3), .val (.int 0), .val (.int c2), .unset, .unset, .unset, .unset, .unset, .unset] [(.int c3)]))
    refine hG _ _ (fun t_ k_ => XS.istore X0.here hx rfl (hb hby at_22) rfl (l' := #[.val (.int i0), .val (.int i1), .val (.int i2), .val (.int i3), .val (.int 0), .val (.int c2), .val (.int c3), .unset, .unset, .unset, .unset, .unset]) rfl k_) ?_
    refine hG _ _ (fun t_ k_ => XS.iloadN X0.here hx rfl (hb hby at_24) rfl k_) ?_
    refine hG _ _ (fun t_ k_ => XS.sipush X0.here hx rfl (hb hby at_25) k_) ?_
    refine hG _ _ (fun t_ k_ => XS.iand X0.here hx rfl (hb hby at_28) rfl k_) ?_
    refine hG _ _ (fun t_ k_ => XS.i2c X0.here hx rfl (hb hby at_29) rfl k_) ?_
    show G (s₁.setTop (mkF m 30 #[.val (.int i0), .val (.int i1), .val (.int i2), .val (.int i3), .val (.int 0), .val (.int c2), .val (.int c3), .unset, .unset, .unset, .unset, .unset] [(.int ((i2 &&& (255 : Int32)).toUInt32.toUInt16.toUInt32.toInt32))]))
    generalize hn_c4 : ((i2 &&& (255 : Int32)).toUInt32.toUInt16.toUInt32.toInt32) = c4
    have hr_c4 := own_mask8 hn_c4
    show G (s₁.setTop (mkF m 30 #[.val (.int i0), .val (.int i1), .val (.int i2), .val (.int i3), .val (.int 0), .val (.int c2), .val (.int c3), .unset, .unset, .unset, .unset, .unset] [(.int c4)]))
    refine hG _ _ (fun t_ k_ => XS.istore X0.here hx rfl (hb hby at_30) rfl (l' := #[.val (.int i0), .val (.int i1), .val (.int i2), .val (.int i3), .val (.int 0), .val (.int c2), .val (.int c3), .val (.int c4), .unset, .unset, .unset, .unset]) rfl k_) ?_
    refine hG _ _ (fun t_ k_ => XS.iload X0.here hx rfl (hb hby at_32) rfl k_) ?_
    show G (s₁.setTop (mkF m 34 #[.val (.int i0), .val (.int i1), .val (.int i2), .val (.int i3), .val (.int 0), .val (.int c2), .val (.int c3), .val (.int c4), .unset, .unset, .unset, .unset] [(.int 0)]))
    refine hG _ _ (fun t_ k_ => XS.ifNo X0.here hx rfl (hb hby at_34) rfl ((if0 _ _).trans (teq (by decide)).2) k_) ?_
    show G (s₁.setTop (mkF m 37 #[.val (.int i0), .val (.int i1), .val (.int i2), .val (.int i3), .val (.int 0), .val (.int c2), .val (.int c3), .val (.int c4), .unset, .unset, .unset, .unset] []))
    obtain ⟨a5, T5, h5, k5, b5, kc5, X5, e5, E5, SI5, hk5, hZ5, hown5, Ea5, Fc5, Fv5, V5, la5, lb5, Y5, Li5, Nq5, st5⟩ := ldcCH X0 hx hZ hown (ow hw 222 rfl) (own_wS hw) e0 SI0 (Nat.le_refl _) hEL (List.mem_of_getElem? (i := 1) rfl) H0 (vs := []) (z := (0 : Int32)) ⟨by decide, by decide⟩ (by decide) rfl (g := (mkF m 37 #[.val (.int i0), .val (.int i1), .val (.int i2), .val (.int i3), .val (.int 0), .val (.int c2), .val (.int c3), .val (.int c4), .unset, .unset, .unset, .unset] [])) rfl (hb hby at_37) (n := 0) (by decide) (by decide) (by decide) (by decide)
    refine hG _ _ st5 ?_
    have R5 := Y5
    have C5 := (CHr.refl H0).trans R5
    have K5 : Keep h0 h5 [] := (Keep.refl h0 []).ext E5
    have O5 : own_Old Z h5 := O0.ext E5
    refine hG _ _ (fun t_ k_ => XS.astore X5.here hx rfl (hb hby at_39) rfl rfl (l' := #[.val (.int i0), .val (.int i1), .val (.int i2), .val (.int i3), .val (.int 0), .val (.int c2), .val (.int c3), .val (.int c4), .val (.ref a5), .unset, .unset, .unset]) rfl k_) ?_
    obtain ⟨T6, h6, X6, e6, E6, A6, D6, -, st6⟩ := newO X5 hx hZ5 hown5 (ow hw 27 rfl) (ow hw 11 rfl) (ow hw 3 rfl) e5 (g := (mkF m 41 #[.val (.int i0), .val (.int i1), .val (.int i2), .val (.int i3), .val (.int 0), .val (.int c2), .val (.int c3), .val (.int c4), .val (.ref a5), .unset, .unset, .unset] [])) rfl (hb hby at_41) (by decide) (by decide)
    obtain ⟨b6, z6⟩ : ∃ z, z = h5.size := ⟨_, rfl⟩
    rw [← z6] at A6 D6 st6
    refine hG _ _ st6 ?_
    have R6 := (CHr.ext E6 R5.1)
    have C6 := C5.trans R6
    have K6 : Keep h0 h6 [] := K5.ext E6
    have O6 : own_Old Z h6 := O5.ext E6
    refine hG _ _ (fun t_ k_ => XS.dup X6.here hx rfl (hb hby at_44) rfl rfl k_) ?_
    refine hG _ _ (fun t_ k_ => XS.bipush X6.here hx rfl (hb hby at_45) k_) ?_
    obtain ⟨T7, h7, k7, X7, e7, E7, A7, st7⟩ := newP X6 hx hZ5 (ow hw 28 rfl) e6 (g := (mkF m 47 #[.val (.int i0), .val (.int i1), .val (.int i2), .val (.int i3), .val (.int 0), .val (.int c2), .val (.int c3), .val (.int c4), .val (.ref a5), .unset, .unset, .unset] [(.int 15), (.ref b6), (.ref b6)])) rfl (hb hby at_47) rfl (by decide) (cap := 15) (by decide) (by decide) (by decide) (by decide)
    obtain ⟨b7, z7⟩ : ∃ z, z = h6.size := ⟨_, rfl⟩
    rw [← z7] at A7 st7
    refine hG _ _ st7 ?_
    have R7 := (CHr.ext E7 R6.1)
    have C7 := C6.trans R7
    have K7 : Keep h0 h7 [] := K6.ext E7
    have O7 : own_Old Z h7 := O6.ext E7
    have V7 : Arv Z h7 b7 k7 .char (15 : Int32) [(.int 0), (.int 0), (.int 0), (.int 0), (.int 0), (.int 0), (.int 0), (.int 0), (.int 0), (.int 0), (.int 0), (.int 0), (.int 0), (.int 0), (.int 0)] (.int 0) := (Arv.new A7 (by decide)).pad (pad_rep [] (.int 0) 15)
    refine hG _ _ (fun t_ k_ => XS.dup X7.here hx rfl (hb hby at_49) rfl rfl k_) ?_
    refine hG _ _ (fun t_ k_ => XS.iconst X7.here hx rfl (hb hby at_50) k_) ?_
    refine hG _ _ (fun t_ k_ => XS.bipush X7.here hx rfl (hb hby at_51) k_) ?_
    show G (T7.setTop (mkF m 53 #[.val (.int i0), .val (.int i1), .val (.int i2), .val (.int i3), .val (.int 0), .val (.int c2), .val (.int c3), .val (.int c4), .val (.ref a5), .unset, .unset, .unset] [(.int 98), (.int 0), (.ref b7), (.ref b7), (.ref b6), (.ref b6)]))
    obtain ⟨c8, Ar8, q8, S8, M8, H8, G8⟩ := id V7
    obtain ⟨T8, h8, X8, e8, W8, st8⟩ := stC X7 hx hZ5 e7 Ar8 (j := (0 : Int32)) (inb_of S8 ⟨by decide, by decide⟩) (g := (mkF m 53 #[.val (.int i0), .val (.int i1), .val (.int i2), .val (.int i3), .val (.int 0), .val (.int c2), .val (.int c3), .val (.int c4), .val (.ref a5), .unset, .unset, .unset] [(.int 98), (.int 0), (.ref b7), (.ref b7), (.ref b6), (.ref b6)])) rfl rfl (hb hby at_53)
    refine hG _ _ st8 ?_
    have sf9 : Safe Z consts_1 _ h7 b7 := (own_safeArv hZ5.alike V7 (by decide))
    have R8 := (CHr.wr W8 sf9 R7.1)
    have C8 := C7.trans R8
    have K8 : Keep h0 h8 [] := K7.wr W8 (Or.inr (Nat.le_trans K6.1 (Nat.le_of_eq z7.symm)))
    have O8 : own_Old Z h8 := O7.wr W8 (own_ge O6 (Nat.le_of_eq z7.symm))
    rw [own_narC (by decide)] at W8
    have V8 : Arv Z h8 b7 k7 .char (15 : Int32) [(.int 98), (.int 0), (.int 0), (.int 0), (.int 0), (.int 0), (.int 0), (.int 0), (.int 0), (.int 0), (.int 0), (.int 0), (.int 0), (.int 0), (.int 0)] (.int 0) := Arv.set Ar8 q8 S8 M8 H8 G8 (own_fitC (by decide)) W8 0 rfl (Nat.le_of_ble_eq_true rfl)
    have N8 := Fr.snoc X8 N0 (own_ge O6 (Nat.le_of_eq z7.symm))
    refine hG _ _ (fun t_ k_ => XS.dup X8.here hx rfl (hb hby at_54) rfl rfl k_) ?_
    refine hG _ _ (fun t_ k_ => XS.iconst X8.here hx rfl (hb hby at_55) k_) ?_
    refine hG _ _ (fun t_ k_ => XS.bipush X8.here hx rfl (hb hby at_56) k_) ?_
    obtain ⟨c10, Ar10, q10, S10, M10, H10, G10⟩ := id V8
    obtain ⟨T10, h10, X10, e10, W10, st10⟩ := stC X8 hx hZ5 e8 Ar10 (j := (1 : Int32)) (inb_of S10 ⟨by decide, by decide⟩) (g := (mkF m 58 #[.val (.int i0), .val (.int i1), .val (.int i2), .val (.int i3), .val (.int 0), .val (.int c2), .val (.int c3), .val (.int c4), .val (.ref a5), .unset, .unset, .unset] [(.int 101), (.int 1), (.ref b7), (.ref b7), (.ref b6), (.ref b6)])) rfl rfl (hb hby at_58)
    refine hG _ _ st10 ?_
    have sf11 := (R8.safe V7.lt sf9)
    have R10 := (CHr.wr W10 sf11 R8.1)
    have C10 := C8.trans R10
    have K10 : Keep h0 h10 [] := K8.wr W10 (Or.inr (Nat.le_trans K6.1 (Nat.le_of_eq z7.symm)))
    have O10 : own_Old Z h10 := O8.wr W10 (own_ge O6 (Nat.le_of_eq z7.symm))
    rw [own_narC (by decide)] at W10
    have V10 : Arv Z h10 b7 k7 .char (15 : Int32) [(.int 98), (.int 101), (.int 0), (.int 0), (.int 0), (.int 0), (.int 0), (.int 0), (.int 0), (.int 0), (.int 0), (.int 0), (.int 0), (.int 0), (.int 0)] (.int 0) := Arv.set Ar10 q10 S10 M10 H10 G10 (own_fitC (by decide)) W10 1 rfl (Nat.le_of_ble_eq_true rfl)
    have N10 := Fr.snoc X10 N8 (own_ge O6 (Nat.le_of_eq z7.symm))
    refine hG _ _ (fun t_ k_ => XS.dup X10.here hx rfl (hb hby at_59) rfl rfl k_) ?_
    refine hG _ _ (fun t_ k_ => XS.iconst X10.here hx rfl (hb hby at_60) k_) ?_
    refine hG _ _ (fun t_ k_ => XS.bipush X10.here hx rfl (hb hby at_61) k_) ?_
    obtain ⟨c12, Ar12, q12, S12, M12, H12, G12⟩ := id V10
    obtain ⟨T12, h12, X12, e12, W12, st12⟩ := stC X10 hx hZ5 e10 Ar12 (j := (2 : Int32)) (inb_of S12 ⟨by decide, by decide⟩) (g := (mkF m 63 #[.val (.int i0), .val (.int i1), .val (.int i2), .val (.int i3), .val (.int 0), .val (.int c2), .val (.int c3), .val (.int c4), .val (.ref a5), .unset, .unset, .unset] [(.int 97), (.int 2), (.ref b7), (.ref b7), (.ref b6), (.ref b6)])) rfl rfl (hb hby at_63)
    refine hG _ _ st12 ?_
    have sf13 := (R10.safe V8.lt sf11)
    have R12 := (CHr.wr W12 sf13 R10.1)
    have C12 := C10.trans R12
    have K12 : Keep h0 h12 [] := K10.wr W12 (Or.inr (Nat.le_trans K6.1 (Nat.le_of_eq z7.symm)))
    have O12 : own_Old Z h12 := O10.wr W12 (own_ge O6 (Nat.le_of_eq z7.symm))
    rw [own_narC (by decide)] at W12
    have V12 : Arv Z h12 b7 k7 .char (15 : Int32) [(.int 98), (.int 101), (.int 97), (.int 0), (.int 0), (.int 0), (.int 0), (.int 0), (.int 0), (.int 0), (.int 0), (.int 0), (.int 0), (.int 0), (.int 0)] (.int 0) := Arv.set Ar12 q12 S12 M12 H12 G12 (own_fitC (by decide)) W12 2 rfl (Nat.le_of_ble_eq_true rfl)
    have N12 := Fr.snoc X12 N10 (own_ge O6 (Nat.le_of_eq z7.symm))
    show G (T12.setTop (mkF m 64 #[.val (.int i0), .val (.int i1), .val (.int i2), .val (.int i3), .val (.int 0), .val (.int c2), .val (.int c3), .val (.int c4), .val (.ref a5), .unset, .unset, .unset] [(.ref b7), (.ref b6), (.ref b6)]))
    refine hG _ _ (fun t_ k_ => XS.dup X12.here hx rfl (hb hby at_64) rfl rfl k_) ?_
    refine hG _ _ (fun t_ k_ => XS.iconst X12.here hx rfl (hb hby at_65) k_) ?_
    refine hG _ _ (fun t_ k_ => XS.bipush X12.here hx rfl (hb hby at_66) k_) ?_
    obtain ⟨c14, Ar14, q14, S14, M14, H14, G14⟩ := id V12
    obtain ⟨T14, h14, X14, e14, W14, st14⟩ := stC X12 hx hZ5 e12 Ar14 (j := (3 : Int32)) (inb_of S14 ⟨by decide, by decide⟩) (g := (mkF m 68 #[.val (.int i0), .val (.int i1), .val (.int i2), .val (.int i3), .val (.int 0), .val (.int c2), .val (.int c3), .val (.int c4), .val (.ref a5), .unset, .unset, .unset] [(.int 109), (.int 3), (.ref b7), (.ref b7), (.ref b6), (.ref b6)])) rfl rfl (hb hby at_68)
    refine hG _ _ st14 ?_
    have sf15 := (R12.safe V10.lt sf13)
    have R14 := (CHr.wr W14 sf15 R12.1)
    have C14 := C12.trans R14
    have K14 : Keep h0 h14 [] := K12.wr W14 (Or.inr (Nat.le_trans K6.1 (Nat.le_of_eq z7.symm)))
    have O14 : own_Old Z h14 := O12.wr W14 (own_ge O6 (Nat.le_of_eq z7.symm))
    rw [own_narC (by decide)] at W14
    have V14 : Arv Z h14 b7 k7 .char (15 : Int32) [(.int 98), (.int 101), (.int 97), (.int 109), (.int 0), (.int 0), (.int 0), (.int 0), (.int 0), (.int 0), (.int 0), (.int 0), (.int 0), (.int 0), (.int 0)] (.int 0) := Arv.set Ar14 q14 S14 M14 H14 G14 (own_fitC (by decide)) W14 3 rfl (Nat.le_of_ble_eq_true rfl)
    have N14 := Fr.snoc X14 N12 (own_ge O6 (Nat.le_of_eq z7.symm))
    refine hG _ _ (fun t_ k_ => XS.dup X14.here hx rfl (hb hby at_69) rfl rfl k_) ?_
    refine hG _ _ (fun t_ k_ => XS.iconst X14.here hx rfl (hb hby at_70) k_) ?_
    refine hG _ _ (fun t_ k_ => XS.bipush X14.here hx rfl (hb hby at_71) k_) ?_
    obtain ⟨c16, Ar16, q16, S16, M16, H16, G16⟩ := id V14
    obtain ⟨T16, h16, X16, e16, W16, st16⟩ := stC X14 hx hZ5 e14 Ar16 (j := (4 : Int32)) (inb_of S16 ⟨by decide, by decide⟩) (g := (mkF m 73 #[.val (.int i0), .val (.int i1), .val (.int i2), .val (.int i3), .val (.int 0), .val (.int c2), .val (.int c3), .val (.int c4), .val (.ref a5), .unset, .unset, .unset] [(.int 108), (.int 4), (.ref b7), (.ref b7), (.ref b6), (.ref b6)])) rfl rfl (hb hby at_73)
    refine hG _ _ st16 ?_
    have sf17 := (R14.safe V12.lt sf15)
    have R16 := (CHr.wr W16 sf17 R14.1)
    have C16 := C14.trans R16
    have K16 : Keep h0 h16 [] := K14.wr W16 (Or.inr (Nat.le_trans K6.1 (Nat.le_of_eq z7.symm)))
    have O16 : own_Old Z h16 := O14.wr W16 (own_ge O6 (Nat.le_of_eq z7.symm))
    rw [own_narC (by decide)] at W16
    have V16 : Arv Z h16 b7 k7 .char (15 : Int32) [(.int 98), (.int 101), (.int 97), (.int 109), (.int 108), (.int 0), (.int 0), (.int 0), (.int 0), (.int 0), (.int 0), (.int 0), (.int 0), (.int 0), (.int 0)] (.int 0) := Arv.set Ar16 q16 S16 M16 H16 G16 (own_fitC (by decide)) W16 4 rfl (Nat.le_of_ble_eq_true rfl)
    have N16 := Fr.snoc X16 N14 (own_ge O6 (Nat.le_of_eq z7.symm))
    refine hG _ _ (fun t_ k_ => XS.dup X16.here hx rfl (hb hby at_74) rfl rfl k_) ?_
    show G (T16.setTop (mkF m 75 #[.val (.int i0), .val (.int i1), .val (.int i2), .val (.int i3), .val (.int 0), .val (.int c2), .val (.int c3), .val (.int c4), .val (.ref a5), .unset, .unset, .unset] [(.ref b7), (.ref b7), (.ref b6), (.ref b6)]))
    refine hG _ _ (fun t_ k_ => XS.iconst X16.here hx rfl (hb hby at_75) k_) ?_
    refine hG _ _ (fun t_ k_ => XS.bipush X16.here hx rfl (hb hby at_76) k_) ?_
    obtain ⟨c18, Ar18, q18, S18, M18, H18, G18⟩ := id V16
    obtain ⟨T18, h18, X18, e18, W18, st18⟩ := stC X16 hx hZ5 e16 Ar18 (j := (5 : Int32)) (inb_of S18 ⟨by decide, by decide⟩) (g := (mkF m 78 #[.val (.int i0), .val (.int i1), .val (.int i2), .val (.int i3), .val (.int 0), .val (.int c2), .val (.int c3), .val (.int c4), .val (.ref a5), .unset, .unset, .unset] [(.int 105), (.int 5), (.ref b7), (.ref b7), (.ref b6), (.ref b6)])) rfl rfl (hb hby at_78)
    refine hG _ _ st18 ?_
    have sf19 := (R16.safe V14.lt sf17)
    have R18 := (CHr.wr W18 sf19 R16.1)
    have C18 := C16.trans R18
    have K18 : Keep h0 h18 [] := K16.wr W18 (Or.inr (Nat.le_trans K6.1 (Nat.le_of_eq z7.symm)))
    have O18 : own_Old Z h18 := O16.wr W18 (own_ge O6 (Nat.le_of_eq z7.symm))
    rw [own_narC (by decide)] at W18
    have V18 : Arv Z h18 b7 k7 .char (15 : Int32) [(.int 98), (.int 101), (.int 97), (.int 109), (.int 108), (.int 105), (.int 0), (.int 0), (.int 0), (.int 0), (.int 0), (.int 0), (.int 0), (.int 0), (.int 0)] (.int 0) := Arv.set Ar18 q18 S18 M18 H18 G18 (own_fitC (by decide)) W18 5 rfl (Nat.le_of_ble_eq_true rfl)
    have N18 := Fr.snoc X18 N16 (own_ge O6 (Nat.le_of_eq z7.symm))
    refine hG _ _ (fun t_ k_ => XS.dup X18.here hx rfl (hb hby at_79) rfl rfl k_) ?_
    refine hG _ _ (fun t_ k_ => XS.bipush X18.here hx rfl (hb hby at_80) k_) ?_
    refine hG _ _ (fun t_ k_ => XS.bipush X18.here hx rfl (hb hby at_82) k_) ?_
    obtain ⟨c20, Ar20, q20, S20, M20, H20, G20⟩ := id V18
    obtain ⟨T20, h20, X20, e20, W20, st20⟩ := stC X18 hx hZ5 e18 Ar20 (j := (6 : Int32)) (inb_of S20 ⟨by decide, by decide⟩) (g := (mkF m 84 #[.val (.int i0), .val (.int i1), .val (.int i2), .val (.int i3), .val (.int 0), .val (.int c2), .val (.int c3), .val (.int c4), .val (.ref a5), .unset, .unset, .unset] [(.int 110), (.int 6), (.ref b7), (.ref b7), (.ref b6), (.ref b6)])) rfl rfl (hb hby at_84)
    refine hG _ _ st20 ?_
    have sf21 := (R18.safe V16.lt sf19)
    have R20 := (CHr.wr W20 sf21 R18.1)
    have C20 := C18.trans R20
    have K20 : Keep h0 h20 [] := K18.wr W20 (Or.inr (Nat.le_trans K6.1 (Nat.le_of_eq z7.symm)))
    have O20 : own_Old Z h20 := O18.wr W20 (own_ge O6 (Nat.le_of_eq z7.symm))
    rw [own_narC (by decide)] at W20
    have V20 : Arv Z h20 b7 k7 .char (15 : Int32) [(.int 98), (.int 101), (.int 97), (.int 109), (.int 108), (.int 105), (.int 110), (.int 0), (.int 0), (.int 0), (.int 0), (.int 0), (.int 0), (.int 0), (.int 0)] (.int 0) := Arv.set Ar20 q20 S20 M20 H20 G20 (own_fitC (by decide)) W20 6 rfl (Nat.le_of_ble_eq_true rfl)
    have N20 := Fr.snoc X20 N18 (own_ge O6 (Nat.le_of_eq z7.symm))
    refine hG _ _ (fun t_ k_ => XS.dup X20.here hx rfl (hb hby at_85) rfl rfl k_) ?_
    refine hG _ _ (fun t_ k_ => XS.bipush X20.here hx rfl (hb hby at_86) k_) ?_
    show G (T20.setTop (mkF m 88 #[.val (.int i0), .val (.int i1), .val (.int i2), .val (.int i3), .val (.int 0), .val (.int c2), .val (.int c3), .val (.int c4), .val (.ref a5), .unset, .unset, .unset] [(.int 7), (.ref b7), (.ref b7), (.ref b6), (.ref b6)]))
    refine hG _ _ (fun t_ k_ => XS.bipush X20.here hx rfl (hb hby at_88) k_) ?_
    obtain ⟨c22, Ar22, q22, S22, M22, H22, G22⟩ := id V20
    obtain ⟨T22, h22, X22, e22, W22, st22⟩ := stC X20 hx hZ5 e20 Ar22 (j := (7 : Int32)) (inb_of S22 ⟨by decide, by decide⟩) (g := (mkF m 90 #[.val (.int i0), .val (.int i1), .val (.int i2), .val (.int i3), .val (.int 0), .val (.int c2), .val (.int c3), .val (.int c4), .val (.ref a5), .unset, .unset, .unset] [(.int 101), (.int 7), (.ref b7), (.ref b7), (.ref b6), (.ref b6)])) rfl rfl (hb hby at_90)
    refine hG _ _ st22 ?_
    have sf23 := (R20.safe V18.lt sf21)
    have R22 := (CHr.wr W22 sf23 R20.1)
    have C22 := C20.trans R22
    have K22 : Keep h0 h22 [] := K20.wr W22 (Or.inr (Nat.le_trans K6.1 (Nat.le_of_eq z7.symm)))
    have O22 : own_Old Z h22 := O20.wr W22 (own_ge O6 (Nat.le_of_eq z7.symm))
    rw [own_narC (by decide)] at W22
    have V22 : Arv Z h22 b7 k7 .char (15 : Int32) [(.int 98), (.int 101), (.int 97), (.int 109), (.int 108), (.int 105), (.int 110), (.int 101), (.int 0), (.int 0), (.int 0), (.int 0), (.int 0), (.int 0), (.int 0)] (.int 0) := Arv.set Ar22 q22 S22 M22 H22 G22 (own_fitC (by decide)) W22 7 rfl (Nat.le_of_ble_eq_true rfl)
    have N22 := Fr.snoc X22 N20 (own_ge O6 (Nat.le_of_eq z7.symm))
    refine hG _ _ (fun t_ k_ => XS.dup X22.here hx rfl (hb hby at_91) rfl rfl k_) ?_
    refine hG _ _ (fun t_ k_ => XS.bipush X22.here hx rfl (hb hby at_92) k_) ?_
    refine hG _ _ (fun t_ k_ => XS.bipush X22.here hx rfl (hb hby at_94) k_) ?_
    obtain ⟨c24, Ar24, q24, S24, M24, H24, G24⟩ := id V22
    obtain ⟨T24, h24, X24, e24, W24, st24⟩ := stC X22 hx hZ5 e22 Ar24 (j := (8 : Int32)) (inb_of S24 ⟨by decide, by decide⟩) (g := (mkF m 96 #[.val (.int i0), .val (.int i1), .val (.int i2), .val (.int i3), .val (.int 0), .val (.int c2), .val (.int c3), .val (.int c4), .val (.ref a5), .unset, .unset, .unset] [(.int 45), (.int 8), (.ref b7), (.ref b7), (.ref b6), (.ref b6)])) rfl rfl (hb hby at_96)
    refine hG _ _ st24 ?_
    have sf25 := (R22.safe V20.lt sf23)
    have R24 := (CHr.wr W24 sf25 R22.1)
    have C24 := C22.trans R24
    have K24 : Keep h0 h24 [] := K22.wr W24 (Or.inr (Nat.le_trans K6.1 (Nat.le_of_eq z7.symm)))
    have O24 : own_Old Z h24 := O22.wr W24 (own_ge O6 (Nat.le_of_eq z7.symm))
    rw [own_narC (by decide)] at W24
    have V24 : Arv Z h24 b7 k7 .char (15 : Int32) [(.int 98), (.int 101), (.int 97), (.int 109), (.int 108), (.int 105), (.int 110), (.int 101), (.int 45), (.int 0), (.int 0), (.int 0), (.int 0), (.int 0), (.int 0)] (.int 0) := Arv.set Ar24 q24 S24 M24 H24 G24 (own_fitC (by decide)) W24 8 rfl (Nat.le_of_ble_eq_true rfl)
    have N24 := Fr.snoc X24 N22 (own_ge O6 (Nat.le_of_eq z7.symm))
    refine hG _ _ (fun t_ k_ => XS.dup X24.here hx rfl (hb hby at_97) rfl rfl k_) ?_
    refine hG _ _ (fun t_ k_ => XS.bipush X24.here hx rfl (hb hby at_98) k_) ?_
    refine hG _ _ (fun t_ k_ => XS.bipush X24.here hx rfl (hb hby at_100) k_) ?_
    show G (T24.setTop (mkF m 102 #[.val (.int i0), .val (.int i1), .val (.int i2), .val (.int i3), .val (.int 0), .val (.int c2), .val (.int c3), .val (.int c4), .val (.ref a5), .unset, .unset, .unset] [(.int 97), (.int 9), (.ref b7), (.ref b7), (.ref b6), (.ref b6)]))
    obtain ⟨c26, Ar26, q26, S26, M26, H26, G26⟩ := id V24
    obtain ⟨T26, h26, X26, e26, W26, st26⟩ := stC X24 hx hZ5 e24 Ar26 (j := (9 : Int32)) (inb_of S26 ⟨by decide, by decide⟩) (g := (mkF m 102 #[.val (.int i0), .val (.int i1), .val (.int i2), .val (.int i3), .val (.int 0), .val (.int c2), .val (.int c3), .val (.int c4), .val (.ref a5), .unset, .unset, .unset] [(.int 97), (.int 9), (.ref b7), (.ref b7), (.ref b6), (.ref b6)])) rfl rfl (hb hby at_102)
    refine hG _ _ st26 ?_
    have sf27 := (R24.safe V22.lt sf25)
    have R26 := (CHr.wr W26 sf27 R24.1)
    have C26 := C24.trans R26
    have K26 : Keep h0 h26 [] := K24.wr W26 (Or.inr (Nat.le_trans K6.1 (Nat.le_of_eq z7.symm)))
    have O26 : own_Old Z h26 := O24.wr W26 (own_ge O6 (Nat.le_of_eq z7.symm))
    rw [own_narC (by decide)] at W26
    have V26 : Arv Z h26 b7 k7 .char (15 : Int32) [(.int 98), (.int 101), (.int 97), (.int 109), (.int 108), (.int 105), (.int 110), (.int 101), (.int 45), (.int 97), (.int 0), (.int 0), (.int 0), (.int 0), (.int 0)] (.int 0) := Arv.set Ar26 q26 S26 M26 H26 G26 (own_fitC (by decide)) W26 9 rfl (Nat.le_of_ble_eq_true rfl)
    have N26 := Fr.snoc X26 N24 (own_ge O6 (Nat.le_of_eq z7.symm))
    refine hG _ _ (fun t_ k_ => XS.dup X26.here hx rfl (hb hby at_103) rfl rfl k_) ?_
    refine hG _ _ (fun t_ k_ => XS.bipush X26.here hx rfl (hb hby at_104) k_) ?_
    refine hG _ _ (fun t_ k_ => XS.bipush X26.here hx rfl (hb hby at_106) k_) ?_
    obtain ⟨c28, Ar28, q28, S28, M28, H28, G28⟩ := id V26
    obtain ⟨T28, h28, X28, e28, W28, st28⟩ := stC X26 hx hZ5 e26 Ar28 (j := (10 : Int32)) (inb_of S28 ⟨by decide, by decide⟩) (g := (mkF m 108 #[.val (.int i0), .val (.int i1), .val (.int i2), .val (.int i3), .val (.int 0), .val (.int c2), .val (.int c3), .val (.int c4), .val (.ref a5), .unset, .unset, .unset] [(.int 100), (.int 10), (.ref b7), (.ref b7), (.ref b6), (.ref b6)])) rfl rfl (hb hby at_108)
    refine hG _ _ st28 ?_
    have sf29 := (R26.safe V24.lt sf27)
    have R28 := (CHr.wr W28 sf29 R26.1)
    have C28 := C26.trans R28
    have K28 : Keep h0 h28 [] := K26.wr W28 (Or.inr (Nat.le_trans K6.1 (Nat.le_of_eq z7.symm)))
    have O28 : own_Old Z h28 := O26.wr W28 (own_ge O6 (Nat.le_of_eq z7.symm))
    rw [own_narC (by decide)] at W28
    have V28 : Arv Z h28 b7 k7 .char (15 : Int32) [(.int 98), (.int 101), (.int 97), (.int 109), (.int 108), (.int 105), (.int 110), (.int 101), (.int 45), (.int 97), (.int 100), (.int 0), (.int 0), (.int 0), (.int 0)] (.int 0) := Arv.set Ar28 q28 S28 M28 H28 G28 (own_fitC (by decide)) W28 10 rfl (Nat.le_of_ble_eq_true rfl)
    have N28 := Fr.snoc X28 N26 (own_ge O6 (Nat.le_of_eq z7.symm))
    refine hG _ _ (fun t_ k_ => XS.dup X28.here hx rfl (hb hby at_109) rfl rfl k_) ?_
    refine hG _ _ (fun t_ k_ => XS.bipush X28.here hx rfl (hb hby at_110) k_) ?_
    refine hG _ _ (fun t_ k_ => XS.bipush X28.here hx rfl (hb hby at_112) k_) ?_
    obtain ⟨c30, Ar30, q30, S30, M30, H30, G30⟩ := id V28
    obtain ⟨T30, h30, X30, e30, W30, st30⟩ := stC X28 hx hZ5 e28 Ar30 (j := (11 : Int32)) (inb_of S30 ⟨by decide, by decide⟩) (g := (mkF m 114 #[.val (.int i0), .val (.int i1), .val (.int i2), .val (.int i3), .val (.int 0), .val (.int c2), .val (.int c3), .val (.int c4), .val (.ref a5), .unset, .unset, .unset] [(.int 109), (.int 11), (.ref b7), (.ref b7), (.ref b6), (.ref b6)])) rfl rfl (hb hby at_114)
    refine hG _ _ st30 ?_
    have sf31 := (R28.safe V26.lt sf29)
    have R30 := (CHr.wr W30 sf31 R28.1)
    have C30 := C28.trans R30
    have K30 : Keep h0 h30 [] := K28.wr W30 (Or.inr (Nat.le_trans K6.1 (Nat.le_of_eq z7.symm)))
    have O30 : own_Old Z h30 := O28.wr W30 (own_ge O6 (Nat.le_of_eq z7.symm))
    rw [own_narC (by decide)] at W30
    have V30 : Arv Z h30 b7 k7 .char (15 : Int32) [(.int 98), (.int 101), (.int 97), (.int 109), (.int 108), (.int 105), (.int 110), (.int 101), (.int 45), (.int 97), (.int 100), (.int 109), (.int 0), (.int 0), (.int 0)] (.int 0) := Arv.set Ar30 q30 S30 M30 H30 G30 (own_fitC (by decide)) W30 11 rfl (Nat.le_of_ble_eq_true rfl)
    have N30 := Fr.snoc X30 N28 (own_ge O6 (Nat.le_of_eq z7.symm))
    show G (T30.setTop (mkF m 115 #[.val (.int i0), .val (.int i1), .val (.int i2), .val (.int i3), .val (.int 0), .val (.int c2), .val (.int c3), .val (.int c4), .val (.ref a5), .unset, .unset, .unset] [(.ref b7), (.ref b6), (.ref b6)]))
    refine hG _ _ (fun t_ k_ => XS.dup X30.here hx rfl (hb hby at_115) rfl rfl k_) ?_
    refine hG _ _ (fun t_ k_ => XS.bipush X30.here hx rfl (hb hby at_116) k_) ?_
    refine hG _ _ (fun t_ k_ => XS.bipush X30.here hx rfl (hb hby at_118) k_) ?_
    obtain ⟨c32, Ar32, q32, S32, M32, H32, G32⟩ := id V30
    obtain ⟨T32, h32, X32, e32, W32, st32⟩ := stC X30 hx hZ5 e30 Ar32 (j := (12 : Int32)) (inb_of S32 ⟨by decide, by decide⟩) (g := (mkF m 120 #[.val (.int i0), .val (.int i1), .val (.int i2), .val (.int i3), .val (.int 0), .val (.int c2), .val (.int c3), .val (.int c4), .val (.ref a5), .unset, .unset, .unset] [(.int 105), (.int 12), (.ref b7), (.ref b7), (.ref b6), (.ref b6)])) rfl rfl (hb hby at_120)
    refine hG _ _ st32 ?_
    have sf33 := (R30.safe V28.lt sf31)
    have R32 := (CHr.wr W32 sf33 R30.1)
    have C32 := C30.trans R32
    have K32 : Keep h0 h32 [] := K30.wr W32 (Or.inr (Nat.le_trans K6.1 (Nat.le_of_eq z7.symm)))
    have O32 : own_Old Z h32 := O30.wr W32 (own_ge O6 (Nat.le_of_eq z7.symm))
    rw [own_narC (by decide)] at W32
    have V32 : Arv Z h32 b7 k7 .char (15 : Int32) [(.int 98), (.int 101), (.int 97), (.int 109), (.int 108), (.int 105), (.int 110), (.int 101), (.int 45), (.int 97), (.int 100), (.int 109), (.int 105), (.int 0), (.int 0)] (.int 0) := Arv.set Ar32 q32 S32 M32 H32 G32 (own_fitC (by decide)) W32 12 rfl (Nat.le_of_ble_eq_true rfl)
    have N32 := Fr.snoc X32 N30 (own_ge O6 (Nat.le_of_eq z7.symm))
    refine hG _ _ (fun t_ k_ => XS.dup X32.here hx rfl (hb hby at_121) rfl rfl k_) ?_
    refine hG _ _ (fun t_ k_ => XS.bipush X32.here hx rfl (hb hby at_122) k_) ?_
    refine hG _ _ (fun t_ k_ => XS.bipush X32.here hx rfl (hb hby at_124) k_) ?_
    obtain ⟨c34, Ar34, q34, S34, M34, H34, G34⟩ := id V32
    obtain ⟨T34, h34, X34, e34, W34, st34⟩ := stC X32 hx hZ5 e32 Ar34 (j := (13 : Int32)) (inb_of S34 ⟨by decide, by decide⟩) (g := (mkF m 126 #[.val (.int i0), .val (.int i1), .val (.int i2), .val (.int i3), .val (.int 0), .val (.int c2), .val (.int c3), .val (.int c4), .val (.ref a5), .unset, .unset, .unset] [(.int 110), (.int 13), (.ref b7), (.ref b7), (.ref b6), (.ref b6)])) rfl rfl (hb hby at_126)
    refine hG _ _ st34 ?_
    have sf35 := (R32.safe V30.lt sf33)
    have R34 := (CHr.wr W34 sf35 R32.1)
    have C34 := C32.trans R34
    have K34 : Keep h0 h34 [] := K32.wr W34 (Or.inr (Nat.le_trans K6.1 (Nat.le_of_eq z7.symm)))
    have O34 : own_Old Z h34 := O32.wr W34 (own_ge O6 (Nat.le_of_eq z7.symm))
    rw [own_narC (by decide)] at W34
    have V34 : Arv Z h34 b7 k7 .char (15 : Int32) [(.int 98), (.int 101), (.int 97), (.int 109), (.int 108), (.int 105), (.int 110), (.int 101), (.int 45), (.int 97), (.int 100), (.int 109), (.int 105), (.int 110), (.int 0)] (.int 0) := Arv.set Ar34 q34 S34 M34 H34 G34 (own_fitC (by decide)) W34 13 rfl (Nat.le_of_ble_eq_true rfl)
    have N34 := Fr.snoc X34 N32 (own_ge O6 (Nat.le_of_eq z7.symm))
    refine hG _ _ (fun t_ k_ => XS.dup X34.here hx rfl (hb hby at_127) rfl rfl k_) ?_
    show G (T34.setTop (mkF m 128 #[.val (.int i0), .val (.int i1), .val (.int i2), .val (.int i3), .val (.int 0), .val (.int c2), .val (.int c3), .val (.int c4), .val (.ref a5), .unset, .unset, .unset] [(.ref b7), (.ref b7), (.ref b6), (.ref b6)]))
    refine hG _ _ (fun t_ k_ => XS.bipush X34.here hx rfl (hb hby at_128) k_) ?_
    refine hG _ _ (fun t_ k_ => XS.bipush X34.here hx rfl (hb hby at_130) k_) ?_
    obtain ⟨c36, Ar36, q36, S36, M36, H36, G36⟩ := id V34
    obtain ⟨T36, h36, X36, e36, W36, st36⟩ := stC X34 hx hZ5 e34 Ar36 (j := (14 : Int32)) (inb_of S36 ⟨by decide, by decide⟩) (g := (mkF m 132 #[.val (.int i0), .val (.int i1), .val (.int i2), .val (.int i3), .val (.int 0), .val (.int c2), .val (.int c3), .val (.int c4), .val (.ref a5), .unset, .unset, .unset] [(.int 32), (.int 14), (.ref b7), (.ref b7), (.ref b6), (.ref b6)])) rfl rfl (hb hby at_132)
    refine hG _ _ st36 ?_
    have sf37 := (R34.safe V32.lt sf35)
    have R36 := (CHr.wr W36 sf37 R34.1)
    have C36 := C34.trans R36
    have K36 : Keep h0 h36 [] := K34.wr W36 (Or.inr (Nat.le_trans K6.1 (Nat.le_of_eq z7.symm)))
    have O36 : own_Old Z h36 := O34.wr W36 (own_ge O6 (Nat.le_of_eq z7.symm))
    rw [own_narC (by decide)] at W36
    have V36 : Arv Z h36 b7 k7 .char (15 : Int32) [(.int 98), (.int 101), (.int 97), (.int 109), (.int 108), (.int 105), (.int 110), (.int 101), (.int 45), (.int 97), (.int 100), (.int 109), (.int 105), (.int 110), (.int 32)] (.int 0) := Arv.set Ar36 q36 S36 M36 H36 G36 (own_fitC (by decide)) W36 14 rfl (Nat.le_of_ble_eq_true rfl)
    have N36 := Fr.snoc X36 N34 (own_ge O6 (Nat.le_of_eq z7.symm))
    show G (T36.setTop (mkF m 133 #[.val (.int i0), .val (.int i1), .val (.int i2), .val (.int i3), .val (.int 0), .val (.int c2), .val (.int c3), .val (.int c4), .val (.ref a5), .unset, .unset, .unset] [(.ref b7), (.ref b6), (.ref b6)]))
    have f39 := ((((((((((((((((A6.ext E7).wr W8).wr W10).wr W12).wr W14).wr W16).wr W18).wr W20).wr W22).wr W24).wr W26).wr W28).wr W30).wr W32).wr W34).wr W36)
    have f40 := (((((((((((((((((D6 (Or.inr (ow hw 26 rfl)) (ty := .byte) (by decide)).ext E7).other W8 (Or.inl (own_ne A6.lt (Nat.le_of_eq z7.symm)))).other W10 (Or.inl (own_ne A6.lt (Nat.le_of_eq z7.symm)))).other W12 (Or.inl (own_ne A6.lt (Nat.le_of_eq z7.symm)))).other W14 (Or.inl (own_ne A6.lt (Nat.le_of_eq z7.symm)))).other W16 (Or.inl (own_ne A6.lt (Nat.le_of_eq z7.symm)))).other W18 (Or.inl (own_ne A6.lt (Nat.le_of_eq z7.symm)))).other W20 (Or.inl (own_ne A6.lt (Nat.le_of_eq z7.symm)))).other W22 (Or.inl (own_ne A6.lt (Nat.le_of_eq z7.symm)))).other W24 (Or.inl (own_ne A6.lt (Nat.le_of_eq z7.symm)))).other W26 (Or.inl (own_ne A6.lt (Nat.le_of_eq z7.symm)))).other W28 (Or.inl (own_ne A6.lt (Nat.le_of_eq z7.symm)))).other W30 (Or.inl (own_ne A6.lt (Nat.le_of_eq z7.symm)))).other W32 (Or.inl (own_ne A6.lt (Nat.le_of_eq z7.symm)))).other W34 (Or.inl (own_ne A6.lt (Nat.le_of_eq z7.symm)))).other W36 (Or.inl (own_ne A6.lt (Nat.le_of_eq z7.symm))))
    have f41 := (((((((((((((((((D6 (Or.inr (ow hw 24 rfl)) (ty := (.array .byte)) (by decide)).ext E7).other W8 (Or.inl (own_ne A6.lt (Nat.le_of_eq z7.symm)))).other W10 (Or.inl (own_ne A6.lt (Nat.le_of_eq z7.symm)))).other W12 (Or.inl (own_ne A6.lt (Nat.le_of_eq z7.symm)))).other W14 (Or.inl (own_ne A6.lt (Nat.le_of_eq z7.symm)))).other W16 (Or.inl (own_ne A6.lt (Nat.le_of_eq z7.symm)))).other W18 (Or.inl (own_ne A6.lt (Nat.le_of_eq z7.symm)))).other W20 (Or.inl (own_ne A6.lt (Nat.le_of_eq z7.symm)))).other W22 (Or.inl (own_ne A6.lt (Nat.le_of_eq z7.symm)))).other W24 (Or.inl (own_ne A6.lt (Nat.le_of_eq z7.symm)))).other W26 (Or.inl (own_ne A6.lt (Nat.le_of_eq z7.symm)))).other W28 (Or.inl (own_ne A6.lt (Nat.le_of_eq z7.symm)))).other W30 (Or.inl (own_ne A6.lt (Nat.le_of_eq z7.symm)))).other W32 (Or.inl (own_ne A6.lt (Nat.le_of_eq z7.symm)))).other W34 (Or.inl (own_ne A6.lt (Nat.le_of_eq z7.symm)))).other W36 (Or.inl (own_ne A6.lt (Nat.le_of_eq z7.symm))))
    refine own_callI X36 hx hZ5 hG hown5 rfl (ow hw 29 rfl) (ow hw 30 rfl) (ow hw 3 rfl) (ow hw 31 rfl) (by decide) 1 (own_str1 l Z a0 hw b6 b7 k7 [(98 : Int32), (101 : Int32), (97 : Int32), (109 : Int32), (108 : Int32), (105 : Int32), (110 : Int32), (101 : Int32), (45 : Int32), (97 : Int32), (100 : Int32), (109 : Int32), (105 : Int32), (110 : Int32), (32 : Int32)] cpt (.int 0) .null h36 O36 f39 f40 f41 (own_ge O5 (Nat.le_of_eq z6.symm)) V36 (Nat.le_of_ble_eq_true rfl) (Nat.le_of_ble_eq_true rfl) (own_allc (by decide) (own_allc (by decide) (own_allc (by decide) (own_allc (by decide) (own_allc (by decide) (own_allc (by decide) (own_allc (by decide) (own_allc (by decide) (own_allc (by decide) (own_allc (by decide) (own_allc (by decide) (own_allc (by decide) (own_allc (by decide) (own_allc (by decide) (own_allc (by decide) own_alln))))))))))))))) g0_S g1_hcpt) (by decide) (by decide) e36 (by rw [hml]; rfl) (lenOf own_pd5 rfl) (argsL := [(.ref b7)]) (rest := [(.ref b6)]) rfl rfl (Nat.le_of_eq rfl) (hb hby at_133) (by decide) (by decide) ?_
    intro T38 h38 v38 L38 X38 e38 q38
    obtain ⟨t_38, kt_38, rfl, M38, J38, y38_0, r38_0, r38_1, r38_2, r38_3⟩ := q38
    have N38 := Fr.app N36 M38
    have sf42 : Safe Z consts_1 _ h36 b6 := (own_safeStr hZ5.alike f39 f41)
    have R38 := (CHr.keep J38 (allS sf42 all0) R36.1)
    have C38 := C36.trans R38
    have K38 : Keep h0 h38 [] := K36.trans J38 (allS (Or.inr (Nat.le_trans K5.1 (Nat.le_of_eq z6.symm))) all0)
    have O38 : own_Old Z h38 := O36.keep J38 (allS (own_ge O5 (Nat.le_of_eq z6.symm)) all0)
    refine hG _ _ (fun t_ k_ => XS.astore X38.here hx rfl (hb hby at_136) rfl rfl (l' := #[.val (.int i0), .val (.int i1), .val (.int i2), .val (.int i3), .val (.int 0), .val (.int c2), .val (.int c3), .val (.int c4), .val (.ref a5), .val (.ref b6), .unset, .unset]) rfl k_) ?_
    refine hG _ _ (fun t_ k_ => XS.goto X38.here hx rfl (pc0 := 138) (pc' := 542) rfl (hb hby at_138) (by decide) (by decide) k_) ?_
    refine hG _ _ (fun t_ k_ => XS.aload X38.here hx rfl (hb hby at_542) rfl rfl k_) ?_
    show G (T38.setTop (mkF m 544 #[.val (.int i0), .val (.int i1), .val (.int i2), .val (.int i3), .val (.int 0), .val (.int c2), .val (.int c3), .val (.int c4), .val (.ref a5), .val (.ref b6), .unset, .unset] [(.ref a5)]))
    have f44 := ((((((((((((((((((Ea5.ext E6).ext E7).wr W8).wr W10).wr W12).wr W14).wr W16).wr W18).wr W20).wr W22).wr W24).wr W26).wr W28).wr W30).wr W32).wr W34).wr W36).keep J38)
    have f45 := ((((((((((((((((((Fc5.ext E6).ext E7).other W8 (Or.inl (own_ne (Nat.lt_of_lt_of_le Ea5.lt E6.1) (Nat.le_of_eq z7.symm)))).other W10 (Or.inl (own_ne (Nat.lt_of_lt_of_le Ea5.lt E6.1) (Nat.le_of_eq z7.symm)))).other W12 (Or.inl (own_ne (Nat.lt_of_lt_of_le Ea5.lt E6.1) (Nat.le_of_eq z7.symm)))).other W14 (Or.inl (own_ne (Nat.lt_of_lt_of_le Ea5.lt E6.1) (Nat.le_of_eq z7.symm)))).other W16 (Or.inl (own_ne (Nat.lt_of_lt_of_le Ea5.lt E6.1) (Nat.le_of_eq z7.symm)))).other W18 (Or.inl (own_ne (Nat.lt_of_lt_of_le Ea5.lt E6.1) (Nat.le_of_eq z7.symm)))).other W20 (Or.inl (own_ne (Nat.lt_of_lt_of_le Ea5.lt E6.1) (Nat.le_of_eq z7.symm)))).other W22 (Or.inl (own_ne (Nat.lt_of_lt_of_le Ea5.lt E6.1) (Nat.le_of_eq z7.symm)))).other W24 (Or.inl (own_ne (Nat.lt_of_lt_of_le Ea5.lt E6.1) (Nat.le_of_eq z7.symm)))).other W26 (Or.inl (own_ne (Nat.lt_of_lt_of_le Ea5.lt E6.1) (Nat.le_of_eq z7.symm)))).other W28 (Or.inl (own_ne (Nat.lt_of_lt_of_le Ea5.lt E6.1) (Nat.le_of_eq z7.symm)))).other W30 (Or.inl (own_ne (Nat.lt_of_lt_of_le Ea5.lt E6.1) (Nat.le_of_eq z7.symm)))).other W32 (Or.inl (own_ne (Nat.lt_of_lt_of_le Ea5.lt E6.1) (Nat.le_of_eq z7.symm)))).other W34 (Or.inl (own_ne (Nat.lt_of_lt_of_le Ea5.lt E6.1) (Nat.le_of_eq z7.symm)))).other W36 (Or.inl (own_ne (Nat.lt_of_lt_of_le Ea5.lt E6.1) (Nat.le_of_eq z7.symm)))).keep J38 (ninS (own_ne Ea5.lt (Nat.le_of_eq z6.symm)) nin0))
    have f46 := ((((((((((((((((((Fv5.ext E6).ext E7).other W8 (Or.inl (own_ne (Nat.lt_of_lt_of_le Ea5.lt E6.1) (Nat.le_of_eq z7.symm)))).other W10 (Or.inl (own_ne (Nat.lt_of_lt_of_le Ea5.lt E6.1) (Nat.le_of_eq z7.symm)))).other W12 (Or.inl (own_ne (Nat.lt_of_lt_of_le Ea5.lt E6.1) (Nat.le_of_eq z7.symm)))).other W14 (Or.inl (own_ne (Nat.lt_of_lt_of_le Ea5.lt E6.1) (Nat.le_of_eq z7.symm)))).other W16 (Or.inl (own_ne (Nat.lt_of_lt_of_le Ea5.lt E6.1) (Nat.le_of_eq z7.symm)))).other W18 (Or.inl (own_ne (Nat.lt_of_lt_of_le Ea5.lt E6.1) (Nat.le_of_eq z7.symm)))).other W20 (Or.inl (own_ne (Nat.lt_of_lt_of_le Ea5.lt E6.1) (Nat.le_of_eq z7.symm)))).other W22 (Or.inl (own_ne (Nat.lt_of_lt_of_le Ea5.lt E6.1) (Nat.le_of_eq z7.symm)))).other W24 (Or.inl (own_ne (Nat.lt_of_lt_of_le Ea5.lt E6.1) (Nat.le_of_eq z7.symm)))).other W26 (Or.inl (own_ne (Nat.lt_of_lt_of_le Ea5.lt E6.1) (Nat.le_of_eq z7.symm)))).other W28 (Or.inl (own_ne (Nat.lt_of_lt_of_le Ea5.lt E6.1) (Nat.le_of_eq z7.symm)))).other W30 (Or.inl (own_ne (Nat.lt_of_lt_of_le Ea5.lt E6.1) (Nat.le_of_eq z7.symm)))).other W32 (Or.inl (own_ne (Nat.lt_of_lt_of_le Ea5.lt E6.1) (Nat.le_of_eq z7.symm)))).other W34 (Or.inl (own_ne (Nat.lt_of_lt_of_le Ea5.lt E6.1) (Nat.le_of_eq z7.symm)))).other W36 (Or.inl (own_ne (Nat.lt_of_lt_of_le Ea5.lt E6.1) (Nat.le_of_eq z7.symm)))).keep J38 (ninS (own_ne Ea5.lt (Nat.le_of_eq z6.symm)) nin0))
    have f47 := ((((((((((((((((((V5.ext E6).ext E7).other W8 (own_ne (Nat.lt_of_lt_of_le V5.lt E6.1) (Nat.le_of_eq z7.symm))).other W10 (own_ne (Nat.lt_of_lt_of_le V5.lt E6.1) (Nat.le_of_eq z7.symm))).other W12 (own_ne (Nat.lt_of_lt_of_le V5.lt E6.1) (Nat.le_of_eq z7.symm))).other W14 (own_ne (Nat.lt_of_lt_of_le V5.lt E6.1) (Nat.le_of_eq z7.symm))).other W16 (own_ne (Nat.lt_of_lt_of_le V5.lt E6.1) (Nat.le_of_eq z7.symm))).other W18 (own_ne (Nat.lt_of_lt_of_le V5.lt E6.1) (Nat.le_of_eq z7.symm))).other W20 (own_ne (Nat.lt_of_lt_of_le V5.lt E6.1) (Nat.le_of_eq z7.symm))).other W22 (own_ne (Nat.lt_of_lt_of_le V5.lt E6.1) (Nat.le_of_eq z7.symm))).other W24 (own_ne (Nat.lt_of_lt_of_le V5.lt E6.1) (Nat.le_of_eq z7.symm))).other W26 (own_ne (Nat.lt_of_lt_of_le V5.lt E6.1) (Nat.le_of_eq z7.symm))).other W28 (own_ne (Nat.lt_of_lt_of_le V5.lt E6.1) (Nat.le_of_eq z7.symm))).other W30 (own_ne (Nat.lt_of_lt_of_le V5.lt E6.1) (Nat.le_of_eq z7.symm))).other W32 (own_ne (Nat.lt_of_lt_of_le V5.lt E6.1) (Nat.le_of_eq z7.symm))).other W34 (own_ne (Nat.lt_of_lt_of_le V5.lt E6.1) (Nat.le_of_eq z7.symm))).other W36 (own_ne (Nat.lt_of_lt_of_le V5.lt E6.1) (Nat.le_of_eq z7.symm))).keep J38 (ninS (own_ne V5.lt (Nat.le_of_eq z6.symm)) nin0))
    refine own_callSW X38 hx hZ5 hG hown5 (ow hw 45 rfl) (ow hw 46 rfl) (ow hw 47 rfl) (ow hw 48 rfl) (by decide) 0 (own_ba0 l Z a0 hw hEL a5 b5 kc5 cpt h38 O38 f44 f45 f46 f47 g0_S g1_hcpt) (by decide) (by decide) e38 SI5 (Nat.le_trans (Nat.le_trans (Nat.le_trans (Nat.le_trans (Nat.le_trans (Nat.le_trans (Nat.le_trans (Nat.le_trans (Nat.le_trans (Nat.le_trans (Nat.le_trans (Nat.le_trans (Nat.le_trans (Nat.le_trans (Nat.le_trans (Nat.le_trans (Nat.le_trans (Nat.le_trans hk5 R6.2.1) R7.2.1) R8.2.1) R10.2.1) R12.2.1) R14.2.1) R16.2.1) R18.2.1) R20.2.1) R22.2.1) R24.2.1) R26.2.1) R28.2.1) R30.2.1) R32.2.1) R34.2.1) R36.2.1) R38.2.1) hEL R38.1 (by rw [hml]; rfl) (lenOf own_pd32 rfl) (argsL := [(.ref a5)]) (rest := []) rfl rfl (Nat.le_of_eq rfl) (hb hby at_544) (by decide) (by decide) ?_
    intro T43 h43 v43 L43 X43 e43 SI43 hZ43 hown43 Y43 q43
    obtain ⟨q_43, r_43, u_43, ku_43, rfl, M43, J43, y43_0, y43_1, y43_2, r43_0, r43_1, r43_2, r43_3, r43_4, r43_5, r43_6⟩ := q43
    have N43 := Fr.app N38 M43
    have R43 := Y43
    have C43 := C38.trans R43
    have K43 : Keep h0 h43 [] := K38.trans J43 all0
    have O43 : own_Old Z h43 := O38.keep J43 all0
    refine hG _ _ (fun t_ k_ => XS.astore X43.here hx rfl (hb hby at_547) rfl rfl (l' := #[.val (.int i0), .val (.int i1), .val (.int i2), .val (.int i3), .val (.int 0), .val (.int c2), .val (.int c3), .val (.int c4), .val (.ref a5), .val (.ref b6), .val (.ref q_43), .unset]) rfl k_) ?_
    refine hG _ _ (fun t_ k_ => XS.aload X43.here hx rfl (hb hby at_549) rfl rfl k_) ?_
    show G (T43.setTop (mkF m 551 #[.val (.int i0), .val (.int i1), .val (.int i2), .val (.int i3), .val (.int 0), .val (.int c2), .val (.int c3), .val (.int c4), .val (.ref a5), .val (.ref b6), .val (.ref q_43), .unset] [(.ref q_43)]))
    refine own_callV (C := "com/example/research_access_policy/researchaccesspolicy/rules/Decision") X43 hx hZ43 hG hown43 (ow hw 175 rfl) (ow hw 176 rfl) (ow hw 178 rfl) (ow hw 177 rfl) (ow hw 47 rfl) (ow hw 179 rfl) (by decide) 0 (own_get_reason l Z a0 hw q_43 (.ref r_43) h43 O43 rfl r43_2) (by decide) (by decide) e43 r43_0 (by rw [hml]; rfl) (lenOf own_pd27 rfl) (argsL := []) (rest := []) rfl rfl (Nat.le_of_eq rfl) (hb hby at_551) (by decide) (by decide) ?_
    intro T48 h48 v48 L48 X48 e48 q48
    obtain ⟨rfl, M48, rfl⟩ := q48
    have N48 := Fr.app N43 M48
    refine hG _ _ (fun t_ k_ => XS.astore X48.here hx rfl (hb hby at_554) rfl rfl (l' := #[.val (.int i0), .val (.int i1), .val (.int i2), .val (.int i3), .val (.int 0), .val (.int c2), .val (.int c3), .val (.int c4), .val (.ref a5), .val (.ref b6), .val (.ref q_43), .val (.ref r_43)]) rfl k_) ?_
    refine hG _ _ (fun t_ k_ => XS.aload X48.here hx rfl (hb hby at_556) rfl rfl k_) ?_
    show G (T48.setTop (mkF m 558 #[.val (.int i0), .val (.int i1), .val (.int i2), .val (.int i3), .val (.int 0), .val (.int c2), .val (.int c3), .val (.int c4), .val (.ref a5), .val (.ref b6), .val (.ref q_43), .val (.ref r_43)] [(.ref q_43)]))
    refine own_callV (C := "com/example/research_access_policy/researchaccesspolicy/rules/Decision") X48 hx hZ43 hG hown43 (ow hw 180 rfl) (ow hw 181 rfl) (ow hw 183 rfl) (ow hw 182 rfl) (ow hw 47 rfl) (ow hw 184 rfl) (by decide) 0 (own_get_allowed l Z a0 hw q_43 (nar .boolean (1 : Int32)) h43 O43 r43_1) (by decide) (by decide) e48 r43_0 (by rw [hml]; rfl) (lenOf own_pd15 rfl) (argsL := []) (rest := []) rfl rfl (Nat.le_of_eq rfl) (hb hby at_558) (by decide) (by decide) ?_
    intro T49 h49 v49 L49 X49 e49 q49
    obtain ⟨rfl, M49, rfl⟩ := q49
    have N49 := Fr.app N48 M49
    show G (T49.setTop (mkF m 561 #[.val (.int i0), .val (.int i1), .val (.int i2), .val (.int i3), .val (.int 0), .val (.int c2), .val (.int c3), .val (.int c4), .val (.ref a5), .val (.ref b6), .val (.ref q_43), .val (.ref r_43)] [(.int (nar .boolean (nar .boolean (1 : Int32))))]))
    refine hG _ _ (fun t_ k_ => XS.ifNo X49.here hx rfl (hb hby at_561) rfl ((if0 _ _).trans (feq (by decide)).1) k_) ?_
    show G (T49.setTop (mkF m 564 #[.val (.int i0), .val (.int i1), .val (.int i2), .val (.int i3), .val (.int 0), .val (.int c2), .val (.int c3), .val (.int c4), .val (.ref a5), .val (.ref b6), .val (.ref q_43), .val (.ref r_43)] []))
    refine hG _ _ (fun t_ k_ => XS.aload X49.here hx rfl (hb hby at_564) rfl rfl k_) ?_
    show G (T49.setTop (mkF m 566 #[.val (.int i0), .val (.int i1), .val (.int i2), .val (.int i3), .val (.int 0), .val (.int c2), .val (.int c3), .val (.int c4), .val (.ref a5), .val (.ref b6), .val (.ref q_43), .val (.ref r_43)] [(.ref r_43)]))
    refine own_callV (C := "java/lang/String") X49 hx hZ43 hG hown43 (ow hw 185 rfl) (ow hw 83 rfl) (ow hw 85 rfl) (ow hw 84 rfl) (ow hw 3 rfl) (ow hw 86 rfl) (by decide) 0 (own_lenL l Z a0 hw r_43 u_43 ku_43 (15 : Int32) [(.int 98), (.int 101), (.int 97), (.int 109), (.int 108), (.int 105), (.int 110), (.int 101), (.int 45), (.int 97), (.int 100), (.int 109), (.int 105), (.int 110), (.int 32)] cpt h43 O43 r43_3 r43_4 r43_5 r43_6 g0_S g1_hcpt) (by decide) (by decide) e49 r43_3 (by rw [hml]; rfl) (lenOf own_pd12 rfl) (argsL := []) (rest := []) rfl rfl (Nat.le_of_eq rfl) (hb hby at_566) (by decide) (by decide) ?_
    intro T50 h50 v50 L50 X50 e50 q50
    obtain ⟨rfl, M50, rfl⟩ := q50
    have N50 := Fr.app N49 M50
    refine hG _ _ (fun t_ k_ => XS.bipush X50.here hx rfl (hb hby at_569) k_) ?_
    refine hG _ _ (fun t_ k_ => XS.iload X50.here hx rfl (hb hby at_571) rfl k_) ?_
    refine hG _ _ (fun t_ k_ => XS.iadd X50.here hx rfl (hb hby at_573) rfl k_) ?_
    show G (T50.setTop (mkF m 574 #[.val (.int i0), .val (.int i1), .val (.int i2), .val (.int i3), .val (.int 0), .val (.int c2), .val (.int c3), .val (.int c4), .val (.ref a5), .val (.ref b6), .val (.ref q_43), .val (.ref r_43)] [(.int ((15 : Int32) + (0 : Int32))), (.int 15)]))
    rw [show ((15 : Int32) + (0 : Int32)) = (15 : Int32) from by decide]
    show G (T50.setTop (mkF m 574 #[.val (.int i0), .val (.int i1), .val (.int i2), .val (.int i3), .val (.int 0), .val (.int c2), .val (.int c3), .val (.int c4), .val (.ref a5), .val (.ref b6), .val (.ref q_43), .val (.ref r_43)] [(.int 15), (.int 15)]))
    refine hG _ _ (fun t_ k_ => XS.icmpNo X50.here hx rfl (hb hby at_574) rfl (teq (by decide)).2 k_) ?_
    show G (T50.setTop (mkF m 577 #[.val (.int i0), .val (.int i1), .val (.int i2), .val (.int i3), .val (.int 0), .val (.int c2), .val (.int c3), .val (.int c4), .val (.ref a5), .val (.ref b6), .val (.ref q_43), .val (.ref r_43)] []))
    refine hG _ _ (fun t_ k_ => XS.aload X50.here hx rfl (hb hby at_577) rfl rfl k_) ?_
    refine hG _ _ (fun t_ k_ => XS.aload X50.here hx rfl (hb hby at_579) rfl rfl k_) ?_
    show G (T50.setTop (mkF m 581 #[.val (.int i0), .val (.int i1), .val (.int i2), .val (.int i3), .val (.int 0), .val (.int c2), .val (.int c3), .val (.int c4), .val (.ref a5), .val (.ref b6), .val (.ref q_43), .val (.ref r_43)] [(.ref b6), (.ref r_43)]))
    have f52 := (r38_0.keep J43)
    have f53 := (r38_1.keep J43 nin0)
    have f54 := (r38_2.keep J43 nin0)
    have f55 := (r38_3.keep J43 nin0)
    refine own_callV (C := "java/lang/String") X50 hx hZ43 hG hown43 (ow hw 186 rfl) (ow hw 187 rfl) (ow hw 189 rfl) (ow hw 188 rfl) (ow hw 3 rfl) (ow hw 190 rfl) (by decide) 0 (own_seq l Z a0 hw r_43 u_43 ku_43 [(98 : Int32), (101 : Int32), (97 : Int32), (109 : Int32), (108 : Int32), (105 : Int32), (110 : Int32), (101 : Int32), (45 : Int32), (97 : Int32), (100 : Int32), (109 : Int32), (105 : Int32), (110 : Int32), (32 : Int32)] b6 t_38 kt_38 [(98 : Int32), (101 : Int32), (97 : Int32), (109 : Int32), (108 : Int32), (105 : Int32), (110 : Int32), (101 : Int32), (45 : Int32), (97 : Int32), (100 : Int32), (109 : Int32), (105 : Int32), (110 : Int32), (32 : Int32)] (0 : Int32) (Int32.ofNat [(98 : Int32), (101 : Int32), (97 : Int32), (109 : Int32), (108 : Int32), (105 : Int32), (110 : Int32), (101 : Int32), (45 : Int32), (97 : Int32), (100 : Int32), (109 : Int32), (105 : Int32), (110 : Int32), (32 : Int32)].length) ([(98 : Int32), (101 : Int32), (97 : Int32), (109 : Int32), (108 : Int32), (105 : Int32), (110 : Int32), (101 : Int32), (45 : Int32), (97 : Int32), (100 : Int32), (109 : Int32), (105 : Int32), (110 : Int32), (32 : Int32)].map fun c => Value.int c.toInt8.toInt32) cpt h43 O43 f52 f53 f54 f55 (Or.inl ⟨(own_allc (by decide) (own_allc (by decide) (own_allc (by decide) (own_allc (by decide) (own_allc (by decide) (own_allc (by decide) (own_allc (by decide) (own_allc (by decide) (own_allc (by decide) (own_allc (by decide) (own_allc (by decide) (own_allc (by decide) (own_allc (by decide) (own_allc (by decide) (own_allc (by decide) own_alln))))))))))))))), rfl, rfl, rfl⟩) (Nat.le_of_ble_eq_true rfl) (own_allc (by decide) (own_allc (by decide) (own_allc (by decide) (own_allc (by decide) (own_allc (by decide) (own_allc (by decide) (own_allc (by decide) (own_allc (by decide) (own_allc (by decide) (own_allc (by decide) (own_allc (by decide) (own_allc (by decide) (own_allc (by decide) (own_allc (by decide) (own_allc (by decide) own_alln))))))))))))))) g0_S g1_hcpt r43_4 r43_5 r43_6 (Nat.le_of_ble_eq_true rfl) (own_allc (by decide) (own_allc (by decide) (own_allc (by decide) (own_allc (by decide) (own_allc (by decide) (own_allc (by decide) (own_allc (by decide) (own_allc (by decide) (own_allc (by decide) (own_allc (by decide) (own_allc (by decide) (own_allc (by decide) (own_allc (by decide) (own_allc (by decide) (own_allc (by decide) own_alln))))))))))))))) (Ne.symm (own_ne r38_0.lt y43_1))) (by decide) (by decide) e50 r43_3 (by rw [hml]; rfl) (lenOf own_pd17 rfl) (argsL := [(.ref b6)]) (rest := []) rfl rfl (Nat.le_of_eq rfl) (hb hby at_581) (by decide) (by decide) ?_
    intro T51 h51 v51 L51 X51 e51 q51
    obtain ⟨r_51, rfl, M51, rfl, r51_0⟩ := q51
    have N51 := Fr.app N50 M51
    show G (T51.setTop (mkF m 584 #[.val (.int i0), .val (.int i1), .val (.int i2), .val (.int i3), .val (.int 0), .val (.int c2), .val (.int c3), .val (.int c4), .val (.ref a5), .val (.ref b6), .val (.ref q_43), .val (.ref r_43)] [(.int r_51)]))
    refine hG _ _ (fun t_ k_ => XS.ifNo X51.here hx rfl (hb hby at_584) rfl ((if0 _ _).trans (feq (r51_0.elim (fun q e => absurd (q.1.symm.trans e) (by decide)) (fun q => absurd rfl q.2))).1) k_) ?_
    show G (T51.setTop (mkF m 587 #[.val (.int i0), .val (.int i1), .val (.int i2), .val (.int i3), .val (.int 0), .val (.int c2), .val (.int c3), .val (.int c4), .val (.ref a5), .val (.ref b6), .val (.ref q_43), .val (.ref r_43)] []))
    refine hG _ _ (fun t_ k_ => XS.iconst X51.here hx rfl (hb hby at_587) k_) ?_
    refine hG _ _ (fun t_ k_ => XS.goto X51.here hx rfl (pc0 := 588) (pc' := 592) rfl (hb hby at_588) (by decide) (by decide) k_) ?_
    show G (T51.setTop (mkF m 592 #[.val (.int i0), .val (.int i1), .val (.int i2), .val (.int i3), .val (.int 0), .val (.int c2), .val (.int c3), .val (.int c4), .val (.ref a5), .val (.ref b6), .val (.ref q_43), .val (.ref r_43)] [(.int 1)]))
    exact own_retNW hR hret (by simp) X51 hx (hb hby at_592) e51 SI43 (Nat.le_refl _) hZ43 C43 (by decide) (by decide) ⟨rfl, N51, K43⟩
  · skip
    show G (s₁.setTop (mkF m 8 #[.val (.int i0), .val (.int i1), .val (.int i2), .val (.int i3), .val (.int 1), .unset, .unset, .unset, .unset, .unset, .unset, .unset] []))
    refine hG _ _ (fun t_ k_ => XS.iloadN X0.here hx rfl (hb hby at_8) rfl k_) ?_
    refine hG _ _ (fun t_ k_ => XS.sipush X0.here hx rfl (hb hby at_9) k_) ?_
    refine hG _ _ (fun t_ k_ => XS.iand X0.here hx rfl (hb hby at_12) rfl k_) ?_
    refine hG _ _ (fun t_ k_ => XS.i2c X0.here hx rfl (hb hby at_13) rfl k_) ?_
    show G (s₁.setTop (mkF m 14 #[.val (.int i0), .val (.int i1), .val (.int i2), .val (.int i3), .val (.int 1), .unset, .unset, .unset, .unset, .unset, .unset, .unset] [(.int ((i0 &&& (255 : Int32)).toUInt32.toUInt16.toUInt32.toInt32))]))
    generalize hn_c56 : ((i0 &&& (255 : Int32)).toUInt32.toUInt16.toUInt32.toInt32) = c56
    have hr_c56 := own_mask8 hn_c56
    show G (s₁.setTop (mkF m 14 #[.val (.int i0), .val (.int i1), .val (.int i2), .val (.int i3), .val (.int 1), .unset, .unset, .unset, .unset, .unset, .unset, .unset] [(.int c56)]))
    refine hG _ _ (fun t_ k_ => XS.istore X0.here hx rfl (hb hby at_14) rfl (l' := #[.val (.int i0), .val (.int i1), .val (.int i2), .val (.int i3), .val (.int 1), .val (.int c56), .unset, .unset, .unset, .unset, .unset, .unset]) rfl k_) ?_
    refine hG _ _ (fun t_ k_ => XS.iloadN X0.here hx rfl (hb hby at_16) rfl k_) ?_
    refine hG _ _ (fun t_ k_ => XS.sipush X0.here hx rfl (hb hby at_17) k_) ?_
    refine hG _ _ (fun t_ k_ => XS.iand X0.here hx rfl (hb hby at_20) rfl k_) ?_
    refine hG _ _ (fun t_ k_ => XS.i2c X0.here hx rfl (hb hby at_21) rfl k_) ?_
    show G (s₁.setTop (mkF m 22 #[.val (.int i0), .val (.int i1), .val (.int i2), .val (.int i3), .val (.int 1), .val (.int c56), .unset, .unset, .unset, .unset, .unset, .unset] [(.int ((i1 &&& (255 : Int32)).toUInt32.toUInt16.toUInt32.toInt32))]))
    generalize hn_c57 : ((i1 &&& (255 : Int32)).toUInt32.toUInt16.toUInt32.toInt32) = c57
    have hr_c57 := own_mask8 hn_c57
    show G (s₁.setTop (mkF m 22 #[.val (.int i0), .val (.int i1), .val (.int i2), .val (.int i3), .val (.int 1), .val (.int c56), .unset, .unset, .unset, .unset, .unset, .unset] [(.int c57)]))
    refine hG _ _ (fun t_ k_ => XS.istore X0.here hx rfl (hb hby at_22) rfl (l' := #[.val (.int i0), .val (.int i1), .val (.int i2), .val (.int i3), .val (.int 1), .val (.int c56), .val (.int c57), .unset, .unset, .unset, .unset, .unset]) rfl k_) ?_
    refine hG _ _ (fun t_ k_ => XS.iloadN X0.here hx rfl (hb hby at_24) rfl k_) ?_
    refine hG _ _ (fun t_ k_ => XS.sipush X0.here hx rfl (hb hby at_25) k_) ?_
    refine hG _ _ (fun t_ k_ => XS.iand X0.here hx rfl (hb hby at_28) rfl k_) ?_
    refine hG _ _ (fun t_ k_ => XS.i2c X0.here hx rfl (hb hby at_29) rfl k_) ?_
    show G (s₁.setTop (mkF m 30 #[.val (.int i0), .val (.int i1), .val (.int i2), .val (.int i3), .val (.int 1), .val (.int c56), .val (.int c57), .unset, .unset, .unset, .unset, .unset] [(.int ((i2 &&& (255 : Int32)).toUInt32.toUInt16.toUInt32.toInt32))]))
    generalize hn_c58 : ((i2 &&& (255 : Int32)).toUInt32.toUInt16.toUInt32.toInt32) = c58
    have hr_c58 := own_mask8 hn_c58
    show G (s₁.setTop (mkF m 30 #[.val (.int i0), .val (.int i1), .val (.int i2), .val (.int i3), .val (.int 1), .val (.int c56), .val (.int c57), .unset, .unset, .unset, .unset, .unset] [(.int c58)]))
    refine hG _ _ (fun t_ k_ => XS.istore X0.here hx rfl (hb hby at_30) rfl (l' := #[.val (.int i0), .val (.int i1), .val (.int i2), .val (.int i3), .val (.int 1), .val (.int c56), .val (.int c57), .val (.int c58), .unset, .unset, .unset, .unset]) rfl k_) ?_
    refine hG _ _ (fun t_ k_ => XS.iload X0.here hx rfl (hb hby at_32) rfl k_) ?_
    show G (s₁.setTop (mkF m 34 #[.val (.int i0), .val (.int i1), .val (.int i2), .val (.int i3), .val (.int 1), .val (.int c56), .val (.int c57), .val (.int c58), .unset, .unset, .unset, .unset] [(.int 1)]))
    refine hG _ _ (fun t_ k_ => XS.ifYes X0.here hx rfl (pc0 := 34) (pc' := 141) rfl (hb hby at_34) rfl ((if0 _ _).trans (feq (by decide)).2) (by decide) (by decide) k_) ?_
    show G (s₁.setTop (mkF m 141 #[.val (.int i0), .val (.int i1), .val (.int i2), .val (.int i3), .val (.int 1), .val (.int c56), .val (.int c57), .val (.int c58), .unset, .unset, .unset, .unset] []))
    refine hG _ _ (fun t_ k_ => XS.iload X0.here hx rfl (hb hby at_141) rfl k_) ?_
    refine hG _ _ (fun t_ k_ => XS.iconst X0.here hx rfl (hb hby at_143) k_) ?_
    show G (s₁.setTop (mkF m 144 #[.val (.int i0), .val (.int i1), .val (.int i2), .val (.int i3), .val (.int 1), .val (.int c56), .val (.int c57), .val (.int c58), .unset, .unset, .unset, .unset] [(.int 1), (.int 1)]))
    refine hG _ _ (fun t_ k_ => XS.icmpNo X0.here hx rfl (hb hby at_144) rfl (teq (by decide)).2 k_) ?_
    show G (s₁.setTop (mkF m 147 #[.val (.int i0), .val (.int i1), .val (.int i2), .val (.int i3), .val (.int 1), .val (.int c56), .val (.int c57), .val (.int c58), .unset, .unset, .unset, .unset] []))
    refine hG _ _ (fun t_ k_ => XS.iload X0.here hx rfl (hb hby at_147) rfl k_) ?_
    show G (s₁.setTop (mkF m 149 #[.val (.int i0), .val (.int i1), .val (.int i2), .val (.int i3), .val (.int 1), .val (.int c56), .val (.int c57), .val (.int c58), .unset, .unset, .unset, .unset] [(.int c56)]))
    refine own_callS X0 hx hZ hG hown (ow hw 1 rfl) (ow hw 2 rfl) (ow hw 3 rfl) (ow hw 4 rfl) (by decide) 0 (own_val1 l Z a0 hw c56 cpt h0 O0 (own_le255 hr_c56) g0_S g1_hcpt) (by decide) (by decide) e0 (by rw [hml]; rfl) (lenOf own_pd9 rfl) (argsL := [(.int c56)]) (rest := []) rfl rfl (Nat.le_of_eq rfl) (hb hby at_149) (by decide) (by decide) ?_
    intro T59 h59 v59 L59 X59 e59 q59
    obtain ⟨t_59, b_59, kb_59, rfl, M59, J59, y59_0, y59_1, r59_0, r59_1, r59_2, r59_3⟩ := q59
    have N59 := Fr.app N0 M59
    have R59 := (CHr.keep J59 all0 H0)
    have C59 := (CHr.refl H0).trans R59
    have K59 : Keep h0 h59 [] := (Keep.refl h0 []).trans J59 all0
    have O59 : own_Old Z h59 := O0.keep J59 all0
    show G (T59.setTop (mkF m 152 #[.val (.int i0), .val (.int i1), .val (.int i2), .val (.int i3), .val (.int 1), .val (.int c56), .val (.int c57), .val (.int c58), .unset, .unset, .unset, .unset] [(.ref t_59)]))
    have W60 : Arv Z h59 b_59 kb_59 .byte (1 : Int32) [(.int (c56.toInt8.toInt32))] (.int 0) := by have q := r59_3; rw [own_nb] at q; exact q
    show G (T59.setTop (mkF m 152 #[.val (.int i0), .val (.int i1), .val (.int i2), .val (.int i3), .val (.int 1), .val (.int c56), .val (.int c57), .val (.int c58), .unset, .unset, .unset, .unset] [(.ref t_59)]))
    refine hG _ _ (fun t_ k_ => XS.astore X59.here hx rfl (hb hby at_152) rfl rfl (l' := #[.val (.int i0), .val (.int i1), .val (.int i2), .val (.int i3), .val (.int 1), .val (.int c56), .val (.int c57), .val (.int c58), .val (.ref t_59), .unset, .unset, .unset]) rfl k_) ?_
    obtain ⟨T61, h61, X61, e61, E61, A61, D61, -, st61⟩ := newO X59 hx hZ hown (ow hw 27 rfl) (ow hw 11 rfl) (ow hw 3 rfl) e59 (g := (mkF m 154 #[.val (.int i0), .val (.int i1), .val (.int i2), .val (.int i3), .val (.int 1), .val (.int c56), .val (.int c57), .val (.int c58), .val (.ref t_59), .unset, .unset, .unset] [])) rfl (hb hby at_154) (by decide) (by decide)
    obtain ⟨b61, z61⟩ : ∃ z, z = h59.size := ⟨_, rfl⟩
    rw [← z61] at A61 D61 st61
    refine hG _ _ st61 ?_
    have R61 := (CHr.ext E61 R59.1)
    have C61 := C59.trans R61
    have K61 : Keep h0 h61 [] := K59.ext E61
    have O61 : own_Old Z h61 := O59.ext E61
    refine hG _ _ (fun t_ k_ => XS.dup X61.here hx rfl (hb hby at_157) rfl rfl k_) ?_
    refine hG _ _ (fun t_ k_ => XS.bipush X61.here hx rfl (hb hby at_158) k_) ?_
    obtain ⟨T62, h62, k62, X62, e62, E62, A62, st62⟩ := newP X61 hx hZ (ow hw 28 rfl) e61 (g := (mkF m 160 #[.val (.int i0), .val (.int i1), .val (.int i2), .val (.int i3), .val (.int 1), .val (.int c56), .val (.int c57), .val (.int c58), .val (.ref t_59), .unset, .unset, .unset] [(.int 16), (.ref b61), (.ref b61)])) rfl (hb hby at_160) rfl (by decide) (cap := 16) (by decide) (by decide) (by decide) (by decide)
    obtain ⟨b62, z62⟩ : ∃ z, z = h61.size := ⟨_, rfl⟩
    rw [← z62] at A62 st62
    refine hG _ _ st62 ?_
    have R62 := (CHr.ext E62 R61.1)
    have C62 := C61.trans R62
    have K62 : Keep h0 h62 [] := K61.ext E62
    have O62 : own_Old Z h62 := O61.ext E62
    have V62 : Arv Z h62 b62 k62 .char (16 : Int32) [(.int 0), (.int 0), (.int 0), (.int 0), (.int 0), (.int 0), (.int 0), (.int 0), (.int 0), (.int 0), (.int 0), (.int 0), (.int 0), (.int 0), (.int 0), (.int 0)] (.int 0) := (Arv.new A62 (by decide)).pad (pad_rep [] (.int 0) 16)
    refine hG _ _ (fun t_ k_ => XS.dup X62.here hx rfl (hb hby at_162) rfl rfl k_) ?_
    refine hG _ _ (fun t_ k_ => XS.iconst X62.here hx rfl (hb hby at_163) k_) ?_
    refine hG _ _ (fun t_ k_ => XS.bipush X62.here hx rfl (hb hby at_164) k_) ?_
    obtain ⟨c63, Ar63, q63, S63, M63, H63, G63⟩ := id V62
    obtain ⟨T63, h63, X63, e63, W63, st63⟩ := stC X62 hx hZ e62 Ar63 (j := (0 : Int32)) (inb_of S63 ⟨by decide, by decide⟩) (g := (mkF m 166 #[.val (.int i0), .val (.int i1), .val (.int i2), .val (.int i3), .val (.int 1), .val (.int c56), .val (.int c57), .val (.int c58), .val (.ref t_59), .unset, .unset, .unset] [(.int 98), (.int 0), (.ref b62), (.ref b62), (.ref b61), (.ref b61)])) rfl rfl (hb hby at_166)
    refine hG _ _ st63 ?_
    have sf64 : Safe Z consts_1 _ h62 b62 := (own_safeArv hZ.alike V62 (by decide))
    have R63 := (CHr.wr W63 sf64 R62.1)
    have C63 := C62.trans R63
    have K63 : Keep h0 h63 [] := K62.wr W63 (Or.inr (Nat.le_trans K61.1 (Nat.le_of_eq z62.symm)))
    have O63 : own_Old Z h63 := O62.wr W63 (own_ge O61 (Nat.le_of_eq z62.symm))
    rw [own_narC (by decide)] at W63
    have V63 : Arv Z h63 b62 k62 .char (16 : Int32) [(.int 98), (.int 0), (.int 0), (.int 0), (.int 0), (.int 0), (.int 0), (.int 0), (.int 0), (.int 0), (.int 0), (.int 0), (.int 0), (.int 0), (.int 0), (.int 0)] (.int 0) := Arv.set Ar63 q63 S63 M63 H63 G63 (own_fitC (by decide)) W63 0 rfl (Nat.le_of_ble_eq_true rfl)
    have N63 := Fr.snoc X63 N59 (own_ge O61 (Nat.le_of_eq z62.symm))
    show G (T63.setTop (mkF m 167 #[.val (.int i0), .val (.int i1), .val (.int i2), .val (.int i3), .val (.int 1), .val (.int c56), .val (.int c57), .val (.int c58), .val (.ref t_59), .unset, .unset, .unset] [(.ref b62), (.ref b61), (.ref b61)]))
    refine hG _ _ (fun t_ k_ => XS.dup X63.here hx rfl (hb hby at_167) rfl rfl k_) ?_
    refine hG _ _ (fun t_ k_ => XS.iconst X63.here hx rfl (hb hby at_168) k_) ?_
    refine hG _ _ (fun t_ k_ => XS.bipush X63.here hx rfl (hb hby at_169) k_) ?_
    obtain ⟨c65, Ar65, q65, S65, M65, H65, G65⟩ := id V63
    obtain ⟨T65, h65, X65, e65, W65, st65⟩ := stC X63 hx hZ e63 Ar65 (j := (1 : Int32)) (inb_of S65 ⟨by decide, by decide⟩) (g := (mkF m 171 #[.val (.int i0), .val (.int i1), .val (.int i2), .val (.int i3), .val (.int 1), .val (.int c56), .val (.int c57), .val (.int c58), .val (.ref t_59), .unset, .unset, .unset] [(.int 101), (.int 1), (.ref b62), (.ref b62), (.ref b61), (.ref b61)])) rfl rfl (hb hby at_171)
    refine hG _ _ st65 ?_
    have sf66 := (R63.safe V62.lt sf64)
    have R65 := (CHr.wr W65 sf66 R63.1)
    have C65 := C63.trans R65
    have K65 : Keep h0 h65 [] := K63.wr W65 (Or.inr (Nat.le_trans K61.1 (Nat.le_of_eq z62.symm)))
    have O65 : own_Old Z h65 := O63.wr W65 (own_ge O61 (Nat.le_of_eq z62.symm))
    rw [own_narC (by decide)] at W65
    have V65 : Arv Z h65 b62 k62 .char (16 : Int32) [(.int 98), (.int 101), (.int 0), (.int 0), (.int 0), (.int 0), (.int 0), (.int 0), (.int 0), (.int 0), (.int 0), (.int 0), (.int 0), (.int 0), (.int 0), (.int 0)] (.int 0) := Arv.set Ar65 q65 S65 M65 H65 G65 (own_fitC (by decide)) W65 1 rfl (Nat.le_of_ble_eq_true rfl)
    have N65 := Fr.snoc X65 N63 (own_ge O61 (Nat.le_of_eq z62.symm))
    refine hG _ _ (fun t_ k_ => XS.dup X65.here hx rfl (hb hby at_172) rfl rfl k_) ?_
    refine hG _ _ (fun t_ k_ => XS.iconst X65.here hx rfl (hb hby at_173) k_) ?_
    refine hG _ _ (fun t_ k_ => XS.bipush X65.here hx rfl (hb hby at_174) k_) ?_
    obtain ⟨c67, Ar67, q67, S67, M67, H67, G67⟩ := id V65
    obtain ⟨T67, h67, X67, e67, W67, st67⟩ := stC X65 hx hZ e65 Ar67 (j := (2 : Int32)) (inb_of S67 ⟨by decide, by decide⟩) (g := (mkF m 176 #[.val (.int i0), .val (.int i1), .val (.int i2), .val (.int i3), .val (.int 1), .val (.int c56), .val (.int c57), .val (.int c58), .val (.ref t_59), .unset, .unset, .unset] [(.int 97), (.int 2), (.ref b62), (.ref b62), (.ref b61), (.ref b61)])) rfl rfl (hb hby at_176)
    refine hG _ _ st67 ?_
    have sf68 := (R65.safe V63.lt sf66)
    have R67 := (CHr.wr W67 sf68 R65.1)
    have C67 := C65.trans R67
    have K67 : Keep h0 h67 [] := K65.wr W67 (Or.inr (Nat.le_trans K61.1 (Nat.le_of_eq z62.symm)))
    have O67 : own_Old Z h67 := O65.wr W67 (own_ge O61 (Nat.le_of_eq z62.symm))
    rw [own_narC (by decide)] at W67
    have V67 : Arv Z h67 b62 k62 .char (16 : Int32) [(.int 98), (.int 101), (.int 97), (.int 0), (.int 0), (.int 0), (.int 0), (.int 0), (.int 0), (.int 0), (.int 0), (.int 0), (.int 0), (.int 0), (.int 0), (.int 0)] (.int 0) := Arv.set Ar67 q67 S67 M67 H67 G67 (own_fitC (by decide)) W67 2 rfl (Nat.le_of_ble_eq_true rfl)
    have N67 := Fr.snoc X67 N65 (own_ge O61 (Nat.le_of_eq z62.symm))
    refine hG _ _ (fun t_ k_ => XS.dup X67.here hx rfl (hb hby at_177) rfl rfl k_) ?_
    show G (T67.setTop (mkF m 178 #[.val (.int i0), .val (.int i1), .val (.int i2), .val (.int i3), .val (.int 1), .val (.int c56), .val (.int c57), .val (.int c58), .val (.ref t_59), .unset, .unset, .unset] [(.ref b62), (.ref b62), (.ref b61), (.ref b61)]))
    refine hG _ _ (fun t_ k_ => XS.iconst X67.here hx rfl (hb hby at_178) k_) ?_
    refine hG _ _ (fun t_ k_ => XS.bipush X67.here hx rfl (hb hby at_179) k_) ?_
    obtain ⟨c69, Ar69, q69, S69, M69, H69, G69⟩ := id V67
    obtain ⟨T69, h69, X69, e69, W69, st69⟩ := stC X67 hx hZ e67 Ar69 (j := (3 : Int32)) (inb_of S69 ⟨by decide, by decide⟩) (g := (mkF m 181 #[.val (.int i0), .val (.int i1), .val (.int i2), .val (.int i3), .val (.int 1), .val (.int c56), .val (.int c57), .val (.int c58), .val (.ref t_59), .unset, .unset, .unset] [(.int 109), (.int 3), (.ref b62), (.ref b62), (.ref b61), (.ref b61)])) rfl rfl (hb hby at_181)
    refine hG _ _ st69 ?_
    have sf70 := (R67.safe V65.lt sf68)
    have R69 := (CHr.wr W69 sf70 R67.1)
    have C69 := C67.trans R69
    have K69 : Keep h0 h69 [] := K67.wr W69 (Or.inr (Nat.le_trans K61.1 (Nat.le_of_eq z62.symm)))
    have O69 : own_Old Z h69 := O67.wr W69 (own_ge O61 (Nat.le_of_eq z62.symm))
    rw [own_narC (by decide)] at W69
    have V69 : Arv Z h69 b62 k62 .char (16 : Int32) [(.int 98), (.int 101), (.int 97), (.int 109), (.int 0), (.int 0), (.int 0), (.int 0), (.int 0), (.int 0), (.int 0), (.int 0), (.int 0), (.int 0), (.int 0), (.int 0)] (.int 0) := Arv.set Ar69 q69 S69 M69 H69 G69 (own_fitC (by decide)) W69 3 rfl (Nat.le_of_ble_eq_true rfl)
    have N69 := Fr.snoc X69 N67 (own_ge O61 (Nat.le_of_eq z62.symm))
    refine hG _ _ (fun t_ k_ => XS.dup X69.here hx rfl (hb hby at_182) rfl rfl k_) ?_
    refine hG _ _ (fun t_ k_ => XS.iconst X69.here hx rfl (hb hby at_183) k_) ?_
    refine hG _ _ (fun t_ k_ => XS.bipush X69.here hx rfl (hb hby at_184) k_) ?_
    obtain ⟨c71, Ar71, q71, S71, M71, H71, G71⟩ := id V69
    obtain ⟨T71, h71, X71, e71, W71, st71⟩ := stC X69 hx hZ e69 Ar71 (j := (4 : Int32)) (inb_of S71 ⟨by decide, by decide⟩) (g := (mkF m 186 #[.val (.int i0), .val (.int i1), .val (.int i2), .val (.int i3), .val (.int 1), .val (.int c56), .val (.int c57), .val (.int c58), .val (.ref t_59), .unset, .unset, .unset] [(.int 108), (.int 4), (.ref b62), (.ref b62), (.ref b61), (.ref b61)])) rfl rfl (hb hby at_186)
    refine hG _ _ st71 ?_
    have sf72 := (R69.safe V67.lt sf70)
    have R71 := (CHr.wr W71 sf72 R69.1)
    have C71 := C69.trans R71
    have K71 : Keep h0 h71 [] := K69.wr W71 (Or.inr (Nat.le_trans K61.1 (Nat.le_of_eq z62.symm)))
    have O71 : own_Old Z h71 := O69.wr W71 (own_ge O61 (Nat.le_of_eq z62.symm))
    rw [own_narC (by decide)] at W71
    have V71 : Arv Z h71 b62 k62 .char (16 : Int32) [(.int 98), (.int 101), (.int 97), (.int 109), (.int 108), (.int 0), (.int 0), (.int 0), (.int 0), (.int 0), (.int 0), (.int 0), (.int 0), (.int 0), (.int 0), (.int 0)] (.int 0) := Arv.set Ar71 q71 S71 M71 H71 G71 (own_fitC (by decide)) W71 4 rfl (Nat.le_of_ble_eq_true rfl)
    have N71 := Fr.snoc X71 N69 (own_ge O61 (Nat.le_of_eq z62.symm))
    refine hG _ _ (fun t_ k_ => XS.dup X71.here hx rfl (hb hby at_187) rfl rfl k_) ?_
    refine hG _ _ (fun t_ k_ => XS.iconst X71.here hx rfl (hb hby at_188) k_) ?_
    show G (T71.setTop (mkF m 189 #[.val (.int i0), .val (.int i1), .val (.int i2), .val (.int i3), .val (.int 1), .val (.int c56), .val (.int c57), .val (.int c58), .val (.ref t_59), .unset, .unset, .unset] [(.int 5), (.ref b62), (.ref b62), (.ref b61), (.ref b61)]))
    refine hG _ _ (fun t_ k_ => XS.bipush X71.here hx rfl (hb hby at_189) k_) ?_
    obtain ⟨c73, Ar73, q73, S73, M73, H73, G73⟩ := id V71
    obtain ⟨T73, h73, X73, e73, W73, st73⟩ := stC X71 hx hZ e71 Ar73 (j := (5 : Int32)) (inb_of S73 ⟨by decide, by decide⟩) (g := (mkF m 191 #[.val (.int i0), .val (.int i1), .val (.int i2), .val (.int i3), .val (.int 1), .val (.int c56), .val (.int c57), .val (.int c58), .val (.ref t_59), .unset, .unset, .unset] [(.int 105), (.int 5), (.ref b62), (.ref b62), (.ref b61), (.ref b61)])) rfl rfl (hb hby at_191)
    refine hG _ _ st73 ?_
    have sf74 := (R71.safe V69.lt sf72)
    have R73 := (CHr.wr W73 sf74 R71.1)
    have C73 := C71.trans R73
    have K73 : Keep h0 h73 [] := K71.wr W73 (Or.inr (Nat.le_trans K61.1 (Nat.le_of_eq z62.symm)))
    have O73 : own_Old Z h73 := O71.wr W73 (own_ge O61 (Nat.le_of_eq z62.symm))
    rw [own_narC (by decide)] at W73
    have V73 : Arv Z h73 b62 k62 .char (16 : Int32) [(.int 98), (.int 101), (.int 97), (.int 109), (.int 108), (.int 105), (.int 0), (.int 0), (.int 0), (.int 0), (.int 0), (.int 0), (.int 0), (.int 0), (.int 0), (.int 0)] (.int 0) := Arv.set Ar73 q73 S73 M73 H73 G73 (own_fitC (by decide)) W73 5 rfl (Nat.le_of_ble_eq_true rfl)
    have N73 := Fr.snoc X73 N71 (own_ge O61 (Nat.le_of_eq z62.symm))
    refine hG _ _ (fun t_ k_ => XS.dup X73.here hx rfl (hb hby at_192) rfl rfl k_) ?_
    refine hG _ _ (fun t_ k_ => XS.bipush X73.here hx rfl (hb hby at_193) k_) ?_
    refine hG _ _ (fun t_ k_ => XS.bipush X73.here hx rfl (hb hby at_195) k_) ?_
    obtain ⟨c75, Ar75, q75, S75, M75, H75, G75⟩ := id V73
    obtain ⟨T75, h75, X75, e75, W75, st75⟩ := stC X73 hx hZ e73 Ar75 (j := (6 : Int32)) (inb_of S75 ⟨by decide, by decide⟩) (g := (mkF m 197 #[.val (.int i0), .val (.int i1), .val (.int i2), .val (.int i3), .val (.int 1), .val (.int c56), .val (.int c57), .val (.int c58), .val (.ref t_59), .unset, .unset, .unset] [(.int 110), (.int 6), (.ref b62), (.ref b62), (.ref b61), (.ref b61)])) rfl rfl (hb hby at_197)
    refine hG _ _ st75 ?_
    have sf76 := (R73.safe V71.lt sf74)
    have R75 := (CHr.wr W75 sf76 R73.1)
    have C75 := C73.trans R75
    have K75 : Keep h0 h75 [] := K73.wr W75 (Or.inr (Nat.le_trans K61.1 (Nat.le_of_eq z62.symm)))
    have O75 : own_Old Z h75 := O73.wr W75 (own_ge O61 (Nat.le_of_eq z62.symm))
    rw [own_narC (by decide)] at W75
    have V75 : Arv Z h75 b62 k62 .char (16 : Int32) [(.int 98), (.int 101), (.int 97), (.int 109), (.int 108), (.int 105), (.int 110), (.int 0), (.int 0), (.int 0), (.int 0), (.int 0), (.int 0), (.int 0), (.int 0), (.int 0)] (.int 0) := Arv.set Ar75 q75 S75 M75 H75 G75 (own_fitC (by decide)) W75 6 rfl (Nat.le_of_ble_eq_true rfl)
    have N75 := Fr.snoc X75 N73 (own_ge O61 (Nat.le_of_eq z62.symm))
    refine hG _ _ (fun t_ k_ => XS.dup X75.here hx rfl (hb hby at_198) rfl rfl k_) ?_
    refine hG _ _ (fun t_ k_ => XS.bipush X75.here hx rfl (hb hby at_199) k_) ?_
    refine hG _ _ (fun t_ k_ => XS.bipush X75.here hx rfl (hb hby at_201) k_) ?_
    show G (T75.setTop (mkF m 203 #[.val (.int i0), .val (.int i1), .val (.int i2), .val (.int i3), .val (.int 1), .val (.int c56), .val (.int c57), .val (.int c58), .val (.ref t_59), .unset, .unset, .unset] [(.int 101), (.int 7), (.ref b62), (.ref b62), (.ref b61), (.ref b61)]))
    obtain ⟨c77, Ar77, q77, S77, M77, H77, G77⟩ := id V75
    obtain ⟨T77, h77, X77, e77, W77, st77⟩ := stC X75 hx hZ e75 Ar77 (j := (7 : Int32)) (inb_of S77 ⟨by decide, by decide⟩) (g := (mkF m 203 #[.val (.int i0), .val (.int i1), .val (.int i2), .val (.int i3), .val (.int 1), .val (.int c56), .val (.int c57), .val (.int c58), .val (.ref t_59), .unset, .unset, .unset] [(.int 101), (.int 7), (.ref b62), (.ref b62), (.ref b61), (.ref b61)])) rfl rfl (hb hby at_203)
    refine hG _ _ st77 ?_
    have sf78 := (R75.safe V73.lt sf76)
    have R77 := (CHr.wr W77 sf78 R75.1)
    have C77 := C75.trans R77
    have K77 : Keep h0 h77 [] := K75.wr W77 (Or.inr (Nat.le_trans K61.1 (Nat.le_of_eq z62.symm)))
    have O77 : own_Old Z h77 := O75.wr W77 (own_ge O61 (Nat.le_of_eq z62.symm))
    rw [own_narC (by decide)] at W77
    have V77 : Arv Z h77 b62 k62 .char (16 : Int32) [(.int 98), (.int 101), (.int 97), (.int 109), (.int 108), (.int 105), (.int 110), (.int 101), (.int 0), (.int 0), (.int 0), (.int 0), (.int 0), (.int 0), (.int 0), (.int 0)] (.int 0) := Arv.set Ar77 q77 S77 M77 H77 G77 (own_fitC (by decide)) W77 7 rfl (Nat.le_of_ble_eq_true rfl)
    have N77 := Fr.snoc X77 N75 (own_ge O61 (Nat.le_of_eq z62.symm))
    refine hG _ _ (fun t_ k_ => XS.dup X77.here hx rfl (hb hby at_204) rfl rfl k_) ?_
    refine hG _ _ (fun t_ k_ => XS.bipush X77.here hx rfl (hb hby at_205) k_) ?_
    refine hG _ _ (fun t_ k_ => XS.bipush X77.here hx rfl (hb hby at_207) k_) ?_
    obtain ⟨c79, Ar79, q79, S79, M79, H79, G79⟩ := id V77
    obtain ⟨T79, h79, X79, e79, W79, st79⟩ := stC X77 hx hZ e77 Ar79 (j := (8 : Int32)) (inb_of S79 ⟨by decide, by decide⟩) (g := (mkF m 209 #[.val (.int i0), .val (.int i1), .val (.int i2), .val (.int i3), .val (.int 1), .val (.int c56), .val (.int c57), .val (.int c58), .val (.ref t_59), .unset, .unset, .unset] [(.int 45), (.int 8), (.ref b62), (.ref b62), (.ref b61), (.ref b61)])) rfl rfl (hb hby at_209)
    refine hG _ _ st79 ?_
    have sf80 := (R77.safe V75.lt sf78)
    have R79 := (CHr.wr W79 sf80 R77.1)
    have C79 := C77.trans R79
    have K79 : Keep h0 h79 [] := K77.wr W79 (Or.inr (Nat.le_trans K61.1 (Nat.le_of_eq z62.symm)))
    have O79 : own_Old Z h79 := O77.wr W79 (own_ge O61 (Nat.le_of_eq z62.symm))
    rw [own_narC (by decide)] at W79
    have V79 : Arv Z h79 b62 k62 .char (16 : Int32) [(.int 98), (.int 101), (.int 97), (.int 109), (.int 108), (.int 105), (.int 110), (.int 101), (.int 45), (.int 0), (.int 0), (.int 0), (.int 0), (.int 0), (.int 0), (.int 0)] (.int 0) := Arv.set Ar79 q79 S79 M79 H79 G79 (own_fitC (by decide)) W79 8 rfl (Nat.le_of_ble_eq_true rfl)
    have N79 := Fr.snoc X79 N77 (own_ge O61 (Nat.le_of_eq z62.symm))
    refine hG _ _ (fun t_ k_ => XS.dup X79.here hx rfl (hb hby at_210) rfl rfl k_) ?_
    refine hG _ _ (fun t_ k_ => XS.bipush X79.here hx rfl (hb hby at_211) k_) ?_
    refine hG _ _ (fun t_ k_ => XS.bipush X79.here hx rfl (hb hby at_213) k_) ?_
    obtain ⟨c81, Ar81, q81, S81, M81, H81, G81⟩ := id V79
    obtain ⟨T81, h81, X81, e81, W81, st81⟩ := stC X79 hx hZ e79 Ar81 (j := (9 : Int32)) (inb_of S81 ⟨by decide, by decide⟩) (g := (mkF m 215 #[.val (.int i0), .val (.int i1), .val (.int i2), .val (.int i3), .val (.int 1), .val (.int c56), .val (.int c57), .val (.int c58), .val (.ref t_59), .unset, .unset, .unset] [(.int 97), (.int 9), (.ref b62), (.ref b62), (.ref b61), (.ref b61)])) rfl rfl (hb hby at_215)
    refine hG _ _ st81 ?_
    have sf82 := (R79.safe V77.lt sf80)
    have R81 := (CHr.wr W81 sf82 R79.1)
    have C81 := C79.trans R81
    have K81 : Keep h0 h81 [] := K79.wr W81 (Or.inr (Nat.le_trans K61.1 (Nat.le_of_eq z62.symm)))
    have O81 : own_Old Z h81 := O79.wr W81 (own_ge O61 (Nat.le_of_eq z62.symm))
    rw [own_narC (by decide)] at W81
    have V81 : Arv Z h81 b62 k62 .char (16 : Int32) [(.int 98), (.int 101), (.int 97), (.int 109), (.int 108), (.int 105), (.int 110), (.int 101), (.int 45), (.int 97), (.int 0), (.int 0), (.int 0), (.int 0), (.int 0), (.int 0)] (.int 0) := Arv.set Ar81 q81 S81 M81 H81 G81 (own_fitC (by decide)) W81 9 rfl (Nat.le_of_ble_eq_true rfl)
    have N81 := Fr.snoc X81 N79 (own_ge O61 (Nat.le_of_eq z62.symm))
    show G (T81.setTop (mkF m 216 #[.val (.int i0), .val (.int i1), .val (.int i2), .val (.int i3), .val (.int 1), .val (.int c56), .val (.int c57), .val (.int c58), .val (.ref t_59), .unset, .unset, .unset] [(.ref b62), (.ref b61), (.ref b61)]))
    refine hG _ _ (fun t_ k_ => XS.dup X81.here hx rfl (hb hby at_216) rfl rfl k_) ?_
    refine hG _ _ (fun t_ k_ => XS.bipush X81.here hx rfl (hb hby at_217) k_) ?_
    refine hG _ _ (fun t_ k_ => XS.bipush X81.here hx rfl (hb hby at_219) k_) ?_
    obtain ⟨c83, Ar83, q83, S83, M83, H83, G83⟩ := id V81
    obtain ⟨T83, h83, X83, e83, W83, st83⟩ := stC X81 hx hZ e81 Ar83 (j := (10 : Int32)) (inb_of S83 ⟨by decide, by decide⟩) (g := (mkF m 221 #[.val (.int i0), .val (.int i1), .val (.int i2), .val (.int i3), .val (.int 1), .val (.int c56), .val (.int c57), .val (.int c58), .val (.ref t_59), .unset, .unset, .unset] [(.int 100), (.int 10), (.ref b62), (.ref b62), (.ref b61), (.ref b61)])) rfl rfl (hb hby at_221)
    refine hG _ _ st83 ?_
    have sf84 := (R81.safe V79.lt sf82)
    have R83 := (CHr.wr W83 sf84 R81.1)
    have C83 := C81.trans R83
    have K83 : Keep h0 h83 [] := K81.wr W83 (Or.inr (Nat.le_trans K61.1 (Nat.le_of_eq z62.symm)))
    have O83 : own_Old Z h83 := O81.wr W83 (own_ge O61 (Nat.le_of_eq z62.symm))
    rw [own_narC (by decide)] at W83
    have V83 : Arv Z h83 b62 k62 .char (16 : Int32) [(.int 98), (.int 101), (.int 97), (.int 109), (.int 108), (.int 105), (.int 110), (.int 101), (.int 45), (.int 97), (.int 100), (.int 0), (.int 0), (.int 0), (.int 0), (.int 0)] (.int 0) := Arv.set Ar83 q83 S83 M83 H83 G83 (own_fitC (by decide)) W83 10 rfl (Nat.le_of_ble_eq_true rfl)
    have N83 := Fr.snoc X83 N81 (own_ge O61 (Nat.le_of_eq z62.symm))
    refine hG _ _ (fun t_ k_ => XS.dup X83.here hx rfl (hb hby at_222) rfl rfl k_) ?_
    refine hG _ _ (fun t_ k_ => XS.bipush X83.here hx rfl (hb hby at_223) k_) ?_
    refine hG _ _ (fun t_ k_ => XS.bipush X83.here hx rfl (hb hby at_225) k_) ?_
    obtain ⟨c85, Ar85, q85, S85, M85, H85, G85⟩ := id V83
    obtain ⟨T85, h85, X85, e85, W85, st85⟩ := stC X83 hx hZ e83 Ar85 (j := (11 : Int32)) (inb_of S85 ⟨by decide, by decide⟩) (g := (mkF m 227 #[.val (.int i0), .val (.int i1), .val (.int i2), .val (.int i3), .val (.int 1), .val (.int c56), .val (.int c57), .val (.int c58), .val (.ref t_59), .unset, .unset, .unset] [(.int 109), (.int 11), (.ref b62), (.ref b62), (.ref b61), (.ref b61)])) rfl rfl (hb hby at_227)
    refine hG _ _ st85 ?_
    have sf86 := (R83.safe V81.lt sf84)
    have R85 := (CHr.wr W85 sf86 R83.1)
    have C85 := C83.trans R85
    have K85 : Keep h0 h85 [] := K83.wr W85 (Or.inr (Nat.le_trans K61.1 (Nat.le_of_eq z62.symm)))
    have O85 : own_Old Z h85 := O83.wr W85 (own_ge O61 (Nat.le_of_eq z62.symm))
    rw [own_narC (by decide)] at W85
    have V85 : Arv Z h85 b62 k62 .char (16 : Int32) [(.int 98), (.int 101), (.int 97), (.int 109), (.int 108), (.int 105), (.int 110), (.int 101), (.int 45), (.int 97), (.int 100), (.int 109), (.int 0), (.int 0), (.int 0), (.int 0)] (.int 0) := Arv.set Ar85 q85 S85 M85 H85 G85 (own_fitC (by decide)) W85 11 rfl (Nat.le_of_ble_eq_true rfl)
    have N85 := Fr.snoc X85 N83 (own_ge O61 (Nat.le_of_eq z62.symm))
    refine hG _ _ (fun t_ k_ => XS.dup X85.here hx rfl (hb hby at_228) rfl rfl k_) ?_
    show G (T85.setTop (mkF m 229 #[.val (.int i0), .val (.int i1), .val (.int i2), .val (.int i3), .val (.int 1), .val (.int c56), .val (.int c57), .val (.int c58), .val (.ref t_59), .unset, .unset, .unset] [(.ref b62), (.ref b62), (.ref b61), (.ref b61)]))
    refine hG _ _ (fun t_ k_ => XS.bipush X85.here hx rfl (hb hby at_229) k_) ?_
    refine hG _ _ (fun t_ k_ => XS.bipush X85.here hx rfl (hb hby at_231) k_) ?_
    obtain ⟨c87, Ar87, q87, S87, M87, H87, G87⟩ := id V85
    obtain ⟨T87, h87, X87, e87, W87, st87⟩ := stC X85 hx hZ e85 Ar87 (j := (12 : Int32)) (inb_of S87 ⟨by decide, by decide⟩) (g := (mkF m 233 #[.val (.int i0), .val (.int i1), .val (.int i2), .val (.int i3), .val (.int 1), .val (.int c56), .val (.int c57), .val (.int c58), .val (.ref t_59), .unset, .unset, .unset] [(.int 105), (.int 12), (.ref b62), (.ref b62), (.ref b61), (.ref b61)])) rfl rfl (hb hby at_233)
    refine hG _ _ st87 ?_
    have sf88 := (R85.safe V83.lt sf86)
    have R87 := (CHr.wr W87 sf88 R85.1)
    have C87 := C85.trans R87
    have K87 : Keep h0 h87 [] := K85.wr W87 (Or.inr (Nat.le_trans K61.1 (Nat.le_of_eq z62.symm)))
    have O87 : own_Old Z h87 := O85.wr W87 (own_ge O61 (Nat.le_of_eq z62.symm))
    rw [own_narC (by decide)] at W87
    have V87 : Arv Z h87 b62 k62 .char (16 : Int32) [(.int 98), (.int 101), (.int 97), (.int 109), (.int 108), (.int 105), (.int 110), (.int 101), (.int 45), (.int 97), (.int 100), (.int 109), (.int 105), (.int 0), (.int 0), (.int 0)] (.int 0) := Arv.set Ar87 q87 S87 M87 H87 G87 (own_fitC (by decide)) W87 12 rfl (Nat.le_of_ble_eq_true rfl)
    have N87 := Fr.snoc X87 N85 (own_ge O61 (Nat.le_of_eq z62.symm))
    refine hG _ _ (fun t_ k_ => XS.dup X87.here hx rfl (hb hby at_234) rfl rfl k_) ?_
    refine hG _ _ (fun t_ k_ => XS.bipush X87.here hx rfl (hb hby at_235) k_) ?_
    refine hG _ _ (fun t_ k_ => XS.bipush X87.here hx rfl (hb hby at_237) k_) ?_
    obtain ⟨c89, Ar89, q89, S89, M89, H89, G89⟩ := id V87
    obtain ⟨T89, h89, X89, e89, W89, st89⟩ := stC X87 hx hZ e87 Ar89 (j := (13 : Int32)) (inb_of S89 ⟨by decide, by decide⟩) (g := (mkF m 239 #[.val (.int i0), .val (.int i1), .val (.int i2), .val (.int i3), .val (.int 1), .val (.int c56), .val (.int c57), .val (.int c58), .val (.ref t_59), .unset, .unset, .unset] [(.int 110), (.int 13), (.ref b62), (.ref b62), (.ref b61), (.ref b61)])) rfl rfl (hb hby at_239)
    refine hG _ _ st89 ?_
    have sf90 := (R87.safe V85.lt sf88)
    have R89 := (CHr.wr W89 sf90 R87.1)
    have C89 := C87.trans R89
    have K89 : Keep h0 h89 [] := K87.wr W89 (Or.inr (Nat.le_trans K61.1 (Nat.le_of_eq z62.symm)))
    have O89 : own_Old Z h89 := O87.wr W89 (own_ge O61 (Nat.le_of_eq z62.symm))
    rw [own_narC (by decide)] at W89
    have V89 : Arv Z h89 b62 k62 .char (16 : Int32) [(.int 98), (.int 101), (.int 97), (.int 109), (.int 108), (.int 105), (.int 110), (.int 101), (.int 45), (.int 97), (.int 100), (.int 109), (.int 105), (.int 110), (.int 0), (.int 0)] (.int 0) := Arv.set Ar89 q89 S89 M89 H89 G89 (own_fitC (by decide)) W89 13 rfl (Nat.le_of_ble_eq_true rfl)
    have N89 := Fr.snoc X89 N87 (own_ge O61 (Nat.le_of_eq z62.symm))
    refine hG _ _ (fun t_ k_ => XS.dup X89.here hx rfl (hb hby at_240) rfl rfl k_) ?_
    refine hG _ _ (fun t_ k_ => XS.bipush X89.here hx rfl (hb hby at_241) k_) ?_
    show G (T89.setTop (mkF m 243 #[.val (.int i0), .val (.int i1), .val (.int i2), .val (.int i3), .val (.int 1), .val (.int c56), .val (.int c57), .val (.int c58), .val (.ref t_59), .unset, .unset, .unset] [(.int 14), (.ref b62), (.ref b62), (.ref b61), (.ref b61)]))
    refine hG _ _ (fun t_ k_ => XS.bipush X89.here hx rfl (hb hby at_243) k_) ?_
    obtain ⟨c91, Ar91, q91, S91, M91, H91, G91⟩ := id V89
    obtain ⟨T91, h91, X91, e91, W91, st91⟩ := stC X89 hx hZ e89 Ar91 (j := (14 : Int32)) (inb_of S91 ⟨by decide, by decide⟩) (g := (mkF m 245 #[.val (.int i0), .val (.int i1), .val (.int i2), .val (.int i3), .val (.int 1), .val (.int c56), .val (.int c57), .val (.int c58), .val (.ref t_59), .unset, .unset, .unset] [(.int 32), (.int 14), (.ref b62), (.ref b62), (.ref b61), (.ref b61)])) rfl rfl (hb hby at_245)
    refine hG _ _ st91 ?_
    have sf92 := (R89.safe V87.lt sf90)
    have R91 := (CHr.wr W91 sf92 R89.1)
    have C91 := C89.trans R91
    have K91 : Keep h0 h91 [] := K89.wr W91 (Or.inr (Nat.le_trans K61.1 (Nat.le_of_eq z62.symm)))
    have O91 : own_Old Z h91 := O89.wr W91 (own_ge O61 (Nat.le_of_eq z62.symm))
    rw [own_narC (by decide)] at W91
    have V91 : Arv Z h91 b62 k62 .char (16 : Int32) [(.int 98), (.int 101), (.int 97), (.int 109), (.int 108), (.int 105), (.int 110), (.int 101), (.int 45), (.int 97), (.int 100), (.int 109), (.int 105), (.int 110), (.int 32), (.int 0)] (.int 0) := Arv.set Ar91 q91 S91 M91 H91 G91 (own_fitC (by decide)) W91 14 rfl (Nat.le_of_ble_eq_true rfl)
    have N91 := Fr.snoc X91 N89 (own_ge O61 (Nat.le_of_eq z62.symm))
    refine hG _ _ (fun t_ k_ => XS.dup X91.here hx rfl (hb hby at_246) rfl rfl k_) ?_
    refine hG _ _ (fun t_ k_ => XS.bipush X91.here hx rfl (hb hby at_247) k_) ?_
    refine hG _ _ (fun t_ k_ => XS.iload X91.here hx rfl (hb hby at_249) rfl k_) ?_
    obtain ⟨c93, Ar93, q93, S93, M93, H93, G93⟩ := id V91
    obtain ⟨T93, h93, X93, e93, W93, st93⟩ := stC X91 hx hZ e91 Ar93 (j := (15 : Int32)) (inb_of S93 ⟨by decide, by decide⟩) (g := (mkF m 251 #[.val (.int i0), .val (.int i1), .val (.int i2), .val (.int i3), .val (.int 1), .val (.int c56), .val (.int c57), .val (.int c58), .val (.ref t_59), .unset, .unset, .unset] [(.int c56), (.int 15), (.ref b62), (.ref b62), (.ref b61), (.ref b61)])) rfl rfl (hb hby at_251)
    refine hG _ _ st93 ?_
    have sf94 := (R91.safe V89.lt sf92)
    have R93 := (CHr.wr W93 sf94 R91.1)
    have C93 := C91.trans R93
    have K93 : Keep h0 h93 [] := K91.wr W93 (Or.inr (Nat.le_trans K61.1 (Nat.le_of_eq z62.symm)))
    have O93 : own_Old Z h93 := O91.wr W93 (own_ge O61 (Nat.le_of_eq z62.symm))
    rw [own_narC ⟨hr_c56.1, by omega⟩] at W93
    have V93 : Arv Z h93 b62 k62 .char (16 : Int32) [(.int 98), (.int 101), (.int 97), (.int 109), (.int 108), (.int 105), (.int 110), (.int 101), (.int 45), (.int 97), (.int 100), (.int 109), (.int 105), (.int 110), (.int 32), (.int c56)] (.int 0) := Arv.set Ar93 q93 S93 M93 H93 G93 (own_fitC ⟨hr_c56.1, by omega⟩) W93 15 rfl (Nat.le_of_ble_eq_true rfl)
    have N93 := Fr.snoc X93 N91 (own_ge O61 (Nat.le_of_eq z62.symm))
    show G (T93.setTop (mkF m 252 #[.val (.int i0), .val (.int i1), .val (.int i2), .val (.int i3), .val (.int 1), .val (.int c56), .val (.int c57), .val (.int c58), .val (.ref t_59), .unset, .unset, .unset] [(.ref b62), (.ref b61), (.ref b61)]))
    have f96 := (((((((((((((((((A61.ext E62).wr W63).wr W65).wr W67).wr W69).wr W71).wr W73).wr W75).wr W77).wr W79).wr W81).wr W83).wr W85).wr W87).wr W89).wr W91).wr W93)
    have f97 := ((((((((((((((((((D61 (Or.inr (ow hw 26 rfl)) (ty := .byte) (by decide)).ext E62).other W63 (Or.inl (own_ne A61.lt (Nat.le_of_eq z62.symm)))).other W65 (Or.inl (own_ne A61.lt (Nat.le_of_eq z62.symm)))).other W67 (Or.inl (own_ne A61.lt (Nat.le_of_eq z62.symm)))).other W69 (Or.inl (own_ne A61.lt (Nat.le_of_eq z62.symm)))).other W71 (Or.inl (own_ne A61.lt (Nat.le_of_eq z62.symm)))).other W73 (Or.inl (own_ne A61.lt (Nat.le_of_eq z62.symm)))).other W75 (Or.inl (own_ne A61.lt (Nat.le_of_eq z62.symm)))).other W77 (Or.inl (own_ne A61.lt (Nat.le_of_eq z62.symm)))).other W79 (Or.inl (own_ne A61.lt (Nat.le_of_eq z62.symm)))).other W81 (Or.inl (own_ne A61.lt (Nat.le_of_eq z62.symm)))).other W83 (Or.inl (own_ne A61.lt (Nat.le_of_eq z62.symm)))).other W85 (Or.inl (own_ne A61.lt (Nat.le_of_eq z62.symm)))).other W87 (Or.inl (own_ne A61.lt (Nat.le_of_eq z62.symm)))).other W89 (Or.inl (own_ne A61.lt (Nat.le_of_eq z62.symm)))).other W91 (Or.inl (own_ne A61.lt (Nat.le_of_eq z62.symm)))).other W93 (Or.inl (own_ne A61.lt (Nat.le_of_eq z62.symm))))
    have f98 := ((((((((((((((((((D61 (Or.inr (ow hw 24 rfl)) (ty := (.array .byte)) (by decide)).ext E62).other W63 (Or.inl (own_ne A61.lt (Nat.le_of_eq z62.symm)))).other W65 (Or.inl (own_ne A61.lt (Nat.le_of_eq z62.symm)))).other W67 (Or.inl (own_ne A61.lt (Nat.le_of_eq z62.symm)))).other W69 (Or.inl (own_ne A61.lt (Nat.le_of_eq z62.symm)))).other W71 (Or.inl (own_ne A61.lt (Nat.le_of_eq z62.symm)))).other W73 (Or.inl (own_ne A61.lt (Nat.le_of_eq z62.symm)))).other W75 (Or.inl (own_ne A61.lt (Nat.le_of_eq z62.symm)))).other W77 (Or.inl (own_ne A61.lt (Nat.le_of_eq z62.symm)))).other W79 (Or.inl (own_ne A61.lt (Nat.le_of_eq z62.symm)))).other W81 (Or.inl (own_ne A61.lt (Nat.le_of_eq z62.symm)))).other W83 (Or.inl (own_ne A61.lt (Nat.le_of_eq z62.symm)))).other W85 (Or.inl (own_ne A61.lt (Nat.le_of_eq z62.symm)))).other W87 (Or.inl (own_ne A61.lt (Nat.le_of_eq z62.symm)))).other W89 (Or.inl (own_ne A61.lt (Nat.le_of_eq z62.symm)))).other W91 (Or.inl (own_ne A61.lt (Nat.le_of_eq z62.symm)))).other W93 (Or.inl (own_ne A61.lt (Nat.le_of_eq z62.symm))))
    refine own_callI X93 hx hZ hG hown rfl (ow hw 29 rfl) (ow hw 30 rfl) (ow hw 3 rfl) (ow hw 31 rfl) (by decide) 1 (own_str1 l Z a0 hw b61 b62 k62 [(98 : Int32), (101 : Int32), (97 : Int32), (109 : Int32), (108 : Int32), (105 : Int32), (110 : Int32), (101 : Int32), (45 : Int32), (97 : Int32), (100 : Int32), (109 : Int32), (105 : Int32), (110 : Int32), (32 : Int32), c56] cpt (.int 0) .null h93 O93 f96 f97 f98 (own_ge O59 (Nat.le_of_eq z61.symm)) V93 (Nat.le_of_ble_eq_true rfl) (Nat.le_of_ble_eq_true rfl) (own_allc (by decide) (own_allc (by decide) (own_allc (by decide) (own_allc (by decide) (own_allc (by decide) (own_allc (by decide) (own_allc (by decide) (own_allc (by decide) (own_allc (by decide) (own_allc (by decide) (own_allc (by decide) (own_allc (by decide) (own_allc (by decide) (own_allc (by decide) (own_allc (by decide) (own_allc (own_le255 hr_c56) own_alln)))))))))))))))) g0_S g1_hcpt) (by decide) (by decide) e93 (by rw [hml]; rfl) (lenOf own_pd5 rfl) (argsL := [(.ref b62)]) (rest := [(.ref b61)]) rfl rfl (Nat.le_of_eq rfl) (hb hby at_252) (by decide) (by decide) ?_
    intro T95 h95 v95 L95 X95 e95 q95
    obtain ⟨t_95, kt_95, rfl, M95, J95, y95_0, r95_0, r95_1, r95_2, r95_3⟩ := q95
    have N95 := Fr.app N93 M95
    have sf99 : Safe Z consts_1 _ h93 b61 := (own_safeStr hZ.alike f96 f98)
    have R95 := (CHr.keep J95 (allS sf99 all0) R93.1)
    have C95 := C93.trans R95
    have K95 : Keep h0 h95 [] := K93.trans J95 (allS (Or.inr (Nat.le_trans K59.1 (Nat.le_of_eq z61.symm))) all0)
    have O95 : own_Old Z h95 := O93.keep J95 (allS (own_ge O59 (Nat.le_of_eq z61.symm)) all0)
    refine hG _ _ (fun t_ k_ => XS.astore X95.here hx rfl (hb hby at_255) rfl rfl (l' := #[.val (.int i0), .val (.int i1), .val (.int i2), .val (.int i3), .val (.int 1), .val (.int c56), .val (.int c57), .val (.int c58), .val (.ref t_59), .val (.ref b61), .unset, .unset]) rfl k_) ?_
    refine hG _ _ (fun t_ k_ => XS.goto X95.here hx rfl (pc0 := 257) (pc' := 542) rfl (hb hby at_257) (by decide) (by decide) k_) ?_
    refine hG _ _ (fun t_ k_ => XS.aload X95.here hx rfl (hb hby at_542) rfl rfl k_) ?_
    show G (T95.setTop (mkF m 544 #[.val (.int i0), .val (.int i1), .val (.int i2), .val (.int i3), .val (.int 1), .val (.int c56), .val (.int c57), .val (.int c58), .val (.ref t_59), .val (.ref b61), .unset, .unset] [(.ref t_59)]))
    have f101 := (((((((((((((((((((r59_0.ext E61).ext E62).wr W63).wr W65).wr W67).wr W69).wr W71).wr W73).wr W75).wr W77).wr W79).wr W81).wr W83).wr W85).wr W87).wr W89).wr W91).wr W93).keep J95)
    have f102 := (((((((((((((((((((r59_1.ext E61).ext E62).other W63 (Or.inl (own_ne (Nat.lt_of_lt_of_le r59_0.lt E61.1) (Nat.le_of_eq z62.symm)))).other W65 (Or.inl (own_ne (Nat.lt_of_lt_of_le r59_0.lt E61.1) (Nat.le_of_eq z62.symm)))).other W67 (Or.inl (own_ne (Nat.lt_of_lt_of_le r59_0.lt E61.1) (Nat.le_of_eq z62.symm)))).other W69 (Or.inl (own_ne (Nat.lt_of_lt_of_le r59_0.lt E61.1) (Nat.le_of_eq z62.symm)))).other W71 (Or.inl (own_ne (Nat.lt_of_lt_of_le r59_0.lt E61.1) (Nat.le_of_eq z62.symm)))).other W73 (Or.inl (own_ne (Nat.lt_of_lt_of_le r59_0.lt E61.1) (Nat.le_of_eq z62.symm)))).other W75 (Or.inl (own_ne (Nat.lt_of_lt_of_le r59_0.lt E61.1) (Nat.le_of_eq z62.symm)))).other W77 (Or.inl (own_ne (Nat.lt_of_lt_of_le r59_0.lt E61.1) (Nat.le_of_eq z62.symm)))).other W79 (Or.inl (own_ne (Nat.lt_of_lt_of_le r59_0.lt E61.1) (Nat.le_of_eq z62.symm)))).other W81 (Or.inl (own_ne (Nat.lt_of_lt_of_le r59_0.lt E61.1) (Nat.le_of_eq z62.symm)))).other W83 (Or.inl (own_ne (Nat.lt_of_lt_of_le r59_0.lt E61.1) (Nat.le_of_eq z62.symm)))).other W85 (Or.inl (own_ne (Nat.lt_of_lt_of_le r59_0.lt E61.1) (Nat.le_of_eq z62.symm)))).other W87 (Or.inl (own_ne (Nat.lt_of_lt_of_le r59_0.lt E61.1) (Nat.le_of_eq z62.symm)))).other W89 (Or.inl (own_ne (Nat.lt_of_lt_of_le r59_0.lt E61.1) (Nat.le_of_eq z62.symm)))).other W91 (Or.inl (own_ne (Nat.lt_of_lt_of_le r59_0.lt E61.1) (Nat.le_of_eq z62.symm)))).other W93 (Or.inl (own_ne (Nat.lt_of_lt_of_le r59_0.lt E61.1) (Nat.le_of_eq z62.symm)))).keep J95 (ninS (own_ne r59_0.lt (Nat.le_of_eq z61.symm)) nin0))
    have f103 := (((((((((((((((((((r59_2.ext E61).ext E62).other W63 (Or.inl (own_ne (Nat.lt_of_lt_of_le r59_0.lt E61.1) (Nat.le_of_eq z62.symm)))).other W65 (Or.inl (own_ne (Nat.lt_of_lt_of_le r59_0.lt E61.1) (Nat.le_of_eq z62.symm)))).other W67 (Or.inl (own_ne (Nat.lt_of_lt_of_le r59_0.lt E61.1) (Nat.le_of_eq z62.symm)))).other W69 (Or.inl (own_ne (Nat.lt_of_lt_of_le r59_0.lt E61.1) (Nat.le_of_eq z62.symm)))).other W71 (Or.inl (own_ne (Nat.lt_of_lt_of_le r59_0.lt E61.1) (Nat.le_of_eq z62.symm)))).other W73 (Or.inl (own_ne (Nat.lt_of_lt_of_le r59_0.lt E61.1) (Nat.le_of_eq z62.symm)))).other W75 (Or.inl (own_ne (Nat.lt_of_lt_of_le r59_0.lt E61.1) (Nat.le_of_eq z62.symm)))).other W77 (Or.inl (own_ne (Nat.lt_of_lt_of_le r59_0.lt E61.1) (Nat.le_of_eq z62.symm)))).other W79 (Or.inl (own_ne (Nat.lt_of_lt_of_le r59_0.lt E61.1) (Nat.le_of_eq z62.symm)))).other W81 (Or.inl (own_ne (Nat.lt_of_lt_of_le r59_0.lt E61.1) (Nat.le_of_eq z62.symm)))).other W83 (Or.inl (own_ne (Nat.lt_of_lt_of_le r59_0.lt E61.1) (Nat.le_of_eq z62.symm)))).other W85 (Or.inl (own_ne (Nat.lt_of_lt_of_le r59_0.lt E61.1) (Nat.le_of_eq z62.symm)))).other W87 (Or.inl (own_ne (Nat.lt_of_lt_of_le r59_0.lt E61.1) (Nat.le_of_eq z62.symm)))).other W89 (Or.inl (own_ne (Nat.lt_of_lt_of_le r59_0.lt E61.1) (Nat.le_of_eq z62.symm)))).other W91 (Or.inl (own_ne (Nat.lt_of_lt_of_le r59_0.lt E61.1) (Nat.le_of_eq z62.symm)))).other W93 (Or.inl (own_ne (Nat.lt_of_lt_of_le r59_0.lt E61.1) (Nat.le_of_eq z62.symm)))).keep J95 (ninS (own_ne r59_0.lt (Nat.le_of_eq z61.symm)) nin0))
    have f104 := (((((((((((((((((((W60.ext E61).ext E62).other W63 (own_ne (Nat.lt_of_lt_of_le r59_3.lt E61.1) (Nat.le_of_eq z62.symm))).other W65 (own_ne (Nat.lt_of_lt_of_le r59_3.lt E61.1) (Nat.le_of_eq z62.symm))).other W67 (own_ne (Nat.lt_of_lt_of_le r59_3.lt E61.1) (Nat.le_of_eq z62.symm))).other W69 (own_ne (Nat.lt_of_lt_of_le r59_3.lt E61.1) (Nat.le_of_eq z62.symm))).other W71 (own_ne (Nat.lt_of_lt_of_le r59_3.lt E61.1) (Nat.le_of_eq z62.symm))).other W73 (own_ne (Nat.lt_of_lt_of_le r59_3.lt E61.1) (Nat.le_of_eq z62.symm))).other W75 (own_ne (Nat.lt_of_lt_of_le r59_3.lt E61.1) (Nat.le_of_eq z62.symm))).other W77 (own_ne (Nat.lt_of_lt_of_le r59_3.lt E61.1) (Nat.le_of_eq z62.symm))).other W79 (own_ne (Nat.lt_of_lt_of_le r59_3.lt E61.1) (Nat.le_of_eq z62.symm))).other W81 (own_ne (Nat.lt_of_lt_of_le r59_3.lt E61.1) (Nat.le_of_eq z62.symm))).other W83 (own_ne (Nat.lt_of_lt_of_le r59_3.lt E61.1) (Nat.le_of_eq z62.symm))).other W85 (own_ne (Nat.lt_of_lt_of_le r59_3.lt E61.1) (Nat.le_of_eq z62.symm))).other W87 (own_ne (Nat.lt_of_lt_of_le r59_3.lt E61.1) (Nat.le_of_eq z62.symm))).other W89 (own_ne (Nat.lt_of_lt_of_le r59_3.lt E61.1) (Nat.le_of_eq z62.symm))).other W91 (own_ne (Nat.lt_of_lt_of_le r59_3.lt E61.1) (Nat.le_of_eq z62.symm))).other W93 (own_ne (Nat.lt_of_lt_of_le r59_3.lt E61.1) (Nat.le_of_eq z62.symm))).keep J95 (ninS (own_ne r59_3.lt (Nat.le_of_eq z61.symm)) nin0))
    refine own_callSW X95 hx hZ hG hown (ow hw 45 rfl) (ow hw 46 rfl) (ow hw 47 rfl) (ow hw 48 rfl) (by decide) 0 (own_ba1 l Z a0 hw hEL t_59 b_59 kb_59 (c56.toInt8.toInt32) cpt h95 O95 f101 f102 f103 f104 g0_S g1_hcpt) (by decide) (by decide) e95 SI0 (Nat.le_trans (Nat.le_trans (Nat.le_trans (Nat.le_trans (Nat.le_trans (Nat.le_trans (Nat.le_trans (Nat.le_trans (Nat.le_trans (Nat.le_trans (Nat.le_trans (Nat.le_trans (Nat.le_trans (Nat.le_trans (Nat.le_trans (Nat.le_trans (Nat.le_trans (Nat.le_trans (Nat.le_trans (Nat.le_trans (Nat.le_refl _) R59.2.1) R61.2.1) R62.2.1) R63.2.1) R65.2.1) R67.2.1) R69.2.1) R71.2.1) R73.2.1) R75.2.1) R77.2.1) R79.2.1) R81.2.1) R83.2.1) R85.2.1) R87.2.1) R89.2.1) R91.2.1) R93.2.1) R95.2.1) hEL R95.1 (by rw [hml]; rfl) (lenOf own_pd32 rfl) (argsL := [(.ref t_59)]) (rest := []) rfl rfl (Nat.le_of_eq rfl) (hb hby at_544) (by decide) (by decide) ?_
    intro T100 h100 v100 L100 X100 e100 SI100 hZ100 hown100 Y100 q100
    obtain ⟨q_100, r_100, u_100, ku_100, rfl, M100, J100, y100_0, y100_1, y100_2, r100_0, r100_1, r100_2, r100_3, r100_4, r100_5, r100_6⟩ := q100
    have N100 := Fr.app N95 M100
    have R100 := Y100
    have C100 := C95.trans R100
    have K100 : Keep h0 h100 [] := K95.trans J100 all0
    have O100 : own_Old Z h100 := O95.keep J100 all0
    refine hG _ _ (fun t_ k_ => XS.astore X100.here hx rfl (hb hby at_547) rfl rfl (l' := #[.val (.int i0), .val (.int i1), .val (.int i2), .val (.int i3), .val (.int 1), .val (.int c56), .val (.int c57), .val (.int c58), .val (.ref t_59), .val (.ref b61), .val (.ref q_100), .unset]) rfl k_) ?_
    refine hG _ _ (fun t_ k_ => XS.aload X100.here hx rfl (hb hby at_549) rfl rfl k_) ?_
    show G (T100.setTop (mkF m 551 #[.val (.int i0), .val (.int i1), .val (.int i2), .val (.int i3), .val (.int 1), .val (.int c56), .val (.int c57), .val (.int c58), .val (.ref t_59), .val (.ref b61), .val (.ref q_100), .unset] [(.ref q_100)]))
    refine own_callV (C := "com/example/research_access_policy/researchaccesspolicy/rules/Decision") X100 hx hZ100 hG hown100 (ow hw 175 rfl) (ow hw 176 rfl) (ow hw 178 rfl) (ow hw 177 rfl) (ow hw 47 rfl) (ow hw 179 rfl) (by decide) 0 (own_get_reason l Z a0 hw q_100 (.ref r_100) h100 O100 rfl r100_2) (by decide) (by decide) e100 r100_0 (by rw [hml]; rfl) (lenOf own_pd27 rfl) (argsL := []) (rest := []) rfl rfl (Nat.le_of_eq rfl) (hb hby at_551) (by decide) (by decide) ?_
    intro T105 h105 v105 L105 X105 e105 q105
    obtain ⟨rfl, M105, rfl⟩ := q105
    have N105 := Fr.app N100 M105
    refine hG _ _ (fun t_ k_ => XS.astore X105.here hx rfl (hb hby at_554) rfl rfl (l' := #[.val (.int i0), .val (.int i1), .val (.int i2), .val (.int i3), .val (.int 1), .val (.int c56), .val (.int c57), .val (.int c58), .val (.ref t_59), .val (.ref b61), .val (.ref q_100), .val (.ref r_100)]) rfl k_) ?_
    refine hG _ _ (fun t_ k_ => XS.aload X105.here hx rfl (hb hby at_556) rfl rfl k_) ?_
    show G (T105.setTop (mkF m 558 #[.val (.int i0), .val (.int i1), .val (.int i2), .val (.int i3), .val (.int 1), .val (.int c56), .val (.int c57), .val (.int c58), .val (.ref t_59), .val (.ref b61), .val (.ref q_100), .val (.ref r_100)] [(.ref q_100)]))
    refine own_callV (C := "com/example/research_access_policy/researchaccesspolicy/rules/Decision") X105 hx hZ100 hG hown100 (ow hw 180 rfl) (ow hw 181 rfl) (ow hw 183 rfl) (ow hw 182 rfl) (ow hw 47 rfl) (ow hw 184 rfl) (by decide) 0 (own_get_allowed l Z a0 hw q_100 (nar .boolean (1 : Int32)) h100 O100 r100_1) (by decide) (by decide) e105 r100_0 (by rw [hml]; rfl) (lenOf own_pd15 rfl) (argsL := []) (rest := []) rfl rfl (Nat.le_of_eq rfl) (hb hby at_558) (by decide) (by decide) ?_
    intro T106 h106 v106 L106 X106 e106 q106
    obtain ⟨rfl, M106, rfl⟩ := q106
    have N106 := Fr.app N105 M106
    show G (T106.setTop (mkF m 561 #[.val (.int i0), .val (.int i1), .val (.int i2), .val (.int i3), .val (.int 1), .val (.int c56), .val (.int c57), .val (.int c58), .val (.ref t_59), .val (.ref b61), .val (.ref q_100), .val (.ref r_100)] [(.int (nar .boolean (nar .boolean (1 : Int32))))]))
    refine hG _ _ (fun t_ k_ => XS.ifNo X106.here hx rfl (hb hby at_561) rfl ((if0 _ _).trans (feq (by decide)).1) k_) ?_
    show G (T106.setTop (mkF m 564 #[.val (.int i0), .val (.int i1), .val (.int i2), .val (.int i3), .val (.int 1), .val (.int c56), .val (.int c57), .val (.int c58), .val (.ref t_59), .val (.ref b61), .val (.ref q_100), .val (.ref r_100)] []))
    refine hG _ _ (fun t_ k_ => XS.aload X106.here hx rfl (hb hby at_564) rfl rfl k_) ?_
    show G (T106.setTop (mkF m 566 #[.val (.int i0), .val (.int i1), .val (.int i2), .val (.int i3), .val (.int 1), .val (.int c56), .val (.int c57), .val (.int c58), .val (.ref t_59), .val (.ref b61), .val (.ref q_100), .val (.ref r_100)] [(.ref r_100)]))
    refine own_callV (C := "java/lang/String") X106 hx hZ100 hG hown100 (ow hw 185 rfl) (ow hw 83 rfl) (ow hw 85 rfl) (ow hw 84 rfl) (ow hw 3 rfl) (ow hw 86 rfl) (by decide) 0 (own_lenL l Z a0 hw r_100 u_100 ku_100 (16 : Int32) [(.int 98), (.int 101), (.int 97), (.int 109), (.int 108), (.int 105), (.int 110), (.int 101), (.int 45), (.int 97), (.int 100), (.int 109), (.int 105), (.int 110), (.int 32), (.int (c56.toInt8.toInt32))] cpt h100 O100 r100_3 r100_4 r100_5 r100_6 g0_S g1_hcpt) (by decide) (by decide) e106 r100_3 (by rw [hml]; rfl) (lenOf own_pd12 rfl) (argsL := []) (rest := []) rfl rfl (Nat.le_of_eq rfl) (hb hby at_566) (by decide) (by decide) ?_
    intro T107 h107 v107 L107 X107 e107 q107
    obtain ⟨rfl, M107, rfl⟩ := q107
    have N107 := Fr.app N106 M107
    refine hG _ _ (fun t_ k_ => XS.bipush X107.here hx rfl (hb hby at_569) k_) ?_
    refine hG _ _ (fun t_ k_ => XS.iload X107.here hx rfl (hb hby at_571) rfl k_) ?_
    refine hG _ _ (fun t_ k_ => XS.iadd X107.here hx rfl (hb hby at_573) rfl k_) ?_
    show G (T107.setTop (mkF m 574 #[.val (.int i0), .val (.int i1), .val (.int i2), .val (.int i3), .val (.int 1), .val (.int c56), .val (.int c57), .val (.int c58), .val (.ref t_59), .val (.ref b61), .val (.ref q_100), .val (.ref r_100)] [(.int ((15 : Int32) + (1 : Int32))), (.int 16)]))
    rw [show ((15 : Int32) + (1 : Int32)) = (16 : Int32) from by decide]
    show G (T107.setTop (mkF m 574 #[.val (.int i0), .val (.int i1), .val (.int i2), .val (.int i3), .val (.int 1), .val (.int c56), .val (.int c57), .val (.int c58), .val (.ref t_59), .val (.ref b61), .val (.ref q_100), .val (.ref r_100)] [(.int 16), (.int 16)]))
    refine hG _ _ (fun t_ k_ => XS.icmpNo X107.here hx rfl (hb hby at_574) rfl (teq (by decide)).2 k_) ?_
    show G (T107.setTop (mkF m 577 #[.val (.int i0), .val (.int i1), .val (.int i2), .val (.int i3), .val (.int 1), .val (.int c56), .val (.int c57), .val (.int c58), .val (.ref t_59), .val (.ref b61), .val (.ref q_100), .val (.ref r_100)] []))
    refine hG _ _ (fun t_ k_ => XS.aload X107.here hx rfl (hb hby at_577) rfl rfl k_) ?_
    refine hG _ _ (fun t_ k_ => XS.aload X107.here hx rfl (hb hby at_579) rfl rfl k_) ?_
    show G (T107.setTop (mkF m 581 #[.val (.int i0), .val (.int i1), .val (.int i2), .val (.int i3), .val (.int 1), .val (.int c56), .val (.int c57), .val (.int c58), .val (.ref t_59), .val (.ref b61), .val (.ref q_100), .val (.ref r_100)] [(.ref b61), (.ref r_100)]))
    have f109 := (r95_0.keep J100)
    have f110 := (r95_1.keep J100 nin0)
    have f111 := (r95_2.keep J100 nin0)
    have f112 := (r95_3.keep J100 nin0)
    refine own_callV (C := "java/lang/String") X107 hx hZ100 hG hown100 (ow hw 186 rfl) (ow hw 187 rfl) (ow hw 189 rfl) (ow hw 188 rfl) (ow hw 3 rfl) (ow hw 190 rfl) (by decide) 0 (own_seq l Z a0 hw r_100 u_100 ku_100 [(98 : Int32), (101 : Int32), (97 : Int32), (109 : Int32), (108 : Int32), (105 : Int32), (110 : Int32), (101 : Int32), (45 : Int32), (97 : Int32), (100 : Int32), (109 : Int32), (105 : Int32), (110 : Int32), (32 : Int32), c56] b61 t_95 kt_95 [(98 : Int32), (101 : Int32), (97 : Int32), (109 : Int32), (108 : Int32), (105 : Int32), (110 : Int32), (101 : Int32), (45 : Int32), (97 : Int32), (100 : Int32), (109 : Int32), (105 : Int32), (110 : Int32), (32 : Int32), c56] (0 : Int32) (Int32.ofNat [(98 : Int32), (101 : Int32), (97 : Int32), (109 : Int32), (108 : Int32), (105 : Int32), (110 : Int32), (101 : Int32), (45 : Int32), (97 : Int32), (100 : Int32), (109 : Int32), (105 : Int32), (110 : Int32), (32 : Int32), c56].length) ([(98 : Int32), (101 : Int32), (97 : Int32), (109 : Int32), (108 : Int32), (105 : Int32), (110 : Int32), (101 : Int32), (45 : Int32), (97 : Int32), (100 : Int32), (109 : Int32), (105 : Int32), (110 : Int32), (32 : Int32), c56].map fun c => Value.int c.toInt8.toInt32) cpt h100 O100 f109 f110 f111 f112 (Or.inl ⟨(own_allc (by decide) (own_allc (by decide) (own_allc (by decide) (own_allc (by decide) (own_allc (by decide) (own_allc (by decide) (own_allc (by decide) (own_allc (by decide) (own_allc (by decide) (own_allc (by decide) (own_allc (by decide) (own_allc (by decide) (own_allc (by decide) (own_allc (by decide) (own_allc (by decide) (own_allc (own_le255 hr_c56) own_alln)))))))))))))))), rfl, rfl, rfl⟩) (Nat.le_of_ble_eq_true rfl) (own_allc (by decide) (own_allc (by decide) (own_allc (by decide) (own_allc (by decide) (own_allc (by decide) (own_allc (by decide) (own_allc (by decide) (own_allc (by decide) (own_allc (by decide) (own_allc (by decide) (own_allc (by decide) (own_allc (by decide) (own_allc (by decide) (own_allc (by decide) (own_allc (by decide) (own_allc (own_8to16 hr_c56) own_alln)))))))))))))))) g0_S g1_hcpt r100_4 r100_5 r100_6 (Nat.le_of_ble_eq_true rfl) (own_allc (by decide) (own_allc (by decide) (own_allc (by decide) (own_allc (by decide) (own_allc (by decide) (own_allc (by decide) (own_allc (by decide) (own_allc (by decide) (own_allc (by decide) (own_allc (by decide) (own_allc (by decide) (own_allc (by decide) (own_allc (by decide) (own_allc (by decide) (own_allc (by decide) (own_allc hr_c56 own_alln)))))))))))))))) (Ne.symm (own_ne r95_0.lt y100_1))) (by decide) (by decide) e107 r100_3 (by rw [hml]; rfl) (lenOf own_pd17 rfl) (argsL := [(.ref b61)]) (rest := []) rfl rfl (Nat.le_of_eq rfl) (hb hby at_581) (by decide) (by decide) ?_
    intro T108 h108 v108 L108 X108 e108 q108
    obtain ⟨r_108, rfl, M108, rfl, r108_0⟩ := q108
    have N108 := Fr.app N107 M108
    show G (T108.setTop (mkF m 584 #[.val (.int i0), .val (.int i1), .val (.int i2), .val (.int i3), .val (.int 1), .val (.int c56), .val (.int c57), .val (.int c58), .val (.ref t_59), .val (.ref b61), .val (.ref q_100), .val (.ref r_100)] [(.int r_108)]))
    refine hG _ _ (fun t_ k_ => XS.ifNo X108.here hx rfl (hb hby at_584) rfl ((if0 _ _).trans (feq (r108_0.elim (fun q e => absurd (q.1.symm.trans e) (by decide)) (fun q => absurd rfl q.2))).1) k_) ?_
    show G (T108.setTop (mkF m 587 #[.val (.int i0), .val (.int i1), .val (.int i2), .val (.int i3), .val (.int 1), .val (.int c56), .val (.int c57), .val (.int c58), .val (.ref t_59), .val (.ref b61), .val (.ref q_100), .val (.ref r_100)] []))
    refine hG _ _ (fun t_ k_ => XS.iconst X108.here hx rfl (hb hby at_587) k_) ?_
    refine hG _ _ (fun t_ k_ => XS.goto X108.here hx rfl (pc0 := 588) (pc' := 592) rfl (hb hby at_588) (by decide) (by decide) k_) ?_
    show G (T108.setTop (mkF m 592 #[.val (.int i0), .val (.int i1), .val (.int i2), .val (.int i3), .val (.int 1), .val (.int c56), .val (.int c57), .val (.int c58), .val (.ref t_59), .val (.ref b61), .val (.ref q_100), .val (.ref r_100)] [(.int 1)]))
    exact own_retNW hR hret (by simp) X108 hx (hb hby at_592) e108 SI100 (Nat.le_refl _) hZ100 C100 (by decide) (by decide) ⟨rfl, N108, K100⟩
  · skip
    show G (s₁.setTop (mkF m 8 #[.val (.int i0), .val (.int i1), .val (.int i2), .val (.int i3), .val (.int 2), .unset, .unset, .unset, .unset, .unset, .unset, .unset] []))
    refine hG _ _ (fun t_ k_ => XS.iloadN X0.here hx rfl (hb hby at_8) rfl k_) ?_
    refine hG _ _ (fun t_ k_ => XS.sipush X0.here hx rfl (hb hby at_9) k_) ?_
    refine hG _ _ (fun t_ k_ => XS.iand X0.here hx rfl (hb hby at_12) rfl k_) ?_
    refine hG _ _ (fun t_ k_ => XS.i2c X0.here hx rfl (hb hby at_13) rfl k_) ?_
    show G (s₁.setTop (mkF m 14 #[.val (.int i0), .val (.int i1), .val (.int i2), .val (.int i3), .val (.int 2), .unset, .unset, .unset, .unset, .unset, .unset, .unset] [(.int ((i0 &&& (255 : Int32)).toUInt32.toUInt16.toUInt32.toInt32))]))
    generalize hn_c113 : ((i0 &&& (255 : Int32)).toUInt32.toUInt16.toUInt32.toInt32) = c113
    have hr_c113 := own_mask8 hn_c113
    show G (s₁.setTop (mkF m 14 #[.val (.int i0), .val (.int i1), .val (.int i2), .val (.int i3), .val (.int 2), .unset, .unset, .unset, .unset, .unset, .unset, .unset] [(.int c113)]))
    refine hG _ _ (fun t_ k_ => XS.istore X0.here hx rfl (hb hby at_14) rfl (l' := #[.val (.int i0), .val (.int i1), .val (.int i2), .val (.int i3), .val (.int 2), .val (.int c113), .unset, .unset, .unset, .unset, .unset, .unset]) rfl k_) ?_
    refine hG _ _ (fun t_ k_ => XS.iloadN X0.here hx rfl (hb hby at_16) rfl k_) ?_
    refine hG _ _ (fun t_ k_ => XS.sipush X0.here hx rfl (hb hby at_17) k_) ?_
    refine hG _ _ (fun t_ k_ => XS.iand X0.here hx rfl (hb hby at_20) rfl k_) ?_
    refine hG _ _ (fun t_ k_ => XS.i2c X0.here hx rfl (hb hby at_21) rfl k_) ?_
    show G (s₁.setTop (mkF m 22 #[.val (.int i0), .val (.int i1), .val (.int i2), .val (.int i3), .val (.int 2), .val (.int c113), .unset, .unset, .unset, .unset, .unset, .unset] [(.int ((i1 &&& (255 : Int32)).toUInt32.toUInt16.toUInt32.toInt32))]))
    generalize hn_c114 : ((i1 &&& (255 : Int32)).toUInt32.toUInt16.toUInt32.toInt32) = c114
    have hr_c114 := own_mask8 hn_c114
    show G (s₁.setTop (mkF m 22 #[.val (.int i0), .val (.int i1), .val (.int i2), .val (.int i3), .val (.int 2), .val (.int c113), .unset, .unset, .unset, .unset, .unset, .unset] [(.int c114)]))
    refine hG _ _ (fun t_ k_ => XS.istore X0.here hx rfl (hb hby at_22) rfl (l' := #[.val (.int i0), .val (.int i1), .val (.int i2), .val (.int i3), .val (.int 2), .val (.int c113), .val (.int c114), .unset, .unset, .unset, .unset, .unset]) rfl k_) ?_
    refine hG _ _ (fun t_ k_ => XS.iloadN X0.here hx rfl (hb hby at_24) rfl k_) ?_
    refine hG _ _ (fun t_ k_ => XS.sipush X0.here hx rfl (hb hby at_25) k_) ?_
    refine hG _ _ (fun t_ k_ => XS.iand X0.here hx rfl (hb hby at_28) rfl k_) ?_
    refine hG _ _ (fun t_ k_ => XS.i2c X0.here hx rfl (hb hby at_29) rfl k_) ?_
    show G (s₁.setTop (mkF m 30 #[.val (.int i0), .val (.int i1), .val (.int i2), .val (.int i3), .val (.int 2), .val (.int c113), .val (.int c114), .unset, .unset, .unset, .unset, .unset] [(.int ((i2 &&& (255 : Int32)).toUInt32.toUInt16.toUInt32.toInt32))]))
    generalize hn_c115 : ((i2 &&& (255 : Int32)).toUInt32.toUInt16.toUInt32.toInt32) = c115
    have hr_c115 := own_mask8 hn_c115
    show G (s₁.setTop (mkF m 30 #[.val (.int i0), .val (.int i1), .val (.int i2), .val (.int i3), .val (.int 2), .val (.int c113), .val (.int c114), .unset, .unset, .unset, .unset, .unset] [(.int c115)]))
    refine hG _ _ (fun t_ k_ => XS.istore X0.here hx rfl (hb hby at_30) rfl (l' := #[.val (.int i0), .val (.int i1), .val (.int i2), .val (.int i3), .val (.int 2), .val (.int c113), .val (.int c114), .val (.int c115), .unset, .unset, .unset, .unset]) rfl k_) ?_
    refine hG _ _ (fun t_ k_ => XS.iload X0.here hx rfl (hb hby at_32) rfl k_) ?_
    show G (s₁.setTop (mkF m 34 #[.val (.int i0), .val (.int i1), .val (.int i2), .val (.int i3), .val (.int 2), .val (.int c113), .val (.int c114), .val (.int c115), .unset, .unset, .unset, .unset] [(.int 2)]))
    refine hG _ _ (fun t_ k_ => XS.ifYes X0.here hx rfl (pc0 := 34) (pc' := 141) rfl (hb hby at_34) rfl ((if0 _ _).trans (feq (by decide)).2) (by decide) (by decide) k_) ?_
    show G (s₁.setTop (mkF m 141 #[.val (.int i0), .val (.int i1), .val (.int i2), .val (.int i3), .val (.int 2), .val (.int c113), .val (.int c114), .val (.int c115), .unset, .unset, .unset, .unset] []))
    refine hG _ _ (fun t_ k_ => XS.iload X0.here hx rfl (hb hby at_141) rfl k_) ?_
    refine hG _ _ (fun t_ k_ => XS.iconst X0.here hx rfl (hb hby at_143) k_) ?_
    show G (s₁.setTop (mkF m 144 #[.val (.int i0), .val (.int i1), .val (.int i2), .val (.int i3), .val (.int 2), .val (.int c113), .val (.int c114), .val (.int c115), .unset, .unset, .unset, .unset] [(.int 1), (.int 2)]))
    refine hG _ _ (fun t_ k_ => XS.icmpYes X0.here hx rfl (pc0 := 144) (pc' := 260) rfl (hb hby at_144) rfl (feq (by decide)).2 (by decide) (by decide) k_) ?_
    show G (s₁.setTop (mkF m 260 #[.val (.int i0), .val (.int i1), .val (.int i2), .val (.int i3), .val (.int 2), .val (.int c113), .val (.int c114), .val (.int c115), .unset, .unset, .unset, .unset] []))
    refine hG _ _ (fun t_ k_ => XS.iload X0.here hx rfl (hb hby at_260) rfl k_) ?_
    refine hG _ _ (fun t_ k_ => XS.iconst X0.here hx rfl (hb hby at_262) k_) ?_
    show G (s₁.setTop (mkF m 263 #[.val (.int i0), .val (.int i1), .val (.int i2), .val (.int i3), .val (.int 2), .val (.int c113), .val (.int c114), .val (.int c115), .unset, .unset, .unset, .unset] [(.int 2), (.int 2)]))
    refine hG _ _ (fun t_ k_ => XS.icmpNo X0.here hx rfl (hb hby at_263) rfl (teq (by decide)).2 k_) ?_
    show G (s₁.setTop (mkF m 266 #[.val (.int i0), .val (.int i1), .val (.int i2), .val (.int i3), .val (.int 2), .val (.int c113), .val (.int c114), .val (.int c115), .unset, .unset, .unset, .unset] []))
    obtain ⟨T116, h116, X116, e116, E116, A116, D116, -, st116⟩ := newO X0 hx hZ hown (ow hw 27 rfl) (ow hw 11 rfl) (ow hw 3 rfl) e0 (g := (mkF m 266 #[.val (.int i0), .val (.int i1), .val (.int i2), .val (.int i3), .val (.int 2), .val (.int c113), .val (.int c114), .val (.int c115), .unset, .unset, .unset, .unset] [])) rfl (hb hby at_266) (by decide) (by decide)
    obtain ⟨b116, z116⟩ : ∃ z, z = h0.size := ⟨_, rfl⟩
    rw [← z116] at A116 D116 st116
    refine hG _ _ st116 ?_
    have R116 := (CHr.ext E116 H0)
    have C116 := (CHr.refl H0).trans R116
    have K116 : Keep h0 h116 [] := (Keep.refl h0 []).ext E116
    have O116 : own_Old Z h116 := O0.ext E116
    refine hG _ _ (fun t_ k_ => XS.dup X116.here hx rfl (hb hby at_269) rfl rfl k_) ?_
    refine hG _ _ (fun t_ k_ => XS.iconst X116.here hx rfl (hb hby at_270) k_) ?_
    obtain ⟨T117, h117, k117, X117, e117, E117, A117, st117⟩ := newP X116 hx hZ (ow hw 28 rfl) e116 (g := (mkF m 271 #[.val (.int i0), .val (.int i1), .val (.int i2), .val (.int i3), .val (.int 2), .val (.int c113), .val (.int c114), .val (.int c115), .unset, .unset, .unset, .unset] [(.int 2), (.ref b116), (.ref b116)])) rfl (hb hby at_271) rfl (by decide) (cap := 2) (by decide) (by decide) (by decide) (by decide)
    obtain ⟨b117, z117⟩ : ∃ z, z = h116.size := ⟨_, rfl⟩
    rw [← z117] at A117 st117
    refine hG _ _ st117 ?_
    have R117 := (CHr.ext E117 R116.1)
    have C117 := C116.trans R117
    have K117 : Keep h0 h117 [] := K116.ext E117
    have O117 : own_Old Z h117 := O116.ext E117
    have V117 : Arv Z h117 b117 k117 .char (2 : Int32) [(.int 0), (.int 0)] (.int 0) := (Arv.new A117 (by decide)).pad (pad_rep [] (.int 0) 2)
    refine hG _ _ (fun t_ k_ => XS.dup X117.here hx rfl (hb hby at_273) rfl rfl k_) ?_
    refine hG _ _ (fun t_ k_ => XS.iconst X117.here hx rfl (hb hby at_274) k_) ?_
    refine hG _ _ (fun t_ k_ => XS.iload X117.here hx rfl (hb hby at_275) rfl k_) ?_
    obtain ⟨c118, Ar118, q118, S118, M118, H118, G118⟩ := id V117
    obtain ⟨T118, h118, X118, e118, W118, st118⟩ := stC X117 hx hZ e117 Ar118 (j := (0 : Int32)) (inb_of S118 ⟨by decide, by decide⟩) (g := (mkF m 277 #[.val (.int i0), .val (.int i1), .val (.int i2), .val (.int i3), .val (.int 2), .val (.int c113), .val (.int c114), .val (.int c115), .unset, .unset, .unset, .unset] [(.int c113), (.int 0), (.ref b117), (.ref b117), (.ref b116), (.ref b116)])) rfl rfl (hb hby at_277)
    refine hG _ _ st118 ?_
    have sf119 : Safe Z consts_1 _ h117 b117 := (own_safeArv hZ.alike V117 (by decide))
    have R118 := (CHr.wr W118 sf119 R117.1)
    have C118 := C117.trans R118
    have K118 : Keep h0 h118 [] := K117.wr W118 (Or.inr (Nat.le_trans K116.1 (Nat.le_of_eq z117.symm)))
    have O118 : own_Old Z h118 := O117.wr W118 (own_ge O116 (Nat.le_of_eq z117.symm))
    rw [own_narC ⟨hr_c113.1, by omega⟩] at W118
    have V118 : Arv Z h118 b117 k117 .char (2 : Int32) [(.int c113), (.int 0)] (.int 0) := Arv.set Ar118 q118 S118 M118 H118 G118 (own_fitC ⟨hr_c113.1, by omega⟩) W118 0 rfl (Nat.le_of_ble_eq_true rfl)
    have N118 := Fr.snoc X118 N0 (own_ge O116 (Nat.le_of_eq z117.symm))
    refine hG _ _ (fun t_ k_ => XS.dup X118.here hx rfl (hb hby at_278) rfl rfl k_) ?_
    show G (T118.setTop (mkF m 279 #[.val (.int i0), .val (.int i1), .val (.int i2), .val (.int i3), .val (.int 2), .val (.int c113), .val (.int c114), .val (.int c115), .unset, .unset, .unset, .unset] [(.ref b117), (.ref b117), (.ref b116), (.ref b116)]))
    refine hG _ _ (fun t_ k_ => XS.iconst X118.here hx rfl (hb hby at_279) k_) ?_
    refine hG _ _ (fun t_ k_ => XS.iload X118.here hx rfl (hb hby at_280) rfl k_) ?_
    obtain ⟨c120, Ar120, q120, S120, M120, H120, G120⟩ := id V118
    obtain ⟨T120, h120, X120, e120, W120, st120⟩ := stC X118 hx hZ e118 Ar120 (j := (1 : Int32)) (inb_of S120 ⟨by decide, by decide⟩) (g := (mkF m 282 #[.val (.int i0), .val (.int i1), .val (.int i2), .val (.int i3), .val (.int 2), .val (.int c113), .val (.int c114), .val (.int c115), .unset, .unset, .unset, .unset] [(.int c114), (.int 1), (.ref b117), (.ref b117), (.ref b116), (.ref b116)])) rfl rfl (hb hby at_282)
    refine hG _ _ st120 ?_
    have sf121 := (R118.safe V117.lt sf119)
    have R120 := (CHr.wr W120 sf121 R118.1)
    have C120 := C118.trans R120
    have K120 : Keep h0 h120 [] := K118.wr W120 (Or.inr (Nat.le_trans K116.1 (Nat.le_of_eq z117.symm)))
    have O120 : own_Old Z h120 := O118.wr W120 (own_ge O116 (Nat.le_of_eq z117.symm))
    rw [own_narC ⟨hr_c114.1, by omega⟩] at W120
    have V120 : Arv Z h120 b117 k117 .char (2 : Int32) [(.int c113), (.int c114)] (.int 0) := Arv.set Ar120 q120 S120 M120 H120 G120 (own_fitC ⟨hr_c114.1, by omega⟩) W120 1 rfl (Nat.le_of_ble_eq_true rfl)
    have N120 := Fr.snoc X120 N118 (own_ge O116 (Nat.le_of_eq z117.symm))
    show G (T120.setTop (mkF m 283 #[.val (.int i0), .val (.int i1), .val (.int i2), .val (.int i3), .val (.int 2), .val (.int c113), .val (.int c114), .val (.int c115), .unset, .unset, .unset, .unset] [(.ref b117), (.ref b116), (.ref b116)]))
    have f123 := (((A116.ext E117).wr W118).wr W120)
    have f124 := ((((D116 (Or.inr (ow hw 26 rfl)) (ty := .byte) (by decide)).ext E117).other W118 (Or.inl (own_ne A116.lt (Nat.le_of_eq z117.symm)))).other W120 (Or.inl (own_ne A116.lt (Nat.le_of_eq z117.symm))))
    have f125 := ((((D116 (Or.inr (ow hw 24 rfl)) (ty := (.array .byte)) (by decide)).ext E117).other W118 (Or.inl (own_ne A116.lt (Nat.le_of_eq z117.symm)))).other W120 (Or.inl (own_ne A116.lt (Nat.le_of_eq z117.symm))))
    refine own_callI X120 hx hZ hG hown rfl (ow hw 29 rfl) (ow hw 30 rfl) (ow hw 3 rfl) (ow hw 31 rfl) (by decide) 1 (own_str1 l Z a0 hw b116 b117 k117 [c113, c114] cpt (.int 0) .null h120 O120 f123 f124 f125 (own_ge O0 (Nat.le_of_eq z116.symm)) V120 (Nat.le_of_ble_eq_true rfl) (Nat.le_of_ble_eq_true rfl) (own_allc (own_le255 hr_c113) (own_allc (own_le255 hr_c114) own_alln)) g0_S g1_hcpt) (by decide) (by decide) e120 (by rw [hml]; rfl) (lenOf own_pd5 rfl) (argsL := [(.ref b117)]) (rest := [(.ref b116)]) rfl rfl (Nat.le_of_eq rfl) (hb hby at_283) (by decide) (by decide) ?_
    intro T122 h122 v122 L122 X122 e122 q122
    obtain ⟨t_122, kt_122, rfl, M122, J122, y122_0, r122_0, r122_1, r122_2, r122_3⟩ := q122
    have N122 := Fr.app N120 M122
    have sf126 : Safe Z consts_1 _ h120 b116 := (own_safeStr hZ.alike f123 f125)
    have R122 := (CHr.keep J122 (allS sf126 all0) R120.1)
    have C122 := C120.trans R122
    have K122 : Keep h0 h122 [] := K120.trans J122 (allS (Or.inr (Nat.le_trans (Keep.refl h0 []).1 (Nat.le_of_eq z116.symm))) all0)
    have O122 : own_Old Z h122 := O120.keep J122 (allS (own_ge O0 (Nat.le_of_eq z116.symm)) all0)
    show G (T122.setTop (mkF m 286 #[.val (.int i0), .val (.int i1), .val (.int i2), .val (.int i3), .val (.int 2), .val (.int c113), .val (.int c114), .val (.int c115), .unset, .unset, .unset, .unset] [(.ref b116)]))
    have W127 : Arv Z h122 t_122 kt_122 .byte (2 : Int32) [(.int (c113.toInt8.toInt32)), (.int (c114.toInt8.toInt32))] (.int 0) := r122_3
    show G (T122.setTop (mkF m 286 #[.val (.int i0), .val (.int i1), .val (.int i2), .val (.int i3), .val (.int 2), .val (.int c113), .val (.int c114), .val (.int c115), .unset, .unset, .unset, .unset] [(.ref b116)]))
    refine hG _ _ (fun t_ k_ => XS.astore X122.here hx rfl (hb hby at_286) rfl rfl (l' := #[.val (.int i0), .val (.int i1), .val (.int i2), .val (.int i3), .val (.int 2), .val (.int c113), .val (.int c114), .val (.int c115), .val (.ref b116), .unset, .unset, .unset]) rfl k_) ?_
    obtain ⟨T128, h128, X128, e128, E128, A128, D128, -, st128⟩ := newO X122 hx hZ hown (ow hw 27 rfl) (ow hw 11 rfl) (ow hw 3 rfl) e122 (g := (mkF m 288 #[.val (.int i0), .val (.int i1), .val (.int i2), .val (.int i3), .val (.int 2), .val (.int c113), .val (.int c114), .val (.int c115), .val (.ref b116), .unset, .unset, .unset] [])) rfl (hb hby at_288) (by decide) (by decide)
    obtain ⟨b128, z128⟩ : ∃ z, z = h122.size := ⟨_, rfl⟩
    rw [← z128] at A128 D128 st128
    refine hG _ _ st128 ?_
    have R128 := (CHr.ext E128 R122.1)
    have C128 := C122.trans R128
    have K128 : Keep h0 h128 [] := K122.ext E128
    have O128 : own_Old Z h128 := O122.ext E128
    refine hG _ _ (fun t_ k_ => XS.dup X128.here hx rfl (hb hby at_291) rfl rfl k_) ?_
    refine hG _ _ (fun t_ k_ => XS.bipush X128.here hx rfl (hb hby at_292) k_) ?_
    obtain ⟨T129, h129, k129, X129, e129, E129, A129, st129⟩ := newP X128 hx hZ (ow hw 28 rfl) e128 (g := (mkF m 294 #[.val (.int i0), .val (.int i1), .val (.int i2), .val (.int i3), .val (.int 2), .val (.int c113), .val (.int c114), .val (.int c115), .val (.ref b116), .unset, .unset, .unset] [(.int 17), (.ref b128), (.ref b128)])) rfl (hb hby at_294) rfl (by decide) (cap := 17) (by decide) (by decide) (by decide) (by decide)
    obtain ⟨b129, z129⟩ : ∃ z, z = h128.size := ⟨_, rfl⟩
    rw [← z129] at A129 st129
    refine hG _ _ st129 ?_
    have R129 := (CHr.ext E129 R128.1)
    have C129 := C128.trans R129
    have K129 : Keep h0 h129 [] := K128.ext E129
    have O129 : own_Old Z h129 := O128.ext E129
    have V129 : Arv Z h129 b129 k129 .char (17 : Int32) [(.int 0), (.int 0), (.int 0), (.int 0), (.int 0), (.int 0), (.int 0), (.int 0), (.int 0), (.int 0), (.int 0), (.int 0), (.int 0), (.int 0), (.int 0), (.int 0), (.int 0)] (.int 0) := (Arv.new A129 (by decide)).pad (pad_rep [] (.int 0) 17)
    refine hG _ _ (fun t_ k_ => XS.dup X129.here hx rfl (hb hby at_296) rfl rfl k_) ?_
    refine hG _ _ (fun t_ k_ => XS.iconst X129.here hx rfl (hb hby at_297) k_) ?_
    refine hG _ _ (fun t_ k_ => XS.bipush X129.here hx rfl (hb hby at_298) k_) ?_
    obtain ⟨c130, Ar130, q130, S130, M130, H130, G130⟩ := id V129
    obtain ⟨T130, h130, X130, e130, W130, st130⟩ := stC X129 hx hZ e129 Ar130 (j := (0 : Int32)) (inb_of S130 ⟨by decide, by decide⟩) (g := (mkF m 300 #[.val (.int i0), .val (.int i1), .val (.int i2), .val (.int i3), .val (.int 2), .val (.int c113), .val (.int c114), .val (.int c115), .val (.ref b116), .unset, .unset, .unset] [(.int 98), (.int 0), (.ref b129), (.ref b129), (.ref b128), (.ref b128)])) rfl rfl (hb hby at_300)
    refine hG _ _ st130 ?_
    have sf131 : Safe Z consts_1 _ h129 b129 := (own_safeArv hZ.alike V129 (by decide))
    have R130 := (CHr.wr W130 sf131 R129.1)
    have C130 := C129.trans R130
    have K130 : Keep h0 h130 [] := K129.wr W130 (Or.inr (Nat.le_trans K128.1 (Nat.le_of_eq z129.symm)))
    have O130 : own_Old Z h130 := O129.wr W130 (own_ge O128 (Nat.le_of_eq z129.symm))
    rw [own_narC (by decide)] at W130
    have V130 : Arv Z h130 b129 k129 .char (17 : Int32) [(.int 98), (.int 0), (.int 0), (.int 0), (.int 0), (.int 0), (.int 0), (.int 0), (.int 0), (.int 0), (.int 0), (.int 0), (.int 0), (.int 0), (.int 0), (.int 0), (.int 0)] (.int 0) := Arv.set Ar130 q130 S130 M130 H130 G130 (own_fitC (by decide)) W130 0 rfl (Nat.le_of_ble_eq_true rfl)
    have N130 := Fr.snoc X130 N122 (own_ge O128 (Nat.le_of_eq z129.symm))
    show G (T130.setTop (mkF m 301 #[.val (.int i0), .val (.int i1), .val (.int i2), .val (.int i3), .val (.int 2), .val (.int c113), .val (.int c114), .val (.int c115), .val (.ref b116), .unset, .unset, .unset] [(.ref b129), (.ref b128), (.ref b128)]))
    refine hG _ _ (fun t_ k_ => XS.dup X130.here hx rfl (hb hby at_301) rfl rfl k_) ?_
    refine hG _ _ (fun t_ k_ => XS.iconst X130.here hx rfl (hb hby at_302) k_) ?_
    refine hG _ _ (fun t_ k_ => XS.bipush X130.here hx rfl (hb hby at_303) k_) ?_
    obtain ⟨c132, Ar132, q132, S132, M132, H132, G132⟩ := id V130
    obtain ⟨T132, h132, X132, e132, W132, st132⟩ := stC X130 hx hZ e130 Ar132 (j := (1 : Int32)) (inb_of S132 ⟨by decide, by decide⟩) (g := (mkF m 305 #[.val (.int i0), .val (.int i1), .val (.int i2), .val (.int i3), .val (.int 2), .val (.int c113), .val (.int c114), .val (.int c115), .val (.ref b116), .unset, .unset, .unset] [(.int 101), (.int 1), (.ref b129), (.ref b129), (.ref b128), (.ref b128)])) rfl rfl (hb hby at_305)
    refine hG _ _ st132 ?_
    have sf133 := (R130.safe V129.lt sf131)
    have R132 := (CHr.wr W132 sf133 R130.1)
    have C132 := C130.trans R132
    have K132 : Keep h0 h132 [] := K130.wr W132 (Or.inr (Nat.le_trans K128.1 (Nat.le_of_eq z129.symm)))
    have O132 : own_Old Z h132 := O130.wr W132 (own_ge O128 (Nat.le_of_eq z129.symm))
    rw [own_narC (by decide)] at W132
    have V132 : Arv Z h132 b129 k129 .char (17 : Int32) [(.int 98), (.int 101), (.int 0), (.int 0), (.int 0), (.int 0), (.int 0), (.int 0), (.int 0), (.int 0), (.int 0), (.int 0), (.int 0), (.int 0), (.int 0), (.int 0), (.int 0)] (.int 0) := Arv.set Ar132 q132 S132 M132 H132 G132 (own_fitC (by decide)) W132 1 rfl (Nat.le_of_ble_eq_true rfl)
    have N132 := Fr.snoc X132 N130 (own_ge O128 (Nat.le_of_eq z129.symm))
    refine hG _ _ (fun t_ k_ => XS.dup X132.here hx rfl (hb hby at_306) rfl rfl k_) ?_
    refine hG _ _ (fun t_ k_ => XS.iconst X132.here hx rfl (hb hby at_307) k_) ?_
    refine hG _ _ (fun t_ k_ => XS.bipush X132.here hx rfl (hb hby at_308) k_) ?_
    obtain ⟨c134, Ar134, q134, S134, M134, H134, G134⟩ := id V132
    obtain ⟨T134, h134, X134, e134, W134, st134⟩ := stC X132 hx hZ e132 Ar134 (j := (2 : Int32)) (inb_of S134 ⟨by decide, by decide⟩) (g := (mkF m 310 #[.val (.int i0), .val (.int i1), .val (.int i2), .val (.int i3), .val (.int 2), .val (.int c113), .val (.int c114), .val (.int c115), .val (.ref b116), .unset, .unset, .unset] [(.int 97), (.int 2), (.ref b129), (.ref b129), (.ref b128), (.ref b128)])) rfl rfl (hb hby at_310)
    refine hG _ _ st134 ?_
    have sf135 := (R132.safe V130.lt sf133)
    have R134 := (CHr.wr W134 sf135 R132.1)
    have C134 := C132.trans R134
    have K134 : Keep h0 h134 [] := K132.wr W134 (Or.inr (Nat.le_trans K128.1 (Nat.le_of_eq z129.symm)))
    have O134 : own_Old Z h134 := O132.wr W134 (own_ge O128 (Nat.le_of_eq z129.symm))
    rw [own_narC (by decide)] at W134
    have V134 : Arv Z h134 b129 k129 .char (17 : Int32) [(.int 98), (.int 101), (.int 97), (.int 0), (.int 0), (.int 0), (.int 0), (.int 0), (.int 0), (.int 0), (.int 0), (.int 0), (.int 0), (.int 0), (.int 0), (.int 0), (.int 0)] (.int 0) := Arv.set Ar134 q134 S134 M134 H134 G134 (own_fitC (by decide)) W134 2 rfl (Nat.le_of_ble_eq_true rfl)
    have N134 := Fr.snoc X134 N132 (own_ge O128 (Nat.le_of_eq z129.symm))
    refine hG _ _ (fun t_ k_ => XS.dup X134.here hx rfl (hb hby at_311) rfl rfl k_) ?_
    show G (T134.setTop (mkF m 312 #[.val (.int i0), .val (.int i1), .val (.int i2), .val (.int i3), .val (.int 2), .val (.int c113), .val (.int c114), .val (.int c115), .val (.ref b116), .unset, .unset, .unset] [(.ref b129), (.ref b129), (.ref b128), (.ref b128)]))
    refine hG _ _ (fun t_ k_ => XS.iconst X134.here hx rfl (hb hby at_312) k_) ?_
    refine hG _ _ (fun t_ k_ => XS.bipush X134.here hx rfl (hb hby at_313) k_) ?_
    obtain ⟨c136, Ar136, q136, S136, M136, H136, G136⟩ := id V134
    obtain ⟨T136, h136, X136, e136, W136, st136⟩ := stC X134 hx hZ e134 Ar136 (j := (3 : Int32)) (inb_of S136 ⟨by decide, by decide⟩) (g := (mkF m 315 #[.val (.int i0), .val (.int i1), .val (.int i2), .val (.int i3), .val (.int 2), .val (.int c113), .val (.int c114), .val (.int c115), .val (.ref b116), .unset, .unset, .unset] [(.int 109), (.int 3), (.ref b129), (.ref b129), (.ref b128), (.ref b128)])) rfl rfl (hb hby at_315)
    refine hG _ _ st136 ?_
    have sf137 := (R134.safe V132.lt sf135)
    have R136 := (CHr.wr W136 sf137 R134.1)
    have C136 := C134.trans R136
    have K136 : Keep h0 h136 [] := K134.wr W136 (Or.inr (Nat.le_trans K128.1 (Nat.le_of_eq z129.symm)))
    have O136 : own_Old Z h136 := O134.wr W136 (own_ge O128 (Nat.le_of_eq z129.symm))
    rw [own_narC (by decide)] at W136
    have V136 : Arv Z h136 b129 k129 .char (17 : Int32) [(.int 98), (.int 101), (.int 97), (.int 109), (.int 0), (.int 0), (.int 0), (.int 0), (.int 0), (.int 0), (.int 0), (.int 0), (.int 0), (.int 0), (.int 0), (.int 0), (.int 0)] (.int 0) := Arv.set Ar136 q136 S136 M136 H136 G136 (own_fitC (by decide)) W136 3 rfl (Nat.le_of_ble_eq_true rfl)
    have N136 := Fr.snoc X136 N134 (own_ge O128 (Nat.le_of_eq z129.symm))
    refine hG _ _ (fun t_ k_ => XS.dup X136.here hx rfl (hb hby at_316) rfl rfl k_) ?_
    refine hG _ _ (fun t_ k_ => XS.iconst X136.here hx rfl (hb hby at_317) k_) ?_
    refine hG _ _ (fun t_ k_ => XS.bipush X136.here hx rfl (hb hby at_318) k_) ?_
    obtain ⟨c138, Ar138, q138, S138, M138, H138, G138⟩ := id V136
    obtain ⟨T138, h138, X138, e138, W138, st138⟩ := stC X136 hx hZ e136 Ar138 (j := (4 : Int32)) (inb_of S138 ⟨by decide, by decide⟩) (g := (mkF m 320 #[.val (.int i0), .val (.int i1), .val (.int i2), .val (.int i3), .val (.int 2), .val (.int c113), .val (.int c114), .val (.int c115), .val (.ref b116), .unset, .unset, .unset] [(.int 108), (.int 4), (.ref b129), (.ref b129), (.ref b128), (.ref b128)])) rfl rfl (hb hby at_320)
    refine hG _ _ st138 ?_
    have sf139 := (R136.safe V134.lt sf137)
    have R138 := (CHr.wr W138 sf139 R136.1)
    have C138 := C136.trans R138
    have K138 : Keep h0 h138 [] := K136.wr W138 (Or.inr (Nat.le_trans K128.1 (Nat.le_of_eq z129.symm)))
    have O138 : own_Old Z h138 := O136.wr W138 (own_ge O128 (Nat.le_of_eq z129.symm))
    rw [own_narC (by decide)] at W138
    have V138 : Arv Z h138 b129 k129 .char (17 : Int32) [(.int 98), (.int 101), (.int 97), (.int 109), (.int 108), (.int 0), (.int 0), (.int 0), (.int 0), (.int 0), (.int 0), (.int 0), (.int 0), (.int 0), (.int 0), (.int 0), (.int 0)] (.int 0) := Arv.set Ar138 q138 S138 M138 H138 G138 (own_fitC (by decide)) W138 4 rfl (Nat.le_of_ble_eq_true rfl)
    have N138 := Fr.snoc X138 N136 (own_ge O128 (Nat.le_of_eq z129.symm))
    refine hG _ _ (fun t_ k_ => XS.dup X138.here hx rfl (hb hby at_321) rfl rfl k_) ?_
    refine hG _ _ (fun t_ k_ => XS.iconst X138.here hx rfl (hb hby at_322) k_) ?_
    show G (T138.setTop (mkF m 323 #[.val (.int i0), .val (.int i1), .val (.int i2), .val (.int i3), .val (.int 2), .val (.int c113), .val (.int c114), .val (.int c115), .val (.ref b116), .unset, .unset, .unset] [(.int 5), (.ref b129), (.ref b129), (.ref b128), (.ref b128)]))
    refine hG _ _ (fun t_ k_ => XS.bipush X138.here hx rfl (hb hby at_323) k_) ?_
    obtain ⟨c140, Ar140, q140, S140, M140, H140, G140⟩ := id V138
    obtain ⟨T140, h140, X140, e140, W140, st140⟩ := stC X138 hx hZ e138 Ar140 (j := (5 : Int32)) (inb_of S140 ⟨by decide, by decide⟩) (g := (mkF m 325 #[.val (.int i0), .val (.int i1), .val (.int i2), .val (.int i3), .val (.int 2), .val (.int c113), .val (.int c114), .val (.int c115), .val (.ref b116), .unset, .unset, .unset] [(.int 105), (.int 5), (.ref b129), (.ref b129), (.ref b128), (.ref b128)])) rfl rfl (hb hby at_325)
    refine hG _ _ st140 ?_
    have sf141 := (R138.safe V136.lt sf139)
    have R140 := (CHr.wr W140 sf141 R138.1)
    have C140 := C138.trans R140
    have K140 : Keep h0 h140 [] := K138.wr W140 (Or.inr (Nat.le_trans K128.1 (Nat.le_of_eq z129.symm)))
    have O140 : own_Old Z h140 := O138.wr W140 (own_ge O128 (Nat.le_of_eq z129.symm))
    rw [own_narC (by decide)] at W140
    have V140 : Arv Z h140 b129 k129 .char (17 : Int32) [(.int 98), (.int 101), (.int 97), (.int 109), (.int 108), (.int 105), (.int 0), (.int 0), (.int 0), (.int 0), (.int 0), (.int 0), (.int 0), (.int 0), (.int 0), (.int 0), (.int 0)] (.int 0) := Arv.set Ar140 q140 S140 M140 H140 G140 (own_fitC (by decide)) W140 5 rfl (Nat.le_of_ble_eq_true rfl)
    have N140 := Fr.snoc X140 N138 (own_ge O128 (Nat.le_of_eq z129.symm))
    refine hG _ _ (fun t_ k_ => XS.dup X140.here hx rfl (hb hby at_326) rfl rfl k_) ?_
    refine hG _ _ (fun t_ k_ => XS.bipush X140.here hx rfl (hb hby at_327) k_) ?_
    refine hG _ _ (fun t_ k_ => XS.bipush X140.here hx rfl (hb hby at_329) k_) ?_
    obtain ⟨c142, Ar142, q142, S142, M142, H142, G142⟩ := id V140
    obtain ⟨T142, h142, X142, e142, W142, st142⟩ := stC X140 hx hZ e140 Ar142 (j := (6 : Int32)) (inb_of S142 ⟨by decide, by decide⟩) (g := (mkF m 331 #[.val (.int i0), .val (.int i1), .val (.int i2), .val (.int i3), .val (.int 2), .val (.int c113), .val (.int c114), .val (.int c115), .val (.ref b116), .unset, .unset, .unset] [(.int 110), (.int 6), (.ref b129), (.ref b129), (.ref b128), (.ref b128)])) rfl rfl (hb hby at_331)
    refine hG _ _ st142 ?_
    have sf143 := (R140.safe V138.lt sf141)
    have R142 := (CHr.wr W142 sf143 R140.1)
    have C142 := C140.trans R142
    have K142 : Keep h0 h142 [] := K140.wr W142 (Or.inr (Nat.le_trans K128.1 (Nat.le_of_eq z129.symm)))
    have O142 : own_Old Z h142 := O140.wr W142 (own_ge O128 (Nat.le_of_eq z129.symm))
    rw [own_narC (by decide)] at W142
    have V142 : Arv Z h142 b129 k129 .char (17 : Int32) [(.int 98), (.int 101), (.int 97), (.int 109), (.int 108), (.int 105), (.int 110), (.int 0), (.int 0), (.int 0), (.int 0), (.int 0), (.int 0), (.int 0), (.int 0), (.int 0), (.int 0)] (.int 0) := Arv.set Ar142 q142 S142 M142 H142 G142 (own_fitC (by decide)) W142 6 rfl (Nat.le_of_ble_eq_true rfl)
    have N142 := Fr.snoc X142 N140 (own_ge O128 (Nat.le_of_eq z129.symm))
    refine hG _ _ (fun t_ k_ => XS.dup X142.here hx rfl (hb hby at_332) rfl rfl k_) ?_
    refine hG _ _ (fun t_ k_ => XS.bipush X142.here hx rfl (hb hby at_333) k_) ?_
    refine hG _ _ (fun t_ k_ => XS.bipush X142.here hx rfl (hb hby at_335) k_) ?_
    show G (T142.setTop (mkF m 337 #[.val (.int i0), .val (.int i1), .val (.int i2), .val (.int i3), .val (.int 2), .val (.int c113), .val (.int c114), .val (.int c115), .val (.ref b116), .unset, .unset, .unset] [(.int 101), (.int 7), (.ref b129), (.ref b129), (.ref b128), (.ref b128)]))
    obtain ⟨c144, Ar144, q144, S144, M144, H144, G144⟩ := id V142
    obtain ⟨T144, h144, X144, e144, W144, st144⟩ := stC X142 hx hZ e142 Ar144 (j := (7 : Int32)) (inb_of S144 ⟨by decide, by decide⟩) (g := (mkF m 337 #[.val (.int i0), .val (.int i1), .val (.int i2), .val (.int i3), .val (.int 2), .val (.int c113), .val (.int c114), .val (.int c115), .val (.ref b116), .unset, .unset, .unset] [(.int 101), (.int 7), (.ref b129), (.ref b129), (.ref b128), (.ref b128)])) rfl rfl (hb hby at_337)
    refine hG _ _ st144 ?_
    have sf145 := (R142.safe V140.lt sf143)
    have R144 := (CHr.wr W144 sf145 R142.1)
    have C144 := C142.trans R144
    have K144 : Keep h0 h144 [] := K142.wr W144 (Or.inr (Nat.le_trans K128.1 (Nat.le_of_eq z129.symm)))
    have O144 : own_Old Z h144 := O142.wr W144 (own_ge O128 (Nat.le_of_eq z129.symm))
    rw [own_narC (by decide)] at W144
    have V144 : Arv Z h144 b129 k129 .char (17 : Int32) [(.int 98), (.int 101), (.int 97), (.int 109), (.int 108), (.int 105), (.int 110), (.int 101), (.int 0), (.int 0), (.int 0), (.int 0), (.int 0), (.int 0), (.int 0), (.int 0), (.int 0)] (.int 0) := Arv.set Ar144 q144 S144 M144 H144 G144 (own_fitC (by decide)) W144 7 rfl (Nat.le_of_ble_eq_true rfl)
    have N144 := Fr.snoc X144 N142 (own_ge O128 (Nat.le_of_eq z129.symm))
    refine hG _ _ (fun t_ k_ => XS.dup X144.here hx rfl (hb hby at_338) rfl rfl k_) ?_
    refine hG _ _ (fun t_ k_ => XS.bipush X144.here hx rfl (hb hby at_339) k_) ?_
    refine hG _ _ (fun t_ k_ => XS.bipush X144.here hx rfl (hb hby at_341) k_) ?_
    obtain ⟨c146, Ar146, q146, S146, M146, H146, G146⟩ := id V144
    obtain ⟨T146, h146, X146, e146, W146, st146⟩ := stC X144 hx hZ e144 Ar146 (j := (8 : Int32)) (inb_of S146 ⟨by decide, by decide⟩) (g := (mkF m 343 #[.val (.int i0), .val (.int i1), .val (.int i2), .val (.int i3), .val (.int 2), .val (.int c113), .val (.int c114), .val (.int c115), .val (.ref b116), .unset, .unset, .unset] [(.int 45), (.int 8), (.ref b129), (.ref b129), (.ref b128), (.ref b128)])) rfl rfl (hb hby at_343)
    refine hG _ _ st146 ?_
    have sf147 := (R144.safe V142.lt sf145)
    have R146 := (CHr.wr W146 sf147 R144.1)
    have C146 := C144.trans R146
    have K146 : Keep h0 h146 [] := K144.wr W146 (Or.inr (Nat.le_trans K128.1 (Nat.le_of_eq z129.symm)))
    have O146 : own_Old Z h146 := O144.wr W146 (own_ge O128 (Nat.le_of_eq z129.symm))
    rw [own_narC (by decide)] at W146
    have V146 : Arv Z h146 b129 k129 .char (17 : Int32) [(.int 98), (.int 101), (.int 97), (.int 109), (.int 108), (.int 105), (.int 110), (.int 101), (.int 45), (.int 0), (.int 0), (.int 0), (.int 0), (.int 0), (.int 0), (.int 0), (.int 0)] (.int 0) := Arv.set Ar146 q146 S146 M146 H146 G146 (own_fitC (by decide)) W146 8 rfl (Nat.le_of_ble_eq_true rfl)
    have N146 := Fr.snoc X146 N144 (own_ge O128 (Nat.le_of_eq z129.symm))
    refine hG _ _ (fun t_ k_ => XS.dup X146.here hx rfl (hb hby at_344) rfl rfl k_) ?_
    refine hG _ _ (fun t_ k_ => XS.bipush X146.here hx rfl (hb hby at_345) k_) ?_
    refine hG _ _ (fun t_ k_ => XS.bipush X146.here hx rfl (hb hby at_347) k_) ?_
    obtain ⟨c148, Ar148, q148, S148, M148, H148, G148⟩ := id V146
    obtain ⟨T148, h148, X148, e148, W148, st148⟩ := stC X146 hx hZ e146 Ar148 (j := (9 : Int32)) (inb_of S148 ⟨by decide, by decide⟩) (g := (mkF m 349 #[.val (.int i0), .val (.int i1), .val (.int i2), .val (.int i3), .val (.int 2), .val (.int c113), .val (.int c114), .val (.int c115), .val (.ref b116), .unset, .unset, .unset] [(.int 97), (.int 9), (.ref b129), (.ref b129), (.ref b128), (.ref b128)])) rfl rfl (hb hby at_349)
    refine hG _ _ st148 ?_
    have sf149 := (R146.safe V144.lt sf147)
    have R148 := (CHr.wr W148 sf149 R146.1)
    have C148 := C146.trans R148
    have K148 : Keep h0 h148 [] := K146.wr W148 (Or.inr (Nat.le_trans K128.1 (Nat.le_of_eq z129.symm)))
    have O148 : own_Old Z h148 := O146.wr W148 (own_ge O128 (Nat.le_of_eq z129.symm))
    rw [own_narC (by decide)] at W148
    have V148 : Arv Z h148 b129 k129 .char (17 : Int32) [(.int 98), (.int 101), (.int 97), (.int 109), (.int 108), (.int 105), (.int 110), (.int 101), (.int 45), (.int 97), (.int 0), (.int 0), (.int 0), (.int 0), (.int 0), (.int 0), (.int 0)] (.int 0) := Arv.set Ar148 q148 S148 M148 H148 G148 (own_fitC (by decide)) W148 9 rfl (Nat.le_of_ble_eq_true rfl)
    have N148 := Fr.snoc X148 N146 (own_ge O128 (Nat.le_of_eq z129.symm))
    show G (T148.setTop (mkF m 350 #[.val (.int i0), .val (.int i1), .val (.int i2), .val (.int i3), .val (.int 2), .val (.int c113), .val (.int c114), .val (.int c115), .val (.ref b116), .unset, .unset, .unset] [(.ref b129), (.ref b128), (.ref b128)]))
    refine hG _ _ (fun t_ k_ => XS.dup X148.here hx rfl (hb hby at_350) rfl rfl k_) ?_
    refine hG _ _ (fun t_ k_ => XS.bipush X148.here hx rfl (hb hby at_351) k_) ?_
    refine hG _ _ (fun t_ k_ => XS.bipush X148.here hx rfl (hb hby at_353) k_) ?_
    obtain ⟨c150, Ar150, q150, S150, M150, H150, G150⟩ := id V148
    obtain ⟨T150, h150, X150, e150, W150, st150⟩ := stC X148 hx hZ e148 Ar150 (j := (10 : Int32)) (inb_of S150 ⟨by decide, by decide⟩) (g := (mkF m 355 #[.val (.int i0), .val (.int i1), .val (.int i2), .val (.int i3), .val (.int 2), .val (.int c113), .val (.int c114), .val (.int c115), .val (.ref b116), .unset, .unset, .unset] [(.int 100), (.int 10), (.ref b129), (.ref b129), (.ref b128), (.ref b128)])) rfl rfl (hb hby at_355)
    refine hG _ _ st150 ?_
    have sf151 := (R148.safe V146.lt sf149)
    have R150 := (CHr.wr W150 sf151 R148.1)
    have C150 := C148.trans R150
    have K150 : Keep h0 h150 [] := K148.wr W150 (Or.inr (Nat.le_trans K128.1 (Nat.le_of_eq z129.symm)))
    have O150 : own_Old Z h150 := O148.wr W150 (own_ge O128 (Nat.le_of_eq z129.symm))
    rw [own_narC (by decide)] at W150
    have V150 : Arv Z h150 b129 k129 .char (17 : Int32) [(.int 98), (.int 101), (.int 97), (.int 109), (.int 108), (.int 105), (.int 110), (.int 101), (.int 45), (.int 97), (.int 100), (.int 0), (.int 0), (.int 0), (.int 0), (.int 0), (.int 0)] (.int 0) := Arv.set Ar150 q150 S150 M150 H150 G150 (own_fitC (by decide)) W150 10 rfl (Nat.le_of_ble_eq_true rfl)
    have N150 := Fr.snoc X150 N148 (own_ge O128 (Nat.le_of_eq z129.symm))
    refine hG _ _ (fun t_ k_ => XS.dup X150.here hx rfl (hb hby at_356) rfl rfl k_) ?_
    refine hG _ _ (fun t_ k_ => XS.bipush X150.here hx rfl (hb hby at_357) k_) ?_
    refine hG _ _ (fun t_ k_ => XS.bipush X150.here hx rfl (hb hby at_359) k_) ?_
    obtain ⟨c152, Ar152, q152, S152, M152, H152, G152⟩ := id V150
    obtain ⟨T152, h152, X152, e152, W152, st152⟩ := stC X150 hx hZ e150 Ar152 (j := (11 : Int32)) (inb_of S152 ⟨by decide, by decide⟩) (g := (mkF m 361 #[.val (.int i0), .val (.int i1), .val (.int i2), .val (.int i3), .val (.int 2), .val (.int c113), .val (.int c114), .val (.int c115), .val (.ref b116), .unset, .unset, .unset] [(.int 109), (.int 11), (.ref b129), (.ref b129), (.ref b128), (.ref b128)])) rfl rfl (hb hby at_361)
    refine hG _ _ st152 ?_
    have sf153 := (R150.safe V148.lt sf151)
    have R152 := (CHr.wr W152 sf153 R150.1)
    have C152 := C150.trans R152
    have K152 : Keep h0 h152 [] := K150.wr W152 (Or.inr (Nat.le_trans K128.1 (Nat.le_of_eq z129.symm)))
    have O152 : own_Old Z h152 := O150.wr W152 (own_ge O128 (Nat.le_of_eq z129.symm))
    rw [own_narC (by decide)] at W152
    have V152 : Arv Z h152 b129 k129 .char (17 : Int32) [(.int 98), (.int 101), (.int 97), (.int 109), (.int 108), (.int 105), (.int 110), (.int 101), (.int 45), (.int 97), (.int 100), (.int 109), (.int 0), (.int 0), (.int 0), (.int 0), (.int 0)] (.int 0) := Arv.set Ar152 q152 S152 M152 H152 G152 (own_fitC (by decide)) W152 11 rfl (Nat.le_of_ble_eq_true rfl)
    have N152 := Fr.snoc X152 N150 (own_ge O128 (Nat.le_of_eq z129.symm))
    refine hG _ _ (fun t_ k_ => XS.dup X152.here hx rfl (hb hby at_362) rfl rfl k_) ?_
    show G (T152.setTop (mkF m 363 #[.val (.int i0), .val (.int i1), .val (.int i2), .val (.int i3), .val (.int 2), .val (.int c113), .val (.int c114), .val (.int c115), .val (.ref b116), .unset, .unset, .unset] [(.ref b129), (.ref b129), (.ref b128), (.ref b128)]))
    refine hG _ _ (fun t_ k_ => XS.bipush X152.here hx rfl (hb hby at_363) k_) ?_
    refine hG _ _ (fun t_ k_ => XS.bipush X152.here hx rfl (hb hby at_365) k_) ?_
    obtain ⟨c154, Ar154, q154, S154, M154, H154, G154⟩ := id V152
    obtain ⟨T154, h154, X154, e154, W154, st154⟩ := stC X152 hx hZ e152 Ar154 (j := (12 : Int32)) (inb_of S154 ⟨by decide, by decide⟩) (g := (mkF m 367 #[.val (.int i0), .val (.int i1), .val (.int i2), .val (.int i3), .val (.int 2), .val (.int c113), .val (.int c114), .val (.int c115), .val (.ref b116), .unset, .unset, .unset] [(.int 105), (.int 12), (.ref b129), (.ref b129), (.ref b128), (.ref b128)])) rfl rfl (hb hby at_367)
    refine hG _ _ st154 ?_
    have sf155 := (R152.safe V150.lt sf153)
    have R154 := (CHr.wr W154 sf155 R152.1)
    have C154 := C152.trans R154
    have K154 : Keep h0 h154 [] := K152.wr W154 (Or.inr (Nat.le_trans K128.1 (Nat.le_of_eq z129.symm)))
    have O154 : own_Old Z h154 := O152.wr W154 (own_ge O128 (Nat.le_of_eq z129.symm))
    rw [own_narC (by decide)] at W154
    have V154 : Arv Z h154 b129 k129 .char (17 : Int32) [(.int 98), (.int 101), (.int 97), (.int 109), (.int 108), (.int 105), (.int 110), (.int 101), (.int 45), (.int 97), (.int 100), (.int 109), (.int 105), (.int 0), (.int 0), (.int 0), (.int 0)] (.int 0) := Arv.set Ar154 q154 S154 M154 H154 G154 (own_fitC (by decide)) W154 12 rfl (Nat.le_of_ble_eq_true rfl)
    have N154 := Fr.snoc X154 N152 (own_ge O128 (Nat.le_of_eq z129.symm))
    refine hG _ _ (fun t_ k_ => XS.dup X154.here hx rfl (hb hby at_368) rfl rfl k_) ?_
    refine hG _ _ (fun t_ k_ => XS.bipush X154.here hx rfl (hb hby at_369) k_) ?_
    refine hG _ _ (fun t_ k_ => XS.bipush X154.here hx rfl (hb hby at_371) k_) ?_
    obtain ⟨c156, Ar156, q156, S156, M156, H156, G156⟩ := id V154
    obtain ⟨T156, h156, X156, e156, W156, st156⟩ := stC X154 hx hZ e154 Ar156 (j := (13 : Int32)) (inb_of S156 ⟨by decide, by decide⟩) (g := (mkF m 373 #[.val (.int i0), .val (.int i1), .val (.int i2), .val (.int i3), .val (.int 2), .val (.int c113), .val (.int c114), .val (.int c115), .val (.ref b116), .unset, .unset, .unset] [(.int 110), (.int 13), (.ref b129), (.ref b129), (.ref b128), (.ref b128)])) rfl rfl (hb hby at_373)
    refine hG _ _ st156 ?_
    have sf157 := (R154.safe V152.lt sf155)
    have R156 := (CHr.wr W156 sf157 R154.1)
    have C156 := C154.trans R156
    have K156 : Keep h0 h156 [] := K154.wr W156 (Or.inr (Nat.le_trans K128.1 (Nat.le_of_eq z129.symm)))
    have O156 : own_Old Z h156 := O154.wr W156 (own_ge O128 (Nat.le_of_eq z129.symm))
    rw [own_narC (by decide)] at W156
    have V156 : Arv Z h156 b129 k129 .char (17 : Int32) [(.int 98), (.int 101), (.int 97), (.int 109), (.int 108), (.int 105), (.int 110), (.int 101), (.int 45), (.int 97), (.int 100), (.int 109), (.int 105), (.int 110), (.int 0), (.int 0), (.int 0)] (.int 0) := Arv.set Ar156 q156 S156 M156 H156 G156 (own_fitC (by decide)) W156 13 rfl (Nat.le_of_ble_eq_true rfl)
    have N156 := Fr.snoc X156 N154 (own_ge O128 (Nat.le_of_eq z129.symm))
    refine hG _ _ (fun t_ k_ => XS.dup X156.here hx rfl (hb hby at_374) rfl rfl k_) ?_
    refine hG _ _ (fun t_ k_ => XS.bipush X156.here hx rfl (hb hby at_375) k_) ?_
    show G (T156.setTop (mkF m 377 #[.val (.int i0), .val (.int i1), .val (.int i2), .val (.int i3), .val (.int 2), .val (.int c113), .val (.int c114), .val (.int c115), .val (.ref b116), .unset, .unset, .unset] [(.int 14), (.ref b129), (.ref b129), (.ref b128), (.ref b128)]))
    refine hG _ _ (fun t_ k_ => XS.bipush X156.here hx rfl (hb hby at_377) k_) ?_
    obtain ⟨c158, Ar158, q158, S158, M158, H158, G158⟩ := id V156
    obtain ⟨T158, h158, X158, e158, W158, st158⟩ := stC X156 hx hZ e156 Ar158 (j := (14 : Int32)) (inb_of S158 ⟨by decide, by decide⟩) (g := (mkF m 379 #[.val (.int i0), .val (.int i1), .val (.int i2), .val (.int i3), .val (.int 2), .val (.int c113), .val (.int c114), .val (.int c115), .val (.ref b116), .unset, .unset, .unset] [(.int 32), (.int 14), (.ref b129), (.ref b129), (.ref b128), (.ref b128)])) rfl rfl (hb hby at_379)
    refine hG _ _ st158 ?_
    have sf159 := (R156.safe V154.lt sf157)
    have R158 := (CHr.wr W158 sf159 R156.1)
    have C158 := C156.trans R158
    have K158 : Keep h0 h158 [] := K156.wr W158 (Or.inr (Nat.le_trans K128.1 (Nat.le_of_eq z129.symm)))
    have O158 : own_Old Z h158 := O156.wr W158 (own_ge O128 (Nat.le_of_eq z129.symm))
    rw [own_narC (by decide)] at W158
    have V158 : Arv Z h158 b129 k129 .char (17 : Int32) [(.int 98), (.int 101), (.int 97), (.int 109), (.int 108), (.int 105), (.int 110), (.int 101), (.int 45), (.int 97), (.int 100), (.int 109), (.int 105), (.int 110), (.int 32), (.int 0), (.int 0)] (.int 0) := Arv.set Ar158 q158 S158 M158 H158 G158 (own_fitC (by decide)) W158 14 rfl (Nat.le_of_ble_eq_true rfl)
    have N158 := Fr.snoc X158 N156 (own_ge O128 (Nat.le_of_eq z129.symm))
    refine hG _ _ (fun t_ k_ => XS.dup X158.here hx rfl (hb hby at_380) rfl rfl k_) ?_
    refine hG _ _ (fun t_ k_ => XS.bipush X158.here hx rfl (hb hby at_381) k_) ?_
    refine hG _ _ (fun t_ k_ => XS.iload X158.here hx rfl (hb hby at_383) rfl k_) ?_
    obtain ⟨c160, Ar160, q160, S160, M160, H160, G160⟩ := id V158
    obtain ⟨T160, h160, X160, e160, W160, st160⟩ := stC X158 hx hZ e158 Ar160 (j := (15 : Int32)) (inb_of S160 ⟨by decide, by decide⟩) (g := (mkF m 385 #[.val (.int i0), .val (.int i1), .val (.int i2), .val (.int i3), .val (.int 2), .val (.int c113), .val (.int c114), .val (.int c115), .val (.ref b116), .unset, .unset, .unset] [(.int c113), (.int 15), (.ref b129), (.ref b129), (.ref b128), (.ref b128)])) rfl rfl (hb hby at_385)
    refine hG _ _ st160 ?_
    have sf161 := (R158.safe V156.lt sf159)
    have R160 := (CHr.wr W160 sf161 R158.1)
    have C160 := C158.trans R160
    have K160 : Keep h0 h160 [] := K158.wr W160 (Or.inr (Nat.le_trans K128.1 (Nat.le_of_eq z129.symm)))
    have O160 : own_Old Z h160 := O158.wr W160 (own_ge O128 (Nat.le_of_eq z129.symm))
    rw [own_narC ⟨hr_c113.1, by omega⟩] at W160
    have V160 : Arv Z h160 b129 k129 .char (17 : Int32) [(.int 98), (.int 101), (.int 97), (.int 109), (.int 108), (.int 105), (.int 110), (.int 101), (.int 45), (.int 97), (.int 100), (.int 109), (.int 105), (.int 110), (.int 32), (.int c113), (.int 0)] (.int 0) := Arv.set Ar160 q160 S160 M160 H160 G160 (own_fitC ⟨hr_c113.1, by omega⟩) W160 15 rfl (Nat.le_of_ble_eq_true rfl)
    have N160 := Fr.snoc X160 N158 (own_ge O128 (Nat.le_of_eq z129.symm))
    refine hG _ _ (fun t_ k_ => XS.dup X160.here hx rfl (hb hby at_386) rfl rfl k_) ?_
    refine hG _ _ (fun t_ k_ => XS.bipush X160.here hx rfl (hb hby at_387) k_) ?_
    refine hG _ _ (fun t_ k_ => XS.iload X160.here hx rfl (hb hby at_389) rfl k_) ?_
    show G (T160.setTop (mkF m 391 #[.val (.int i0), .val (.int i1), .val (.int i2), .val (.int i3), .val (.int 2), .val (.int c113), .val (.int c114), .val (.int c115), .val (.ref b116), .unset, .unset, .unset] [(.int c114), (.int 16), (.ref b129), (.ref b129), (.ref b128), (.ref b128)]))
    obtain ⟨c162, Ar162, q162, S162, M162, H162, G162⟩ := id V160
    obtain ⟨T162, h162, X162, e162, W162, st162⟩ := stC X160 hx hZ e160 Ar162 (j := (16 : Int32)) (inb_of S162 ⟨by decide, by decide⟩) (g := (mkF m 391 #[.val (.int i0), .val (.int i1), .val (.int i2), .val (.int i3), .val (.int 2), .val (.int c113), .val (.int c114), .val (.int c115), .val (.ref b116), .unset, .unset, .unset] [(.int c114), (.int 16), (.ref b129), (.ref b129), (.ref b128), (.ref b128)])) rfl rfl (hb hby at_391)
    refine hG _ _ st162 ?_
    have sf163 := (R160.safe V158.lt sf161)
    have R162 := (CHr.wr W162 sf163 R160.1)
    have C162 := C160.trans R162
    have K162 : Keep h0 h162 [] := K160.wr W162 (Or.inr (Nat.le_trans K128.1 (Nat.le_of_eq z129.symm)))
    have O162 : own_Old Z h162 := O160.wr W162 (own_ge O128 (Nat.le_of_eq z129.symm))
    rw [own_narC ⟨hr_c114.1, by omega⟩] at W162
    have V162 : Arv Z h162 b129 k129 .char (17 : Int32) [(.int 98), (.int 101), (.int 97), (.int 109), (.int 108), (.int 105), (.int 110), (.int 101), (.int 45), (.int 97), (.int 100), (.int 109), (.int 105), (.int 110), (.int 32), (.int c113), (.int c114)] (.int 0) := Arv.set Ar162 q162 S162 M162 H162 G162 (own_fitC ⟨hr_c114.1, by omega⟩) W162 16 rfl (Nat.le_of_ble_eq_true rfl)
    have N162 := Fr.snoc X162 N160 (own_ge O128 (Nat.le_of_eq z129.symm))
    show G (T162.setTop (mkF m 392 #[.val (.int i0), .val (.int i1), .val (.int i2), .val (.int i3), .val (.int 2), .val (.int c113), .val (.int c114), .val (.int c115), .val (.ref b116), .unset, .unset, .unset] [(.ref b129), (.ref b128), (.ref b128)]))
    have f165 := ((((((((((((((((((A128.ext E129).wr W130).wr W132).wr W134).wr W136).wr W138).wr W140).wr W142).wr W144).wr W146).wr W148).wr W150).wr W152).wr W154).wr W156).wr W158).wr W160).wr W162)
    have f166 := (((((((((((((((((((D128 (Or.inr (ow hw 26 rfl)) (ty := .byte) (by decide)).ext E129).other W130 (Or.inl (own_ne A128.lt (Nat.le_of_eq z129.symm)))).other W132 (Or.inl (own_ne A128.lt (Nat.le_of_eq z129.symm)))).other W134 (Or.inl (own_ne A128.lt (Nat.le_of_eq z129.symm)))).other W136 (Or.inl (own_ne A128.lt (Nat.le_of_eq z129.symm)))).other W138 (Or.inl (own_ne A128.lt (Nat.le_of_eq z129.symm)))).other W140 (Or.inl (own_ne A128.lt (Nat.le_of_eq z129.symm)))).other W142 (Or.inl (own_ne A128.lt (Nat.le_of_eq z129.symm)))).other W144 (Or.inl (own_ne A128.lt (Nat.le_of_eq z129.symm)))).other W146 (Or.inl (own_ne A128.lt (Nat.le_of_eq z129.symm)))).other W148 (Or.inl (own_ne A128.lt (Nat.le_of_eq z129.symm)))).other W150 (Or.inl (own_ne A128.lt (Nat.le_of_eq z129.symm)))).other W152 (Or.inl (own_ne A128.lt (Nat.le_of_eq z129.symm)))).other W154 (Or.inl (own_ne A128.lt (Nat.le_of_eq z129.symm)))).other W156 (Or.inl (own_ne A128.lt (Nat.le_of_eq z129.symm)))).other W158 (Or.inl (own_ne A128.lt (Nat.le_of_eq z129.symm)))).other W160 (Or.inl (own_ne A128.lt (Nat.le_of_eq z129.symm)))).other W162 (Or.inl (own_ne A128.lt (Nat.le_of_eq z129.symm))))
    have f167 := (((((((((((((((((((D128 (Or.inr (ow hw 24 rfl)) (ty := (.array .byte)) (by decide)).ext E129).other W130 (Or.inl (own_ne A128.lt (Nat.le_of_eq z129.symm)))).other W132 (Or.inl (own_ne A128.lt (Nat.le_of_eq z129.symm)))).other W134 (Or.inl (own_ne A128.lt (Nat.le_of_eq z129.symm)))).other W136 (Or.inl (own_ne A128.lt (Nat.le_of_eq z129.symm)))).other W138 (Or.inl (own_ne A128.lt (Nat.le_of_eq z129.symm)))).other W140 (Or.inl (own_ne A128.lt (Nat.le_of_eq z129.symm)))).other W142 (Or.inl (own_ne A128.lt (Nat.le_of_eq z129.symm)))).other W144 (Or.inl (own_ne A128.lt (Nat.le_of_eq z129.symm)))).other W146 (Or.inl (own_ne A128.lt (Nat.le_of_eq z129.symm)))).other W148 (Or.inl (own_ne A128.lt (Nat.le_of_eq z129.symm)))).other W150 (Or.inl (own_ne A128.lt (Nat.le_of_eq z129.symm)))).other W152 (Or.inl (own_ne A128.lt (Nat.le_of_eq z129.symm)))).other W154 (Or.inl (own_ne A128.lt (Nat.le_of_eq z129.symm)))).other W156 (Or.inl (own_ne A128.lt (Nat.le_of_eq z129.symm)))).other W158 (Or.inl (own_ne A128.lt (Nat.le_of_eq z129.symm)))).other W160 (Or.inl (own_ne A128.lt (Nat.le_of_eq z129.symm)))).other W162 (Or.inl (own_ne A128.lt (Nat.le_of_eq z129.symm))))
    refine own_callI X162 hx hZ hG hown rfl (ow hw 29 rfl) (ow hw 30 rfl) (ow hw 3 rfl) (ow hw 31 rfl) (by decide) 1 (own_str1 l Z a0 hw b128 b129 k129 [(98 : Int32), (101 : Int32), (97 : Int32), (109 : Int32), (108 : Int32), (105 : Int32), (110 : Int32), (101 : Int32), (45 : Int32), (97 : Int32), (100 : Int32), (109 : Int32), (105 : Int32), (110 : Int32), (32 : Int32), c113, c114] cpt (.int 0) .null h162 O162 f165 f166 f167 (own_ge O122 (Nat.le_of_eq z128.symm)) V162 (Nat.le_of_ble_eq_true rfl) (Nat.le_of_ble_eq_true rfl) (own_allc (by decide) (own_allc (by decide) (own_allc (by decide) (own_allc (by decide) (own_allc (by decide) (own_allc (by decide) (own_allc (by decide) (own_allc (by decide) (own_allc (by decide) (own_allc (by decide) (own_allc (by decide) (own_allc (by decide) (own_allc (by decide) (own_allc (by decide) (own_allc (by decide) (own_allc (own_le255 hr_c113) (own_allc (own_le255 hr_c114) own_alln))))))))))))))))) g0_S g1_hcpt) (by decide) (by decide) e162 (by rw [hml]; rfl) (lenOf own_pd5 rfl) (argsL := [(.ref b129)]) (rest := [(.ref b128)]) rfl rfl (Nat.le_of_eq rfl) (hb hby at_392) (by decide) (by decide) ?_
    intro T164 h164 v164 L164 X164 e164 q164
    obtain ⟨t_164, kt_164, rfl, M164, J164, y164_0, r164_0, r164_1, r164_2, r164_3⟩ := q164
    have N164 := Fr.app N162 M164
    have sf168 : Safe Z consts_1 _ h162 b128 := (own_safeStr hZ.alike f165 f167)
    have R164 := (CHr.keep J164 (allS sf168 all0) R162.1)
    have C164 := C162.trans R164
    have K164 : Keep h0 h164 [] := K162.trans J164 (allS (Or.inr (Nat.le_trans K122.1 (Nat.le_of_eq z128.symm))) all0)
    have O164 : own_Old Z h164 := O162.keep J164 (allS (own_ge O122 (Nat.le_of_eq z128.symm)) all0)
    refine hG _ _ (fun t_ k_ => XS.astore X164.here hx rfl (hb hby at_395) rfl rfl (l' := #[.val (.int i0), .val (.int i1), .val (.int i2), .val (.int i3), .val (.int 2), .val (.int c113), .val (.int c114), .val (.int c115), .val (.ref b116), .val (.ref b128), .unset, .unset]) rfl k_) ?_
    refine hG _ _ (fun t_ k_ => XS.goto X164.here hx rfl (pc0 := 397) (pc' := 542) rfl (hb hby at_397) (by decide) (by decide) k_) ?_
    refine hG _ _ (fun t_ k_ => XS.aload X164.here hx rfl (hb hby at_542) rfl rfl k_) ?_
    show G (T164.setTop (mkF m 544 #[.val (.int i0), .val (.int i1), .val (.int i2), .val (.int i3), .val (.int 2), .val (.int c113), .val (.int c114), .val (.int c115), .val (.ref b116), .val (.ref b128), .unset, .unset] [(.ref b116)]))
    have f170 := ((((((((((((((((((((r122_0.ext E128).ext E129).wr W130).wr W132).wr W134).wr W136).wr W138).wr W140).wr W142).wr W144).wr W146).wr W148).wr W150).wr W152).wr W154).wr W156).wr W158).wr W160).wr W162).keep J164)
    have f171 := ((((((((((((((((((((r122_1.ext E128).ext E129).other W130 (Or.inl (own_ne (Nat.lt_of_lt_of_le r122_0.lt E128.1) (Nat.le_of_eq z129.symm)))).other W132 (Or.inl (own_ne (Nat.lt_of_lt_of_le r122_0.lt E128.1) (Nat.le_of_eq z129.symm)))).other W134 (Or.inl (own_ne (Nat.lt_of_lt_of_le r122_0.lt E128.1) (Nat.le_of_eq z129.symm)))).other W136 (Or.inl (own_ne (Nat.lt_of_lt_of_le r122_0.lt E128.1) (Nat.le_of_eq z129.symm)))).other W138 (Or.inl (own_ne (Nat.lt_of_lt_of_le r122_0.lt E128.1) (Nat.le_of_eq z129.symm)))).other W140 (Or.inl (own_ne (Nat.lt_of_lt_of_le r122_0.lt E128.1) (Nat.le_of_eq z129.symm)))).other W142 (Or.inl (own_ne (Nat.lt_of_lt_of_le r122_0.lt E128.1) (Nat.le_of_eq z129.symm)))).other W144 (Or.inl (own_ne (Nat.lt_of_lt_of_le r122_0.lt E128.1) (Nat.le_of_eq z129.symm)))).other W146 (Or.inl (own_ne (Nat.lt_of_lt_of_le r122_0.lt E128.1) (Nat.le_of_eq z129.symm)))).other W148 (Or.inl (own_ne (Nat.lt_of_lt_of_le r122_0.lt E128.1) (Nat.le_of_eq z129.symm)))).other W150 (Or.inl (own_ne (Nat.lt_of_lt_of_le r122_0.lt E128.1) (Nat.le_of_eq z129.symm)))).other W152 (Or.inl (own_ne (Nat.lt_of_lt_of_le r122_0.lt E128.1) (Nat.le_of_eq z129.symm)))).other W154 (Or.inl (own_ne (Nat.lt_of_lt_of_le r122_0.lt E128.1) (Nat.le_of_eq z129.symm)))).other W156 (Or.inl (own_ne (Nat.lt_of_lt_of_le r122_0.lt E128.1) (Nat.le_of_eq z129.symm)))).other W158 (Or.inl (own_ne (Nat.lt_of_lt_of_le r122_0.lt E128.1) (Nat.le_of_eq z129.symm)))).other W160 (Or.inl (own_ne (Nat.lt_of_lt_of_le r122_0.lt E128.1) (Nat.le_of_eq z129.symm)))).other W162 (Or.inl (own_ne (Nat.lt_of_lt_of_le r122_0.lt E128.1) (Nat.le_of_eq z129.symm)))).keep J164 (ninS (own_ne r122_0.lt (Nat.le_of_eq z128.symm)) nin0))
    have f172 := ((((((((((((((((((((r122_2.ext E128).ext E129).other W130 (Or.inl (own_ne (Nat.lt_of_lt_of_le r122_0.lt E128.1) (Nat.le_of_eq z129.symm)))).other W132 (Or.inl (own_ne (Nat.lt_of_lt_of_le r122_0.lt E128.1) (Nat.le_of_eq z129.symm)))).other W134 (Or.inl (own_ne (Nat.lt_of_lt_of_le r122_0.lt E128.1) (Nat.le_of_eq z129.symm)))).other W136 (Or.inl (own_ne (Nat.lt_of_lt_of_le r122_0.lt E128.1) (Nat.le_of_eq z129.symm)))).other W138 (Or.inl (own_ne (Nat.lt_of_lt_of_le r122_0.lt E128.1) (Nat.le_of_eq z129.symm)))).other W140 (Or.inl (own_ne (Nat.lt_of_lt_of_le r122_0.lt E128.1) (Nat.le_of_eq z129.symm)))).other W142 (Or.inl (own_ne (Nat.lt_of_lt_of_le r122_0.lt E128.1) (Nat.le_of_eq z129.symm)))).other W144 (Or.inl (own_ne (Nat.lt_of_lt_of_le r122_0.lt E128.1) (Nat.le_of_eq z129.symm)))).other W146 (Or.inl (own_ne (Nat.lt_of_lt_of_le r122_0.lt E128.1) (Nat.le_of_eq z129.symm)))).other W148 (Or.inl (own_ne (Nat.lt_of_lt_of_le r122_0.lt E128.1) (Nat.le_of_eq z129.symm)))).other W150 (Or.inl (own_ne (Nat.lt_of_lt_of_le r122_0.lt E128.1) (Nat.le_of_eq z129.symm)))).other W152 (Or.inl (own_ne (Nat.lt_of_lt_of_le r122_0.lt E128.1) (Nat.le_of_eq z129.symm)))).other W154 (Or.inl (own_ne (Nat.lt_of_lt_of_le r122_0.lt E128.1) (Nat.le_of_eq z129.symm)))).other W156 (Or.inl (own_ne (Nat.lt_of_lt_of_le r122_0.lt E128.1) (Nat.le_of_eq z129.symm)))).other W158 (Or.inl (own_ne (Nat.lt_of_lt_of_le r122_0.lt E128.1) (Nat.le_of_eq z129.symm)))).other W160 (Or.inl (own_ne (Nat.lt_of_lt_of_le r122_0.lt E128.1) (Nat.le_of_eq z129.symm)))).other W162 (Or.inl (own_ne (Nat.lt_of_lt_of_le r122_0.lt E128.1) (Nat.le_of_eq z129.symm)))).keep J164 (ninS (own_ne r122_0.lt (Nat.le_of_eq z128.symm)) nin0))
    have f173 := ((((((((((((((((((((W127.ext E128).ext E129).other W130 (own_ne (Nat.lt_of_lt_of_le r122_3.lt E128.1) (Nat.le_of_eq z129.symm))).other W132 (own_ne (Nat.lt_of_lt_of_le r122_3.lt E128.1) (Nat.le_of_eq z129.symm))).other W134 (own_ne (Nat.lt_of_lt_of_le r122_3.lt E128.1) (Nat.le_of_eq z129.symm))).other W136 (own_ne (Nat.lt_of_lt_of_le r122_3.lt E128.1) (Nat.le_of_eq z129.symm))).other W138 (own_ne (Nat.lt_of_lt_of_le r122_3.lt E128.1) (Nat.le_of_eq z129.symm))).other W140 (own_ne (Nat.lt_of_lt_of_le r122_3.lt E128.1) (Nat.le_of_eq z129.symm))).other W142 (own_ne (Nat.lt_of_lt_of_le r122_3.lt E128.1) (Nat.le_of_eq z129.symm))).other W144 (own_ne (Nat.lt_of_lt_of_le r122_3.lt E128.1) (Nat.le_of_eq z129.symm))).other W146 (own_ne (Nat.lt_of_lt_of_le r122_3.lt E128.1) (Nat.le_of_eq z129.symm))).other W148 (own_ne (Nat.lt_of_lt_of_le r122_3.lt E128.1) (Nat.le_of_eq z129.symm))).other W150 (own_ne (Nat.lt_of_lt_of_le r122_3.lt E128.1) (Nat.le_of_eq z129.symm))).other W152 (own_ne (Nat.lt_of_lt_of_le r122_3.lt E128.1) (Nat.le_of_eq z129.symm))).other W154 (own_ne (Nat.lt_of_lt_of_le r122_3.lt E128.1) (Nat.le_of_eq z129.symm))).other W156 (own_ne (Nat.lt_of_lt_of_le r122_3.lt E128.1) (Nat.le_of_eq z129.symm))).other W158 (own_ne (Nat.lt_of_lt_of_le r122_3.lt E128.1) (Nat.le_of_eq z129.symm))).other W160 (own_ne (Nat.lt_of_lt_of_le r122_3.lt E128.1) (Nat.le_of_eq z129.symm))).other W162 (own_ne (Nat.lt_of_lt_of_le r122_3.lt E128.1) (Nat.le_of_eq z129.symm))).keep J164 (ninS (own_ne r122_3.lt (Nat.le_of_eq z128.symm)) nin0))
    refine own_callSW X164 hx hZ hG hown (ow hw 45 rfl) (ow hw 46 rfl) (ow hw 47 rfl) (ow hw 48 rfl) (by decide) 0 (own_ba2 l Z a0 hw hEL b116 t_122 kt_122 (c113.toInt8.toInt32) (c114.toInt8.toInt32) cpt h164 O164 f170 f171 f172 f173 g0_S g1_hcpt) (by decide) (by decide) e164 SI0 (Nat.le_trans (Nat.le_trans (Nat.le_trans (Nat.le_trans (Nat.le_trans (Nat.le_trans (Nat.le_trans (Nat.le_trans (Nat.le_trans (Nat.le_trans (Nat.le_trans (Nat.le_trans (Nat.le_trans (Nat.le_trans (Nat.le_trans (Nat.le_trans (Nat.le_trans (Nat.le_trans (Nat.le_trans (Nat.le_trans (Nat.le_trans (Nat.le_trans (Nat.le_trans (Nat.le_trans (Nat.le_trans (Nat.le_refl _) R116.2.1) R117.2.1) R118.2.1) R120.2.1) R122.2.1) R128.2.1) R129.2.1) R130.2.1) R132.2.1) R134.2.1) R136.2.1) R138.2.1) R140.2.1) R142.2.1) R144.2.1) R146.2.1) R148.2.1) R150.2.1) R152.2.1) R154.2.1) R156.2.1) R158.2.1) R160.2.1) R162.2.1) R164.2.1) hEL R164.1 (by rw [hml]; rfl) (lenOf own_pd32 rfl) (argsL := [(.ref b116)]) (rest := []) rfl rfl (Nat.le_of_eq rfl) (hb hby at_544) (by decide) (by decide) ?_
    intro T169 h169 v169 L169 X169 e169 SI169 hZ169 hown169 Y169 q169
    obtain ⟨q_169, r_169, u_169, ku_169, rfl, M169, J169, y169_0, y169_1, y169_2, r169_0, r169_1, r169_2, r169_3, r169_4, r169_5, r169_6⟩ := q169
    have N169 := Fr.app N164 M169
    have R169 := Y169
    have C169 := C164.trans R169
    have K169 : Keep h0 h169 [] := K164.trans J169 all0
    have O169 : own_Old Z h169 := O164.keep J169 all0
    refine hG _ _ (fun t_ k_ => XS.astore X169.here hx rfl (hb hby at_547) rfl rfl (l' := #[.val (.int i0), .val (.int i1), .val (.int i2), .val (.int i3), .val (.int 2), .val (.int c113), .val (.int c114), .val (.int c115), .val (.ref b116), .val (.ref b128), .val (.ref q_169), .unset]) rfl k_) ?_
    refine hG _ _ (fun t_ k_ => XS.aload X169.here hx rfl (hb hby at_549) rfl rfl k_) ?_
    show G (T169.setTop (mkF m 551 #[.val (.int i0), .val (.int i1), .val (.int i2), .val (.int i3), .val (.int 2), .val (.int c113), .val (.int c114), .val (.int c115), .val (.ref b116), .val (.ref b128), .val (.ref q_169), .unset] [(.ref q_169)]))
    refine own_callV (C := "com/example/research_access_policy/researchaccesspolicy/rules/Decision") X169 hx hZ169 hG hown169 (ow hw 175 rfl) (ow hw 176 rfl) (ow hw 178 rfl) (ow hw 177 rfl) (ow hw 47 rfl) (ow hw 179 rfl) (by decide) 0 (own_get_reason l Z a0 hw q_169 (.ref r_169) h169 O169 rfl r169_2) (by decide) (by decide) e169 r169_0 (by rw [hml]; rfl) (lenOf own_pd27 rfl) (argsL := []) (rest := []) rfl rfl (Nat.le_of_eq rfl) (hb hby at_551) (by decide) (by decide) ?_
    intro T174 h174 v174 L174 X174 e174 q174
    obtain ⟨rfl, M174, rfl⟩ := q174
    have N174 := Fr.app N169 M174
    refine hG _ _ (fun t_ k_ => XS.astore X174.here hx rfl (hb hby at_554) rfl rfl (l' := #[.val (.int i0), .val (.int i1), .val (.int i2), .val (.int i3), .val (.int 2), .val (.int c113), .val (.int c114), .val (.int c115), .val (.ref b116), .val (.ref b128), .val (.ref q_169), .val (.ref r_169)]) rfl k_) ?_
    refine hG _ _ (fun t_ k_ => XS.aload X174.here hx rfl (hb hby at_556) rfl rfl k_) ?_
    show G (T174.setTop (mkF m 558 #[.val (.int i0), .val (.int i1), .val (.int i2), .val (.int i3), .val (.int 2), .val (.int c113), .val (.int c114), .val (.int c115), .val (.ref b116), .val (.ref b128), .val (.ref q_169), .val (.ref r_169)] [(.ref q_169)]))
    refine own_callV (C := "com/example/research_access_policy/researchaccesspolicy/rules/Decision") X174 hx hZ169 hG hown169 (ow hw 180 rfl) (ow hw 181 rfl) (ow hw 183 rfl) (ow hw 182 rfl) (ow hw 47 rfl) (ow hw 184 rfl) (by decide) 0 (own_get_allowed l Z a0 hw q_169 (nar .boolean (1 : Int32)) h169 O169 r169_1) (by decide) (by decide) e174 r169_0 (by rw [hml]; rfl) (lenOf own_pd15 rfl) (argsL := []) (rest := []) rfl rfl (Nat.le_of_eq rfl) (hb hby at_558) (by decide) (by decide) ?_
    intro T175 h175 v175 L175 X175 e175 q175
    obtain ⟨rfl, M175, rfl⟩ := q175
    have N175 := Fr.app N174 M175
    show G (T175.setTop (mkF m 561 #[.val (.int i0), .val (.int i1), .val (.int i2), .val (.int i3), .val (.int 2), .val (.int c113), .val (.int c114), .val (.int c115), .val (.ref b116), .val (.ref b128), .val (.ref q_169), .val (.ref r_169)] [(.int (nar .boolean (nar .boolean (1 : Int32))))]))
    refine hG _ _ (fun t_ k_ => XS.ifNo X175.here hx rfl (hb hby at_561) rfl ((if0 _ _).trans (feq (by decide)).1) k_) ?_
    show G (T175.setTop (mkF m 564 #[.val (.int i0), .val (.int i1), .val (.int i2), .val (.int i3), .val (.int 2), .val (.int c113), .val (.int c114), .val (.int c115), .val (.ref b116), .val (.ref b128), .val (.ref q_169), .val (.ref r_169)] []))
    refine hG _ _ (fun t_ k_ => XS.aload X175.here hx rfl (hb hby at_564) rfl rfl k_) ?_
    show G (T175.setTop (mkF m 566 #[.val (.int i0), .val (.int i1), .val (.int i2), .val (.int i3), .val (.int 2), .val (.int c113), .val (.int c114), .val (.int c115), .val (.ref b116), .val (.ref b128), .val (.ref q_169), .val (.ref r_169)] [(.ref r_169)]))
    refine own_callV (C := "java/lang/String") X175 hx hZ169 hG hown169 (ow hw 185 rfl) (ow hw 83 rfl) (ow hw 85 rfl) (ow hw 84 rfl) (ow hw 3 rfl) (ow hw 86 rfl) (by decide) 0 (own_lenL l Z a0 hw r_169 u_169 ku_169 (17 : Int32) [(.int 98), (.int 101), (.int 97), (.int 109), (.int 108), (.int 105), (.int 110), (.int 101), (.int 45), (.int 97), (.int 100), (.int 109), (.int 105), (.int 110), (.int 32), (.int (c113.toInt8.toInt32)), (.int (c114.toInt8.toInt32))] cpt h169 O169 r169_3 r169_4 r169_5 r169_6 g0_S g1_hcpt) (by decide) (by decide) e175 r169_3 (by rw [hml]; rfl) (lenOf own_pd12 rfl) (argsL := []) (rest := []) rfl rfl (Nat.le_of_eq rfl) (hb hby at_566) (by decide) (by decide) ?_
    intro T176 h176 v176 L176 X176 e176 q176
    obtain ⟨rfl, M176, rfl⟩ := q176
    have N176 := Fr.app N175 M176
    refine hG _ _ (fun t_ k_ => XS.bipush X176.here hx rfl (hb hby at_569) k_) ?_
    refine hG _ _ (fun t_ k_ => XS.iload X176.here hx rfl (hb hby at_571) rfl k_) ?_
    refine hG _ _ (fun t_ k_ => XS.iadd X176.here hx rfl (hb hby at_573) rfl k_) ?_
    show G (T176.setTop (mkF m 574 #[.val (.int i0), .val (.int i1), .val (.int i2), .val (.int i3), .val (.int 2), .val (.int c113), .val (.int c114), .val (.int c115), .val (.ref b116), .val (.ref b128), .val (.ref q_169), .val (.ref r_169)] [(.int ((15 : Int32) + (2 : Int32))), (.int 17)]))
    rw [show ((15 : Int32) + (2 : Int32)) = (17 : Int32) from by decide]
    show G (T176.setTop (mkF m 574 #[.val (.int i0), .val (.int i1), .val (.int i2), .val (.int i3), .val (.int 2), .val (.int c113), .val (.int c114), .val (.int c115), .val (.ref b116), .val (.ref b128), .val (.ref q_169), .val (.ref r_169)] [(.int 17), (.int 17)]))
    refine hG _ _ (fun t_ k_ => XS.icmpNo X176.here hx rfl (hb hby at_574) rfl (teq (by decide)).2 k_) ?_
    show G (T176.setTop (mkF m 577 #[.val (.int i0), .val (.int i1), .val (.int i2), .val (.int i3), .val (.int 2), .val (.int c113), .val (.int c114), .val (.int c115), .val (.ref b116), .val (.ref b128), .val (.ref q_169), .val (.ref r_169)] []))
    refine hG _ _ (fun t_ k_ => XS.aload X176.here hx rfl (hb hby at_577) rfl rfl k_) ?_
    refine hG _ _ (fun t_ k_ => XS.aload X176.here hx rfl (hb hby at_579) rfl rfl k_) ?_
    show G (T176.setTop (mkF m 581 #[.val (.int i0), .val (.int i1), .val (.int i2), .val (.int i3), .val (.int 2), .val (.int c113), .val (.int c114), .val (.int c115), .val (.ref b116), .val (.ref b128), .val (.ref q_169), .val (.ref r_169)] [(.ref b128), (.ref r_169)]))
    have f178 := (r164_0.keep J169)
    have f179 := (r164_1.keep J169 nin0)
    have f180 := (r164_2.keep J169 nin0)
    have f181 := (r164_3.keep J169 nin0)
    refine own_callV (C := "java/lang/String") X176 hx hZ169 hG hown169 (ow hw 186 rfl) (ow hw 187 rfl) (ow hw 189 rfl) (ow hw 188 rfl) (ow hw 3 rfl) (ow hw 190 rfl) (by decide) 0 (own_seq l Z a0 hw r_169 u_169 ku_169 [(98 : Int32), (101 : Int32), (97 : Int32), (109 : Int32), (108 : Int32), (105 : Int32), (110 : Int32), (101 : Int32), (45 : Int32), (97 : Int32), (100 : Int32), (109 : Int32), (105 : Int32), (110 : Int32), (32 : Int32), c113, c114] b128 t_164 kt_164 [(98 : Int32), (101 : Int32), (97 : Int32), (109 : Int32), (108 : Int32), (105 : Int32), (110 : Int32), (101 : Int32), (45 : Int32), (97 : Int32), (100 : Int32), (109 : Int32), (105 : Int32), (110 : Int32), (32 : Int32), c113, c114] (0 : Int32) (Int32.ofNat [(98 : Int32), (101 : Int32), (97 : Int32), (109 : Int32), (108 : Int32), (105 : Int32), (110 : Int32), (101 : Int32), (45 : Int32), (97 : Int32), (100 : Int32), (109 : Int32), (105 : Int32), (110 : Int32), (32 : Int32), c113, c114].length) ([(98 : Int32), (101 : Int32), (97 : Int32), (109 : Int32), (108 : Int32), (105 : Int32), (110 : Int32), (101 : Int32), (45 : Int32), (97 : Int32), (100 : Int32), (109 : Int32), (105 : Int32), (110 : Int32), (32 : Int32), c113, c114].map fun c => Value.int c.toInt8.toInt32) cpt h169 O169 f178 f179 f180 f181 (Or.inl ⟨(own_allc (by decide) (own_allc (by decide) (own_allc (by decide) (own_allc (by decide) (own_allc (by decide) (own_allc (by decide) (own_allc (by decide) (own_allc (by decide) (own_allc (by decide) (own_allc (by decide) (own_allc (by decide) (own_allc (by decide) (own_allc (by decide) (own_allc (by decide) (own_allc (by decide) (own_allc (own_le255 hr_c113) (own_allc (own_le255 hr_c114) own_alln))))))))))))))))), rfl, rfl, rfl⟩) (Nat.le_of_ble_eq_true rfl) (own_allc (by decide) (own_allc (by decide) (own_allc (by decide) (own_allc (by decide) (own_allc (by decide) (own_allc (by decide) (own_allc (by decide) (own_allc (by decide) (own_allc (by decide) (own_allc (by decide) (own_allc (by decide) (own_allc (by decide) (own_allc (by decide) (own_allc (by decide) (own_allc (by decide) (own_allc (own_8to16 hr_c113) (own_allc (own_8to16 hr_c114) own_alln))))))))))))))))) g0_S g1_hcpt r169_4 r169_5 r169_6 (Nat.le_of_ble_eq_true rfl) (own_allc (by decide) (own_allc (by decide) (own_allc (by decide) (own_allc (by decide) (own_allc (by decide) (own_allc (by decide) (own_allc (by decide) (own_allc (by decide) (own_allc (by decide) (own_allc (by decide) (own_allc (by decide) (own_allc (by decide) (own_allc (by decide) (own_allc (by decide) (own_allc (by decide) (own_allc hr_c113 (own_allc hr_c114 own_alln))))))))))))))))) (Ne.symm (own_ne r164_0.lt y169_1))) (by decide) (by decide) e176 r169_3 (by rw [hml]; rfl) (lenOf own_pd17 rfl) (argsL := [(.ref b128)]) (rest := []) rfl rfl (Nat.le_of_eq rfl) (hb hby at_581) (by decide) (by decide) ?_
    intro T177 h177 v177 L177 X177 e177 q177
    obtain ⟨r_177, rfl, M177, rfl, r177_0⟩ := q177
    have N177 := Fr.app N176 M177
    show G (T177.setTop (mkF m 584 #[.val (.int i0), .val (.int i1), .val (.int i2), .val (.int i3), .val (.int 2), .val (.int c113), .val (.int c114), .val (.int c115), .val (.ref b116), .val (.ref b128), .val (.ref q_169), .val (.ref r_169)] [(.int r_177)]))
    refine hG _ _ (fun t_ k_ => XS.ifNo X177.here hx rfl (hb hby at_584) rfl ((if0 _ _).trans (feq (r177_0.elim (fun q e => absurd (q.1.symm.trans e) (by decide)) (fun q => absurd rfl q.2))).1) k_) ?_
    show G (T177.setTop (mkF m 587 #[.val (.int i0), .val (.int i1), .val (.int i2), .val (.int i3), .val (.int 2), .val (.int c113), .val (.int c114), .val (.int c115), .val (.ref b116), .val (.ref b128), .val (.ref q_169), .val (.ref r_169)] []))
    refine hG _ _ (fun t_ k_ => XS.iconst X177.here hx rfl (hb hby at_587) k_) ?_
    refine hG _ _ (fun t_ k_ => XS.goto X177.here hx rfl (pc0 := 588) (pc' := 592) rfl (hb hby at_588) (by decide) (by decide) k_) ?_
    show G (T177.setTop (mkF m 592 #[.val (.int i0), .val (.int i1), .val (.int i2), .val (.int i3), .val (.int 2), .val (.int c113), .val (.int c114), .val (.int c115), .val (.ref b116), .val (.ref b128), .val (.ref q_169), .val (.ref r_169)] [(.int 1)]))
    exact own_retNW hR hret (by simp) X177 hx (hb hby at_592) e177 SI169 (Nat.le_refl _) hZ169 C169 (by decide) (by decide) ⟨rfl, N177, K169⟩
  · skip
    show G (s₁.setTop (mkF m 8 #[.val (.int i0), .val (.int i1), .val (.int i2), .val (.int i3), .val (.int 3), .unset, .unset, .unset, .unset, .unset, .unset, .unset] []))
    refine hG _ _ (fun t_ k_ => XS.iloadN X0.here hx rfl (hb hby at_8) rfl k_) ?_
    refine hG _ _ (fun t_ k_ => XS.sipush X0.here hx rfl (hb hby at_9) k_) ?_
    refine hG _ _ (fun t_ k_ => XS.iand X0.here hx rfl (hb hby at_12) rfl k_) ?_
    refine hG _ _ (fun t_ k_ => XS.i2c X0.here hx rfl (hb hby at_13) rfl k_) ?_
    show G (s₁.setTop (mkF m 14 #[.val (.int i0), .val (.int i1), .val (.int i2), .val (.int i3), .val (.int 3), .unset, .unset, .unset, .unset, .unset, .unset, .unset] [(.int ((i0 &&& (255 : Int32)).toUInt32.toUInt16.toUInt32.toInt32))]))
    generalize hn_c182 : ((i0 &&& (255 : Int32)).toUInt32.toUInt16.toUInt32.toInt32) = c182
    have hr_c182 := own_mask8 hn_c182
    show G (s₁.setTop (mkF m 14 #[.val (.int i0), .val (.int i1), .val (.int i2), .val (.int i3), .val (.int 3), .unset, .unset, .unset, .unset, .unset, .unset, .unset] [(.int c182)]))
    refine hG _ _ (fun t_ k_ => XS.istore X0.here hx rfl (hb hby at_14) rfl (l' := #[.val (.int i0), .val (.int i1), .val (.int i2), .val (.int i3), .val (.int 3), .val (.int c182), .unset, .unset, .unset, .unset, .unset, .unset]) rfl k_) ?_
    refine hG _ _ (fun t_ k_ => XS.iloadN X0.here hx rfl (hb hby at_16) rfl k_) ?_
    refine hG _ _ (fun t_ k_ => XS.sipush X0.here hx rfl (hb hby at_17) k_) ?_
    refine hG _ _ (fun t_ k_ => XS.iand X0.here hx rfl (hb hby at_20) rfl k_) ?_
    refine hG _ _ (fun t_ k_ => XS.i2c X0.here hx rfl (hb hby at_21) rfl k_) ?_
    show G (s₁.setTop (mkF m 22 #[.val (.int i0), .val (.int i1), .val (.int i2), .val (.int i3), .val (.int 3), .val (.int c182), .unset, .unset, .unset, .unset, .unset, .unset] [(.int ((i1 &&& (255 : Int32)).toUInt32.toUInt16.toUInt32.toInt32))]))
    generalize hn_c183 : ((i1 &&& (255 : Int32)).toUInt32.toUInt16.toUInt32.toInt32) = c183
    have hr_c183 := own_mask8 hn_c183
    show G (s₁.setTop (mkF m 22 #[.val (.int i0), .val (.int i1), .val (.int i2), .val (.int i3), .val (.int 3), .val (.int c182), .unset, .unset, .unset, .unset, .unset, .unset] [(.int c183)]))
    refine hG _ _ (fun t_ k_ => XS.istore X0.here hx rfl (hb hby at_22) rfl (l' := #[.val (.int i0), .val (.int i1), .val (.int i2), .val (.int i3), .val (.int 3), .val (.int c182), .val (.int c183), .unset, .unset, .unset, .unset, .unset]) rfl k_) ?_
    refine hG _ _ (fun t_ k_ => XS.iloadN X0.here hx rfl (hb hby at_24) rfl k_) ?_
    refine hG _ _ (fun t_ k_ => XS.sipush X0.here hx rfl (hb hby at_25) k_) ?_
    refine hG _ _ (fun t_ k_ => XS.iand X0.here hx rfl (hb hby at_28) rfl k_) ?_
    refine hG _ _ (fun t_ k_ => XS.i2c X0.here hx rfl (hb hby at_29) rfl k_) ?_
    show G (s₁.setTop (mkF m 30 #[.val (.int i0), .val (.int i1), .val (.int i2), .val (.int i3), .val (.int 3), .val (.int c182), .val (.int c183), .unset, .unset, .unset, .unset, .unset] [(.int ((i2 &&& (255 : Int32)).toUInt32.toUInt16.toUInt32.toInt32))]))
    generalize hn_c184 : ((i2 &&& (255 : Int32)).toUInt32.toUInt16.toUInt32.toInt32) = c184
    have hr_c184 := own_mask8 hn_c184
    show G (s₁.setTop (mkF m 30 #[.val (.int i0), .val (.int i1), .val (.int i2), .val (.int i3), .val (.int 3), .val (.int c182), .val (.int c183), .unset, .unset, .unset, .unset, .unset] [(.int c184)]))
    refine hG _ _ (fun t_ k_ => XS.istore X0.here hx rfl (hb hby at_30) rfl (l' := #[.val (.int i0), .val (.int i1), .val (.int i2), .val (.int i3), .val (.int 3), .val (.int c182), .val (.int c183), .val (.int c184), .unset, .unset, .unset, .unset]) rfl k_) ?_
    refine hG _ _ (fun t_ k_ => XS.iload X0.here hx rfl (hb hby at_32) rfl k_) ?_
    show G (s₁.setTop (mkF m 34 #[.val (.int i0), .val (.int i1), .val (.int i2), .val (.int i3), .val (.int 3), .val (.int c182), .val (.int c183), .val (.int c184), .unset, .unset, .unset, .unset] [(.int 3)]))
    refine hG _ _ (fun t_ k_ => XS.ifYes X0.here hx rfl (pc0 := 34) (pc' := 141) rfl (hb hby at_34) rfl ((if0 _ _).trans (feq (by decide)).2) (by decide) (by decide) k_) ?_
    show G (s₁.setTop (mkF m 141 #[.val (.int i0), .val (.int i1), .val (.int i2), .val (.int i3), .val (.int 3), .val (.int c182), .val (.int c183), .val (.int c184), .unset, .unset, .unset, .unset] []))
    refine hG _ _ (fun t_ k_ => XS.iload X0.here hx rfl (hb hby at_141) rfl k_) ?_
    refine hG _ _ (fun t_ k_ => XS.iconst X0.here hx rfl (hb hby at_143) k_) ?_
    show G (s₁.setTop (mkF m 144 #[.val (.int i0), .val (.int i1), .val (.int i2), .val (.int i3), .val (.int 3), .val (.int c182), .val (.int c183), .val (.int c184), .unset, .unset, .unset, .unset] [(.int 1), (.int 3)]))
    refine hG _ _ (fun t_ k_ => XS.icmpYes X0.here hx rfl (pc0 := 144) (pc' := 260) rfl (hb hby at_144) rfl (feq (by decide)).2 (by decide) (by decide) k_) ?_
    show G (s₁.setTop (mkF m 260 #[.val (.int i0), .val (.int i1), .val (.int i2), .val (.int i3), .val (.int 3), .val (.int c182), .val (.int c183), .val (.int c184), .unset, .unset, .unset, .unset] []))
    refine hG _ _ (fun t_ k_ => XS.iload X0.here hx rfl (hb hby at_260) rfl k_) ?_
    refine hG _ _ (fun t_ k_ => XS.iconst X0.here hx rfl (hb hby at_262) k_) ?_
    show G (s₁.setTop (mkF m 263 #[.val (.int i0), .val (.int i1), .val (.int i2), .val (.int i3), .val (.int 3), .val (.int c182), .val (.int c183), .val (.int c184), .unset, .unset, .unset, .unset] [(.int 2), (.int 3)]))
    refine hG _ _ (fun t_ k_ => XS.icmpYes X0.here hx rfl (pc0 := 263) (pc' := 400) rfl (hb hby at_263) rfl (feq (by decide)).2 (by decide) (by decide) k_) ?_
    show G (s₁.setTop (mkF m 400 #[.val (.int i0), .val (.int i1), .val (.int i2), .val (.int i3), .val (.int 3), .val (.int c182), .val (.int c183), .val (.int c184), .unset, .unset, .unset, .unset] []))
    obtain ⟨T185, h185, X185, e185, E185, A185, D185, -, st185⟩ := newO X0 hx hZ hown (ow hw 27 rfl) (ow hw 11 rfl) (ow hw 3 rfl) e0 (g := (mkF m 400 #[.val (.int i0), .val (.int i1), .val (.int i2), .val (.int i3), .val (.int 3), .val (.int c182), .val (.int c183), .val (.int c184), .unset, .unset, .unset, .unset] [])) rfl (hb hby at_400) (by decide) (by decide)
    obtain ⟨b185, z185⟩ : ∃ z, z = h0.size := ⟨_, rfl⟩
    rw [← z185] at A185 D185 st185
    refine hG _ _ st185 ?_
    have R185 := (CHr.ext E185 H0)
    have C185 := (CHr.refl H0).trans R185
    have K185 : Keep h0 h185 [] := (Keep.refl h0 []).ext E185
    have O185 : own_Old Z h185 := O0.ext E185
    refine hG _ _ (fun t_ k_ => XS.dup X185.here hx rfl (hb hby at_403) rfl rfl k_) ?_
    refine hG _ _ (fun t_ k_ => XS.iconst X185.here hx rfl (hb hby at_404) k_) ?_
    obtain ⟨T186, h186, k186, X186, e186, E186, A186, st186⟩ := newP X185 hx hZ (ow hw 28 rfl) e185 (g := (mkF m 405 #[.val (.int i0), .val (.int i1), .val (.int i2), .val (.int i3), .val (.int 3), .val (.int c182), .val (.int c183), .val (.int c184), .unset, .unset, .unset, .unset] [(.int 3), (.ref b185), (.ref b185)])) rfl (hb hby at_405) rfl (by decide) (cap := 3) (by decide) (by decide) (by decide) (by decide)
    obtain ⟨b186, z186⟩ : ∃ z, z = h185.size := ⟨_, rfl⟩
    rw [← z186] at A186 st186
    refine hG _ _ st186 ?_
    have R186 := (CHr.ext E186 R185.1)
    have C186 := C185.trans R186
    have K186 : Keep h0 h186 [] := K185.ext E186
    have O186 : own_Old Z h186 := O185.ext E186
    have V186 : Arv Z h186 b186 k186 .char (3 : Int32) [(.int 0), (.int 0), (.int 0)] (.int 0) := (Arv.new A186 (by decide)).pad (pad_rep [] (.int 0) 3)
    refine hG _ _ (fun t_ k_ => XS.dup X186.here hx rfl (hb hby at_407) rfl rfl k_) ?_
    refine hG _ _ (fun t_ k_ => XS.iconst X186.here hx rfl (hb hby at_408) k_) ?_
    refine hG _ _ (fun t_ k_ => XS.iload X186.here hx rfl (hb hby at_409) rfl k_) ?_
    obtain ⟨c187, Ar187, q187, S187, M187, H187, G187⟩ := id V186
    obtain ⟨T187, h187, X187, e187, W187, st187⟩ := stC X186 hx hZ e186 Ar187 (j := (0 : Int32)) (inb_of S187 ⟨by decide, by decide⟩) (g := (mkF m 411 #[.val (.int i0), .val (.int i1), .val (.int i2), .val (.int i3), .val (.int 3), .val (.int c182), .val (.int c183), .val (.int c184), .unset, .unset, .unset, .unset] [(.int c182), (.int 0), (.ref b186), (.ref b186), (.ref b185), (.ref b185)])) rfl rfl (hb hby at_411)
    refine hG _ _ st187 ?_
    have sf188 : Safe Z consts_1 _ h186 b186 := (own_safeArv hZ.alike V186 (by decide))
    have R187 := (CHr.wr W187 sf188 R186.1)
    have C187 := C186.trans R187
    have K187 : Keep h0 h187 [] := K186.wr W187 (Or.inr (Nat.le_trans K185.1 (Nat.le_of_eq z186.symm)))
    have O187 : own_Old Z h187 := O186.wr W187 (own_ge O185 (Nat.le_of_eq z186.symm))
    rw [own_narC ⟨hr_c182.1, by omega⟩] at W187
    have V187 : Arv Z h187 b186 k186 .char (3 : Int32) [(.int c182), (.int 0), (.int 0)] (.int 0) := Arv.set Ar187 q187 S187 M187 H187 G187 (own_fitC ⟨hr_c182.1, by omega⟩) W187 0 rfl (Nat.le_of_ble_eq_true rfl)
    have N187 := Fr.snoc X187 N0 (own_ge O185 (Nat.le_of_eq z186.symm))
    refine hG _ _ (fun t_ k_ => XS.dup X187.here hx rfl (hb hby at_412) rfl rfl k_) ?_
    show G (T187.setTop (mkF m 413 #[.val (.int i0), .val (.int i1), .val (.int i2), .val (.int i3), .val (.int 3), .val (.int c182), .val (.int c183), .val (.int c184), .unset, .unset, .unset, .unset] [(.ref b186), (.ref b186), (.ref b185), (.ref b185)]))
    refine hG _ _ (fun t_ k_ => XS.iconst X187.here hx rfl (hb hby at_413) k_) ?_
    refine hG _ _ (fun t_ k_ => XS.iload X187.here hx rfl (hb hby at_414) rfl k_) ?_
    obtain ⟨c189, Ar189, q189, S189, M189, H189, G189⟩ := id V187
    obtain ⟨T189, h189, X189, e189, W189, st189⟩ := stC X187 hx hZ e187 Ar189 (j := (1 : Int32)) (inb_of S189 ⟨by decide, by decide⟩) (g := (mkF m 416 #[.val (.int i0), .val (.int i1), .val (.int i2), .val (.int i3), .val (.int 3), .val (.int c182), .val (.int c183), .val (.int c184), .unset, .unset, .unset, .unset] [(.int c183), (.int 1), (.ref b186), (.ref b186), (.ref b185), (.ref b185)])) rfl rfl (hb hby at_416)
    refine hG _ _ st189 ?_
    have sf190 := (R187.safe V186.lt sf188)
    have R189 := (CHr.wr W189 sf190 R187.1)
    have C189 := C187.trans R189
    have K189 : Keep h0 h189 [] := K187.wr W189 (Or.inr (Nat.le_trans K185.1 (Nat.le_of_eq z186.symm)))
    have O189 : own_Old Z h189 := O187.wr W189 (own_ge O185 (Nat.le_of_eq z186.symm))
    rw [own_narC ⟨hr_c183.1, by omega⟩] at W189
    have V189 : Arv Z h189 b186 k186 .char (3 : Int32) [(.int c182), (.int c183), (.int 0)] (.int 0) := Arv.set Ar189 q189 S189 M189 H189 G189 (own_fitC ⟨hr_c183.1, by omega⟩) W189 1 rfl (Nat.le_of_ble_eq_true rfl)
    have N189 := Fr.snoc X189 N187 (own_ge O185 (Nat.le_of_eq z186.symm))
    refine hG _ _ (fun t_ k_ => XS.dup X189.here hx rfl (hb hby at_417) rfl rfl k_) ?_
    refine hG _ _ (fun t_ k_ => XS.iconst X189.here hx rfl (hb hby at_418) k_) ?_
    refine hG _ _ (fun t_ k_ => XS.iload X189.here hx rfl (hb hby at_419) rfl k_) ?_
    obtain ⟨c191, Ar191, q191, S191, M191, H191, G191⟩ := id V189
    obtain ⟨T191, h191, X191, e191, W191, st191⟩ := stC X189 hx hZ e189 Ar191 (j := (2 : Int32)) (inb_of S191 ⟨by decide, by decide⟩) (g := (mkF m 421 #[.val (.int i0), .val (.int i1), .val (.int i2), .val (.int i3), .val (.int 3), .val (.int c182), .val (.int c183), .val (.int c184), .unset, .unset, .unset, .unset] [(.int c184), (.int 2), (.ref b186), (.ref b186), (.ref b185), (.ref b185)])) rfl rfl (hb hby at_421)
    refine hG _ _ st191 ?_
    have sf192 := (R189.safe V187.lt sf190)
    have R191 := (CHr.wr W191 sf192 R189.1)
    have C191 := C189.trans R191
    have K191 : Keep h0 h191 [] := K189.wr W191 (Or.inr (Nat.le_trans K185.1 (Nat.le_of_eq z186.symm)))
    have O191 : own_Old Z h191 := O189.wr W191 (own_ge O185 (Nat.le_of_eq z186.symm))
    rw [own_narC ⟨hr_c184.1, by omega⟩] at W191
    have V191 : Arv Z h191 b186 k186 .char (3 : Int32) [(.int c182), (.int c183), (.int c184)] (.int 0) := Arv.set Ar191 q191 S191 M191 H191 G191 (own_fitC ⟨hr_c184.1, by omega⟩) W191 2 rfl (Nat.le_of_ble_eq_true rfl)
    have N191 := Fr.snoc X191 N189 (own_ge O185 (Nat.le_of_eq z186.symm))
    show G (T191.setTop (mkF m 422 #[.val (.int i0), .val (.int i1), .val (.int i2), .val (.int i3), .val (.int 3), .val (.int c182), .val (.int c183), .val (.int c184), .unset, .unset, .unset, .unset] [(.ref b186), (.ref b185), (.ref b185)]))
    have f194 := ((((A185.ext E186).wr W187).wr W189).wr W191)
    have f195 := (((((D185 (Or.inr (ow hw 26 rfl)) (ty := .byte) (by decide)).ext E186).other W187 (Or.inl (own_ne A185.lt (Nat.le_of_eq z186.symm)))).other W189 (Or.inl (own_ne A185.lt (Nat.le_of_eq z186.symm)))).other W191 (Or.inl (own_ne A185.lt (Nat.le_of_eq z186.symm))))
    have f196 := (((((D185 (Or.inr (ow hw 24 rfl)) (ty := (.array .byte)) (by decide)).ext E186).other W187 (Or.inl (own_ne A185.lt (Nat.le_of_eq z186.symm)))).other W189 (Or.inl (own_ne A185.lt (Nat.le_of_eq z186.symm)))).other W191 (Or.inl (own_ne A185.lt (Nat.le_of_eq z186.symm))))
    refine own_callI X191 hx hZ hG hown rfl (ow hw 29 rfl) (ow hw 30 rfl) (ow hw 3 rfl) (ow hw 31 rfl) (by decide) 1 (own_str1 l Z a0 hw b185 b186 k186 [c182, c183, c184] cpt (.int 0) .null h191 O191 f194 f195 f196 (own_ge O0 (Nat.le_of_eq z185.symm)) V191 (Nat.le_of_ble_eq_true rfl) (Nat.le_of_ble_eq_true rfl) (own_allc (own_le255 hr_c182) (own_allc (own_le255 hr_c183) (own_allc (own_le255 hr_c184) own_alln))) g0_S g1_hcpt) (by decide) (by decide) e191 (by rw [hml]; rfl) (lenOf own_pd5 rfl) (argsL := [(.ref b186)]) (rest := [(.ref b185)]) rfl rfl (Nat.le_of_eq rfl) (hb hby at_422) (by decide) (by decide) ?_
    intro T193 h193 v193 L193 X193 e193 q193
    obtain ⟨t_193, kt_193, rfl, M193, J193, y193_0, r193_0, r193_1, r193_2, r193_3⟩ := q193
    have N193 := Fr.app N191 M193
    have sf197 : Safe Z consts_1 _ h191 b185 := (own_safeStr hZ.alike f194 f196)
    have R193 := (CHr.keep J193 (allS sf197 all0) R191.1)
    have C193 := C191.trans R193
    have K193 : Keep h0 h193 [] := K191.trans J193 (allS (Or.inr (Nat.le_trans (Keep.refl h0 []).1 (Nat.le_of_eq z185.symm))) all0)
    have O193 : own_Old Z h193 := O191.keep J193 (allS (own_ge O0 (Nat.le_of_eq z185.symm)) all0)
    show G (T193.setTop (mkF m 425 #[.val (.int i0), .val (.int i1), .val (.int i2), .val (.int i3), .val (.int 3), .val (.int c182), .val (.int c183), .val (.int c184), .unset, .unset, .unset, .unset] [(.ref b185)]))
    have W198 : Arv Z h193 t_193 kt_193 .byte (3 : Int32) [(.int (c182.toInt8.toInt32)), (.int (c183.toInt8.toInt32)), (.int (c184.toInt8.toInt32))] (.int 0) := r193_3
    show G (T193.setTop (mkF m 425 #[.val (.int i0), .val (.int i1), .val (.int i2), .val (.int i3), .val (.int 3), .val (.int c182), .val (.int c183), .val (.int c184), .unset, .unset, .unset, .unset] [(.ref b185)]))
    refine hG _ _ (fun t_ k_ => XS.astore X193.here hx rfl (hb hby at_425) rfl rfl (l' := #[.val (.int i0), .val (.int i1), .val (.int i2), .val (.int i3), .val (.int 3), .val (.int c182), .val (.int c183), .val (.int c184), .val (.ref b185), .unset, .unset, .unset]) rfl k_) ?_
    obtain ⟨T199, h199, X199, e199, E199, A199, D199, -, st199⟩ := newO X193 hx hZ hown (ow hw 27 rfl) (ow hw 11 rfl) (ow hw 3 rfl) e193 (g := (mkF m 427 #[.val (.int i0), .val (.int i1), .val (.int i2), .val (.int i3), .val (.int 3), .val (.int c182), .val (.int c183), .val (.int c184), .val (.ref b185), .unset, .unset, .unset] [])) rfl (hb hby at_427) (by decide) (by decide)
    obtain ⟨b199, z199⟩ : ∃ z, z = h193.size := ⟨_, rfl⟩
    rw [← z199] at A199 D199 st199
    refine hG _ _ st199 ?_
    have R199 := (CHr.ext E199 R193.1)
    have C199 := C193.trans R199
    have K199 : Keep h0 h199 [] := K193.ext E199
    have O199 : own_Old Z h199 := O193.ext E199
    refine hG _ _ (fun t_ k_ => XS.dup X199.here hx rfl (hb hby at_430) rfl rfl k_) ?_
    refine hG _ _ (fun t_ k_ => XS.bipush X199.here hx rfl (hb hby at_431) k_) ?_
    obtain ⟨T200, h200, k200, X200, e200, E200, A200, st200⟩ := newP X199 hx hZ (ow hw 28 rfl) e199 (g := (mkF m 433 #[.val (.int i0), .val (.int i1), .val (.int i2), .val (.int i3), .val (.int 3), .val (.int c182), .val (.int c183), .val (.int c184), .val (.ref b185), .unset, .unset, .unset] [(.int 18), (.ref b199), (.ref b199)])) rfl (hb hby at_433) rfl (by decide) (cap := 18) (by decide) (by decide) (by decide) (by decide)
    obtain ⟨b200, z200⟩ : ∃ z, z = h199.size := ⟨_, rfl⟩
    rw [← z200] at A200 st200
    refine hG _ _ st200 ?_
    have R200 := (CHr.ext E200 R199.1)
    have C200 := C199.trans R200
    have K200 : Keep h0 h200 [] := K199.ext E200
    have O200 : own_Old Z h200 := O199.ext E200
    have V200 : Arv Z h200 b200 k200 .char (18 : Int32) [(.int 0), (.int 0), (.int 0), (.int 0), (.int 0), (.int 0), (.int 0), (.int 0), (.int 0), (.int 0), (.int 0), (.int 0), (.int 0), (.int 0), (.int 0), (.int 0), (.int 0), (.int 0)] (.int 0) := (Arv.new A200 (by decide)).pad (pad_rep [] (.int 0) 18)
    refine hG _ _ (fun t_ k_ => XS.dup X200.here hx rfl (hb hby at_435) rfl rfl k_) ?_
    refine hG _ _ (fun t_ k_ => XS.iconst X200.here hx rfl (hb hby at_436) k_) ?_
    refine hG _ _ (fun t_ k_ => XS.bipush X200.here hx rfl (hb hby at_437) k_) ?_
    obtain ⟨c201, Ar201, q201, S201, M201, H201, G201⟩ := id V200
    obtain ⟨T201, h201, X201, e201, W201, st201⟩ := stC X200 hx hZ e200 Ar201 (j := (0 : Int32)) (inb_of S201 ⟨by decide, by decide⟩) (g := (mkF m 439 #[.val (.int i0), .val (.int i1), .val (.int i2), .val (.int i3), .val (.int 3), .val (.int c182), .val (.int c183), .val (.int c184), .val (.ref b185), .unset, .unset, .unset] [(.int 98), (.int 0), (.ref b200), (.ref b200), (.ref b199), (.ref b199)])) rfl rfl (hb hby at_439)
    refine hG _ _ st201 ?_
    have sf202 : Safe Z consts_1 _ h200 b200 := (own_safeArv hZ.alike V200 (by decide))
    have R201 := (CHr.wr W201 sf202 R200.1)
    have C201 := C200.trans R201
    have K201 : Keep h0 h201 [] := K200.wr W201 (Or.inr (Nat.le_trans K199.1 (Nat.le_of_eq z200.symm)))
    have O201 : own_Old Z h201 := O200.wr W201 (own_ge O199 (Nat.le_of_eq z200.symm))
    rw [own_narC (by decide)] at W201
    have V201 : Arv Z h201 b200 k200 .char (18 : Int32) [(.int 98), (.int 0), (.int 0), (.int 0), (.int 0), (.int 0), (.int 0), (.int 0), (.int 0), (.int 0), (.int 0), (.int 0), (.int 0), (.int 0), (.int 0), (.int 0), (.int 0), (.int 0)] (.int 0) := Arv.set Ar201 q201 S201 M201 H201 G201 (own_fitC (by decide)) W201 0 rfl (Nat.le_of_ble_eq_true rfl)
    have N201 := Fr.snoc X201 N193 (own_ge O199 (Nat.le_of_eq z200.symm))
    show G (T201.setTop (mkF m 440 #[.val (.int i0), .val (.int i1), .val (.int i2), .val (.int i3), .val (.int 3), .val (.int c182), .val (.int c183), .val (.int c184), .val (.ref b185), .unset, .unset, .unset] [(.ref b200), (.ref b199), (.ref b199)]))
    refine hG _ _ (fun t_ k_ => XS.dup X201.here hx rfl (hb hby at_440) rfl rfl k_) ?_
    refine hG _ _ (fun t_ k_ => XS.iconst X201.here hx rfl (hb hby at_441) k_) ?_
    refine hG _ _ (fun t_ k_ => XS.bipush X201.here hx rfl (hb hby at_442) k_) ?_
    obtain ⟨c203, Ar203, q203, S203, M203, H203, G203⟩ := id V201
    obtain ⟨T203, h203, X203, e203, W203, st203⟩ := stC X201 hx hZ e201 Ar203 (j := (1 : Int32)) (inb_of S203 ⟨by decide, by decide⟩) (g := (mkF m 444 #[.val (.int i0), .val (.int i1), .val (.int i2), .val (.int i3), .val (.int 3), .val (.int c182), .val (.int c183), .val (.int c184), .val (.ref b185), .unset, .unset, .unset] [(.int 101), (.int 1), (.ref b200), (.ref b200), (.ref b199), (.ref b199)])) rfl rfl (hb hby at_444)
    refine hG _ _ st203 ?_
    have sf204 := (R201.safe V200.lt sf202)
    have R203 := (CHr.wr W203 sf204 R201.1)
    have C203 := C201.trans R203
    have K203 : Keep h0 h203 [] := K201.wr W203 (Or.inr (Nat.le_trans K199.1 (Nat.le_of_eq z200.symm)))
    have O203 : own_Old Z h203 := O201.wr W203 (own_ge O199 (Nat.le_of_eq z200.symm))
    rw [own_narC (by decide)] at W203
    have V203 : Arv Z h203 b200 k200 .char (18 : Int32) [(.int 98), (.int 101), (.int 0), (.int 0), (.int 0), (.int 0), (.int 0), (.int 0), (.int 0), (.int 0), (.int 0), (.int 0), (.int 0), (.int 0), (.int 0), (.int 0), (.int 0), (.int 0)] (.int 0) := Arv.set Ar203 q203 S203 M203 H203 G203 (own_fitC (by decide)) W203 1 rfl (Nat.le_of_ble_eq_true rfl)
    have N203 := Fr.snoc X203 N201 (own_ge O199 (Nat.le_of_eq z200.symm))
    refine hG _ _ (fun t_ k_ => XS.dup X203.here hx rfl (hb hby at_445) rfl rfl k_) ?_
    refine hG _ _ (fun t_ k_ => XS.iconst X203.here hx rfl (hb hby at_446) k_) ?_
    refine hG _ _ (fun t_ k_ => XS.bipush X203.here hx rfl (hb hby at_447) k_) ?_
    obtain ⟨c205, Ar205, q205, S205, M205, H205, G205⟩ := id V203
    obtain ⟨T205, h205, X205, e205, W205, st205⟩ := stC X203 hx hZ e203 Ar205 (j := (2 : Int32)) (inb_of S205 ⟨by decide, by decide⟩) (g := (mkF m 449 #[.val (.int i0), .val (.int i1), .val (.int i2), .val (.int i3), .val (.int 3), .val (.int c182), .val (.int c183), .val (.int c184), .val (.ref b185), .unset, .unset, .unset] [(.int 97), (.int 2), (.ref b200), (.ref b200), (.ref b199), (.ref b199)])) rfl rfl (hb hby at_449)
    refine hG _ _ st205 ?_
    have sf206 := (R203.safe V201.lt sf204)
    have R205 := (CHr.wr W205 sf206 R203.1)
    have C205 := C203.trans R205
    have K205 : Keep h0 h205 [] := K203.wr W205 (Or.inr (Nat.le_trans K199.1 (Nat.le_of_eq z200.symm)))
    have O205 : own_Old Z h205 := O203.wr W205 (own_ge O199 (Nat.le_of_eq z200.symm))
    rw [own_narC (by decide)] at W205
    have V205 : Arv Z h205 b200 k200 .char (18 : Int32) [(.int 98), (.int 101), (.int 97), (.int 0), (.int 0), (.int 0), (.int 0), (.int 0), (.int 0), (.int 0), (.int 0), (.int 0), (.int 0), (.int 0), (.int 0), (.int 0), (.int 0), (.int 0)] (.int 0) := Arv.set Ar205 q205 S205 M205 H205 G205 (own_fitC (by decide)) W205 2 rfl (Nat.le_of_ble_eq_true rfl)
    have N205 := Fr.snoc X205 N203 (own_ge O199 (Nat.le_of_eq z200.symm))
    refine hG _ _ (fun t_ k_ => XS.dup X205.here hx rfl (hb hby at_450) rfl rfl k_) ?_
    show G (T205.setTop (mkF m 451 #[.val (.int i0), .val (.int i1), .val (.int i2), .val (.int i3), .val (.int 3), .val (.int c182), .val (.int c183), .val (.int c184), .val (.ref b185), .unset, .unset, .unset] [(.ref b200), (.ref b200), (.ref b199), (.ref b199)]))
    refine hG _ _ (fun t_ k_ => XS.iconst X205.here hx rfl (hb hby at_451) k_) ?_
    refine hG _ _ (fun t_ k_ => XS.bipush X205.here hx rfl (hb hby at_452) k_) ?_
    obtain ⟨c207, Ar207, q207, S207, M207, H207, G207⟩ := id V205
    obtain ⟨T207, h207, X207, e207, W207, st207⟩ := stC X205 hx hZ e205 Ar207 (j := (3 : Int32)) (inb_of S207 ⟨by decide, by decide⟩) (g := (mkF m 454 #[.val (.int i0), .val (.int i1), .val (.int i2), .val (.int i3), .val (.int 3), .val (.int c182), .val (.int c183), .val (.int c184), .val (.ref b185), .unset, .unset, .unset] [(.int 109), (.int 3), (.ref b200), (.ref b200), (.ref b199), (.ref b199)])) rfl rfl (hb hby at_454)
    refine hG _ _ st207 ?_
    have sf208 := (R205.safe V203.lt sf206)
    have R207 := (CHr.wr W207 sf208 R205.1)
    have C207 := C205.trans R207
    have K207 : Keep h0 h207 [] := K205.wr W207 (Or.inr (Nat.le_trans K199.1 (Nat.le_of_eq z200.symm)))
    have O207 : own_Old Z h207 := O205.wr W207 (own_ge O199 (Nat.le_of_eq z200.symm))
    rw [own_narC (by decide)] at W207
    have V207 : Arv Z h207 b200 k200 .char (18 : Int32) [(.int 98), (.int 101), (.int 97), (.int 109), (.int 0), (.int 0), (.int 0), (.int 0), (.int 0), (.int 0), (.int 0), (.int 0), (.int 0), (.int 0), (.int 0), (.int 0), (.int 0), (.int 0)] (.int 0) := Arv.set Ar207 q207 S207 M207 H207 G207 (own_fitC (by decide)) W207 3 rfl (Nat.le_of_ble_eq_true rfl)
    have N207 := Fr.snoc X207 N205 (own_ge O199 (Nat.le_of_eq z200.symm))
    refine hG _ _ (fun t_ k_ => XS.dup X207.here hx rfl (hb hby at_455) rfl rfl k_) ?_
    refine hG _ _ (fun t_ k_ => XS.iconst X207.here hx rfl (hb hby at_456) k_) ?_
    refine hG _ _ (fun t_ k_ => XS.bipush X207.here hx rfl (hb hby at_457) k_) ?_
    obtain ⟨c209, Ar209, q209, S209, M209, H209, G209⟩ := id V207
    obtain ⟨T209, h209, X209, e209, W209, st209⟩ := stC X207 hx hZ e207 Ar209 (j := (4 : Int32)) (inb_of S209 ⟨by decide, by decide⟩) (g := (mkF m 459 #[.val (.int i0), .val (.int i1), .val (.int i2), .val (.int i3), .val (.int 3), .val (.int c182), .val (.int c183), .val (.int c184), .val (.ref b185), .unset, .unset, .unset] [(.int 108), (.int 4), (.ref b200), (.ref b200), (.ref b199), (.ref b199)])) rfl rfl (hb hby at_459)
    refine hG _ _ st209 ?_
    have sf210 := (R207.safe V205.lt sf208)
    have R209 := (CHr.wr W209 sf210 R207.1)
    have C209 := C207.trans R209
    have K209 : Keep h0 h209 [] := K207.wr W209 (Or.inr (Nat.le_trans K199.1 (Nat.le_of_eq z200.symm)))
    have O209 : own_Old Z h209 := O207.wr W209 (own_ge O199 (Nat.le_of_eq z200.symm))
    rw [own_narC (by decide)] at W209
    have V209 : Arv Z h209 b200 k200 .char (18 : Int32) [(.int 98), (.int 101), (.int 97), (.int 109), (.int 108), (.int 0), (.int 0), (.int 0), (.int 0), (.int 0), (.int 0), (.int 0), (.int 0), (.int 0), (.int 0), (.int 0), (.int 0), (.int 0)] (.int 0) := Arv.set Ar209 q209 S209 M209 H209 G209 (own_fitC (by decide)) W209 4 rfl (Nat.le_of_ble_eq_true rfl)
    have N209 := Fr.snoc X209 N207 (own_ge O199 (Nat.le_of_eq z200.symm))
    refine hG _ _ (fun t_ k_ => XS.dup X209.here hx rfl (hb hby at_460) rfl rfl k_) ?_
    refine hG _ _ (fun t_ k_ => XS.iconst X209.here hx rfl (hb hby at_461) k_) ?_
    show G (T209.setTop (mkF m 462 #[.val (.int i0), .val (.int i1), .val (.int i2), .val (.int i3), .val (.int 3), .val (.int c182), .val (.int c183), .val (.int c184), .val (.ref b185), .unset, .unset, .unset] [(.int 5), (.ref b200), (.ref b200), (.ref b199), (.ref b199)]))
    refine hG _ _ (fun t_ k_ => XS.bipush X209.here hx rfl (hb hby at_462) k_) ?_
    obtain ⟨c211, Ar211, q211, S211, M211, H211, G211⟩ := id V209
    obtain ⟨T211, h211, X211, e211, W211, st211⟩ := stC X209 hx hZ e209 Ar211 (j := (5 : Int32)) (inb_of S211 ⟨by decide, by decide⟩) (g := (mkF m 464 #[.val (.int i0), .val (.int i1), .val (.int i2), .val (.int i3), .val (.int 3), .val (.int c182), .val (.int c183), .val (.int c184), .val (.ref b185), .unset, .unset, .unset] [(.int 105), (.int 5), (.ref b200), (.ref b200), (.ref b199), (.ref b199)])) rfl rfl (hb hby at_464)
    refine hG _ _ st211 ?_
    have sf212 := (R209.safe V207.lt sf210)
    have R211 := (CHr.wr W211 sf212 R209.1)
    have C211 := C209.trans R211
    have K211 : Keep h0 h211 [] := K209.wr W211 (Or.inr (Nat.le_trans K199.1 (Nat.le_of_eq z200.symm)))
    have O211 : own_Old Z h211 := O209.wr W211 (own_ge O199 (Nat.le_of_eq z200.symm))
    rw [own_narC (by decide)] at W211
    have V211 : Arv Z h211 b200 k200 .char (18 : Int32) [(.int 98), (.int 101), (.int 97), (.int 109), (.int 108), (.int 105), (.int 0), (.int 0), (.int 0), (.int 0), (.int 0), (.int 0), (.int 0), (.int 0), (.int 0), (.int 0), (.int 0), (.int 0)] (.int 0) := Arv.set Ar211 q211 S211 M211 H211 G211 (own_fitC (by decide)) W211 5 rfl (Nat.le_of_ble_eq_true rfl)
    have N211 := Fr.snoc X211 N209 (own_ge O199 (Nat.le_of_eq z200.symm))
    refine hG _ _ (fun t_ k_ => XS.dup X211.here hx rfl (hb hby at_465) rfl rfl k_) ?_
    refine hG _ _ (fun t_ k_ => XS.bipush X211.here hx rfl (hb hby at_466) k_) ?_
    refine hG _ _ (fun t_ k_ => XS.bipush X211.here hx rfl (hb hby at_468) k_) ?_
    obtain ⟨c213, Ar213, q213, S213, M213, H213, G213⟩ := id V211
    obtain ⟨T213, h213, X213, e213, W213, st213⟩ := stC X211 hx hZ e211 Ar213 (j := (6 : Int32)) (inb_of S213 ⟨by decide, by decide⟩) (g := (mkF m 470 #[.val (.int i0), .val (.int i1), .val (.int i2), .val (.int i3), .val (.int 3), .val (.int c182), .val (.int c183), .val (.int c184), .val (.ref b185), .unset, .unset, .unset] [(.int 110), (.int 6), (.ref b200), (.ref b200), (.ref b199), (.ref b199)])) rfl rfl (hb hby at_470)
    refine hG _ _ st213 ?_
    have sf214 := (R211.safe V209.lt sf212)
    have R213 := (CHr.wr W213 sf214 R211.1)
    have C213 := C211.trans R213
    have K213 : Keep h0 h213 [] := K211.wr W213 (Or.inr (Nat.le_trans K199.1 (Nat.le_of_eq z200.symm)))
    have O213 : own_Old Z h213 := O211.wr W213 (own_ge O199 (Nat.le_of_eq z200.symm))
    rw [own_narC (by decide)] at W213
    have V213 : Arv Z h213 b200 k200 .char (18 : Int32) [(.int 98), (.int 101), (.int 97), (.int 109), (.int 108), (.int 105), (.int 110), (.int 0), (.int 0), (.int 0), (.int 0), (.int 0), (.int 0), (.int 0), (.int 0), (.int 0), (.int 0), (.int 0)] (.int 0) := Arv.set Ar213 q213 S213 M213 H213 G213 (own_fitC (by decide)) W213 6 rfl (Nat.le_of_ble_eq_true rfl)
    have N213 := Fr.snoc X213 N211 (own_ge O199 (Nat.le_of_eq z200.symm))
    refine hG _ _ (fun t_ k_ => XS.dup X213.here hx rfl (hb hby at_471) rfl rfl k_) ?_
    refine hG _ _ (fun t_ k_ => XS.bipush X213.here hx rfl (hb hby at_472) k_) ?_
    refine hG _ _ (fun t_ k_ => XS.bipush X213.here hx rfl (hb hby at_474) k_) ?_
    show G (T213.setTop (mkF m 476 #[.val (.int i0), .val (.int i1), .val (.int i2), .val (.int i3), .val (.int 3), .val (.int c182), .val (.int c183), .val (.int c184), .val (.ref b185), .unset, .unset, .unset] [(.int 101), (.int 7), (.ref b200), (.ref b200), (.ref b199), (.ref b199)]))
    obtain ⟨c215, Ar215, q215, S215, M215, H215, G215⟩ := id V213
    obtain ⟨T215, h215, X215, e215, W215, st215⟩ := stC X213 hx hZ e213 Ar215 (j := (7 : Int32)) (inb_of S215 ⟨by decide, by decide⟩) (g := (mkF m 476 #[.val (.int i0), .val (.int i1), .val (.int i2), .val (.int i3), .val (.int 3), .val (.int c182), .val (.int c183), .val (.int c184), .val (.ref b185), .unset, .unset, .unset] [(.int 101), (.int 7), (.ref b200), (.ref b200), (.ref b199), (.ref b199)])) rfl rfl (hb hby at_476)
    refine hG _ _ st215 ?_
    have sf216 := (R213.safe V211.lt sf214)
    have R215 := (CHr.wr W215 sf216 R213.1)
    have C215 := C213.trans R215
    have K215 : Keep h0 h215 [] := K213.wr W215 (Or.inr (Nat.le_trans K199.1 (Nat.le_of_eq z200.symm)))
    have O215 : own_Old Z h215 := O213.wr W215 (own_ge O199 (Nat.le_of_eq z200.symm))
    rw [own_narC (by decide)] at W215
    have V215 : Arv Z h215 b200 k200 .char (18 : Int32) [(.int 98), (.int 101), (.int 97), (.int 109), (.int 108), (.int 105), (.int 110), (.int 101), (.int 0), (.int 0), (.int 0), (.int 0), (.int 0), (.int 0), (.int 0), (.int 0), (.int 0), (.int 0)] (.int 0) := Arv.set Ar215 q215 S215 M215 H215 G215 (own_fitC (by decide)) W215 7 rfl (Nat.le_of_ble_eq_true rfl)
    have N215 := Fr.snoc X215 N213 (own_ge O199 (Nat.le_of_eq z200.symm))
    refine hG _ _ (fun t_ k_ => XS.dup X215.here hx rfl (hb hby at_477) rfl rfl k_) ?_
    refine hG _ _ (fun t_ k_ => XS.bipush X215.here hx rfl (hb hby at_478) k_) ?_
    refine hG _ _ (fun t_ k_ => XS.bipush X215.here hx rfl (hb hby at_480) k_) ?_
    obtain ⟨c217, Ar217, q217, S217, M217, H217, G217⟩ := id V215
    obtain ⟨T217, h217, X217, e217, W217, st217⟩ := stC X215 hx hZ e215 Ar217 (j := (8 : Int32)) (inb_of S217 ⟨by decide, by decide⟩) (g := (mkF m 482 #[.val (.int i0), .val (.int i1), .val (.int i2), .val (.int i3), .val (.int 3), .val (.int c182), .val (.int c183), .val (.int c184), .val (.ref b185), .unset, .unset, .unset] [(.int 45), (.int 8), (.ref b200), (.ref b200), (.ref b199), (.ref b199)])) rfl rfl (hb hby at_482)
    refine hG _ _ st217 ?_
    have sf218 := (R215.safe V213.lt sf216)
    have R217 := (CHr.wr W217 sf218 R215.1)
    have C217 := C215.trans R217
    have K217 : Keep h0 h217 [] := K215.wr W217 (Or.inr (Nat.le_trans K199.1 (Nat.le_of_eq z200.symm)))
    have O217 : own_Old Z h217 := O215.wr W217 (own_ge O199 (Nat.le_of_eq z200.symm))
    rw [own_narC (by decide)] at W217
    have V217 : Arv Z h217 b200 k200 .char (18 : Int32) [(.int 98), (.int 101), (.int 97), (.int 109), (.int 108), (.int 105), (.int 110), (.int 101), (.int 45), (.int 0), (.int 0), (.int 0), (.int 0), (.int 0), (.int 0), (.int 0), (.int 0), (.int 0)] (.int 0) := Arv.set Ar217 q217 S217 M217 H217 G217 (own_fitC (by decide)) W217 8 rfl (Nat.le_of_ble_eq_true rfl)
    have N217 := Fr.snoc X217 N215 (own_ge O199 (Nat.le_of_eq z200.symm))
    refine hG _ _ (fun t_ k_ => XS.dup X217.here hx rfl (hb hby at_483) rfl rfl k_) ?_
    refine hG _ _ (fun t_ k_ => XS.bipush X217.here hx rfl (hb hby at_484) k_) ?_
    refine hG _ _ (fun t_ k_ => XS.bipush X217.here hx rfl (hb hby at_486) k_) ?_
    obtain ⟨c219, Ar219, q219, S219, M219, H219, G219⟩ := id V217
    obtain ⟨T219, h219, X219, e219, W219, st219⟩ := stC X217 hx hZ e217 Ar219 (j := (9 : Int32)) (inb_of S219 ⟨by decide, by decide⟩) (g := (mkF m 488 #[.val (.int i0), .val (.int i1), .val (.int i2), .val (.int i3), .val (.int 3), .val (.int c182), .val (.int c183), .val (.int c184), .val (.ref b185), .unset, .unset, .unset] [(.int 97), (.int 9), (.ref b200), (.ref b200), (.ref b199), (.ref b199)])) rfl rfl (hb hby at_488)
    refine hG _ _ st219 ?_
    have sf220 := (R217.safe V215.lt sf218)
    have R219 := (CHr.wr W219 sf220 R217.1)
    have C219 := C217.trans R219
    have K219 : Keep h0 h219 [] := K217.wr W219 (Or.inr (Nat.le_trans K199.1 (Nat.le_of_eq z200.symm)))
    have O219 : own_Old Z h219 := O217.wr W219 (own_ge O199 (Nat.le_of_eq z200.symm))
    rw [own_narC (by decide)] at W219
    have V219 : Arv Z h219 b200 k200 .char (18 : Int32) [(.int 98), (.int 101), (.int 97), (.int 109), (.int 108), (.int 105), (.int 110), (.int 101), (.int 45), (.int 97), (.int 0), (.int 0), (.int 0), (.int 0), (.int 0), (.int 0), (.int 0), (.int 0)] (.int 0) := Arv.set Ar219 q219 S219 M219 H219 G219 (own_fitC (by decide)) W219 9 rfl (Nat.le_of_ble_eq_true rfl)
    have N219 := Fr.snoc X219 N217 (own_ge O199 (Nat.le_of_eq z200.symm))
    show G (T219.setTop (mkF m 489 #[.val (.int i0), .val (.int i1), .val (.int i2), .val (.int i3), .val (.int 3), .val (.int c182), .val (.int c183), .val (.int c184), .val (.ref b185), .unset, .unset, .unset] [(.ref b200), (.ref b199), (.ref b199)]))
    refine hG _ _ (fun t_ k_ => XS.dup X219.here hx rfl (hb hby at_489) rfl rfl k_) ?_
    refine hG _ _ (fun t_ k_ => XS.bipush X219.here hx rfl (hb hby at_490) k_) ?_
    refine hG _ _ (fun t_ k_ => XS.bipush X219.here hx rfl (hb hby at_492) k_) ?_
    obtain ⟨c221, Ar221, q221, S221, M221, H221, G221⟩ := id V219
    obtain ⟨T221, h221, X221, e221, W221, st221⟩ := stC X219 hx hZ e219 Ar221 (j := (10 : Int32)) (inb_of S221 ⟨by decide, by decide⟩) (g := (mkF m 494 #[.val (.int i0), .val (.int i1), .val (.int i2), .val (.int i3), .val (.int 3), .val (.int c182), .val (.int c183), .val (.int c184), .val (.ref b185), .unset, .unset, .unset] [(.int 100), (.int 10), (.ref b200), (.ref b200), (.ref b199), (.ref b199)])) rfl rfl (hb hby at_494)
    refine hG _ _ st221 ?_
    have sf222 := (R219.safe V217.lt sf220)
    have R221 := (CHr.wr W221 sf222 R219.1)
    have C221 := C219.trans R221
    have K221 : Keep h0 h221 [] := K219.wr W221 (Or.inr (Nat.le_trans K199.1 (Nat.le_of_eq z200.symm)))
    have O221 : own_Old Z h221 := O219.wr W221 (own_ge O199 (Nat.le_of_eq z200.symm))
    rw [own_narC (by decide)] at W221
    have V221 : Arv Z h221 b200 k200 .char (18 : Int32) [(.int 98), (.int 101), (.int 97), (.int 109), (.int 108), (.int 105), (.int 110), (.int 101), (.int 45), (.int 97), (.int 100), (.int 0), (.int 0), (.int 0), (.int 0), (.int 0), (.int 0), (.int 0)] (.int 0) := Arv.set Ar221 q221 S221 M221 H221 G221 (own_fitC (by decide)) W221 10 rfl (Nat.le_of_ble_eq_true rfl)
    have N221 := Fr.snoc X221 N219 (own_ge O199 (Nat.le_of_eq z200.symm))
    refine hG _ _ (fun t_ k_ => XS.dup X221.here hx rfl (hb hby at_495) rfl rfl k_) ?_
    refine hG _ _ (fun t_ k_ => XS.bipush X221.here hx rfl (hb hby at_496) k_) ?_
    refine hG _ _ (fun t_ k_ => XS.bipush X221.here hx rfl (hb hby at_498) k_) ?_
    obtain ⟨c223, Ar223, q223, S223, M223, H223, G223⟩ := id V221
    obtain ⟨T223, h223, X223, e223, W223, st223⟩ := stC X221 hx hZ e221 Ar223 (j := (11 : Int32)) (inb_of S223 ⟨by decide, by decide⟩) (g := (mkF m 500 #[.val (.int i0), .val (.int i1), .val (.int i2), .val (.int i3), .val (.int 3), .val (.int c182), .val (.int c183), .val (.int c184), .val (.ref b185), .unset, .unset, .unset] [(.int 109), (.int 11), (.ref b200), (.ref b200), (.ref b199), (.ref b199)])) rfl rfl (hb hby at_500)
    refine hG _ _ st223 ?_
    have sf224 := (R221.safe V219.lt sf222)
    have R223 := (CHr.wr W223 sf224 R221.1)
    have C223 := C221.trans R223
    have K223 : Keep h0 h223 [] := K221.wr W223 (Or.inr (Nat.le_trans K199.1 (Nat.le_of_eq z200.symm)))
    have O223 : own_Old Z h223 := O221.wr W223 (own_ge O199 (Nat.le_of_eq z200.symm))
    rw [own_narC (by decide)] at W223
    have V223 : Arv Z h223 b200 k200 .char (18 : Int32) [(.int 98), (.int 101), (.int 97), (.int 109), (.int 108), (.int 105), (.int 110), (.int 101), (.int 45), (.int 97), (.int 100), (.int 109), (.int 0), (.int 0), (.int 0), (.int 0), (.int 0), (.int 0)] (.int 0) := Arv.set Ar223 q223 S223 M223 H223 G223 (own_fitC (by decide)) W223 11 rfl (Nat.le_of_ble_eq_true rfl)
    have N223 := Fr.snoc X223 N221 (own_ge O199 (Nat.le_of_eq z200.symm))
    refine hG _ _ (fun t_ k_ => XS.dup X223.here hx rfl (hb hby at_501) rfl rfl k_) ?_
    show G (T223.setTop (mkF m 502 #[.val (.int i0), .val (.int i1), .val (.int i2), .val (.int i3), .val (.int 3), .val (.int c182), .val (.int c183), .val (.int c184), .val (.ref b185), .unset, .unset, .unset] [(.ref b200), (.ref b200), (.ref b199), (.ref b199)]))
    refine hG _ _ (fun t_ k_ => XS.bipush X223.here hx rfl (hb hby at_502) k_) ?_
    refine hG _ _ (fun t_ k_ => XS.bipush X223.here hx rfl (hb hby at_504) k_) ?_
    obtain ⟨c225, Ar225, q225, S225, M225, H225, G225⟩ := id V223
    obtain ⟨T225, h225, X225, e225, W225, st225⟩ := stC X223 hx hZ e223 Ar225 (j := (12 : Int32)) (inb_of S225 ⟨by decide, by decide⟩) (g := (mkF m 506 #[.val (.int i0), .val (.int i1), .val (.int i2), .val (.int i3), .val (.int 3), .val (.int c182), .val (.int c183), .val (.int c184), .val (.ref b185), .unset, .unset, .unset] [(.int 105), (.int 12), (.ref b200), (.ref b200), (.ref b199), (.ref b199)])) rfl rfl (hb hby at_506)
    refine hG _ _ st225 ?_
    have sf226 := (R223.safe V221.lt sf224)
    have R225 := (CHr.wr W225 sf226 R223.1)
    have C225 := C223.trans R225
    have K225 : Keep h0 h225 [] := K223.wr W225 (Or.inr (Nat.le_trans K199.1 (Nat.le_of_eq z200.symm)))
    have O225 : own_Old Z h225 := O223.wr W225 (own_ge O199 (Nat.le_of_eq z200.symm))
    rw [own_narC (by decide)] at W225
    have V225 : Arv Z h225 b200 k200 .char (18 : Int32) [(.int 98), (.int 101), (.int 97), (.int 109), (.int 108), (.int 105), (.int 110), (.int 101), (.int 45), (.int 97), (.int 100), (.int 109), (.int 105), (.int 0), (.int 0), (.int 0), (.int 0), (.int 0)] (.int 0) := Arv.set Ar225 q225 S225 M225 H225 G225 (own_fitC (by decide)) W225 12 rfl (Nat.le_of_ble_eq_true rfl)
    have N225 := Fr.snoc X225 N223 (own_ge O199 (Nat.le_of_eq z200.symm))
    refine hG _ _ (fun t_ k_ => XS.dup X225.here hx rfl (hb hby at_507) rfl rfl k_) ?_
    refine hG _ _ (fun t_ k_ => XS.bipush X225.here hx rfl (hb hby at_508) k_) ?_
    refine hG _ _ (fun t_ k_ => XS.bipush X225.here hx rfl (hb hby at_510) k_) ?_
    obtain ⟨c227, Ar227, q227, S227, M227, H227, G227⟩ := id V225
    obtain ⟨T227, h227, X227, e227, W227, st227⟩ := stC X225 hx hZ e225 Ar227 (j := (13 : Int32)) (inb_of S227 ⟨by decide, by decide⟩) (g := (mkF m 512 #[.val (.int i0), .val (.int i1), .val (.int i2), .val (.int i3), .val (.int 3), .val (.int c182), .val (.int c183), .val (.int c184), .val (.ref b185), .unset, .unset, .unset] [(.int 110), (.int 13), (.ref b200), (.ref b200), (.ref b199), (.ref b199)])) rfl rfl (hb hby at_512)
    refine hG _ _ st227 ?_
    have sf228 := (R225.safe V223.lt sf226)
    have R227 := (CHr.wr W227 sf228 R225.1)
    have C227 := C225.trans R227
    have K227 : Keep h0 h227 [] := K225.wr W227 (Or.inr (Nat.le_trans K199.1 (Nat.le_of_eq z200.symm)))
    have O227 : own_Old Z h227 := O225.wr W227 (own_ge O199 (Nat.le_of_eq z200.symm))
    rw [own_narC (by decide)] at W227
    have V227 : Arv Z h227 b200 k200 .char (18 : Int32) [(.int 98), (.int 101), (.int 97), (.int 109), (.int 108), (.int 105), (.int 110), (.int 101), (.int 45), (.int 97), (.int 100), (.int 109), (.int 105), (.int 110), (.int 0), (.int 0), (.int 0), (.int 0)] (.int 0) := Arv.set Ar227 q227 S227 M227 H227 G227 (own_fitC (by decide)) W227 13 rfl (Nat.le_of_ble_eq_true rfl)
    have N227 := Fr.snoc X227 N225 (own_ge O199 (Nat.le_of_eq z200.symm))
    refine hG _ _ (fun t_ k_ => XS.dup X227.here hx rfl (hb hby at_513) rfl rfl k_) ?_
    refine hG _ _ (fun t_ k_ => XS.bipush X227.here hx rfl (hb hby at_514) k_) ?_
    show G (T227.setTop (mkF m 516 #[.val (.int i0), .val (.int i1), .val (.int i2), .val (.int i3), .val (.int 3), .val (.int c182), .val (.int c183), .val (.int c184), .val (.ref b185), .unset, .unset, .unset] [(.int 14), (.ref b200), (.ref b200), (.ref b199), (.ref b199)]))
    refine hG _ _ (fun t_ k_ => XS.bipush X227.here hx rfl (hb hby at_516) k_) ?_
    obtain ⟨c229, Ar229, q229, S229, M229, H229, G229⟩ := id V227
    obtain ⟨T229, h229, X229, e229, W229, st229⟩ := stC X227 hx hZ e227 Ar229 (j := (14 : Int32)) (inb_of S229 ⟨by decide, by decide⟩) (g := (mkF m 518 #[.val (.int i0), .val (.int i1), .val (.int i2), .val (.int i3), .val (.int 3), .val (.int c182), .val (.int c183), .val (.int c184), .val (.ref b185), .unset, .unset, .unset] [(.int 32), (.int 14), (.ref b200), (.ref b200), (.ref b199), (.ref b199)])) rfl rfl (hb hby at_518)
    refine hG _ _ st229 ?_
    have sf230 := (R227.safe V225.lt sf228)
    have R229 := (CHr.wr W229 sf230 R227.1)
    have C229 := C227.trans R229
    have K229 : Keep h0 h229 [] := K227.wr W229 (Or.inr (Nat.le_trans K199.1 (Nat.le_of_eq z200.symm)))
    have O229 : own_Old Z h229 := O227.wr W229 (own_ge O199 (Nat.le_of_eq z200.symm))
    rw [own_narC (by decide)] at W229
    have V229 : Arv Z h229 b200 k200 .char (18 : Int32) [(.int 98), (.int 101), (.int 97), (.int 109), (.int 108), (.int 105), (.int 110), (.int 101), (.int 45), (.int 97), (.int 100), (.int 109), (.int 105), (.int 110), (.int 32), (.int 0), (.int 0), (.int 0)] (.int 0) := Arv.set Ar229 q229 S229 M229 H229 G229 (own_fitC (by decide)) W229 14 rfl (Nat.le_of_ble_eq_true rfl)
    have N229 := Fr.snoc X229 N227 (own_ge O199 (Nat.le_of_eq z200.symm))
    refine hG _ _ (fun t_ k_ => XS.dup X229.here hx rfl (hb hby at_519) rfl rfl k_) ?_
    refine hG _ _ (fun t_ k_ => XS.bipush X229.here hx rfl (hb hby at_520) k_) ?_
    refine hG _ _ (fun t_ k_ => XS.iload X229.here hx rfl (hb hby at_522) rfl k_) ?_
    obtain ⟨c231, Ar231, q231, S231, M231, H231, G231⟩ := id V229
    obtain ⟨T231, h231, X231, e231, W231, st231⟩ := stC X229 hx hZ e229 Ar231 (j := (15 : Int32)) (inb_of S231 ⟨by decide, by decide⟩) (g := (mkF m 524 #[.val (.int i0), .val (.int i1), .val (.int i2), .val (.int i3), .val (.int 3), .val (.int c182), .val (.int c183), .val (.int c184), .val (.ref b185), .unset, .unset, .unset] [(.int c182), (.int 15), (.ref b200), (.ref b200), (.ref b199), (.ref b199)])) rfl rfl (hb hby at_524)
    refine hG _ _ st231 ?_
    have sf232 := (R229.safe V227.lt sf230)
    have R231 := (CHr.wr W231 sf232 R229.1)
    have C231 := C229.trans R231
    have K231 : Keep h0 h231 [] := K229.wr W231 (Or.inr (Nat.le_trans K199.1 (Nat.le_of_eq z200.symm)))
    have O231 : own_Old Z h231 := O229.wr W231 (own_ge O199 (Nat.le_of_eq z200.symm))
    rw [own_narC ⟨hr_c182.1, by omega⟩] at W231
    have V231 : Arv Z h231 b200 k200 .char (18 : Int32) [(.int 98), (.int 101), (.int 97), (.int 109), (.int 108), (.int 105), (.int 110), (.int 101), (.int 45), (.int 97), (.int 100), (.int 109), (.int 105), (.int 110), (.int 32), (.int c182), (.int 0), (.int 0)] (.int 0) := Arv.set Ar231 q231 S231 M231 H231 G231 (own_fitC ⟨hr_c182.1, by omega⟩) W231 15 rfl (Nat.le_of_ble_eq_true rfl)
    have N231 := Fr.snoc X231 N229 (own_ge O199 (Nat.le_of_eq z200.symm))
    refine hG _ _ (fun t_ k_ => XS.dup X231.here hx rfl (hb hby at_525) rfl rfl k_) ?_
    refine hG _ _ (fun t_ k_ => XS.bipush X231.here hx rfl (hb hby at_526) k_) ?_
    refine hG _ _ (fun t_ k_ => XS.iload X231.here hx rfl (hb hby at_528) rfl k_) ?_
    show G (T231.setTop (mkF m 530 #[.val (.int i0), .val (.int i1), .val (.int i2), .val (.int i3), .val (.int 3), .val (.int c182), .val (.int c183), .val (.int c184), .val (.ref b185), .unset, .unset, .unset] [(.int c183), (.int 16), (.ref b200), (.ref b200), (.ref b199), (.ref b199)]))
    obtain ⟨c233, Ar233, q233, S233, M233, H233, G233⟩ := id V231
    obtain ⟨T233, h233, X233, e233, W233, st233⟩ := stC X231 hx hZ e231 Ar233 (j := (16 : Int32)) (inb_of S233 ⟨by decide, by decide⟩) (g := (mkF m 530 #[.val (.int i0), .val (.int i1), .val (.int i2), .val (.int i3), .val (.int 3), .val (.int c182), .val (.int c183), .val (.int c184), .val (.ref b185), .unset, .unset, .unset] [(.int c183), (.int 16), (.ref b200), (.ref b200), (.ref b199), (.ref b199)])) rfl rfl (hb hby at_530)
    refine hG _ _ st233 ?_
    have sf234 := (R231.safe V229.lt sf232)
    have R233 := (CHr.wr W233 sf234 R231.1)
    have C233 := C231.trans R233
    have K233 : Keep h0 h233 [] := K231.wr W233 (Or.inr (Nat.le_trans K199.1 (Nat.le_of_eq z200.symm)))
    have O233 : own_Old Z h233 := O231.wr W233 (own_ge O199 (Nat.le_of_eq z200.symm))
    rw [own_narC ⟨hr_c183.1, by omega⟩] at W233
    have V233 : Arv Z h233 b200 k200 .char (18 : Int32) [(.int 98), (.int 101), (.int 97), (.int 109), (.int 108), (.int 105), (.int 110), (.int 101), (.int 45), (.int 97), (.int 100), (.int 109), (.int 105), (.int 110), (.int 32), (.int c182), (.int c183), (.int 0)] (.int 0) := Arv.set Ar233 q233 S233 M233 H233 G233 (own_fitC ⟨hr_c183.1, by omega⟩) W233 16 rfl (Nat.le_of_ble_eq_true rfl)
    have N233 := Fr.snoc X233 N231 (own_ge O199 (Nat.le_of_eq z200.symm))
    refine hG _ _ (fun t_ k_ => XS.dup X233.here hx rfl (hb hby at_531) rfl rfl k_) ?_
    refine hG _ _ (fun t_ k_ => XS.bipush X233.here hx rfl (hb hby at_532) k_) ?_
    refine hG _ _ (fun t_ k_ => XS.iload X233.here hx rfl (hb hby at_534) rfl k_) ?_
    obtain ⟨c235, Ar235, q235, S235, M235, H235, G235⟩ := id V233
    obtain ⟨T235, h235, X235, e235, W235, st235⟩ := stC X233 hx hZ e233 Ar235 (j := (17 : Int32)) (inb_of S235 ⟨by decide, by decide⟩) (g := (mkF m 536 #[.val (.int i0), .val (.int i1), .val (.int i2), .val (.int i3), .val (.int 3), .val (.int c182), .val (.int c183), .val (.int c184), .val (.ref b185), .unset, .unset, .unset] [(.int c184), (.int 17), (.ref b200), (.ref b200), (.ref b199), (.ref b199)])) rfl rfl (hb hby at_536)
    refine hG _ _ st235 ?_
    have sf236 := (R233.safe V231.lt sf234)
    have R235 := (CHr.wr W235 sf236 R233.1)
    have C235 := C233.trans R235
    have K235 : Keep h0 h235 [] := K233.wr W235 (Or.inr (Nat.le_trans K199.1 (Nat.le_of_eq z200.symm)))
    have O235 : own_Old Z h235 := O233.wr W235 (own_ge O199 (Nat.le_of_eq z200.symm))
    rw [own_narC ⟨hr_c184.1, by omega⟩] at W235
    have V235 : Arv Z h235 b200 k200 .char (18 : Int32) [(.int 98), (.int 101), (.int 97), (.int 109), (.int 108), (.int 105), (.int 110), (.int 101), (.int 45), (.int 97), (.int 100), (.int 109), (.int 105), (.int 110), (.int 32), (.int c182), (.int c183), (.int c184)] (.int 0) := Arv.set Ar235 q235 S235 M235 H235 G235 (own_fitC ⟨hr_c184.1, by omega⟩) W235 17 rfl (Nat.le_of_ble_eq_true rfl)
    have N235 := Fr.snoc X235 N233 (own_ge O199 (Nat.le_of_eq z200.symm))
    show G (T235.setTop (mkF m 537 #[.val (.int i0), .val (.int i1), .val (.int i2), .val (.int i3), .val (.int 3), .val (.int c182), .val (.int c183), .val (.int c184), .val (.ref b185), .unset, .unset, .unset] [(.ref b200), (.ref b199), (.ref b199)]))
    have f238 := (((((((((((((((((((A199.ext E200).wr W201).wr W203).wr W205).wr W207).wr W209).wr W211).wr W213).wr W215).wr W217).wr W219).wr W221).wr W223).wr W225).wr W227).wr W229).wr W231).wr W233).wr W235)
    have f239 := ((((((((((((((((((((D199 (Or.inr (ow hw 26 rfl)) (ty := .byte) (by decide)).ext E200).other W201 (Or.inl (own_ne A199.lt (Nat.le_of_eq z200.symm)))).other W203 (Or.inl (own_ne A199.lt (Nat.le_of_eq z200.symm)))).other W205 (Or.inl (own_ne A199.lt (Nat.le_of_eq z200.symm)))).other W207 (Or.inl (own_ne A199.lt (Nat.le_of_eq z200.symm)))).other W209 (Or.inl (own_ne A199.lt (Nat.le_of_eq z200.symm)))).other W211 (Or.inl (own_ne A199.lt (Nat.le_of_eq z200.symm)))).other W213 (Or.inl (own_ne A199.lt (Nat.le_of_eq z200.symm)))).other W215 (Or.inl (own_ne A199.lt (Nat.le_of_eq z200.symm)))).other W217 (Or.inl (own_ne A199.lt (Nat.le_of_eq z200.symm)))).other W219 (Or.inl (own_ne A199.lt (Nat.le_of_eq z200.symm)))).other W221 (Or.inl (own_ne A199.lt (Nat.le_of_eq z200.symm)))).other W223 (Or.inl (own_ne A199.lt (Nat.le_of_eq z200.symm)))).other W225 (Or.inl (own_ne A199.lt (Nat.le_of_eq z200.symm)))).other W227 (Or.inl (own_ne A199.lt (Nat.le_of_eq z200.symm)))).other W229 (Or.inl (own_ne A199.lt (Nat.le_of_eq z200.symm)))).other W231 (Or.inl (own_ne A199.lt (Nat.le_of_eq z200.symm)))).other W233 (Or.inl (own_ne A199.lt (Nat.le_of_eq z200.symm)))).other W235 (Or.inl (own_ne A199.lt (Nat.le_of_eq z200.symm))))
    have f240 := ((((((((((((((((((((D199 (Or.inr (ow hw 24 rfl)) (ty := (.array .byte)) (by decide)).ext E200).other W201 (Or.inl (own_ne A199.lt (Nat.le_of_eq z200.symm)))).other W203 (Or.inl (own_ne A199.lt (Nat.le_of_eq z200.symm)))).other W205 (Or.inl (own_ne A199.lt (Nat.le_of_eq z200.symm)))).other W207 (Or.inl (own_ne A199.lt (Nat.le_of_eq z200.symm)))).other W209 (Or.inl (own_ne A199.lt (Nat.le_of_eq z200.symm)))).other W211 (Or.inl (own_ne A199.lt (Nat.le_of_eq z200.symm)))).other W213 (Or.inl (own_ne A199.lt (Nat.le_of_eq z200.symm)))).other W215 (Or.inl (own_ne A199.lt (Nat.le_of_eq z200.symm)))).other W217 (Or.inl (own_ne A199.lt (Nat.le_of_eq z200.symm)))).other W219 (Or.inl (own_ne A199.lt (Nat.le_of_eq z200.symm)))).other W221 (Or.inl (own_ne A199.lt (Nat.le_of_eq z200.symm)))).other W223 (Or.inl (own_ne A199.lt (Nat.le_of_eq z200.symm)))).other W225 (Or.inl (own_ne A199.lt (Nat.le_of_eq z200.symm)))).other W227 (Or.inl (own_ne A199.lt (Nat.le_of_eq z200.symm)))).other W229 (Or.inl (own_ne A199.lt (Nat.le_of_eq z200.symm)))).other W231 (Or.inl (own_ne A199.lt (Nat.le_of_eq z200.symm)))).other W233 (Or.inl (own_ne A199.lt (Nat.le_of_eq z200.symm)))).other W235 (Or.inl (own_ne A199.lt (Nat.le_of_eq z200.symm))))
    refine own_callI X235 hx hZ hG hown rfl (ow hw 29 rfl) (ow hw 30 rfl) (ow hw 3 rfl) (ow hw 31 rfl) (by decide) 1 (own_str1 l Z a0 hw b199 b200 k200 [(98 : Int32), (101 : Int32), (97 : Int32), (109 : Int32), (108 : Int32), (105 : Int32), (110 : Int32), (101 : Int32), (45 : Int32), (97 : Int32), (100 : Int32), (109 : Int32), (105 : Int32), (110 : Int32), (32 : Int32), c182, c183, c184] cpt (.int 0) .null h235 O235 f238 f239 f240 (own_ge O193 (Nat.le_of_eq z199.symm)) V235 (Nat.le_of_ble_eq_true rfl) (Nat.le_of_ble_eq_true rfl) (own_allc (by decide) (own_allc (by decide) (own_allc (by decide) (own_allc (by decide) (own_allc (by decide) (own_allc (by decide) (own_allc (by decide) (own_allc (by decide) (own_allc (by decide) (own_allc (by decide) (own_allc (by decide) (own_allc (by decide) (own_allc (by decide) (own_allc (by decide) (own_allc (by decide) (own_allc (own_le255 hr_c182) (own_allc (own_le255 hr_c183) (own_allc (own_le255 hr_c184) own_alln)))))))))))))))))) g0_S g1_hcpt) (by decide) (by decide) e235 (by rw [hml]; rfl) (lenOf own_pd5 rfl) (argsL := [(.ref b200)]) (rest := [(.ref b199)]) rfl rfl (Nat.le_of_eq rfl) (hb hby at_537) (by decide) (by decide) ?_
    intro T237 h237 v237 L237 X237 e237 q237
    obtain ⟨t_237, kt_237, rfl, M237, J237, y237_0, r237_0, r237_1, r237_2, r237_3⟩ := q237
    have N237 := Fr.app N235 M237
    have sf241 : Safe Z consts_1 _ h235 b199 := (own_safeStr hZ.alike f238 f240)
    have R237 := (CHr.keep J237 (allS sf241 all0) R235.1)
    have C237 := C235.trans R237
    have K237 : Keep h0 h237 [] := K235.trans J237 (allS (Or.inr (Nat.le_trans K193.1 (Nat.le_of_eq z199.symm))) all0)
    have O237 : own_Old Z h237 := O235.keep J237 (allS (own_ge O193 (Nat.le_of_eq z199.symm)) all0)
    refine hG _ _ (fun t_ k_ => XS.astore X237.here hx rfl (hb hby at_540) rfl rfl (l' := #[.val (.int i0), .val (.int i1), .val (.int i2), .val (.int i3), .val (.int 3), .val (.int c182), .val (.int c183), .val (.int c184), .val (.ref b185), .val (.ref b199), .unset, .unset]) rfl k_) ?_
    refine hG _ _ (fun t_ k_ => XS.aload X237.here hx rfl (hb hby at_542) rfl rfl k_) ?_
    show G (T237.setTop (mkF m 544 #[.val (.int i0), .val (.int i1), .val (.int i2), .val (.int i3), .val (.int 3), .val (.int c182), .val (.int c183), .val (.int c184), .val (.ref b185), .val (.ref b199), .unset, .unset] [(.ref b185)]))
    have f243 := (((((((((((((((((((((r193_0.ext E199).ext E200).wr W201).wr W203).wr W205).wr W207).wr W209).wr W211).wr W213).wr W215).wr W217).wr W219).wr W221).wr W223).wr W225).wr W227).wr W229).wr W231).wr W233).wr W235).keep J237)
    have f244 := (((((((((((((((((((((r193_1.ext E199).ext E200).other W201 (Or.inl (own_ne (Nat.lt_of_lt_of_le r193_0.lt E199.1) (Nat.le_of_eq z200.symm)))).other W203 (Or.inl (own_ne (Nat.lt_of_lt_of_le r193_0.lt E199.1) (Nat.le_of_eq z200.symm)))).other W205 (Or.inl (own_ne (Nat.lt_of_lt_of_le r193_0.lt E199.1) (Nat.le_of_eq z200.symm)))).other W207 (Or.inl (own_ne (Nat.lt_of_lt_of_le r193_0.lt E199.1) (Nat.le_of_eq z200.symm)))).other W209 (Or.inl (own_ne (Nat.lt_of_lt_of_le r193_0.lt E199.1) (Nat.le_of_eq z200.symm)))).other W211 (Or.inl (own_ne (Nat.lt_of_lt_of_le r193_0.lt E199.1) (Nat.le_of_eq z200.symm)))).other W213 (Or.inl (own_ne (Nat.lt_of_lt_of_le r193_0.lt E199.1) (Nat.le_of_eq z200.symm)))).other W215 (Or.inl (own_ne (Nat.lt_of_lt_of_le r193_0.lt E199.1) (Nat.le_of_eq z200.symm)))).other W217 (Or.inl (own_ne (Nat.lt_of_lt_of_le r193_0.lt E199.1) (Nat.le_of_eq z200.symm)))).other W219 (Or.inl (own_ne (Nat.lt_of_lt_of_le r193_0.lt E199.1) (Nat.le_of_eq z200.symm)))).other W221 (Or.inl (own_ne (Nat.lt_of_lt_of_le r193_0.lt E199.1) (Nat.le_of_eq z200.symm)))).other W223 (Or.inl (own_ne (Nat.lt_of_lt_of_le r193_0.lt E199.1) (Nat.le_of_eq z200.symm)))).other W225 (Or.inl (own_ne (Nat.lt_of_lt_of_le r193_0.lt E199.1) (Nat.le_of_eq z200.symm)))).other W227 (Or.inl (own_ne (Nat.lt_of_lt_of_le r193_0.lt E199.1) (Nat.le_of_eq z200.symm)))).other W229 (Or.inl (own_ne (Nat.lt_of_lt_of_le r193_0.lt E199.1) (Nat.le_of_eq z200.symm)))).other W231 (Or.inl (own_ne (Nat.lt_of_lt_of_le r193_0.lt E199.1) (Nat.le_of_eq z200.symm)))).other W233 (Or.inl (own_ne (Nat.lt_of_lt_of_le r193_0.lt E199.1) (Nat.le_of_eq z200.symm)))).other W235 (Or.inl (own_ne (Nat.lt_of_lt_of_le r193_0.lt E199.1) (Nat.le_of_eq z200.symm)))).keep J237 (ninS (own_ne r193_0.lt (Nat.le_of_eq z199.symm)) nin0))
    have f245 := (((((((((((((((((((((r193_2.ext E199).ext E200).other W201 (Or.inl (own_ne (Nat.lt_of_lt_of_le r193_0.lt E199.1) (Nat.le_of_eq z200.symm)))).other W203 (Or.inl (own_ne (Nat.lt_of_lt_of_le r193_0.lt E199.1) (Nat.le_of_eq z200.symm)))).other W205 (Or.inl (own_ne (Nat.lt_of_lt_of_le r193_0.lt E199.1) (Nat.le_of_eq z200.symm)))).other W207 (Or.inl (own_ne (Nat.lt_of_lt_of_le r193_0.lt E199.1) (Nat.le_of_eq z200.symm)))).other W209 (Or.inl (own_ne (Nat.lt_of_lt_of_le r193_0.lt E199.1) (Nat.le_of_eq z200.symm)))).other W211 (Or.inl (own_ne (Nat.lt_of_lt_of_le r193_0.lt E199.1) (Nat.le_of_eq z200.symm)))).other W213 (Or.inl (own_ne (Nat.lt_of_lt_of_le r193_0.lt E199.1) (Nat.le_of_eq z200.symm)))).other W215 (Or.inl (own_ne (Nat.lt_of_lt_of_le r193_0.lt E199.1) (Nat.le_of_eq z200.symm)))).other W217 (Or.inl (own_ne (Nat.lt_of_lt_of_le r193_0.lt E199.1) (Nat.le_of_eq z200.symm)))).other W219 (Or.inl (own_ne (Nat.lt_of_lt_of_le r193_0.lt E199.1) (Nat.le_of_eq z200.symm)))).other W221 (Or.inl (own_ne (Nat.lt_of_lt_of_le r193_0.lt E199.1) (Nat.le_of_eq z200.symm)))).other W223 (Or.inl (own_ne (Nat.lt_of_lt_of_le r193_0.lt E199.1) (Nat.le_of_eq z200.symm)))).other W225 (Or.inl (own_ne (Nat.lt_of_lt_of_le r193_0.lt E199.1) (Nat.le_of_eq z200.symm)))).other W227 (Or.inl (own_ne (Nat.lt_of_lt_of_le r193_0.lt E199.1) (Nat.le_of_eq z200.symm)))).other W229 (Or.inl (own_ne (Nat.lt_of_lt_of_le r193_0.lt E199.1) (Nat.le_of_eq z200.symm)))).other W231 (Or.inl (own_ne (Nat.lt_of_lt_of_le r193_0.lt E199.1) (Nat.le_of_eq z200.symm)))).other W233 (Or.inl (own_ne (Nat.lt_of_lt_of_le r193_0.lt E199.1) (Nat.le_of_eq z200.symm)))).other W235 (Or.inl (own_ne (Nat.lt_of_lt_of_le r193_0.lt E199.1) (Nat.le_of_eq z200.symm)))).keep J237 (ninS (own_ne r193_0.lt (Nat.le_of_eq z199.symm)) nin0))
    have f246 := (((((((((((((((((((((W198.ext E199).ext E200).other W201 (own_ne (Nat.lt_of_lt_of_le r193_3.lt E199.1) (Nat.le_of_eq z200.symm))).other W203 (own_ne (Nat.lt_of_lt_of_le r193_3.lt E199.1) (Nat.le_of_eq z200.symm))).other W205 (own_ne (Nat.lt_of_lt_of_le r193_3.lt E199.1) (Nat.le_of_eq z200.symm))).other W207 (own_ne (Nat.lt_of_lt_of_le r193_3.lt E199.1) (Nat.le_of_eq z200.symm))).other W209 (own_ne (Nat.lt_of_lt_of_le r193_3.lt E199.1) (Nat.le_of_eq z200.symm))).other W211 (own_ne (Nat.lt_of_lt_of_le r193_3.lt E199.1) (Nat.le_of_eq z200.symm))).other W213 (own_ne (Nat.lt_of_lt_of_le r193_3.lt E199.1) (Nat.le_of_eq z200.symm))).other W215 (own_ne (Nat.lt_of_lt_of_le r193_3.lt E199.1) (Nat.le_of_eq z200.symm))).other W217 (own_ne (Nat.lt_of_lt_of_le r193_3.lt E199.1) (Nat.le_of_eq z200.symm))).other W219 (own_ne (Nat.lt_of_lt_of_le r193_3.lt E199.1) (Nat.le_of_eq z200.symm))).other W221 (own_ne (Nat.lt_of_lt_of_le r193_3.lt E199.1) (Nat.le_of_eq z200.symm))).other W223 (own_ne (Nat.lt_of_lt_of_le r193_3.lt E199.1) (Nat.le_of_eq z200.symm))).other W225 (own_ne (Nat.lt_of_lt_of_le r193_3.lt E199.1) (Nat.le_of_eq z200.symm))).other W227 (own_ne (Nat.lt_of_lt_of_le r193_3.lt E199.1) (Nat.le_of_eq z200.symm))).other W229 (own_ne (Nat.lt_of_lt_of_le r193_3.lt E199.1) (Nat.le_of_eq z200.symm))).other W231 (own_ne (Nat.lt_of_lt_of_le r193_3.lt E199.1) (Nat.le_of_eq z200.symm))).other W233 (own_ne (Nat.lt_of_lt_of_le r193_3.lt E199.1) (Nat.le_of_eq z200.symm))).other W235 (own_ne (Nat.lt_of_lt_of_le r193_3.lt E199.1) (Nat.le_of_eq z200.symm))).keep J237 (ninS (own_ne r193_3.lt (Nat.le_of_eq z199.symm)) nin0))
    refine own_callSW X237 hx hZ hG hown (ow hw 45 rfl) (ow hw 46 rfl) (ow hw 47 rfl) (ow hw 48 rfl) (by decide) 0 (own_ba3 l Z a0 hw hEL b185 t_193 kt_193 (c182.toInt8.toInt32) (c183.toInt8.toInt32) (c184.toInt8.toInt32) cpt h237 O237 f243 f244 f245 f246 g0_S g1_hcpt) (by decide) (by decide) e237 SI0 (Nat.le_trans (Nat.le_trans (Nat.le_trans (Nat.le_trans (Nat.le_trans (Nat.le_trans (Nat.le_trans (Nat.le_trans (Nat.le_trans (Nat.le_trans (Nat.le_trans (Nat.le_trans (Nat.le_trans (Nat.le_trans (Nat.le_trans (Nat.le_trans (Nat.le_trans (Nat.le_trans (Nat.le_trans (Nat.le_trans (Nat.le_trans (Nat.le_trans (Nat.le_trans (Nat.le_trans (Nat.le_trans (Nat.le_trans (Nat.le_trans (Nat.le_refl _) R185.2.1) R186.2.1) R187.2.1) R189.2.1) R191.2.1) R193.2.1) R199.2.1) R200.2.1) R201.2.1) R203.2.1) R205.2.1) R207.2.1) R209.2.1) R211.2.1) R213.2.1) R215.2.1) R217.2.1) R219.2.1) R221.2.1) R223.2.1) R225.2.1) R227.2.1) R229.2.1) R231.2.1) R233.2.1) R235.2.1) R237.2.1) hEL R237.1 (by rw [hml]; rfl) (lenOf own_pd32 rfl) (argsL := [(.ref b185)]) (rest := []) rfl rfl (Nat.le_of_eq rfl) (hb hby at_544) (by decide) (by decide) ?_
    intro T242 h242 v242 L242 X242 e242 SI242 hZ242 hown242 Y242 q242
    obtain ⟨q_242, r_242, u_242, ku_242, rfl, M242, J242, y242_0, y242_1, y242_2, r242_0, r242_1, r242_2, r242_3, r242_4, r242_5, r242_6⟩ := q242
    have N242 := Fr.app N237 M242
    have R242 := Y242
    have C242 := C237.trans R242
    have K242 : Keep h0 h242 [] := K237.trans J242 all0
    have O242 : own_Old Z h242 := O237.keep J242 all0
    refine hG _ _ (fun t_ k_ => XS.astore X242.here hx rfl (hb hby at_547) rfl rfl (l' := #[.val (.int i0), .val (.int i1), .val (.int i2), .val (.int i3), .val (.int 3), .val (.int c182), .val (.int c183), .val (.int c184), .val (.ref b185), .val (.ref b199), .val (.ref q_242), .unset]) rfl k_) ?_
    refine hG _ _ (fun t_ k_ => XS.aload X242.here hx rfl (hb hby at_549) rfl rfl k_) ?_
    show G (T242.setTop (mkF m 551 #[.val (.int i0), .val (.int i1), .val (.int i2), .val (.int i3), .val (.int 3), .val (.int c182), .val (.int c183), .val (.int c184), .val (.ref b185), .val (.ref b199), .val (.ref q_242), .unset] [(.ref q_242)]))
    refine own_callV (C := "com/example/research_access_policy/researchaccesspolicy/rules/Decision") X242 hx hZ242 hG hown242 (ow hw 175 rfl) (ow hw 176 rfl) (ow hw 178 rfl) (ow hw 177 rfl) (ow hw 47 rfl) (ow hw 179 rfl) (by decide) 0 (own_get_reason l Z a0 hw q_242 (.ref r_242) h242 O242 rfl r242_2) (by decide) (by decide) e242 r242_0 (by rw [hml]; rfl) (lenOf own_pd27 rfl) (argsL := []) (rest := []) rfl rfl (Nat.le_of_eq rfl) (hb hby at_551) (by decide) (by decide) ?_
    intro T247 h247 v247 L247 X247 e247 q247
    obtain ⟨rfl, M247, rfl⟩ := q247
    have N247 := Fr.app N242 M247
    refine hG _ _ (fun t_ k_ => XS.astore X247.here hx rfl (hb hby at_554) rfl rfl (l' := #[.val (.int i0), .val (.int i1), .val (.int i2), .val (.int i3), .val (.int 3), .val (.int c182), .val (.int c183), .val (.int c184), .val (.ref b185), .val (.ref b199), .val (.ref q_242), .val (.ref r_242)]) rfl k_) ?_
    refine hG _ _ (fun t_ k_ => XS.aload X247.here hx rfl (hb hby at_556) rfl rfl k_) ?_
    show G (T247.setTop (mkF m 558 #[.val (.int i0), .val (.int i1), .val (.int i2), .val (.int i3), .val (.int 3), .val (.int c182), .val (.int c183), .val (.int c184), .val (.ref b185), .val (.ref b199), .val (.ref q_242), .val (.ref r_242)] [(.ref q_242)]))
    refine own_callV (C := "com/example/research_access_policy/researchaccesspolicy/rules/Decision") X247 hx hZ242 hG hown242 (ow hw 180 rfl) (ow hw 181 rfl) (ow hw 183 rfl) (ow hw 182 rfl) (ow hw 47 rfl) (ow hw 184 rfl) (by decide) 0 (own_get_allowed l Z a0 hw q_242 (nar .boolean (1 : Int32)) h242 O242 r242_1) (by decide) (by decide) e247 r242_0 (by rw [hml]; rfl) (lenOf own_pd15 rfl) (argsL := []) (rest := []) rfl rfl (Nat.le_of_eq rfl) (hb hby at_558) (by decide) (by decide) ?_
    intro T248 h248 v248 L248 X248 e248 q248
    obtain ⟨rfl, M248, rfl⟩ := q248
    have N248 := Fr.app N247 M248
    show G (T248.setTop (mkF m 561 #[.val (.int i0), .val (.int i1), .val (.int i2), .val (.int i3), .val (.int 3), .val (.int c182), .val (.int c183), .val (.int c184), .val (.ref b185), .val (.ref b199), .val (.ref q_242), .val (.ref r_242)] [(.int (nar .boolean (nar .boolean (1 : Int32))))]))
    refine hG _ _ (fun t_ k_ => XS.ifNo X248.here hx rfl (hb hby at_561) rfl ((if0 _ _).trans (feq (by decide)).1) k_) ?_
    show G (T248.setTop (mkF m 564 #[.val (.int i0), .val (.int i1), .val (.int i2), .val (.int i3), .val (.int 3), .val (.int c182), .val (.int c183), .val (.int c184), .val (.ref b185), .val (.ref b199), .val (.ref q_242), .val (.ref r_242)] []))
    refine hG _ _ (fun t_ k_ => XS.aload X248.here hx rfl (hb hby at_564) rfl rfl k_) ?_
    show G (T248.setTop (mkF m 566 #[.val (.int i0), .val (.int i1), .val (.int i2), .val (.int i3), .val (.int 3), .val (.int c182), .val (.int c183), .val (.int c184), .val (.ref b185), .val (.ref b199), .val (.ref q_242), .val (.ref r_242)] [(.ref r_242)]))
    refine own_callV (C := "java/lang/String") X248 hx hZ242 hG hown242 (ow hw 185 rfl) (ow hw 83 rfl) (ow hw 85 rfl) (ow hw 84 rfl) (ow hw 3 rfl) (ow hw 86 rfl) (by decide) 0 (own_lenL l Z a0 hw r_242 u_242 ku_242 (18 : Int32) [(.int 98), (.int 101), (.int 97), (.int 109), (.int 108), (.int 105), (.int 110), (.int 101), (.int 45), (.int 97), (.int 100), (.int 109), (.int 105), (.int 110), (.int 32), (.int (c182.toInt8.toInt32)), (.int (c183.toInt8.toInt32)), (.int (c184.toInt8.toInt32))] cpt h242 O242 r242_3 r242_4 r242_5 r242_6 g0_S g1_hcpt) (by decide) (by decide) e248 r242_3 (by rw [hml]; rfl) (lenOf own_pd12 rfl) (argsL := []) (rest := []) rfl rfl (Nat.le_of_eq rfl) (hb hby at_566) (by decide) (by decide) ?_
    intro T249 h249 v249 L249 X249 e249 q249
    obtain ⟨rfl, M249, rfl⟩ := q249
    have N249 := Fr.app N248 M249
    refine hG _ _ (fun t_ k_ => XS.bipush X249.here hx rfl (hb hby at_569) k_) ?_
    refine hG _ _ (fun t_ k_ => XS.iload X249.here hx rfl (hb hby at_571) rfl k_) ?_
    refine hG _ _ (fun t_ k_ => XS.iadd X249.here hx rfl (hb hby at_573) rfl k_) ?_
    show G (T249.setTop (mkF m 574 #[.val (.int i0), .val (.int i1), .val (.int i2), .val (.int i3), .val (.int 3), .val (.int c182), .val (.int c183), .val (.int c184), .val (.ref b185), .val (.ref b199), .val (.ref q_242), .val (.ref r_242)] [(.int ((15 : Int32) + (3 : Int32))), (.int 18)]))
    rw [show ((15 : Int32) + (3 : Int32)) = (18 : Int32) from by decide]
    show G (T249.setTop (mkF m 574 #[.val (.int i0), .val (.int i1), .val (.int i2), .val (.int i3), .val (.int 3), .val (.int c182), .val (.int c183), .val (.int c184), .val (.ref b185), .val (.ref b199), .val (.ref q_242), .val (.ref r_242)] [(.int 18), (.int 18)]))
    refine hG _ _ (fun t_ k_ => XS.icmpNo X249.here hx rfl (hb hby at_574) rfl (teq (by decide)).2 k_) ?_
    show G (T249.setTop (mkF m 577 #[.val (.int i0), .val (.int i1), .val (.int i2), .val (.int i3), .val (.int 3), .val (.int c182), .val (.int c183), .val (.int c184), .val (.ref b185), .val (.ref b199), .val (.ref q_242), .val (.ref r_242)] []))
    refine hG _ _ (fun t_ k_ => XS.aload X249.here hx rfl (hb hby at_577) rfl rfl k_) ?_
    refine hG _ _ (fun t_ k_ => XS.aload X249.here hx rfl (hb hby at_579) rfl rfl k_) ?_
    show G (T249.setTop (mkF m 581 #[.val (.int i0), .val (.int i1), .val (.int i2), .val (.int i3), .val (.int 3), .val (.int c182), .val (.int c183), .val (.int c184), .val (.ref b185), .val (.ref b199), .val (.ref q_242), .val (.ref r_242)] [(.ref b199), (.ref r_242)]))
    have f251 := (r237_0.keep J242)
    have f252 := (r237_1.keep J242 nin0)
    have f253 := (r237_2.keep J242 nin0)
    have f254 := (r237_3.keep J242 nin0)
    refine own_callV (C := "java/lang/String") X249 hx hZ242 hG hown242 (ow hw 186 rfl) (ow hw 187 rfl) (ow hw 189 rfl) (ow hw 188 rfl) (ow hw 3 rfl) (ow hw 190 rfl) (by decide) 0 (own_seq l Z a0 hw r_242 u_242 ku_242 [(98 : Int32), (101 : Int32), (97 : Int32), (109 : Int32), (108 : Int32), (105 : Int32), (110 : Int32), (101 : Int32), (45 : Int32), (97 : Int32), (100 : Int32), (109 : Int32), (105 : Int32), (110 : Int32), (32 : Int32), c182, c183, c184] b199 t_237 kt_237 [(98 : Int32), (101 : Int32), (97 : Int32), (109 : Int32), (108 : Int32), (105 : Int32), (110 : Int32), (101 : Int32), (45 : Int32), (97 : Int32), (100 : Int32), (109 : Int32), (105 : Int32), (110 : Int32), (32 : Int32), c182, c183, c184] (0 : Int32) (Int32.ofNat [(98 : Int32), (101 : Int32), (97 : Int32), (109 : Int32), (108 : Int32), (105 : Int32), (110 : Int32), (101 : Int32), (45 : Int32), (97 : Int32), (100 : Int32), (109 : Int32), (105 : Int32), (110 : Int32), (32 : Int32), c182, c183, c184].length) ([(98 : Int32), (101 : Int32), (97 : Int32), (109 : Int32), (108 : Int32), (105 : Int32), (110 : Int32), (101 : Int32), (45 : Int32), (97 : Int32), (100 : Int32), (109 : Int32), (105 : Int32), (110 : Int32), (32 : Int32), c182, c183, c184].map fun c => Value.int c.toInt8.toInt32) cpt h242 O242 f251 f252 f253 f254 (Or.inl ⟨(own_allc (by decide) (own_allc (by decide) (own_allc (by decide) (own_allc (by decide) (own_allc (by decide) (own_allc (by decide) (own_allc (by decide) (own_allc (by decide) (own_allc (by decide) (own_allc (by decide) (own_allc (by decide) (own_allc (by decide) (own_allc (by decide) (own_allc (by decide) (own_allc (by decide) (own_allc (own_le255 hr_c182) (own_allc (own_le255 hr_c183) (own_allc (own_le255 hr_c184) own_alln)))))))))))))))))), rfl, rfl, rfl⟩) (Nat.le_of_ble_eq_true rfl) (own_allc (by decide) (own_allc (by decide) (own_allc (by decide) (own_allc (by decide) (own_allc (by decide) (own_allc (by decide) (own_allc (by decide) (own_allc (by decide) (own_allc (by decide) (own_allc (by decide) (own_allc (by decide) (own_allc (by decide) (own_allc (by decide) (own_allc (by decide) (own_allc (by decide) (own_allc (own_8to16 hr_c182) (own_allc (own_8to16 hr_c183) (own_allc (own_8to16 hr_c184) own_alln)))))))))))))))))) g0_S g1_hcpt r242_4 r242_5 r242_6 (Nat.le_of_ble_eq_true rfl) (own_allc (by decide) (own_allc (by decide) (own_allc (by decide) (own_allc (by decide) (own_allc (by decide) (own_allc (by decide) (own_allc (by decide) (own_allc (by decide) (own_allc (by decide) (own_allc (by decide) (own_allc (by decide) (own_allc (by decide) (own_allc (by decide) (own_allc (by decide) (own_allc (by decide) (own_allc hr_c182 (own_allc hr_c183 (own_allc hr_c184 own_alln)))))))))))))))))) (Ne.symm (own_ne r237_0.lt y242_1))) (by decide) (by decide) e249 r242_3 (by rw [hml]; rfl) (lenOf own_pd17 rfl) (argsL := [(.ref b199)]) (rest := []) rfl rfl (Nat.le_of_eq rfl) (hb hby at_581) (by decide) (by decide) ?_
    intro T250 h250 v250 L250 X250 e250 q250
    obtain ⟨r_250, rfl, M250, rfl, r250_0⟩ := q250
    have N250 := Fr.app N249 M250
    show G (T250.setTop (mkF m 584 #[.val (.int i0), .val (.int i1), .val (.int i2), .val (.int i3), .val (.int 3), .val (.int c182), .val (.int c183), .val (.int c184), .val (.ref b185), .val (.ref b199), .val (.ref q_242), .val (.ref r_242)] [(.int r_250)]))
    refine hG _ _ (fun t_ k_ => XS.ifNo X250.here hx rfl (hb hby at_584) rfl ((if0 _ _).trans (feq (r250_0.elim (fun q e => absurd (q.1.symm.trans e) (by decide)) (fun q => absurd rfl q.2))).1) k_) ?_
    show G (T250.setTop (mkF m 587 #[.val (.int i0), .val (.int i1), .val (.int i2), .val (.int i3), .val (.int 3), .val (.int c182), .val (.int c183), .val (.int c184), .val (.ref b185), .val (.ref b199), .val (.ref q_242), .val (.ref r_242)] []))
    refine hG _ _ (fun t_ k_ => XS.iconst X250.here hx rfl (hb hby at_587) k_) ?_
    refine hG _ _ (fun t_ k_ => XS.goto X250.here hx rfl (pc0 := 588) (pc' := 592) rfl (hb hby at_588) (by decide) (by decide) k_) ?_
    show G (T250.setTop (mkF m 592 #[.val (.int i0), .val (.int i1), .val (.int i2), .val (.int i3), .val (.int 3), .val (.int c182), .val (.int c183), .val (.int c184), .val (.ref b185), .val (.ref b199), .val (.ref q_242), .val (.ref r_242)] [(.int 1)]))
    exact own_retNW hR hret (by simp) X250 hx (hb hby at_592) e250 SI242 (Nat.le_refl _) hZ242 C242 (by decide) (by decide) ⟨rfl, N250, K242⟩
set_option maxRecDepth 65536 in
set_option maxHeartbeats 40000000 in
theorem own_comes {Post : Tables → Env → Array Value → State → Outcome → State → Prop} (hpost : ∀ tb e args s v u, (limb_1_1.after args s (.returned v) u = true ∧ limb_1_2.after args s (.returned v) u = true ∧ True) → ReturnedEndW s (.returned v) u (Jvm.fieldLocs frame_1_writes args s ++ Jvm.arrayLocs frame_1_arrays args s ++ Jvm.staticLocs frame_1_statics s) 40 2432 → Post tb e args s (.returned v) u) :
    ArmFor flags0 classFile x code maxLocals ret World_1 tables_1 room_1 Calls_1 rest_1 Pre_1 Post := by
  intro l hfl _ _ p e ha hc hk s m args below hf hA hF happ hP
  obtain ⟨hcalls, hrest, hpre⟩ := hP
  obtain ⟨-, -, -, hnamed, -, -, -, hat⟩ := (Spec.applies_iff hf).mp happ
  obtain ⟨hg, hn⟩ := and_e (Cond.before_iff.mp (show (Jvm.Cond.and given_1 narrow_1).before args s = true from hpre))
  obtain ⟨hcnt, hg⟩ := and_e hg
  obtain ⟨g0, hg⟩ := and_e hg
  obtain ⟨g1, hg⟩ := and_e hg
  obtain ⟨g2, hg⟩ := and_e hg
  have g3 := hg
  obtain ⟨w0, w1, w2, w3, rfl⟩ : ∃ w0 w1 w2 w3 : Value, args = #[w0, w1, w2, w3] := by
    have hs : args.size = 4 := by simpa [Cond.value, given_1] using hcnt
    obtain ⟨L⟩ := args
    match L, hs with
    | [w0, w1, w2, w3], _ => exact ⟨w0, w1, w2, w3, rfl⟩
  have hw := fun d (hd : d ∈ tables_1) => atoms_spec (ws := Jvm.Cond.code x code maxLocals ret :: tables_1) hat d (List.mem_cons_of_mem _ hd)
  have hfit : Fit s := fun {y c} hc i hi => by
    obtain ⟨ha, rfl⟩ := Array.getElem?_eq_some_iff.mp hc
    have q := List.all_eq_true.mp ((Array.all_eq_true_iff_forall_mem.mp hF) _ (Array.getElem_mem ha)) i (List.mem_range.mpr hi)
    simpa [Array.getElem?_eq_getElem hi] using q
  obtain ⟨hsets, hown0⟩ := atoms_of _ (rest_1_c_eq ▸ (show rest_1_c.before _ s = true from hrest))
  have hr0 := Cond.before_iff.mp hown0
  obtain ⟨i0, ei0⟩ := is_v g0
  obtain rfl : w0 = (.int i0) := Option.some.inj ei0
  obtain ⟨i1, ei1⟩ := is_v g1
  obtain rfl : w1 = (.int i1) := Option.some.inj ei1
  obtain ⟨i2, ei2⟩ := is_v g2
  obtain rfl : w2 = (.int i2) := Option.some.inj ei2
  obtain ⟨i3, ei3⟩ := is_v g3
  obtain rfl : w3 = (.int i3) := Option.some.inj ei3
  obtain ⟨cpt, ecpt⟩ := is_v (Cond.before_iff.mp (hsets _ (List.mem_of_getElem? (i := 1) rfl)))
  have S_cpt : Sta s s.heap "java/lang/String" "COMPACT_STRINGS" "Z" (.int cpt) := Sta.start ecpt (Or.inl (hsets _ (List.mem_of_getElem? (i := 0) rfl)))
  have h_cpt : ¬ (cpt = (0 : Int32)) := gotF (Cond.eq_ints ecpt (Term.int_eval (0))) (not_v (Cond.before_iff.mp (hsets _ (List.mem_of_getElem? (i := 2) rfl))))
  have hEL : EW s _ consts_1 := (EW.cons (ow hw 69 rfl) (by decide) (EW.cons (ow hw 222 rfl) (by decide) EW.nil))
  have H0 : CHv s consts_1 s.vm s.heap := CHv.start hEL (show ∀ p ∈ consts_1, Jvm.Lit.constHeld s p.1 p.2 from hcalls.1) (hsets _ (List.mem_of_getElem? (i := 2) rfl)) (ow hw 15 rfl) (ow hw 11 rfl)
  obtain ⟨n, o, h1, h2, h3, _, L, rfl, ⟨rfl, N, K⟩, hC, hq⟩ := own_law l s _ hw tables_1 hEL i0 i1 i2 i3 cpt s.heap (Old.start s) S_cpt h_cpt p e ha hc hk s m _ below hf ((Spec.applies_iff_loose hf).mp happ).1 ⟨rfl, State.Warmed39.refl s, rfl, H0⟩ trivial
  refine ⟨n, _, h1, h2, h3, hpost _ _ _ _ _ _ ⟨Cond.after_iff.mpr rfl, Cond.after_iff.mpr (eq_i res_at (Term.int_eval (1)) rfl), trivial⟩ ⟨hq.1, hq.2.1, hq.2.2.1, (hq.2.2.2.sift fun y hy => Or.inr (N y hy)).mono (by decide) (by decide)⟩⟩
theorem main_1_1 : Claimed_1_1 := own_comes fun _ _ _ _ _ _ h hF => ⟨h.1, hF⟩
theorem main_1_2 : Claimed_1_2 := own_comes fun _ _ _ _ _ _ h hF => ⟨h.2.1, hF⟩
end Jvm.Pilot.@@N@@
namespace Jvm.Pilot.@@N@@
open Jvm Jvm.ClassFile Sem Op Lib Jvm.Free Jvm.Stand Jvm.Pilot.@@N@@.Jvm.D
/-! MADE BY PROGRAM (witnessworld.py) out of the Statement's table words and the real class files: 27 classes; the members and pool entries that the words name. The judged class is class 1, her method 1. -/
namespace start1
open Jvm.ClassFile
def u (s : String) : CpInfo := .utf8 (stringToUtf16 s)
/-- a pool by its gaps: so many unusable entries, then the entry; so many at the end -/
def gap : Nat → List CpInfo → List CpInfo
  | 0, r => r
  | n + 1, r => .unusable :: gap n r
def poolList (es : List (Nat × CpInfo)) (last : Nat) : List CpInfo := es.foldr (fun e r => gap e.1 (e.2 :: r)) (gap last [])
def pool (es : List (Nat × CpInfo)) (last : Nat) : Array CpInfo := ⟨poolList es last⟩
def fileOf (pool : Array CpInfo) (this : Nat) (attrs : Array Attribute := #[]) (ms : Array MethodInfo := #[]) (fl : Nat := 33) (sup : Nat := 0) (ifs : Array Nat := #[]) (fds : Array FieldInfo := #[]) : ClassFile where
  minorVersion := 0
  majorVersion := 65
  constantPool := pool
  accessFlags := fl
  thisClass := this
  superClass := sup
  interfaces := ifs
  fields := fds
  methods := ms
  attributes := attrs
def plain (name : String) (sup : Option ClassId) : Class where
  name := name
  kind := .ordinary
  loader := none
  accessFlags := 33
  super := sup
  interfaces := #[]
  cf := none
  fields := #[]
  methods := #[]
  instanceTypes := #[]
  staticTypes := #[]
  resolved := #[]
  callSites := []
  init := .initialized
  statics := none
  mirror := none

def pool0 : Array CpInfo := pool [(5, u "<init>"), (0, u "()V"), (1, .class_ 10), (1, u "java/lang/Object"), (85, u "clone"), (0, u "()Ljava/lang/Object;")] 26

def k0c0 : Code := { maxStack := 0, maxLocals := 1, code := object_method_1_code, exceptionTable := #[], attributes := #[] }
def k0m0 : Method := { name := "<init>", desc := "()V", sig := { parameters := [], returnType := none }, accessFlags := 1, code := some k0c0 }
def k0m1 : Method := { name := "clone", desc := "()Ljava/lang/Object;", sig := { parameters := [], returnType := some (.object "java/lang/Object") }, accessFlags := 260, code := none }
/-- java/lang/Object -/
def k0 : Class := { plain "java/lang/Object" none with
  accessFlags := 33
  interfaces := #[]
  cf := some (fileOf pool0 8 #[] #[{ accessFlags := 1, nameIndex := 5, descriptorIndex := 6, attributes := #[] }, { accessFlags := 260, nameIndex := 96, descriptorIndex := 97, attributes := #[] }] 33 0 #[] #[])
  fields := #[]
  methods := #[k0m0, k0m1]
  instanceTypes := #[]
  staticTypes := #[]
  resolved := Array.replicate 124 none
  statics := none }

def pool1 : Array CpInfo := pool [(2, .class_ 4), (1, u "java/lang/Object"), (0, u "<init>"), (0, u "()V"), (0, .integer 2147483647), (0, .string 9), (0, u ""), (0, .class_ 11), (0, u "java/lang/String"), (0, .methodref 10 13), (0, .nameAndType 5 14), (0, u "([C)V"), (0, .methodref 10 16), (0, .nameAndType 17 18), (0, u "valueOf"), (0, u "(C)Ljava/lang/String;"), (0, .methodref 20 21), (0, .class_ 22), (0, .nameAndType 23 24), (0, u "com/example/research_access_policy/researchaccesspolicy/rules/Decision"), (0, u "beamlineAdmin"), (0, u "(Ljava/lang/String;)Lcom/example/research_access_policy/researchaccesspolicy/rules/Decision;"), (0, .methodref 20 26), (0, .nameAndType 27 28), (0, u "reason"), (0, u "()Ljava/lang/String;"), (0, .methodref 20 30), (0, .nameAndType 31 32), (0, u "allowed"), (0, u "()Z"), (0, .methodref 10 34), (0, .nameAndType 35 36), (0, u "length"), (0, u "()I"), (0, .methodref 10 38), (0, .nameAndType 39 40), (0, u "equals"), (0, u "(Ljava/lang/Object;)Z"), (0, .class_ 42), (0, u "com/example/research_access_policy/researchaccesspolicy/rules/DecisionBeamlineAdminPinLaw"), (2, u "law"), (0, u "(IIII)Z")] 3

def k1m0 : Method := { name := "<init>", desc := "()V", sig := { parameters := [], returnType := none }, accessFlags := 1, code := none }
def k1c1 : Code := { maxStack := 6, maxLocals := 12, code := code, exceptionTable := #[], attributes := #[] }
def k1m1 : Method := { name := "law", desc := "(IIII)Z", sig := { parameters := [.int, .int, .int, .int], returnType := some .boolean }, accessFlags := 9, code := some k1c1 }
/-- com/example/research_access_policy/researchaccesspolicy/rules/DecisionBeamlineAdminPinLaw -/
def k1 : Class := { plain "com/example/research_access_policy/researchaccesspolicy/rules/DecisionBeamlineAdminPinLaw" (some 0) with
  accessFlags := 49
  interfaces := #[]
  cf := some (fileOf pool1 41 #[] #[{ accessFlags := 1, nameIndex := 5, descriptorIndex := 6, attributes := #[] }, { accessFlags := 9, nameIndex := 45, descriptorIndex := 46, attributes := #[] }] 49 2 #[] #[])
  fields := #[]
  methods := #[k1m0, k1m1]
  instanceTypes := #[]
  staticTypes := #[]
  resolved := Array.replicate 50 none
  statics := none }

def pool2 : Array CpInfo := pool [(1, .class_ 2), (0, u "java/io/Serializable"), (0, .class_ 4), (0, u "java/lang/Object")] 2

/-- java/io/Serializable -/
def k2 : Class := { plain "java/io/Serializable" (some 0) with
  accessFlags := 1537
  interfaces := #[]
  cf := some (fileOf pool2 1 #[] #[] 1537 3 #[] #[])
  fields := #[]
  methods := #[]
  instanceTypes := #[]
  staticTypes := #[]
  resolved := Array.replicate 7 none
  statics := none }

def pool3 : Array CpInfo := pool [(1, .class_ 2), (0, u "java/lang/Comparable"), (0, .class_ 4), (0, u "java/lang/Object")] 7

/-- java/lang/Comparable -/
def k3 : Class := { plain "java/lang/Comparable" (some 0) with
  accessFlags := 1537
  interfaces := #[]
  cf := some (fileOf pool3 1 #[] #[] 1537 3 #[] #[])
  fields := #[]
  methods := #[]
  instanceTypes := #[]
  staticTypes := #[]
  resolved := Array.replicate 12 none
  statics := none }

def pool4 : Array CpInfo := pool [(2, .class_ 4), (1, u "java/lang/CharSequence"), (42, .class_ 48), (0, u "java/lang/CharSequence$1CodePointIterator"), (10, .class_ 60), (0, u "java/lang/CharSequence$1CharIterator"), (5, .class_ 67), (0, u "java/lang/Object")] 63

/-- java/lang/CharSequence -/
def k4 : Class := { plain "java/lang/CharSequence" (some 0) with
  accessFlags := 1537
  interfaces := #[]
  cf := some (fileOf pool4 2 #[.nestMembers #[47, 59]] #[] 1537 66 #[] #[])
  fields := #[]
  methods := #[]
  instanceTypes := #[]
  staticTypes := #[]
  resolved := Array.replicate 131 none
  statics := none }

def pool5 : Array CpInfo := pool [(1, .class_ 2), (0, u "java/lang/constant/Constable"), (0, .class_ 4), (0, u "java/lang/Object")] 6

/-- java/lang/constant/Constable -/
def k5 : Class := { plain "java/lang/constant/Constable" (some 0) with
  accessFlags := 1537
  interfaces := #[]
  cf := some (fileOf pool5 1 #[] #[] 1537 3 #[] #[])
  fields := #[]
  methods := #[]
  instanceTypes := #[]
  staticTypes := #[]
  resolved := Array.replicate 11 none
  statics := none }

def pool6 : Array CpInfo := pool [(1, .class_ 2), (0, u "java/lang/constant/ConstantDesc"), (0, .class_ 4), (0, u "java/lang/Object")] 32

/-- java/lang/constant/ConstantDesc -/
def k6 : Class := { plain "java/lang/constant/ConstantDesc" (some 0) with
  accessFlags := 1537
  interfaces := #[]
  cf := some (fileOf pool6 1 #[] #[] 1537 3 #[] #[])
  fields := #[]
  methods := #[]
  instanceTypes := #[]
  staticTypes := #[]
  resolved := Array.replicate 37 none
  statics := none }

def pool7 : Array CpInfo := pool [(1, .methodref 2 3), (0, .class_ 4), (0, .nameAndType 5 6), (0, u "java/lang/Object"), (0, u "<init>"), (0, u "()V"), (2, .fieldref 10 11), (0, .class_ 12), (0, .nameAndType 13 14), (0, u "java/lang/String"), (0, u "value"), (0, u "[B"), (0, .fieldref 10 16), (0, .nameAndType 17 18), (0, u "coder"), (0, u "B"), (2, u "hash"), (0, u "I"), (2, u "hashIsZero"), (0, u "Z"), (0, .methodref 10 28), (0, .nameAndType 5 29), (0, u "([CIILjava/lang/Void;)V"), (8, .fieldref 10 39), (0, .nameAndType 40 26), (0, u "COMPACT_STRINGS"), (1, .class_ 44), (1, u "java/lang/StringUTF16"), (0, u "compress"), (1, .methodref 42 48), (0, .nameAndType 49 50), (0, u "coderFromArrayLen"), (0, u "([BI)B"), (2, u "toBytes"), (0, .methodref 55 56), (0, .class_ 57), (0, .nameAndType 58 59), (0, u "java/util/Arrays"), (0, u "copyOfRange"), (0, u "([BII)[B"), (47, .class_ 109), (1, u "java/lang/StringLatin1"), (32, u "()Z"), (34, .methodref 42 178), (0, .nameAndType 45 179), (0, u "([CII)[B"), (13, .class_ 195), (1, u "java/lang/System"), (13, .methodref 10 210), (0, .nameAndType 5 211), (0, u "([BB)V"), (0, .methodref 193 213), (0, .nameAndType 214 215), (0, u "arraycopy"), (0, u "(Ljava/lang/Object;ILjava/lang/Object;II)V"), (118, u "()I"), (0, .methodref 10 336), (0, .nameAndType 17 337), (0, u "()B"), (2, u "()[B"), (28, u "(C)Z"), (119, .methodref 10 490), (0, .nameAndType 5 491), (0, u "(Ljava/lang/AbstractStringBuilder;Ljava/lang/Void;)V"), (1, .nameAndType 494 142), (0, u "isLatin1"), (11, .nameAndType 507 334), (0, u "length"), (24, u "getBytes"), (8, .methodref 107 542), (0, .nameAndType 543 544), (0, u "equals"), (0, u "([B[B)Z"), (4, .methodref 550 506), (0, .class_ 551), (0, u "java/lang/AbstractStringBuilder"), (0, .methodref 550 553), (0, .nameAndType 554 340), (0, u "getValue"), (18, u "(Ljava/lang/Object;)Z"), (1, .class_ 576), (0, u "java/lang/CharSequence"), (22, u "CASE_INSENSITIVE_ORDER"), (0, u "Ljava/util/Comparator;"), (181, u "valueOf"), (0, u "(C)Ljava/lang/String;"), (37, u "([BIB)V"), (188, u "([C)V"), (4, .methodref 107 1016), (0, .nameAndType 1017 369), (0, u "canEncode"), (0, .methodref 107 1019), (0, .nameAndType 53 1020), (0, u "(C)[B"), (26, .methodref 550 493), (53, u "serialPersistentFields"), (0, u "[Ljava/io/ObjectStreamField;"), (0, .class_ 1104), (0, u "java/lang/String$CaseInsensitiveComparator"), (1, .class_ 1107), (0, u "java/io/Serializable"), (0, .class_ 1109), (0, u "java/lang/Comparable"), (0, .class_ 1111), (0, u "java/lang/constant/Constable"), (0, .class_ 1113), (0, u "java/lang/constant/ConstantDesc"), (2, u "serialVersionUID"), (0, u "J"), (3, u "REPL"), (0, u "C"), (2, u "LATIN1"), (1, u "UTF16"), (105, u "(Ljava/lang/StringBuilder;)V")] 217

def k7m0 : Method := { name := "<init>", desc := "()V", sig := { parameters := [], returnType := none }, accessFlags := 1, code := none }
def k7c1 : Code := { maxStack := 5, maxLocals := 2, code := jdk_42_method_3_code, exceptionTable := #[], attributes := #[] }
def k7m1 : Method := { name := "<init>", desc := "([C)V", sig := { parameters := [(.array .char)], returnType := none }, accessFlags := 1, code := some k7c1 }
def k7c2 : Code := { maxStack := 3, maxLocals := 2, code := jdk_42_method_53_code, exceptionTable := #[], attributes := #[] }
def k7m2 : Method := { name := "<init>", desc := "(Ljava/lang/StringBuilder;)V", sig := { parameters := [(.object "java/lang/StringBuilder")], returnType := none }, accessFlags := 1, code := some k7c2 }
def k7c3 : Code := { maxStack := 2, maxLocals := 1, code := jdk_42_method_54_code, exceptionTable := #[], attributes := #[] }
def k7m3 : Method := { name := "length", desc := "()I", sig := { parameters := [], returnType := some .int }, accessFlags := 1, code := some k7c3 }
def k7c4 : Code := { maxStack := 2, maxLocals := 3, code := jdk_42_method_66_code, exceptionTable := #[], attributes := #[] }
def k7m4 : Method := { name := "equals", desc := "(Ljava/lang/Object;)Z", sig := { parameters := [(.object "java/lang/Object")], returnType := some .boolean }, accessFlags := 1, code := some k7c4 }
def k7c5 : Code := { maxStack := 4, maxLocals := 1, code := jdk_42_method_139_code, exceptionTable := #[], attributes := #[] }
def k7m5 : Method := { name := "valueOf", desc := "(C)Ljava/lang/String;", sig := { parameters := [.char], returnType := some (.object "java/lang/String") }, accessFlags := 9, code := some k7c5 }
def k7c6 : Code := { maxStack := 5, maxLocals := 4, code := jdk_42_method_147_code, exceptionTable := #[], attributes := #[] }
def k7m6 : Method := { name := "getBytes", desc := "([BIB)V", sig := { parameters := [(.array .byte), .int, .byte], returnType := none }, accessFlags := 0, code := some k7c6 }
def k7c7 : Code := { maxStack := 4, maxLocals := 6, code := jdk_42_method_149_code, exceptionTable := #[], attributes := #[] }
def k7m7 : Method := { name := "<init>", desc := "([CIILjava/lang/Void;)V", sig := { parameters := [(.array .char), .int, .int, (.object "java/lang/Void")], returnType := none }, accessFlags := 2, code := some k7c7 }
def k7c8 : Code := { maxStack := 5, maxLocals := 5, code := jdk_42_method_150_code, exceptionTable := #[], attributes := #[] }
def k7m8 : Method := { name := "<init>", desc := "(Ljava/lang/AbstractStringBuilder;Ljava/lang/Void;)V", sig := { parameters := [(.object "java/lang/AbstractStringBuilder"), (.object "java/lang/Void")], returnType := none }, accessFlags := 0, code := some k7c8 }
def k7c9 : Code := { maxStack := 2, maxLocals := 3, code := jdk_42_method_151_code, exceptionTable := #[], attributes := #[] }
def k7m9 : Method := { name := "<init>", desc := "([BB)V", sig := { parameters := [(.array .byte), .byte], returnType := none }, accessFlags := 0, code := some k7c9 }
def k7c10 : Code := { maxStack := 1, maxLocals := 1, code := jdk_42_method_152_code, exceptionTable := #[], attributes := #[] }
def k7m10 : Method := { name := "coder", desc := "()B", sig := { parameters := [], returnType := some .byte }, accessFlags := 0, code := some k7c10 }
/-- java/lang/String -/
def k7 : Class := { plain "java/lang/String" (some 0) with
  accessFlags := 49
  interfaces := #[2, 3, 4, 5, 6]
  cf := some (fileOf pool7 10 #[.nestMembers #[1103]] #[{ accessFlags := 1, nameIndex := 5, descriptorIndex := 6, attributes := #[] }, { accessFlags := 1, nameIndex := 5, descriptorIndex := 1010, attributes := #[] }, { accessFlags := 1, nameIndex := 5, descriptorIndex := 1233, attributes := #[] }, { accessFlags := 1, nameIndex := 507, descriptorIndex := 334, attributes := #[] }, { accessFlags := 1, nameIndex := 543, descriptorIndex := 573, attributes := #[] }, { accessFlags := 9, nameIndex := 782, descriptorIndex := 783, attributes := #[] }, { accessFlags := 0, nameIndex := 532, descriptorIndex := 821, attributes := #[] }, { accessFlags := 2, nameIndex := 5, descriptorIndex := 29, attributes := #[] }, { accessFlags := 0, nameIndex := 5, descriptorIndex := 491, attributes := #[] }, { accessFlags := 0, nameIndex := 5, descriptorIndex := 211, attributes := #[] }, { accessFlags := 0, nameIndex := 17, descriptorIndex := 337, attributes := #[] }] 49 2 #[1106, 1108, 575, 1110, 1112] #[{ accessFlags := 18, nameIndex := 13, descriptorIndex := 14, attributes := #[] }, { accessFlags := 18, nameIndex := 17, descriptorIndex := 18, attributes := #[] }, { accessFlags := 2, nameIndex := 21, descriptorIndex := 22, attributes := #[] }, { accessFlags := 2, nameIndex := 25, descriptorIndex := 26, attributes := #[] }, { accessFlags := 26, nameIndex := 1116, descriptorIndex := 1117, attributes := #[] }, { accessFlags := 24, nameIndex := 40, descriptorIndex := 26, attributes := #[] }, { accessFlags := 26, nameIndex := 1101, descriptorIndex := 1102, attributes := #[] }, { accessFlags := 26, nameIndex := 1121, descriptorIndex := 1122, attributes := #[] }, { accessFlags := 25, nameIndex := 599, descriptorIndex := 600, attributes := #[] }, { accessFlags := 24, nameIndex := 1125, descriptorIndex := 18, attributes := #[] }, { accessFlags := 24, nameIndex := 1127, descriptorIndex := 18, attributes := #[] }])
  fields := #[{ name := "value", type := (.array .byte), accessFlags := 18, slot := 0, constantValue := 0 }, { name := "coder", type := .byte, accessFlags := 18, slot := 1, constantValue := 0 }, { name := "hash", type := .int, accessFlags := 2, slot := 2, constantValue := 0 }, { name := "hashIsZero", type := .boolean, accessFlags := 2, slot := 3, constantValue := 0 }, { name := "serialVersionUID", type := .long, accessFlags := 26, slot := 0, constantValue := 0 }, { name := "COMPACT_STRINGS", type := .boolean, accessFlags := 24, slot := 1, constantValue := 0 }, { name := "serialPersistentFields", type := (.array (.object "java/io/ObjectStreamField")), accessFlags := 26, slot := 2, constantValue := 0 }, { name := "REPL", type := .char, accessFlags := 26, slot := 3, constantValue := 0 }, { name := "CASE_INSENSITIVE_ORDER", type := (.object "java/util/Comparator"), accessFlags := 25, slot := 4, constantValue := 0 }, { name := "LATIN1", type := .byte, accessFlags := 24, slot := 5, constantValue := 0 }, { name := "UTF16", type := .byte, accessFlags := 24, slot := 6, constantValue := 0 }]
  methods := #[k7m0, k7m1, k7m2, k7m3, k7m4, k7m5, k7m6, k7m7, k7m8, k7m9, k7m10]
  instanceTypes := #[(.array .byte), .byte, .int, .boolean]
  staticTypes := #[.long, .boolean, (.array (.object "java/io/ObjectStreamField")), .char, (.object "java/util/Comparator"), .byte, .byte]
  resolved := Array.replicate 1451 none
  statics := some 0 }

def pool8 : Array CpInfo := pool [(4, .class_ 6), (1, u "java/lang/Object"), (0, u "<init>"), (0, u "()V"), (5, .class_ 16), (1, u "java/lang/StringLatin1"), (73, u "canEncode"), (14, u "(C)Z"), (15, u "$assertionsDisabled"), (0, u "Z"), (98, .class_ 223), (1, u "java/lang/StringLatin1$LinesSpliterator"), (57, u "equals"), (0, u "([B[B)Z"), (97, u "toBytes"), (1, u "(C)[B"), (7, .class_ 391), (0, u "java/lang/StringLatin1$CharsSpliterator")] 3

def k8m0 : Method := { name := "<init>", desc := "()V", sig := { parameters := [], returnType := none }, accessFlags := 0, code := none }
def k8c1 : Code := { maxStack := 2, maxLocals := 1, code := jdk_43_method_3_code, exceptionTable := #[], attributes := #[] }
def k8m1 : Method := { name := "canEncode", desc := "(C)Z", sig := { parameters := [.char], returnType := some .boolean }, accessFlags := 9, code := some k8c1 }
def k8c2 : Code := { maxStack := 3, maxLocals := 3, code := jdk_43_method_13_code, exceptionTable := #[], attributes := #[] }
def k8m2 : Method := { name := "equals", desc := "([B[B)Z", sig := { parameters := [(.array .byte), (.array .byte)], returnType := some .boolean }, accessFlags := 9, code := some k8c2 }
def k8c3 : Code := { maxStack := 4, maxLocals := 1, code := jdk_43_method_46_code, exceptionTable := #[], attributes := #[] }
def k8m3 : Method := { name := "toBytes", desc := "(C)[B", sig := { parameters := [.char], returnType := some (.array .byte) }, accessFlags := 9, code := some k8c3 }
/-- java/lang/StringLatin1 -/
def k8 : Class := { plain "java/lang/StringLatin1" (some 0) with
  accessFlags := 48
  interfaces := #[]
  cf := some (fileOf pool8 14 #[.nestMembers #[390, 221]] #[{ accessFlags := 0, nameIndex := 7, descriptorIndex := 8, attributes := #[] }, { accessFlags := 9, nameIndex := 90, descriptorIndex := 105, attributes := #[] }, { accessFlags := 9, nameIndex := 281, descriptorIndex := 282, attributes := #[] }, { accessFlags := 9, nameIndex := 380, descriptorIndex := 382, attributes := #[] }] 48 4 #[] #[{ accessFlags := 4120, nameIndex := 121, descriptorIndex := 122, attributes := #[] }])
  fields := #[{ name := "$assertionsDisabled", type := .boolean, accessFlags := 4120, slot := 0, constantValue := 0 }]
  methods := #[k8m0, k8m1, k8m2, k8m3]
  instanceTypes := #[]
  staticTypes := #[.boolean]
  resolved := Array.replicate 395 none
  statics := none }

def pool9 : Array CpInfo := pool [(6, .class_ 8), (1, u "java/lang/Object"), (0, u "<init>"), (0, u "()V"), (1, .class_ 14), (1, u "java/lang/StringUTF16"), (31, u "$assertionsDisabled"), (0, u "Z"), (13, u "HI_BYTE_SHIFT"), (0, u "I"), (2, u "LO_BYTE_SHIFT"), (49, .methodref 12 116), (0, .nameAndType 117 118), (0, u "compress"), (0, u "([CI[BII)I"), (3, u "([CII)[B"), (138, u "coderFromArrayLen"), (0, u "([BI)B"), (106, .class_ 371), (1, u "java/lang/StringUTF16$LinesSpliterator"), (58, u "MAX_LENGTH"), (196, .class_ 628), (0, u "java/lang/StringUTF16$CodePointsSpliterator"), (0, .class_ 630), (0, u "java/lang/StringUTF16$CharsSpliterator")] 4

def k9m0 : Method := { name := "<init>", desc := "()V", sig := { parameters := [], returnType := none }, accessFlags := 0, code := none }
def k9c1 : Code := { maxStack := 2, maxLocals := 2, code := jdk_52_method_15_code, exceptionTable := #[], attributes := #[] }
def k9m1 : Method := { name := "coderFromArrayLen", desc := "([BI)B", sig := { parameters := [(.array .byte), .int], returnType := some .byte }, accessFlags := 8, code := some k9c1 }
def k9c2 : Code := { maxStack := 5, maxLocals := 6, code := jdk_52_method_16_code, exceptionTable := #[], attributes := #[] }
def k9m2 : Method := { name := "compress", desc := "([CII)[B", sig := { parameters := [(.array .char), .int, .int], returnType := some (.array .byte) }, accessFlags := 9, code := some k9c2 }
def k9c3 : Code := { maxStack := 3, maxLocals := 7, code := jdk_52_method_21_code, exceptionTable := #[], attributes := #[] }
def k9m3 : Method := { name := "compress", desc := "([CI[BII)I", sig := { parameters := [(.array .char), .int, (.array .byte), .int, .int], returnType := some .int }, accessFlags := 9, code := some k9c3 }
/-- java/lang/StringUTF16 -/
def k9 : Class := { plain "java/lang/StringUTF16" (some 0) with
  accessFlags := 48
  interfaces := #[]
  cf := some (fileOf pool9 12 #[.nestMembers #[627, 629, 369]] #[{ accessFlags := 0, nameIndex := 9, descriptorIndex := 10, attributes := #[] }, { accessFlags := 8, nameIndex := 261, descriptorIndex := 262, attributes := #[] }, { accessFlags := 9, nameIndex := 117, descriptorIndex := 122, attributes := #[] }, { accessFlags := 9, nameIndex := 117, descriptorIndex := 118, attributes := #[] }] 48 6 #[] #[{ accessFlags := 26, nameIndex := 61, descriptorIndex := 62, attributes := #[] }, { accessFlags := 26, nameIndex := 65, descriptorIndex := 62, attributes := #[] }, { accessFlags := 24, nameIndex := 430, descriptorIndex := 62, attributes := #[] }, { accessFlags := 4120, nameIndex := 46, descriptorIndex := 47, attributes := #[] }])
  fields := #[{ name := "HI_BYTE_SHIFT", type := .int, accessFlags := 26, slot := 0, constantValue := 0 }, { name := "LO_BYTE_SHIFT", type := .int, accessFlags := 26, slot := 1, constantValue := 0 }, { name := "MAX_LENGTH", type := .int, accessFlags := 24, slot := 2, constantValue := 0 }, { name := "$assertionsDisabled", type := .boolean, accessFlags := 4120, slot := 3, constantValue := 0 }]
  methods := #[k9m0, k9m1, k9m2, k9m3]
  instanceTypes := #[]
  staticTypes := #[.int, .int, .int, .boolean]
  resolved := Array.replicate 635 none
  statics := none }

def pool10 : Array CpInfo := pool [(1, .methodref 2 3), (0, .class_ 4), (0, .nameAndType 5 6), (0, u "java/lang/Object"), (0, u "<init>"), (0, u "()V"), (0, .class_ 8), (0, u "java/lang/Record")] 13

def k10c0 : Code := { maxStack := 1, maxLocals := 1, code := jdk_30_method_1_code, exceptionTable := #[], attributes := #[] }
def k10m0 : Method := { name := "<init>", desc := "()V", sig := { parameters := [], returnType := none }, accessFlags := 4, code := some k10c0 }
/-- java/lang/Record -/
def k10 : Class := { plain "java/lang/Record" (some 0) with
  accessFlags := 1057
  interfaces := #[]
  cf := some (fileOf pool10 7 #[] #[{ accessFlags := 4, nameIndex := 5, descriptorIndex := 6, attributes := #[] }] 1057 2 #[] #[])
  fields := #[]
  methods := #[k10m0]
  instanceTypes := #[]
  staticTypes := #[]
  resolved := Array.replicate 22 none
  statics := none }

def pool11 : Array CpInfo := pool [(1, .methodref 2 3), (0, .class_ 4), (0, .nameAndType 5 6), (0, u "java/lang/Record"), (0, u "<init>"), (0, u "()V"), (0, .fieldref 8 9), (0, .class_ 10), (0, .nameAndType 11 12), (0, u "com/example/research_access_policy/researchaccesspolicy/rules/Decision"), (0, u "allowed"), (0, u "Z"), (0, .fieldref 8 14), (0, .nameAndType 15 16), (0, u "reason"), (0, u "Ljava/lang/String;"), (0, .class_ 18), (0, u "java/lang/StringBuilder"), (0, .methodref 17 3), (0, .string 21), (0, u "beamline-admin "), (0, .methodref 17 23), (0, .nameAndType 24 25), (0, u "append"), (0, u "(Ljava/lang/String;)Ljava/lang/StringBuilder;"), (0, .methodref 17 27), (0, .nameAndType 28 29), (0, u "toString"), (0, u "()Ljava/lang/String;"), (0, .methodref 8 31), (0, .nameAndType 5 32), (0, u "(ZLjava/lang/String;)V"), (19, u "SUPER_ADMIN"), (0, u "Lcom/example/research_access_policy/researchaccesspolicy/rules/Decision;"), (4, u "PROPOSAL_MEMBER"), (4, u "SESSION_MEMBER"), (4, u "UNKNOWN_SESSION"), (4, u "UNKNOWN_SUBJECT"), (4, u "WRONG_BEAMLINE"), (4, u "NOT_PERMITTED"), (3, u "beamlineAdmin"), (0, u "(Ljava/lang/String;)Lcom/example/research_access_policy/researchaccesspolicy/rules/Decision;"), (6, u "()Z")] 22

def k11c0 : Code := { maxStack := 2, maxLocals := 3, code := prog_12_method_1_code, exceptionTable := #[], attributes := #[] }
def k11m0 : Method := { name := "<init>", desc := "(ZLjava/lang/String;)V", sig := { parameters := [.boolean, (.object "java/lang/String")], returnType := none }, accessFlags := 1, code := some k11c0 }
def k11c1 : Code := { maxStack := 5, maxLocals := 1, code := prog_12_method_2_code, exceptionTable := #[], attributes := #[] }
def k11m1 : Method := { name := "beamlineAdmin", desc := "(Ljava/lang/String;)Lcom/example/research_access_policy/researchaccesspolicy/rules/Decision;", sig := { parameters := [(.object "java/lang/String")], returnType := some (.object "com/example/research_access_policy/researchaccesspolicy/rules/Decision") }, accessFlags := 9, code := some k11c1 }
def k11c2 : Code := { maxStack := 1, maxLocals := 1, code := prog_12_method_7_code, exceptionTable := #[], attributes := #[] }
def k11m2 : Method := { name := "allowed", desc := "()Z", sig := { parameters := [], returnType := some .boolean }, accessFlags := 1, code := some k11c2 }
def k11c3 : Code := { maxStack := 1, maxLocals := 1, code := prog_12_method_8_code, exceptionTable := #[], attributes := #[] }
def k11m3 : Method := { name := "reason", desc := "()Ljava/lang/String;", sig := { parameters := [], returnType := some (.object "java/lang/String") }, accessFlags := 1, code := some k11c3 }
/-- com/example/research_access_policy/researchaccesspolicy/rules/Decision -/
def k11 : Class := { plain "com/example/research_access_policy/researchaccesspolicy/rules/Decision" (some 10) with
  accessFlags := 49
  interfaces := #[]
  cf := some (fileOf pool11 8 #[] #[{ accessFlags := 1, nameIndex := 5, descriptorIndex := 32, attributes := #[] }, { accessFlags := 9, nameIndex := 87, descriptorIndex := 88, attributes := #[] }, { accessFlags := 1, nameIndex := 11, descriptorIndex := 95, attributes := #[] }, { accessFlags := 1, nameIndex := 15, descriptorIndex := 29, attributes := #[] }] 49 2 #[] #[{ accessFlags := 18, nameIndex := 11, descriptorIndex := 12, attributes := #[] }, { accessFlags := 18, nameIndex := 15, descriptorIndex := 16, attributes := #[] }, { accessFlags := 25, nameIndex := 52, descriptorIndex := 53, attributes := #[] }, { accessFlags := 25, nameIndex := 58, descriptorIndex := 53, attributes := #[] }, { accessFlags := 25, nameIndex := 63, descriptorIndex := 53, attributes := #[] }, { accessFlags := 25, nameIndex := 68, descriptorIndex := 53, attributes := #[] }, { accessFlags := 25, nameIndex := 73, descriptorIndex := 53, attributes := #[] }, { accessFlags := 25, nameIndex := 78, descriptorIndex := 53, attributes := #[] }, { accessFlags := 25, nameIndex := 83, descriptorIndex := 53, attributes := #[] }])
  fields := #[{ name := "allowed", type := .boolean, accessFlags := 18, slot := 0, constantValue := 0 }, { name := "reason", type := (.object "java/lang/String"), accessFlags := 18, slot := 1, constantValue := 0 }, { name := "SUPER_ADMIN", type := (.object "com/example/research_access_policy/researchaccesspolicy/rules/Decision"), accessFlags := 25, slot := 0, constantValue := 0 }, { name := "PROPOSAL_MEMBER", type := (.object "com/example/research_access_policy/researchaccesspolicy/rules/Decision"), accessFlags := 25, slot := 1, constantValue := 0 }, { name := "SESSION_MEMBER", type := (.object "com/example/research_access_policy/researchaccesspolicy/rules/Decision"), accessFlags := 25, slot := 2, constantValue := 0 }, { name := "UNKNOWN_SESSION", type := (.object "com/example/research_access_policy/researchaccesspolicy/rules/Decision"), accessFlags := 25, slot := 3, constantValue := 0 }, { name := "UNKNOWN_SUBJECT", type := (.object "com/example/research_access_policy/researchaccesspolicy/rules/Decision"), accessFlags := 25, slot := 4, constantValue := 0 }, { name := "WRONG_BEAMLINE", type := (.object "com/example/research_access_policy/researchaccesspolicy/rules/Decision"), accessFlags := 25, slot := 5, constantValue := 0 }, { name := "NOT_PERMITTED", type := (.object "com/example/research_access_policy/researchaccesspolicy/rules/Decision"), accessFlags := 25, slot := 6, constantValue := 0 }]
  methods := #[k11m0, k11m1, k11m2, k11m3]
  instanceTypes := #[.boolean, (.object "java/lang/String")]
  staticTypes := #[(.object "com/example/research_access_policy/researchaccesspolicy/rules/Decision"), (.object "com/example/research_access_policy/researchaccesspolicy/rules/Decision"), (.object "com/example/research_access_policy/researchaccesspolicy/rules/Decision"), (.object "com/example/research_access_policy/researchaccesspolicy/rules/Decision"), (.object "com/example/research_access_policy/researchaccesspolicy/rules/Decision"), (.object "com/example/research_access_policy/researchaccesspolicy/rules/Decision"), (.object "com/example/research_access_policy/researchaccesspolicy/rules/Decision")]
  resolved := Array.replicate 118 none
  statics := none }

def pool12 : Array CpInfo := pool [(1, .class_ 2), (0, u "java/lang/Appendable"), (0, .class_ 4), (0, u "java/lang/Object")] 9

/-- java/lang/Appendable -/
def k12 : Class := { plain "java/lang/Appendable" (some 0) with
  accessFlags := 1537
  interfaces := #[]
  cf := some (fileOf pool12 1 #[] #[] 1537 3 #[] #[])
  fields := #[]
  methods := #[]
  instanceTypes := #[]
  staticTypes := #[]
  resolved := Array.replicate 14 none
  statics := none }

def pool13 : Array CpInfo := pool [(1, .class_ 2), (0, u "java/lang/String"), (0, .methodref 4 5), (0, .class_ 6), (0, .nameAndType 7 8), (0, u "java/lang/Object"), (0, u "<init>"), (0, u "()V"), (1, .class_ 12), (1, u "java/lang/AbstractStringBuilder"), (0, u "EMPTYVALUE"), (0, u "[B"), (0, .fieldref 10 16), (0, .nameAndType 17 14), (0, u "value"), (0, .fieldref 1 19), (0, .nameAndType 20 21), (0, u "COMPACT_STRINGS"), (0, u "Z"), (0, .fieldref 10 23), (0, .nameAndType 24 25), (0, u "coder"), (0, u "B"), (6, .methodref 1 33), (0, .nameAndType 34 35), (0, u "length"), (0, u "()I"), (3, .integer 2147483647), (0, .methodref 1 41), (0, .nameAndType 24 42), (0, u "()B"), (2, u "append"), (0, u "(Ljava/lang/String;)Ljava/lang/AbstractStringBuilder;"), (1, .class_ 49), (0, u "java/lang/CharSequence"), (19, u "(Ljava/lang/String;)V"), (5, u "maybeLatin1"), (3, .fieldref 10 80), (0, .nameAndType 81 82), (0, u "count"), (0, u "I"), (2, u "isLatin1"), (0, u "()Z"), (13, .methodref 10 101), (0, .nameAndType 102 103), (0, u "ensureCapacityInternal"), (0, u "(I)V"), (0, .methodref 10 105), (0, .nameAndType 106 107), (0, u "newCapacity"), (0, u "(I)I"), (0, .methodref 109 110), (0, .class_ 111), (0, .nameAndType 112 113), (0, u "java/util/Arrays"), (0, u "copyOf"), (0, u "([BI)[B"), (0, .methodref 115 116), (0, .class_ 117), (0, .nameAndType 118 119), (0, u "jdk/internal/util/ArraysSupport"), (0, u "newLength"), (0, u "(III)I"), (88, .methodref 10 209), (0, .nameAndType 210 211), (0, u "putStringAt"), (0, u "(ILjava/lang/String;)V"), (5, u "inflateIfNeededFor"), (2, .nameAndType 221 222), (0, u "getBytes"), (0, u "([BIB)V"), (174, .methodref 10 398), (0, .nameAndType 217 69), (0, .methodref 1 220), (3, u "()[B"), (40, .class_ 445), (0, u "java/lang/Appendable"), (106, u "getValue")] 56

def k13m0 : Method := { name := "<init>", desc := "()V", sig := { parameters := [], returnType := none }, accessFlags := 0, code := none }
def k13c1 : Code := { maxStack := 2, maxLocals := 2, code := jdk_68_method_2_code, exceptionTable := #[], attributes := #[] }
def k13m1 : Method := { name := "<init>", desc := "(I)V", sig := { parameters := [.int], returnType := none }, accessFlags := 0, code := some k13c1 }
def k13c2 : Code := { maxStack := 1, maxLocals := 1, code := jdk_68_method_6_code, exceptionTable := #[], attributes := #[] }
def k13m2 : Method := { name := "length", desc := "()I", sig := { parameters := [], returnType := some .int }, accessFlags := 1, code := some k13c2 }
def k13c3 : Code := { maxStack := 4, maxLocals := 3, code := jdk_68_method_9_code, exceptionTable := #[], attributes := #[] }
def k13m3 : Method := { name := "ensureCapacityInternal", desc := "(I)V", sig := { parameters := [.int], returnType := none }, accessFlags := 2, code := some k13c3 }
def k13c4 : Code := { maxStack := 5, maxLocals := 6, code := jdk_68_method_10_code, exceptionTable := #[], attributes := #[] }
def k13m4 : Method := { name := "newCapacity", desc := "(I)I", sig := { parameters := [.int], returnType := some .int }, accessFlags := 2, code := some k13c4 }
def k13c5 : Code := { maxStack := 3, maxLocals := 3, code := jdk_68_method_22_code, exceptionTable := #[], attributes := #[] }
def k13m5 : Method := { name := "append", desc := "(Ljava/lang/String;)Ljava/lang/AbstractStringBuilder;", sig := { parameters := [(.object "java/lang/String")], returnType := some (.object "java/lang/AbstractStringBuilder") }, accessFlags := 1, code := some k13c5 }
def k13c6 : Code := { maxStack := 1, maxLocals := 1, code := jdk_68_method_64_code, exceptionTable := #[], attributes := #[] }
def k13m6 : Method := { name := "getValue", desc := "()[B", sig := { parameters := [], returnType := some (.array .byte) }, accessFlags := 16, code := some k13c6 }
def k13c7 : Code := { maxStack := 1, maxLocals := 1, code := jdk_68_method_68_code, exceptionTable := #[], attributes := #[] }
def k13m7 : Method := { name := "isLatin1", desc := "()Z", sig := { parameters := [], returnType := some .boolean }, accessFlags := 16, code := some k13c7 }
def k13c8 : Code := { maxStack := 2, maxLocals := 2, code := jdk_68_method_71_code, exceptionTable := #[], attributes := #[] }
def k13m8 : Method := { name := "inflateIfNeededFor", desc := "(Ljava/lang/String;)V", sig := { parameters := [(.object "java/lang/String")], returnType := none }, accessFlags := 2, code := some k13c8 }
def k13c9 : Code := { maxStack := 4, maxLocals := 3, code := jdk_68_method_73_code, exceptionTable := #[], attributes := #[] }
def k13m9 : Method := { name := "putStringAt", desc := "(ILjava/lang/String;)V", sig := { parameters := [.int, (.object "java/lang/String")], returnType := none }, accessFlags := 2, code := some k13c9 }
/-- java/lang/AbstractStringBuilder -/
def k13 : Class := { plain "java/lang/AbstractStringBuilder" (some 0) with
  accessFlags := 1056
  interfaces := #[12, 4]
  cf := some (fileOf pool13 10 #[] #[{ accessFlags := 0, nameIndex := 7, descriptorIndex := 8, attributes := #[] }, { accessFlags := 0, nameIndex := 7, descriptorIndex := 103, attributes := #[] }, { accessFlags := 1, nameIndex := 34, descriptorIndex := 35, attributes := #[] }, { accessFlags := 2, nameIndex := 102, descriptorIndex := 103, attributes := #[] }, { accessFlags := 2, nameIndex := 106, descriptorIndex := 107, attributes := #[] }, { accessFlags := 1, nameIndex := 45, descriptorIndex := 46, attributes := #[] }, { accessFlags := 16, nameIndex := 552, descriptorIndex := 403, attributes := #[] }, { accessFlags := 16, nameIndex := 85, descriptorIndex := 86, attributes := #[] }, { accessFlags := 2, nameIndex := 217, descriptorIndex := 69, attributes := #[] }, { accessFlags := 2, nameIndex := 210, descriptorIndex := 211, attributes := #[] }] 1056 4 #[444, 48] #[{ accessFlags := 0, nameIndex := 17, descriptorIndex := 14, attributes := #[] }, { accessFlags := 0, nameIndex := 24, descriptorIndex := 25, attributes := #[] }, { accessFlags := 0, nameIndex := 75, descriptorIndex := 21, attributes := #[] }, { accessFlags := 0, nameIndex := 81, descriptorIndex := 82, attributes := #[] }, { accessFlags := 26, nameIndex := 13, descriptorIndex := 14, attributes := #[] }])
  fields := #[{ name := "value", type := (.array .byte), accessFlags := 0, slot := 0, constantValue := 0 }, { name := "coder", type := .byte, accessFlags := 0, slot := 1, constantValue := 0 }, { name := "maybeLatin1", type := .boolean, accessFlags := 0, slot := 2, constantValue := 0 }, { name := "count", type := .int, accessFlags := 0, slot := 3, constantValue := 0 }, { name := "EMPTYVALUE", type := (.array .byte), accessFlags := 26, slot := 0, constantValue := 0 }]
  methods := #[k13m0, k13m1, k13m2, k13m3, k13m4, k13m5, k13m6, k13m7, k13m8, k13m9]
  instanceTypes := #[(.array .byte), .byte, .boolean, .int]
  staticTypes := #[(.array .byte)]
  resolved := Array.replicate 609 none
  statics := none }

def pool14 : Array CpInfo := pool [(1, .methodref 2 3), (0, .class_ 4), (0, .nameAndType 5 6), (0, u "java/lang/AbstractStringBuilder"), (0, u "<init>"), (0, u "(I)V"), (11, .class_ 20), (1, u "java/lang/String"), (3, .class_ 26), (1, u "java/lang/StringBuilder"), (0, u "append"), (0, u "(Ljava/lang/String;)Ljava/lang/StringBuilder;"), (0, .methodref 2 30), (0, .nameAndType 27 31), (0, u "(Ljava/lang/String;)Ljava/lang/AbstractStringBuilder;"), (105, .methodref 18 138), (0, .nameAndType 5 139), (0, u "(Ljava/lang/StringBuilder;)V"), (5, u "()V"), (10, u "()I"), (186, .methodref 2 344), (0, .nameAndType 345 156), (0, u "length"), (3, .class_ 350), (0, u "java/lang/Appendable"), (0, .class_ 352), (0, u "java/io/Serializable"), (0, .class_ 354), (0, u "java/lang/Comparable"), (0, .class_ 356), (0, u "java/lang/CharSequence"), (0, u "serialVersionUID"), (0, u "J"), (40, u "toString"), (0, u "()Ljava/lang/String;")] 21

def k14c0 : Code := { maxStack := 2, maxLocals := 1, code := jdk_67_method_1_code, exceptionTable := #[], attributes := #[] }
def k14m0 : Method := { name := "<init>", desc := "()V", sig := { parameters := [], returnType := none }, accessFlags := 1, code := some k14c0 }
def k14c1 : Code := { maxStack := 2, maxLocals := 2, code := jdk_67_method_7_code, exceptionTable := #[], attributes := #[] }
def k14m1 : Method := { name := "append", desc := "(Ljava/lang/String;)Ljava/lang/StringBuilder;", sig := { parameters := [(.object "java/lang/String")], returnType := some (.object "java/lang/StringBuilder") }, accessFlags := 1, code := some k14c1 }
def k14c2 : Code := { maxStack := 3, maxLocals := 1, code := jdk_67_method_42_code, exceptionTable := #[], attributes := #[] }
def k14m2 : Method := { name := "toString", desc := "()Ljava/lang/String;", sig := { parameters := [], returnType := some (.object "java/lang/String") }, accessFlags := 1, code := some k14c2 }
def k14c3 : Code := { maxStack := 1, maxLocals := 1, code := jdk_67_method_93_code, exceptionTable := #[], attributes := #[] }
def k14m3 : Method := { name := "length", desc := "()I", sig := { parameters := [], returnType := some .int }, accessFlags := 4161, code := some k14c3 }
/-- java/lang/StringBuilder -/
def k14 : Class := { plain "java/lang/StringBuilder" (some 13) with
  accessFlags := 49
  interfaces := #[12, 2, 3, 4]
  cf := some (fileOf pool14 24 #[] #[{ accessFlags := 1, nameIndex := 5, descriptorIndex := 145, attributes := #[] }, { accessFlags := 1, nameIndex := 27, descriptorIndex := 28, attributes := #[] }, { accessFlags := 1, nameIndex := 399, descriptorIndex := 400, attributes := #[] }, { accessFlags := 4161, nameIndex := 345, descriptorIndex := 156, attributes := #[] }] 49 2 #[349, 351, 353, 355] #[{ accessFlags := 24, nameIndex := 357, descriptorIndex := 358, attributes := #[] }])
  fields := #[{ name := "serialVersionUID", type := .long, accessFlags := 24, slot := 0, constantValue := 0 }]
  methods := #[k14m0, k14m1, k14m2, k14m3]
  instanceTypes := #[(.array .byte), .byte, .boolean, .int]
  staticTypes := #[.long]
  resolved := Array.replicate 422 none
  statics := none }

def pool15 : Array CpInfo := pool [(2, .class_ 4), (1, u "java/lang/Object"), (0, u "<init>"), (0, u "()V"), (1, .class_ 10), (1, u "java/lang/System"), (0, u "allowSecurityManager"), (0, u "I"), (16, u "cons"), (0, u "Ljava/io/Console;"), (77, .class_ 110), (1, u "java/lang/System$CallersHolder"), (43, u "initialErrStream"), (0, u "Ljava/io/PrintStream;"), (19, u "security"), (0, u "Ljava/lang/SecurityManager;"), (31, .class_ 209), (0, u "java/lang/System$1"), (7, u "props"), (0, u "Ljava/util/Properties;"), (2, u "lineSeparator"), (0, u "Ljava/lang/String;"), (96, .class_ 321), (1, u "java/lang/System$LoggerFinder"), (5, .class_ 328), (0, u "java/lang/System$Logger"), (67, u "err"), (2, u "out"), (91, u "notSupportedJnuEncoding"), (15, u "in"), (17, u "initialIn"), (0, u "Ljava/io/InputStream;"), (35, u "bootLayer"), (0, u "Ljava/lang/ModuleLayer;"), (99, .class_ 664), (0, u "java/lang/System$2"), (9, u "NEVER"), (2, u "MAYBE"), (49, u "arraycopy"), (0, u "(Ljava/lang/Object;ILjava/lang/Object;II)V"), (72, .class_ 802), (0, u "java/lang/System$Logger$Level")] 31

def k15m0 : Method := { name := "<init>", desc := "()V", sig := { parameters := [], returnType := none }, accessFlags := 2, code := none }
def k15m1 : Method := { name := "arraycopy", desc := "(Ljava/lang/Object;ILjava/lang/Object;II)V", sig := { parameters := [(.object "java/lang/Object"), .int, (.object "java/lang/Object"), .int, .int], returnType := none }, accessFlags := 265, code := none }
/-- java/lang/System -/
def k15 : Class := { plain "java/lang/System" (some 0) with
  accessFlags := 49
  interfaces := #[]
  cf := some (fileOf pool15 8 #[.nestMembers #[319, 327, 801, 108, 663, 208]] #[{ accessFlags := 2, nameIndex := 5, descriptorIndex := 6, attributes := #[] }, { accessFlags := 265, nameIndex := 727, descriptorIndex := 728, attributes := #[] }] 49 2 #[] #[{ accessFlags := 25, nameIndex := 507, descriptorIndex := 526, attributes := #[] }, { accessFlags := 25, nameIndex := 399, descriptorIndex := 155, attributes := #[] }, { accessFlags := 25, nameIndex := 396, descriptorIndex := 155, attributes := #[] }, { accessFlags := 10, nameIndex := 525, descriptorIndex := 526, attributes := #[] }, { accessFlags := 26, nameIndex := 674, descriptorIndex := 12, attributes := #[] }, { accessFlags := 26, nameIndex := 677, descriptorIndex := 12, attributes := #[] }, { accessFlags := 10, nameIndex := 11, descriptorIndex := 12, attributes := #[] }, { accessFlags := 74, nameIndex := 175, descriptorIndex := 176, attributes := #[] }, { accessFlags := 10, nameIndex := 491, descriptorIndex := 222, attributes := #[] }, { accessFlags := 74, nameIndex := 29, descriptorIndex := 30, attributes := #[] }, { accessFlags := 74, nameIndex := 154, descriptorIndex := 155, attributes := #[] }, { accessFlags := 10, nameIndex := 217, descriptorIndex := 218, attributes := #[] }, { accessFlags := 10, nameIndex := 221, descriptorIndex := 222, attributes := #[] }, { accessFlags := 8, nameIndex := 562, descriptorIndex := 563, attributes := #[] }])
  fields := #[{ name := "in", type := (.object "java/io/InputStream"), accessFlags := 25, slot := 0, constantValue := 0 }, { name := "out", type := (.object "java/io/PrintStream"), accessFlags := 25, slot := 1, constantValue := 0 }, { name := "err", type := (.object "java/io/PrintStream"), accessFlags := 25, slot := 2, constantValue := 0 }, { name := "initialIn", type := (.object "java/io/InputStream"), accessFlags := 10, slot := 3, constantValue := 0 }, { name := "NEVER", type := .int, accessFlags := 26, slot := 4, constantValue := 0 }, { name := "MAYBE", type := .int, accessFlags := 26, slot := 5, constantValue := 0 }, { name := "allowSecurityManager", type := .int, accessFlags := 10, slot := 6, constantValue := 0 }, { name := "security", type := (.object "java/lang/SecurityManager"), accessFlags := 74, slot := 7, constantValue := 0 }, { name := "notSupportedJnuEncoding", type := (.object "java/lang/String"), accessFlags := 10, slot := 8, constantValue := 0 }, { name := "cons", type := (.object "java/io/Console"), accessFlags := 74, slot := 9, constantValue := 0 }, { name := "initialErrStream", type := (.object "java/io/PrintStream"), accessFlags := 74, slot := 10, constantValue := 0 }, { name := "props", type := (.object "java/util/Properties"), accessFlags := 10, slot := 11, constantValue := 0 }, { name := "lineSeparator", type := (.object "java/lang/String"), accessFlags := 10, slot := 12, constantValue := 0 }, { name := "bootLayer", type := (.object "java/lang/ModuleLayer"), accessFlags := 8, slot := 13, constantValue := 0 }]
  methods := #[k15m0, k15m1]
  instanceTypes := #[]
  staticTypes := #[(.object "java/io/InputStream"), (.object "java/io/PrintStream"), (.object "java/io/PrintStream"), (.object "java/io/InputStream"), .int, .int, .int, (.object "java/lang/SecurityManager"), (.object "java/lang/String"), (.object "java/io/Console"), (.object "java/io/PrintStream"), (.object "java/util/Properties"), (.object "java/lang/String"), (.object "java/lang/ModuleLayer")]
  resolved := Array.replicate 834 none
  statics := none }

def pool16 : Array CpInfo := pool [(2, .class_ 4), (1, u "java/lang/Object"), (0, u "<init>"), (0, u "()V"), (7, .class_ 16), (1, u "java/util/Arrays"), (57, .class_ 76), (1, u "java/util/Arrays$NaturalOrder"), (32, u "()Ljava/lang/Object;"), (3, .class_ 115), (1, u "java/util/Arrays$LegacyMergeSort"), (1, u "Z"), (10, .nameAndType 129 109), (0, u "clone"), (9, u "copyOfRange"), (10, .methodref 151 152), (0, .class_ 153), (0, .nameAndType 154 155), (0, u "java/lang/System"), (0, u "arraycopy"), (0, u "(Ljava/lang/Object;ILjava/lang/Object;II)V"), (146, u "copyOf"), (1, .methodref 305 306), (0, .class_ 307), (0, .nameAndType 308 309), (0, u "java/lang/Math"), (0, u "min"), (0, u "(II)I"), (0, .methodref 311 128), (0, .class_ 312), (0, u "[B"), (26, .methodref 14 340), (0, .nameAndType 341 342), (0, u "copyOfRangeByte"), (0, u "([BII)[B"), (0, .methodref 14 344), (0, .nameAndType 345 346), (0, u "checkLength"), (0, u "(II)V"), (28, .class_ 376), (0, u "java/util/Arrays$ArrayList"), (68, u "$assertionsDisabled"), (269, u "MIN_ARRAY_SORT_GRAN"), (0, u "I"), (2, u "INSERTIONSORT_THRESHOLD"), (149, u "([BI)[B"), (105, .class_ 976), (0, u "java/util/Arrays$ArrayItr")] 52

def k16m0 : Method := { name := "<init>", desc := "()V", sig := { parameters := [], returnType := none }, accessFlags := 2, code := none }
def k16c1 : Code := { maxStack := 6, maxLocals := 3, code := jdk_65_method_121_code, exceptionTable := #[], attributes := #[] }
def k16m1 : Method := { name := "copyOf", desc := "([BI)[B", sig := { parameters := [(.array .byte), .int], returnType := some (.array .byte) }, accessFlags := 9, code := some k16c1 }
def k16c2 : Code := { maxStack := 4, maxLocals := 2, code := jdk_65_method_131_code, exceptionTable := #[], attributes := #[] }
def k16m2 : Method := { name := "checkLength", desc := "(II)V", sig := { parameters := [.int, .int], returnType := none }, accessFlags := 10, code := some k16c2 }
def k16c3 : Code := { maxStack := 3, maxLocals := 3, code := jdk_65_method_132_code, exceptionTable := #[], attributes := #[] }
def k16m3 : Method := { name := "copyOfRange", desc := "([BII)[B", sig := { parameters := [(.array .byte), .int, .int], returnType := some (.array .byte) }, accessFlags := 9, code := some k16c3 }
def k16c4 : Code := { maxStack := 6, maxLocals := 5, code := jdk_65_method_133_code, exceptionTable := #[], attributes := #[] }
def k16m4 : Method := { name := "copyOfRangeByte", desc := "([BII)[B", sig := { parameters := [(.array .byte), .int, .int], returnType := some (.array .byte) }, accessFlags := 10, code := some k16c4 }
/-- java/util/Arrays -/
def k16 : Class := { plain "java/util/Arrays" (some 0) with
  accessFlags := 49
  interfaces := #[]
  cf := some (fileOf pool16 14 #[.nestMembers #[975, 375, 113, 74]] #[{ accessFlags := 2, nameIndex := 5, descriptorIndex := 6, attributes := #[] }, { accessFlags := 9, nameIndex := 302, descriptorIndex := 869, attributes := #[] }, { accessFlags := 10, nameIndex := 345, descriptorIndex := 346, attributes := #[] }, { accessFlags := 9, nameIndex := 139, descriptorIndex := 342, attributes := #[] }, { accessFlags := 10, nameIndex := 341, descriptorIndex := 342, attributes := #[] }] 49 2 #[] #[{ accessFlags := 26, nameIndex := 715, descriptorIndex := 716, attributes := #[] }, { accessFlags := 26, nameIndex := 719, descriptorIndex := 716, attributes := #[] }, { accessFlags := 4120, nameIndex := 445, descriptorIndex := 117, attributes := #[] }])
  fields := #[{ name := "MIN_ARRAY_SORT_GRAN", type := .int, accessFlags := 26, slot := 0, constantValue := 0 }, { name := "INSERTIONSORT_THRESHOLD", type := .int, accessFlags := 26, slot := 1, constantValue := 0 }, { name := "$assertionsDisabled", type := .boolean, accessFlags := 4120, slot := 2, constantValue := 0 }]
  methods := #[k16m0, k16m1, k16m2, k16m3, k16m4]
  instanceTypes := #[]
  staticTypes := #[.int, .int, .boolean]
  resolved := Array.replicate 1029 none
  statics := none }

def pool17 : Array CpInfo := pool [(1, .class_ 2), (0, u "java/lang/Cloneable"), (0, .class_ 4), (0, u "java/lang/Object")] 2

/-- java/lang/Cloneable -/
def k17 : Class := { plain "java/lang/Cloneable" (some 0) with
  accessFlags := 1537
  interfaces := #[]
  cf := some (fileOf pool17 1 #[] #[] 1537 3 #[] #[])
  fields := #[]
  methods := #[]
  instanceTypes := #[]
  staticTypes := #[]
  resolved := Array.replicate 7 none
  statics := none }

def pool18 : Array CpInfo := pool [(9, u "<init>"), (6, .class_ 18), (1, u "java/lang/Object"), (0, u "()V"), (1, .class_ 23), (1, u "jdk/internal/util/ArraysSupport"), (0, u "LOG2_ARRAY_LONG_INDEX_SCALE"), (0, u "I"), (2, u "U"), (0, u "Ljdk/internal/misc/Unsafe;"), (8, u "BIG_ENDIAN"), (0, u "Z"), (8, u "LOG2_BYTE_BIT_SIZE"), (4, u "LOG2_ARRAY_INT_INDEX_SCALE"), (54, u "JLA"), (0, u "Ljdk/internal/access/JavaLangAccess;"), (11, u "LOG2_ARRAY_BOOLEAN_INDEX_SCALE"), (9, u "LOG2_ARRAY_BYTE_INDEX_SCALE"), (5, u "LOG2_ARRAY_CHAR_INDEX_SCALE"), (5, u "LOG2_ARRAY_SHORT_INDEX_SCALE"), (18, u "LOG2_ARRAY_FLOAT_INDEX_SCALE"), (24, u "LOG2_ARRAY_DOUBLE_INDEX_SCALE"), (6, .methodref 195 196), (0, .class_ 197), (0, .nameAndType 198 199), (0, u "java/lang/Math"), (0, u "max"), (0, u "(II)I"), (0, .integer 2147483639), (76, u "T_BOOLEAN"), (2, u "T_CHAR"), (1, u "T_FLOAT"), (1, u "T_DOUBLE"), (1, u "T_BYTE"), (1, u "T_SHORT"), (1, u "T_INT"), (1, u "T_LONG"), (1, u "SOFT_MAX_ARRAY_LENGTH"), (56, u "newLength"), (0, u "(III)I")] 25

def k18m0 : Method := { name := "<init>", desc := "()V", sig := { parameters := [], returnType := none }, accessFlags := 2, code := none }
def k18c1 : Code := { maxStack := 3, maxLocals := 4, code := jdk_48_method_27_code, exceptionTable := #[], attributes := #[] }
def k18m1 : Method := { name := "newLength", desc := "(III)I", sig := { parameters := [.int, .int, .int], returnType := some .int }, accessFlags := 9, code := some k18c1 }
/-- jdk/internal/util/ArraysSupport -/
def k18 : Class := { plain "jdk/internal/util/ArraysSupport" (some 0) with
  accessFlags := 33
  interfaces := #[]
  cf := some (fileOf pool18 21 #[] #[{ accessFlags := 2, nameIndex := 9, descriptorIndex := 19, attributes := #[] }, { accessFlags := 9, nameIndex := 351, descriptorIndex := 352, attributes := #[] }] 33 16 #[] #[{ accessFlags := 24, nameIndex := 28, descriptorIndex := 29, attributes := #[] }, { accessFlags := 26, nameIndex := 38, descriptorIndex := 39, attributes := #[] }, { accessFlags := 25, nameIndex := 121, descriptorIndex := 25, attributes := #[] }, { accessFlags := 25, nameIndex := 131, descriptorIndex := 25, attributes := #[] }, { accessFlags := 25, nameIndex := 137, descriptorIndex := 25, attributes := #[] }, { accessFlags := 25, nameIndex := 143, descriptorIndex := 25, attributes := #[] }, { accessFlags := 25, nameIndex := 53, descriptorIndex := 25, attributes := #[] }, { accessFlags := 25, nameIndex := 24, descriptorIndex := 25, attributes := #[] }, { accessFlags := 25, nameIndex := 162, descriptorIndex := 25, attributes := #[] }, { accessFlags := 25, nameIndex := 187, descriptorIndex := 25, attributes := #[] }, { accessFlags := 26, nameIndex := 48, descriptorIndex := 25, attributes := #[] }, { accessFlags := 25, nameIndex := 277, descriptorIndex := 25, attributes := #[] }, { accessFlags := 25, nameIndex := 280, descriptorIndex := 25, attributes := #[] }, { accessFlags := 25, nameIndex := 282, descriptorIndex := 25, attributes := #[] }, { accessFlags := 25, nameIndex := 284, descriptorIndex := 25, attributes := #[] }, { accessFlags := 25, nameIndex := 286, descriptorIndex := 25, attributes := #[] }, { accessFlags := 25, nameIndex := 288, descriptorIndex := 25, attributes := #[] }, { accessFlags := 25, nameIndex := 290, descriptorIndex := 25, attributes := #[] }, { accessFlags := 25, nameIndex := 292, descriptorIndex := 25, attributes := #[] }, { accessFlags := 26, nameIndex := 108, descriptorIndex := 109, attributes := #[] }, { accessFlags := 25, nameIndex := 294, descriptorIndex := 25, attributes := #[] }])
  fields := #[{ name := "U", type := (.object "jdk/internal/misc/Unsafe"), accessFlags := 24, slot := 0, constantValue := 0 }, { name := "BIG_ENDIAN", type := .boolean, accessFlags := 26, slot := 1, constantValue := 0 }, { name := "LOG2_ARRAY_BOOLEAN_INDEX_SCALE", type := .int, accessFlags := 25, slot := 2, constantValue := 0 }, { name := "LOG2_ARRAY_BYTE_INDEX_SCALE", type := .int, accessFlags := 25, slot := 3, constantValue := 0 }, { name := "LOG2_ARRAY_CHAR_INDEX_SCALE", type := .int, accessFlags := 25, slot := 4, constantValue := 0 }, { name := "LOG2_ARRAY_SHORT_INDEX_SCALE", type := .int, accessFlags := 25, slot := 5, constantValue := 0 }, { name := "LOG2_ARRAY_INT_INDEX_SCALE", type := .int, accessFlags := 25, slot := 6, constantValue := 0 }, { name := "LOG2_ARRAY_LONG_INDEX_SCALE", type := .int, accessFlags := 25, slot := 7, constantValue := 0 }, { name := "LOG2_ARRAY_FLOAT_INDEX_SCALE", type := .int, accessFlags := 25, slot := 8, constantValue := 0 }, { name := "LOG2_ARRAY_DOUBLE_INDEX_SCALE", type := .int, accessFlags := 25, slot := 9, constantValue := 0 }, { name := "LOG2_BYTE_BIT_SIZE", type := .int, accessFlags := 26, slot := 10, constantValue := 0 }, { name := "T_BOOLEAN", type := .int, accessFlags := 25, slot := 11, constantValue := 0 }, { name := "T_CHAR", type := .int, accessFlags := 25, slot := 12, constantValue := 0 }, { name := "T_FLOAT", type := .int, accessFlags := 25, slot := 13, constantValue := 0 }, { name := "T_DOUBLE", type := .int, accessFlags := 25, slot := 14, constantValue := 0 }, { name := "T_BYTE", type := .int, accessFlags := 25, slot := 15, constantValue := 0 }, { name := "T_SHORT", type := .int, accessFlags := 25, slot := 16, constantValue := 0 }, { name := "T_INT", type := .int, accessFlags := 25, slot := 17, constantValue := 0 }, { name := "T_LONG", type := .int, accessFlags := 25, slot := 18, constantValue := 0 }, { name := "JLA", type := (.object "jdk/internal/access/JavaLangAccess"), accessFlags := 26, slot := 19, constantValue := 0 }, { name := "SOFT_MAX_ARRAY_LENGTH", type := .int, accessFlags := 25, slot := 20, constantValue := 0 }]
  methods := #[k18m0, k18m1]
  instanceTypes := #[]
  staticTypes := #[(.object "jdk/internal/misc/Unsafe"), .boolean, .int, .int, .int, .int, .int, .int, .int, .int, .int, .int, .int, .int, .int, .int, .int, .int, .int, (.object "jdk/internal/access/JavaLangAccess"), .int]
  resolved := Array.replicate 378 none
  statics := none }

def pool19 : Array CpInfo := pool [(1, .class_ 2), (0, u "java/lang/Math"), (1, .class_ 6), (1, u "java/lang/Object"), (0, u "<init>"), (0, u "()V"), (89, .class_ 100), (1, u "java/lang/Math$RandomNumberGeneratorHolder"), (71, u "negativeZeroFloatBits"), (0, u "J"), (2, u "negativeZeroDoubleBits"), (21, u "max"), (2, u "min"), (43, u "$assertionsDisabled"), (0, u "Z"), (88, u "(II)I"), (2, u "twoToTheDoubleScaleDown"), (0, u "D"), (4, u "twoToTheDoubleScaleUp"), (9, u "E"), (3, u "PI"), (2, u "TAU"), (2, u "DEGREES_TO_RADIANS"), (0, u "RADIANS_TO_DEGREES")] 94

def k19m0 : Method := { name := "<init>", desc := "()V", sig := { parameters := [], returnType := none }, accessFlags := 2, code := none }
def k19c1 : Code := { maxStack := 2, maxLocals := 2, code := jdk_29_method_65_code, exceptionTable := #[], attributes := #[] }
def k19m1 : Method := { name := "max", desc := "(II)I", sig := { parameters := [.int, .int], returnType := some .int }, accessFlags := 9, code := some k19c1 }
def k19c2 : Code := { maxStack := 2, maxLocals := 2, code := jdk_29_method_69_code, exceptionTable := #[], attributes := #[] }
def k19m2 : Method := { name := "min", desc := "(II)I", sig := { parameters := [.int, .int], returnType := some .int }, accessFlags := 9, code := some k19c2 }
/-- java/lang/Math -/
def k19 : Class := { plain "java/lang/Math" (some 0) with
  accessFlags := 49
  interfaces := #[]
  cf := some (fileOf pool19 1 #[.nestMembers #[98]] #[{ accessFlags := 2, nameIndex := 7, descriptorIndex := 8, attributes := #[] }, { accessFlags := 9, nameIndex := 198, descriptorIndex := 335, attributes := #[] }, { accessFlags := 9, nameIndex := 201, descriptorIndex := 335, attributes := #[] }] 49 4 #[] #[{ accessFlags := 25, nameIndex := 354, descriptorIndex := 339, attributes := #[] }, { accessFlags := 25, nameIndex := 358, descriptorIndex := 339, attributes := #[] }, { accessFlags := 25, nameIndex := 361, descriptorIndex := 339, attributes := #[] }, { accessFlags := 26, nameIndex := 364, descriptorIndex := 339, attributes := #[] }, { accessFlags := 26, nameIndex := 365, descriptorIndex := 339, attributes := #[] }, { accessFlags := 26, nameIndex := 172, descriptorIndex := 173, attributes := #[] }, { accessFlags := 26, nameIndex := 176, descriptorIndex := 173, attributes := #[] }, { accessFlags := 8, nameIndex := 344, descriptorIndex := 339, attributes := #[] }, { accessFlags := 8, nameIndex := 338, descriptorIndex := 339, attributes := #[] }, { accessFlags := 4120, nameIndex := 245, descriptorIndex := 246, attributes := #[] }])
  fields := #[{ name := "E", type := .double, accessFlags := 25, slot := 0, constantValue := 0 }, { name := "PI", type := .double, accessFlags := 25, slot := 1, constantValue := 0 }, { name := "TAU", type := .double, accessFlags := 25, slot := 2, constantValue := 0 }, { name := "DEGREES_TO_RADIANS", type := .double, accessFlags := 26, slot := 3, constantValue := 0 }, { name := "RADIANS_TO_DEGREES", type := .double, accessFlags := 26, slot := 4, constantValue := 0 }, { name := "negativeZeroFloatBits", type := .long, accessFlags := 26, slot := 5, constantValue := 0 }, { name := "negativeZeroDoubleBits", type := .long, accessFlags := 26, slot := 6, constantValue := 0 }, { name := "twoToTheDoubleScaleUp", type := .double, accessFlags := 8, slot := 7, constantValue := 0 }, { name := "twoToTheDoubleScaleDown", type := .double, accessFlags := 8, slot := 8, constantValue := 0 }, { name := "$assertionsDisabled", type := .boolean, accessFlags := 4120, slot := 9, constantValue := 0 }]
  methods := #[k19m0, k19m1, k19m2]
  instanceTypes := #[]
  staticTypes := #[.double, .double, .double, .double, .double, .long, .long, .double, .double, .boolean]
  resolved := Array.replicate 460 none
  statics := none }

def pool20 : Array CpInfo := pool [(2, .class_ 4), (1, u "java/lang/Object"), (0, u "<init>"), (0, u "()V"), (17, .class_ 26), (1, u "jdk/internal/util/Preconditions"), (28, .class_ 56), (0, u "jdk/internal/util/Preconditions$4"), (57, .class_ 115), (0, u "jdk/internal/util/Preconditions$1"), (7, u "SIOOBE_FORMATTER"), (0, u "Ljava/util/function/BiFunction;"), (0, .class_ 126), (0, u "jdk/internal/util/Preconditions$2"), (3, u "AIOOBE_FORMATTER"), (0, .class_ 132), (0, u "jdk/internal/util/Preconditions$3"), (3, u "IOOBE_FORMATTER")] 57

def k20m0 : Method := { name := "<init>", desc := "()V", sig := { parameters := [], returnType := none }, accessFlags := 1, code := none }
/-- jdk/internal/util/Preconditions -/
def k20 : Class := { plain "jdk/internal/util/Preconditions" (some 0) with
  accessFlags := 33
  interfaces := #[]
  cf := some (fileOf pool20 24 #[.nestMembers #[55, 131, 125, 114]] #[{ accessFlags := 1, nameIndex := 5, descriptorIndex := 6, attributes := #[] }] 33 2 #[] #[{ accessFlags := 25, nameIndex := 123, descriptorIndex := 124, attributes := #[] }, { accessFlags := 25, nameIndex := 130, descriptorIndex := 124, attributes := #[] }, { accessFlags := 25, nameIndex := 136, descriptorIndex := 124, attributes := #[] }])
  fields := #[{ name := "SIOOBE_FORMATTER", type := (.object "java/util/function/BiFunction"), accessFlags := 25, slot := 0, constantValue := 0 }, { name := "AIOOBE_FORMATTER", type := (.object "java/util/function/BiFunction"), accessFlags := 25, slot := 1, constantValue := 0 }, { name := "IOOBE_FORMATTER", type := (.object "java/util/function/BiFunction"), accessFlags := 25, slot := 2, constantValue := 0 }]
  methods := #[k20m0]
  instanceTypes := #[]
  staticTypes := #[(.object "java/util/function/BiFunction"), (.object "java/util/function/BiFunction"), (.object "java/util/function/BiFunction")]
  resolved := Array.replicate 194 none
  statics := some 1 }

/-- the primitive byte -/
def k21 : Class := { plain "byte" none with kind := .primitive 'B', accessFlags := 0x411 }
/-- [B -/
def k22 : Class := { plain "[B" (some 0) with kind := .array 21 .byte, interfaces := #[17, 2], accessFlags := 1041 }

/-- the primitive char -/
def k23 : Class := { plain "char" none with kind := .primitive 'C', accessFlags := 0x411 }
/-- [C -/
def k24 : Class := { plain "[C" (some 0) with kind := .array 23 .char, interfaces := #[17, 2], accessFlags := 1041 }

/-- the primitive int -/
def k25 : Class := { plain "int" none with kind := .primitive 'I', accessFlags := 0x411 }
/-- [I -/
def k26 : Class := { plain "[I" (some 0) with kind := .array 25 .int, interfaces := #[17, 2], accessFlags := 1041 }

def heap : Heap := #[{ cls := 7, slots := #[.long 0, .int 1, .null, .int 0, .null, .int 0, .int 0], vm := .statics 7 },
  { cls := 20, slots := #[.null, .null, .null], vm := .statics 20 }]
def classes : Array Class := #[k0, k1, k2, k3, k4, k5, k6, k7, k8, k9, k10, k11, k12, k13, k14, k15, k16, k17, k18, k19, k20, k21, k22, k23, k24, k25, k26]
def interned : List (Array UInt16 × Addr) := []
def slotsUsed : Nat := 10
def theMethod : MethodId := ⟨1, 1⟩
def args0 : Array Value := #[.int 5, .int 5, .int 5, .int 5]
def aboutOver (below : List Frame) : State where
  vm := { classes := classes, interned := interned.toArray }
  heap := heap
  slotsUsed := slotsUsed
  threads := #[{ frames := .invoking theMethod args0 :: below }]
def below0 : List Frame := [.native { method := ⟨0, 0⟩, args := #[] }]
def about1 : State := aboutOver below0
def p0 : Program := .bare "" "" ""
def e0 : Env := launch0.env 0 0 0
theorem w_frames : about1.frames = Frame.invoking theMethod args0 :: below0 := rfl
set_option maxRecDepth 65536 in
theorem w_args : argsFit about1.vm theMethod args0 = true := by decide +kernel
set_option maxRecDepth 65536 in
theorem w_heap : heapFits about1 = true := by decide +kernel
set_option maxRecDepth 65536 in
theorem w_runnable : about1.curStatus? = some .runnable := by decide +kernel
set_option maxRecDepth 65536 in
theorem w_alone : about1.alone = true := by decide +kernel
set_option maxRecDepth 65536 in
theorem w_named : about1.methodNamed? x = some theMethod := by decide +kernel
set_option maxRecDepth 65536 in
theorem w_hears : about1.hears theMethod below0 = true := by decide +kernel
set_option maxRecDepth 65536 in
theorem w_ripe : about1.ripe theMethod args0 below0 = true := by decide +kernel
theorem w_running : about1.status = .running := rfl
set_option maxRecDepth 65536 in
theorem w_room : about1.hasRoom e0.platform room_1 = true :=
  launch0.hasRoom_least _ room_1 (by decide +kernel) (by decide +kernel) (by decide +kernel) (by decide +kernel) (by decide +kernel) (by decide +kernel)
theorem allAtoms_all (ts : List Jvm.Cond) (a : Array Jvm.Value) (st : Jvm.State) : (allAtoms ts).before a st = ts.all (fun c => c.before a st) := by
  induction ts with
  | nil => rfl
  | cons c t ih =>
    show (Jvm.Cond.and c (allAtoms t)).before a st = _
    rw [Jvm.Cond.before_and, ih, List.all_cons]
def words1 : List Jvm.Cond := Jvm.Cond.code x code maxLocals ret :: tables_1
/-- a 'code' word, met by the world's own term for the bytes: nothing is compared byte by byte -/
theorem code_word {y : MethodName} {bytes : ByteArray} {mx : Nat} {rt : Option FieldType} {a : Array Value} {s : State} {m : MethodId} {meth : Method} {c : Code} (h1 : s.methodNamed? y = some m) (h2 : s.vm.method? m = some meth) (h3 : meth.code = some c) (h4 : c.code = bytes)
    (h5 : (c.maxLocals == mx && c.exceptionTable.isEmpty && decide (c.maxStack ≤ mostOperands) && decide (meth.sig.returnType = rt) && !meth.locks && decide (parseMethodDescriptor y.desc = some meth.sig)) = true) : (Jvm.Cond.code y bytes mx rt).before a s = true := by
  simp only [Bool.and_eq_true, beq_iff_eq, Bool.not_eq_true', decide_eq_true_eq] at h5
  obtain ⟨⟨⟨⟨⟨g1, g2⟩, g3⟩, g4⟩, g5⟩, g6⟩ := h5
  simp [Cond.before, Cond.holds, Cond.value, h1, h2, h3, h4, g1, g2, g3, g4, g5, g6]
def isCode : Jvm.Cond → Bool
  | .code _ _ _ _ => true
  | _ => false
theorem all_split {L : List Jvm.Cond} {P : Jvm.Cond → Bool} (h1 : L.all (fun c => isCode c || P c) = true) (h2 : ∀ c ∈ L.filter isCode, P c = true) : L.all P = true := by
  refine List.all_eq_true.mpr fun c hc => ?_
  have h := List.all_eq_true.mp h1 c hc
  rcases Bool.eq_false_or_eq_true (isCode c) with hi | hi
  · exact h2 c (List.mem_filter.mpr ⟨hc, hi⟩)
  · simpa [hi] using h
set_option maxRecDepth 65536 in
theorem w_c0 : (Jvm.Cond.code x code maxLocals ret).before args0 about1 = true := code_word (m := ⟨1, 1⟩) (meth := k1m1) (c := k1c1) (by decide +kernel) rfl rfl rfl (by decide +kernel)
set_option maxRecDepth 65536 in
theorem w_c1 : (Jvm.Cond.code ({ cls := "java/lang/String", name := "valueOf", desc := "(C)Ljava/lang/String;" } : Jvm.MethodName) jdk_42_method_139_code (1 : Nat) (Option.some (Jvm.ClassFile.FieldType.object "java/lang/String"))).before args0 about1 = true := code_word (m := ⟨7, 5⟩) (meth := k7m5) (c := k7c5) (by decide +kernel) rfl rfl rfl (by decide +kernel)
set_option maxRecDepth 65536 in
theorem w_c2 : (Jvm.Cond.code ({ cls := "java/lang/StringLatin1", name := "canEncode", desc := "(C)Z" } : Jvm.MethodName) jdk_43_method_3_code (1 : Nat) (Option.some Jvm.ClassFile.FieldType.boolean)).before args0 about1 = true := code_word (m := ⟨8, 1⟩) (meth := k8m1) (c := k8c1) (by decide +kernel) rfl rfl rfl (by decide +kernel)
set_option maxRecDepth 65536 in
theorem w_c3 : (Jvm.Cond.code ({ cls := "java/lang/StringLatin1", name := "toBytes", desc := "(C)[B" } : Jvm.MethodName) jdk_43_method_46_code (1 : Nat) (Option.some (Jvm.ClassFile.FieldType.array Jvm.ClassFile.FieldType.byte))).before args0 about1 = true := code_word (m := ⟨8, 3⟩) (meth := k8m3) (c := k8c3) (by decide +kernel) rfl rfl rfl (by decide +kernel)
set_option maxRecDepth 65536 in
theorem w_c4 : (Jvm.Cond.code ({ cls := "java/lang/String", name := "<init>", desc := "([BB)V" } : Jvm.MethodName) jdk_42_method_151_code (3 : Nat) (Option.none : Option Jvm.ClassFile.FieldType)).before args0 about1 = true := code_word (m := ⟨7, 9⟩) (meth := k7m9) (c := k7c9) (by decide +kernel) rfl rfl rfl (by decide +kernel)
set_option maxRecDepth 65536 in
theorem w_c5 : (Jvm.Cond.code ({ cls := "java/lang/Object", name := "<init>", desc := "()V" } : Jvm.MethodName) object_method_1_code (1 : Nat) (Option.none : Option Jvm.ClassFile.FieldType)).before args0 about1 = true := code_word (m := ⟨0, 0⟩) (meth := k0m0) (c := k0c0) (by decide +kernel) rfl rfl rfl (by decide +kernel)
set_option maxRecDepth 65536 in
theorem w_c6 : (Jvm.Cond.code ({ cls := "java/lang/String", name := "<init>", desc := "([C)V" } : Jvm.MethodName) jdk_42_method_3_code (2 : Nat) (Option.none : Option Jvm.ClassFile.FieldType)).before args0 about1 = true := code_word (m := ⟨7, 1⟩) (meth := k7m1) (c := k7c1) (by decide +kernel) rfl rfl rfl (by decide +kernel)
set_option maxRecDepth 65536 in
theorem w_c7 : (Jvm.Cond.code ({ cls := "java/lang/String", name := "<init>", desc := "([CIILjava/lang/Void;)V" } : Jvm.MethodName) jdk_42_method_149_code (6 : Nat) (Option.none : Option Jvm.ClassFile.FieldType)).before args0 about1 = true := code_word (m := ⟨7, 7⟩) (meth := k7m7) (c := k7c7) (by decide +kernel) rfl rfl rfl (by decide +kernel)
set_option maxRecDepth 65536 in
theorem w_c8 : (Jvm.Cond.code ({ cls := "java/lang/StringUTF16", name := "compress", desc := "([CII)[B" } : Jvm.MethodName) jdk_52_method_16_code (6 : Nat) (Option.some (Jvm.ClassFile.FieldType.array Jvm.ClassFile.FieldType.byte))).before args0 about1 = true := code_word (m := ⟨9, 2⟩) (meth := k9m2) (c := k9c2) (by decide +kernel) rfl rfl rfl (by decide +kernel)
set_option maxRecDepth 65536 in
theorem w_c9 : (Jvm.Cond.code ({ cls := "java/lang/StringUTF16", name := "compress", desc := "([CI[BII)I" } : Jvm.MethodName) jdk_52_method_21_code (7 : Nat) (Option.some Jvm.ClassFile.FieldType.int)).before args0 about1 = true := code_word (m := ⟨9, 3⟩) (meth := k9m3) (c := k9c3) (by decide +kernel) rfl rfl rfl (by decide +kernel)
set_option maxRecDepth 65536 in
theorem w_c10 : (Jvm.Cond.code ({ cls := "java/lang/StringUTF16", name := "coderFromArrayLen", desc := "([BI)B" } : Jvm.MethodName) jdk_52_method_15_code (2 : Nat) (Option.some Jvm.ClassFile.FieldType.byte)).before args0 about1 = true := code_word (m := ⟨9, 1⟩) (meth := k9m1) (c := k9c1) (by decide +kernel) rfl rfl rfl (by decide +kernel)
set_option maxRecDepth 65536 in
theorem w_c11 : (Jvm.Cond.code ({ cls := "com/example/research_access_policy/researchaccesspolicy/rules/Decision", name := "beamlineAdmin", desc := "(Ljava/lang/String;)Lcom/example/research_access_policy/researchaccesspolicy/rules/Decision;" } : Jvm.MethodName) prog_12_method_2_code (1 : Nat) (Option.some (Jvm.ClassFile.FieldType.object "com/example/research_access_policy/researchaccesspolicy/rules/Decision"))).before args0 about1 = true := code_word (m := ⟨11, 1⟩) (meth := k11m1) (c := k11c1) (by decide +kernel) rfl rfl rfl (by decide +kernel)
set_option maxRecDepth 65536 in
theorem w_c12 : (Jvm.Cond.code ({ cls := "java/lang/StringBuilder", name := "<init>", desc := "()V" } : Jvm.MethodName) jdk_67_method_1_code (1 : Nat) (Option.none : Option Jvm.ClassFile.FieldType)).before args0 about1 = true := code_word (m := ⟨14, 0⟩) (meth := k14m0) (c := k14c0) (by decide +kernel) rfl rfl rfl (by decide +kernel)
set_option maxRecDepth 65536 in
theorem w_c13 : (Jvm.Cond.code ({ cls := "java/lang/AbstractStringBuilder", name := "<init>", desc := "(I)V" } : Jvm.MethodName) jdk_68_method_2_code (2 : Nat) (Option.none : Option Jvm.ClassFile.FieldType)).before args0 about1 = true := code_word (m := ⟨13, 1⟩) (meth := k13m1) (c := k13c1) (by decide +kernel) rfl rfl rfl (by decide +kernel)
set_option maxRecDepth 65536 in
theorem w_c14 : (Jvm.Cond.code ({ cls := "java/lang/StringBuilder", name := "append", desc := "(Ljava/lang/String;)Ljava/lang/StringBuilder;" } : Jvm.MethodName) jdk_67_method_7_code (2 : Nat) (Option.some (Jvm.ClassFile.FieldType.object "java/lang/StringBuilder"))).before args0 about1 = true := code_word (m := ⟨14, 1⟩) (meth := k14m1) (c := k14c1) (by decide +kernel) rfl rfl rfl (by decide +kernel)
set_option maxRecDepth 65536 in
theorem w_c15 : (Jvm.Cond.code ({ cls := "java/lang/AbstractStringBuilder", name := "append", desc := "(Ljava/lang/String;)Ljava/lang/AbstractStringBuilder;" } : Jvm.MethodName) jdk_68_method_22_code (3 : Nat) (Option.some (Jvm.ClassFile.FieldType.object "java/lang/AbstractStringBuilder"))).before args0 about1 = true := code_word (m := ⟨13, 5⟩) (meth := k13m5) (c := k13c5) (by decide +kernel) rfl rfl rfl (by decide +kernel)
set_option maxRecDepth 65536 in
theorem w_c16 : (Jvm.Cond.code ({ cls := "java/lang/String", name := "length", desc := "()I" } : Jvm.MethodName) jdk_42_method_54_code (1 : Nat) (Option.some Jvm.ClassFile.FieldType.int)).before args0 about1 = true := code_word (m := ⟨7, 3⟩) (meth := k7m3) (c := k7c3) (by decide +kernel) rfl rfl rfl (by decide +kernel)
set_option maxRecDepth 65536 in
theorem w_c17 : (Jvm.Cond.code ({ cls := "java/lang/String", name := "coder", desc := "()B" } : Jvm.MethodName) jdk_42_method_152_code (1 : Nat) (Option.some Jvm.ClassFile.FieldType.byte)).before args0 about1 = true := code_word (m := ⟨7, 10⟩) (meth := k7m10) (c := k7c10) (by decide +kernel) rfl rfl rfl (by decide +kernel)
set_option maxRecDepth 65536 in
theorem w_c18 : (Jvm.Cond.code ({ cls := "java/lang/AbstractStringBuilder", name := "ensureCapacityInternal", desc := "(I)V" } : Jvm.MethodName) jdk_68_method_9_code (3 : Nat) (Option.none : Option Jvm.ClassFile.FieldType)).before args0 about1 = true := code_word (m := ⟨13, 3⟩) (meth := k13m3) (c := k13c3) (by decide +kernel) rfl rfl rfl (by decide +kernel)
set_option maxRecDepth 65536 in
theorem w_c19 : (Jvm.Cond.code ({ cls := "java/lang/AbstractStringBuilder", name := "putStringAt", desc := "(ILjava/lang/String;)V" } : Jvm.MethodName) jdk_68_method_73_code (3 : Nat) (Option.none : Option Jvm.ClassFile.FieldType)).before args0 about1 = true := code_word (m := ⟨13, 9⟩) (meth := k13m9) (c := k13c9) (by decide +kernel) rfl rfl rfl (by decide +kernel)
set_option maxRecDepth 65536 in
theorem w_c20 : (Jvm.Cond.code ({ cls := "java/lang/AbstractStringBuilder", name := "inflateIfNeededFor", desc := "(Ljava/lang/String;)V" } : Jvm.MethodName) jdk_68_method_71_code (2 : Nat) (Option.none : Option Jvm.ClassFile.FieldType)).before args0 about1 = true := code_word (m := ⟨13, 8⟩) (meth := k13m8) (c := k13c8) (by decide +kernel) rfl rfl rfl (by decide +kernel)
set_option maxRecDepth 65536 in
theorem w_c21 : (Jvm.Cond.code ({ cls := "java/lang/String", name := "getBytes", desc := "([BIB)V" } : Jvm.MethodName) jdk_42_method_147_code (4 : Nat) (Option.none : Option Jvm.ClassFile.FieldType)).before args0 about1 = true := code_word (m := ⟨7, 6⟩) (meth := k7m6) (c := k7c6) (by decide +kernel) rfl rfl rfl (by decide +kernel)
set_option maxRecDepth 65536 in
theorem w_c22 : (Jvm.Cond.code ({ cls := "java/lang/StringBuilder", name := "toString", desc := "()Ljava/lang/String;" } : Jvm.MethodName) jdk_67_method_42_code (1 : Nat) (Option.some (Jvm.ClassFile.FieldType.object "java/lang/String"))).before args0 about1 = true := code_word (m := ⟨14, 2⟩) (meth := k14m2) (c := k14c2) (by decide +kernel) rfl rfl rfl (by decide +kernel)
set_option maxRecDepth 65536 in
theorem w_c23 : (Jvm.Cond.code ({ cls := "java/lang/String", name := "<init>", desc := "(Ljava/lang/StringBuilder;)V" } : Jvm.MethodName) jdk_42_method_53_code (2 : Nat) (Option.none : Option Jvm.ClassFile.FieldType)).before args0 about1 = true := code_word (m := ⟨7, 2⟩) (meth := k7m2) (c := k7c2) (by decide +kernel) rfl rfl rfl (by decide +kernel)
set_option maxRecDepth 65536 in
theorem w_c24 : (Jvm.Cond.code ({ cls := "java/lang/String", name := "<init>", desc := "(Ljava/lang/AbstractStringBuilder;Ljava/lang/Void;)V" } : Jvm.MethodName) jdk_42_method_150_code (5 : Nat) (Option.none : Option Jvm.ClassFile.FieldType)).before args0 about1 = true := code_word (m := ⟨7, 8⟩) (meth := k7m8) (c := k7c8) (by decide +kernel) rfl rfl rfl (by decide +kernel)
set_option maxRecDepth 65536 in
theorem w_c25 : (Jvm.Cond.code ({ cls := "java/lang/AbstractStringBuilder", name := "getValue", desc := "()[B" } : Jvm.MethodName) jdk_68_method_64_code (1 : Nat) (Option.some (Jvm.ClassFile.FieldType.array Jvm.ClassFile.FieldType.byte))).before args0 about1 = true := code_word (m := ⟨13, 6⟩) (meth := k13m6) (c := k13c6) (by decide +kernel) rfl rfl rfl (by decide +kernel)
set_option maxRecDepth 65536 in
theorem w_c26 : (Jvm.Cond.code ({ cls := "java/lang/StringBuilder", name := "length", desc := "()I" } : Jvm.MethodName) jdk_67_method_93_code (1 : Nat) (Option.some Jvm.ClassFile.FieldType.int)).before args0 about1 = true := code_word (m := ⟨14, 3⟩) (meth := k14m3) (c := k14c3) (by decide +kernel) rfl rfl rfl (by decide +kernel)
set_option maxRecDepth 65536 in
theorem w_c27 : (Jvm.Cond.code ({ cls := "java/lang/AbstractStringBuilder", name := "length", desc := "()I" } : Jvm.MethodName) jdk_68_method_6_code (1 : Nat) (Option.some Jvm.ClassFile.FieldType.int)).before args0 about1 = true := code_word (m := ⟨13, 2⟩) (meth := k13m2) (c := k13c2) (by decide +kernel) rfl rfl rfl (by decide +kernel)
set_option maxRecDepth 65536 in
theorem w_c28 : (Jvm.Cond.code ({ cls := "java/lang/AbstractStringBuilder", name := "isLatin1", desc := "()Z" } : Jvm.MethodName) jdk_68_method_68_code (1 : Nat) (Option.some Jvm.ClassFile.FieldType.boolean)).before args0 about1 = true := code_word (m := ⟨13, 7⟩) (meth := k13m7) (c := k13c7) (by decide +kernel) rfl rfl rfl (by decide +kernel)
set_option maxRecDepth 65536 in
theorem w_c29 : (Jvm.Cond.code ({ cls := "java/util/Arrays", name := "copyOfRange", desc := "([BII)[B" } : Jvm.MethodName) jdk_65_method_132_code (3 : Nat) (Option.some (Jvm.ClassFile.FieldType.array Jvm.ClassFile.FieldType.byte))).before args0 about1 = true := code_word (m := ⟨16, 3⟩) (meth := k16m3) (c := k16c3) (by decide +kernel) rfl rfl rfl (by decide +kernel)
set_option maxRecDepth 65536 in
theorem w_c30 : (Jvm.Cond.code ({ cls := "com/example/research_access_policy/researchaccesspolicy/rules/Decision", name := "<init>", desc := "(ZLjava/lang/String;)V" } : Jvm.MethodName) prog_12_method_1_code (3 : Nat) (Option.none : Option Jvm.ClassFile.FieldType)).before args0 about1 = true := code_word (m := ⟨11, 0⟩) (meth := k11m0) (c := k11c0) (by decide +kernel) rfl rfl rfl (by decide +kernel)
set_option maxRecDepth 65536 in
theorem w_c31 : (Jvm.Cond.code ({ cls := "java/lang/Record", name := "<init>", desc := "()V" } : Jvm.MethodName) jdk_30_method_1_code (1 : Nat) (Option.none : Option Jvm.ClassFile.FieldType)).before args0 about1 = true := code_word (m := ⟨10, 0⟩) (meth := k10m0) (c := k10c0) (by decide +kernel) rfl rfl rfl (by decide +kernel)
set_option maxRecDepth 65536 in
theorem w_c32 : (Jvm.Cond.code ({ cls := "com/example/research_access_policy/researchaccesspolicy/rules/Decision", name := "reason", desc := "()Ljava/lang/String;" } : Jvm.MethodName) prog_12_method_8_code (1 : Nat) (Option.some (Jvm.ClassFile.FieldType.object "java/lang/String"))).before args0 about1 = true := code_word (m := ⟨11, 3⟩) (meth := k11m3) (c := k11c3) (by decide +kernel) rfl rfl rfl (by decide +kernel)
set_option maxRecDepth 65536 in
theorem w_c33 : (Jvm.Cond.code ({ cls := "com/example/research_access_policy/researchaccesspolicy/rules/Decision", name := "allowed", desc := "()Z" } : Jvm.MethodName) prog_12_method_7_code (1 : Nat) (Option.some Jvm.ClassFile.FieldType.boolean)).before args0 about1 = true := code_word (m := ⟨11, 2⟩) (meth := k11m2) (c := k11c2) (by decide +kernel) rfl rfl rfl (by decide +kernel)
set_option maxRecDepth 65536 in
theorem w_c34 : (Jvm.Cond.code ({ cls := "java/lang/String", name := "equals", desc := "(Ljava/lang/Object;)Z" } : Jvm.MethodName) jdk_42_method_66_code (3 : Nat) (Option.some Jvm.ClassFile.FieldType.boolean)).before args0 about1 = true := code_word (m := ⟨7, 4⟩) (meth := k7m4) (c := k7c4) (by decide +kernel) rfl rfl rfl (by decide +kernel)
set_option maxRecDepth 65536 in
theorem w_c35 : (Jvm.Cond.code ({ cls := "java/lang/StringLatin1", name := "equals", desc := "([B[B)Z" } : Jvm.MethodName) jdk_43_method_13_code (3 : Nat) (Option.some Jvm.ClassFile.FieldType.boolean)).before args0 about1 = true := code_word (m := ⟨8, 2⟩) (meth := k8m2) (c := k8c2) (by decide +kernel) rfl rfl rfl (by decide +kernel)
set_option maxRecDepth 65536 in
theorem w_c36 : (Jvm.Cond.code ({ cls := "java/lang/AbstractStringBuilder", name := "newCapacity", desc := "(I)I" } : Jvm.MethodName) jdk_68_method_10_code (6 : Nat) (Option.some Jvm.ClassFile.FieldType.int)).before args0 about1 = true := code_word (m := ⟨13, 4⟩) (meth := k13m4) (c := k13c4) (by decide +kernel) rfl rfl rfl (by decide +kernel)
set_option maxRecDepth 65536 in
theorem w_c37 : (Jvm.Cond.code ({ cls := "jdk/internal/util/ArraysSupport", name := "newLength", desc := "(III)I" } : Jvm.MethodName) jdk_48_method_27_code (4 : Nat) (Option.some Jvm.ClassFile.FieldType.int)).before args0 about1 = true := code_word (m := ⟨18, 1⟩) (meth := k18m1) (c := k18c1) (by decide +kernel) rfl rfl rfl (by decide +kernel)
set_option maxRecDepth 65536 in
theorem w_c38 : (Jvm.Cond.code ({ cls := "java/lang/Math", name := "max", desc := "(II)I" } : Jvm.MethodName) jdk_29_method_65_code (2 : Nat) (Option.some Jvm.ClassFile.FieldType.int)).before args0 about1 = true := code_word (m := ⟨19, 1⟩) (meth := k19m1) (c := k19c1) (by decide +kernel) rfl rfl rfl (by decide +kernel)
set_option maxRecDepth 65536 in
theorem w_c39 : (Jvm.Cond.code ({ cls := "java/util/Arrays", name := "copyOf", desc := "([BI)[B" } : Jvm.MethodName) jdk_65_method_121_code (3 : Nat) (Option.some (Jvm.ClassFile.FieldType.array Jvm.ClassFile.FieldType.byte))).before args0 about1 = true := code_word (m := ⟨16, 1⟩) (meth := k16m1) (c := k16c1) (by decide +kernel) rfl rfl rfl (by decide +kernel)
set_option maxRecDepth 65536 in
theorem w_c40 : (Jvm.Cond.code ({ cls := "java/lang/Math", name := "min", desc := "(II)I" } : Jvm.MethodName) jdk_29_method_69_code (2 : Nat) (Option.some Jvm.ClassFile.FieldType.int)).before args0 about1 = true := code_word (m := ⟨19, 2⟩) (meth := k19m2) (c := k19c2) (by decide +kernel) rfl rfl rfl (by decide +kernel)
set_option maxRecDepth 65536 in
theorem w_c41 : (Jvm.Cond.code ({ cls := "java/util/Arrays", name := "copyOfRangeByte", desc := "([BII)[B" } : Jvm.MethodName) jdk_65_method_133_code (5 : Nat) (Option.some (Jvm.ClassFile.FieldType.array Jvm.ClassFile.FieldType.byte))).before args0 about1 = true := code_word (m := ⟨16, 4⟩) (meth := k16m4) (c := k16c4) (by decide +kernel) rfl rfl rfl (by decide +kernel)
set_option maxRecDepth 65536 in
theorem w_c42 : (Jvm.Cond.code ({ cls := "java/util/Arrays", name := "checkLength", desc := "(II)V" } : Jvm.MethodName) jdk_65_method_131_code (2 : Nat) (Option.none : Option Jvm.ClassFile.FieldType)).before args0 about1 = true := code_word (m := ⟨16, 2⟩) (meth := k16m2) (c := k16c2) (by decide +kernel) rfl rfl rfl (by decide +kernel)
def codes1 : List Jvm.Cond := [Jvm.Cond.code x code maxLocals ret, Jvm.Cond.code ({ cls := "java/lang/String", name := "valueOf", desc := "(C)Ljava/lang/String;" } : Jvm.MethodName) jdk_42_method_139_code (1 : Nat) (Option.some (Jvm.ClassFile.FieldType.object "java/lang/String")), Jvm.Cond.code ({ cls := "java/lang/StringLatin1", name := "canEncode", desc := "(C)Z" } : Jvm.MethodName) jdk_43_method_3_code (1 : Nat) (Option.some Jvm.ClassFile.FieldType.boolean), Jvm.Cond.code ({ cls := "java/lang/StringLatin1", name := "toBytes", desc := "(C)[B" } : Jvm.MethodName) jdk_43_method_46_code (1 : Nat) (Option.some (Jvm.ClassFile.FieldType.array Jvm.ClassFile.FieldType.byte)), Jvm.Cond.code ({ cls := "java/lang/String", name := "<init>", desc := "([BB)V" } : Jvm.MethodName) jdk_42_method_151_code (3 : Nat) (Option.none : Option Jvm.ClassFile.FieldType), Jvm.Cond.code ({ cls := "java/lang/Object", name := "<init>", desc := "()V" } : Jvm.MethodName) object_method_1_code (1 : Nat) (Option.none : Option Jvm.ClassFile.FieldType), Jvm.Cond.code ({ cls := "java/lang/String", name := "<init>", desc := "([C)V" } : Jvm.MethodName) jdk_42_method_3_code (2 : Nat) (Option.none : Option Jvm.ClassFile.FieldType), Jvm.Cond.code ({ cls := "java/lang/String", name := "<init>", desc := "([CIILjava/lang/Void;)V" } : Jvm.MethodName) jdk_42_method_149_code (6 : Nat) (Option.none : Option Jvm.ClassFile.FieldType), Jvm.Cond.code ({ cls := "java/lang/StringUTF16", name := "compress", desc := "([CII)[B" } : Jvm.MethodName) jdk_52_method_16_code (6 : Nat) (Option.some (Jvm.ClassFile.FieldType.array Jvm.ClassFile.FieldType.byte)), Jvm.Cond.code ({ cls := "java/lang/StringUTF16", name := "compress", desc := "([CI[BII)I" } : Jvm.MethodName) jdk_52_method_21_code (7 : Nat) (Option.some Jvm.ClassFile.FieldType.int), Jvm.Cond.code ({ cls := "java/lang/StringUTF16", name := "coderFromArrayLen", desc := "([BI)B" } : Jvm.MethodName) jdk_52_method_15_code (2 : Nat) (Option.some Jvm.ClassFile.FieldType.byte), Jvm.Cond.code ({ cls := "com/example/research_access_policy/researchaccesspolicy/rules/Decision", name := "beamlineAdmin", desc := "(Ljava/lang/String;)Lcom/example/research_access_policy/researchaccesspolicy/rules/Decision;" } : Jvm.MethodName) prog_12_method_2_code (1 : Nat) (Option.some (Jvm.ClassFile.FieldType.object "com/example/research_access_policy/researchaccesspolicy/rules/Decision")), Jvm.Cond.code ({ cls := "java/lang/StringBuilder", name := "<init>", desc := "()V" } : Jvm.MethodName) jdk_67_method_1_code (1 : Nat) (Option.none : Option Jvm.ClassFile.FieldType), Jvm.Cond.code ({ cls := "java/lang/AbstractStringBuilder", name := "<init>", desc := "(I)V" } : Jvm.MethodName) jdk_68_method_2_code (2 : Nat) (Option.none : Option Jvm.ClassFile.FieldType), Jvm.Cond.code ({ cls := "java/lang/StringBuilder", name := "append", desc := "(Ljava/lang/String;)Ljava/lang/StringBuilder;" } : Jvm.MethodName) jdk_67_method_7_code (2 : Nat) (Option.some (Jvm.ClassFile.FieldType.object "java/lang/StringBuilder")), Jvm.Cond.code ({ cls := "java/lang/AbstractStringBuilder", name := "append", desc := "(Ljava/lang/String;)Ljava/lang/AbstractStringBuilder;" } : Jvm.MethodName) jdk_68_method_22_code (3 : Nat) (Option.some (Jvm.ClassFile.FieldType.object "java/lang/AbstractStringBuilder")), Jvm.Cond.code ({ cls := "java/lang/String", name := "length", desc := "()I" } : Jvm.MethodName) jdk_42_method_54_code (1 : Nat) (Option.some Jvm.ClassFile.FieldType.int), Jvm.Cond.code ({ cls := "java/lang/String", name := "coder", desc := "()B" } : Jvm.MethodName) jdk_42_method_152_code (1 : Nat) (Option.some Jvm.ClassFile.FieldType.byte), Jvm.Cond.code ({ cls := "java/lang/AbstractStringBuilder", name := "ensureCapacityInternal", desc := "(I)V" } : Jvm.MethodName) jdk_68_method_9_code (3 : Nat) (Option.none : Option Jvm.ClassFile.FieldType), Jvm.Cond.code ({ cls := "java/lang/AbstractStringBuilder", name := "putStringAt", desc := "(ILjava/lang/String;)V" } : Jvm.MethodName) jdk_68_method_73_code (3 : Nat) (Option.none : Option Jvm.ClassFile.FieldType), Jvm.Cond.code ({ cls := "java/lang/AbstractStringBuilder", name := "inflateIfNeededFor", desc := "(Ljava/lang/String;)V" } : Jvm.MethodName) jdk_68_method_71_code (2 : Nat) (Option.none : Option Jvm.ClassFile.FieldType), Jvm.Cond.code ({ cls := "java/lang/String", name := "getBytes", desc := "([BIB)V" } : Jvm.MethodName) jdk_42_method_147_code (4 : Nat) (Option.none : Option Jvm.ClassFile.FieldType), Jvm.Cond.code ({ cls := "java/lang/StringBuilder", name := "toString", desc := "()Ljava/lang/String;" } : Jvm.MethodName) jdk_67_method_42_code (1 : Nat) (Option.some (Jvm.ClassFile.FieldType.object "java/lang/String")), Jvm.Cond.code ({ cls := "java/lang/String", name := "<init>", desc := "(Ljava/lang/StringBuilder;)V" } : Jvm.MethodName) jdk_42_method_53_code (2 : Nat) (Option.none : Option Jvm.ClassFile.FieldType), Jvm.Cond.code ({ cls := "java/lang/String", name := "<init>", desc := "(Ljava/lang/AbstractStringBuilder;Ljava/lang/Void;)V" } : Jvm.MethodName) jdk_42_method_150_code (5 : Nat) (Option.none : Option Jvm.ClassFile.FieldType), Jvm.Cond.code ({ cls := "java/lang/AbstractStringBuilder", name := "getValue", desc := "()[B" } : Jvm.MethodName) jdk_68_method_64_code (1 : Nat) (Option.some (Jvm.ClassFile.FieldType.array Jvm.ClassFile.FieldType.byte)), Jvm.Cond.code ({ cls := "java/lang/StringBuilder", name := "length", desc := "()I" } : Jvm.MethodName) jdk_67_method_93_code (1 : Nat) (Option.some Jvm.ClassFile.FieldType.int), Jvm.Cond.code ({ cls := "java/lang/AbstractStringBuilder", name := "length", desc := "()I" } : Jvm.MethodName) jdk_68_method_6_code (1 : Nat) (Option.some Jvm.ClassFile.FieldType.int), Jvm.Cond.code ({ cls := "java/lang/AbstractStringBuilder", name := "isLatin1", desc := "()Z" } : Jvm.MethodName) jdk_68_method_68_code (1 : Nat) (Option.some Jvm.ClassFile.FieldType.boolean), Jvm.Cond.code ({ cls := "java/util/Arrays", name := "copyOfRange", desc := "([BII)[B" } : Jvm.MethodName) jdk_65_method_132_code (3 : Nat) (Option.some (Jvm.ClassFile.FieldType.array Jvm.ClassFile.FieldType.byte)), Jvm.Cond.code ({ cls := "com/example/research_access_policy/researchaccesspolicy/rules/Decision", name := "<init>", desc := "(ZLjava/lang/String;)V" } : Jvm.MethodName) prog_12_method_1_code (3 : Nat) (Option.none : Option Jvm.ClassFile.FieldType), Jvm.Cond.code ({ cls := "java/lang/Record", name := "<init>", desc := "()V" } : Jvm.MethodName) jdk_30_method_1_code (1 : Nat) (Option.none : Option Jvm.ClassFile.FieldType), Jvm.Cond.code ({ cls := "com/example/research_access_policy/researchaccesspolicy/rules/Decision", name := "reason", desc := "()Ljava/lang/String;" } : Jvm.MethodName) prog_12_method_8_code (1 : Nat) (Option.some (Jvm.ClassFile.FieldType.object "java/lang/String")), Jvm.Cond.code ({ cls := "com/example/research_access_policy/researchaccesspolicy/rules/Decision", name := "allowed", desc := "()Z" } : Jvm.MethodName) prog_12_method_7_code (1 : Nat) (Option.some Jvm.ClassFile.FieldType.boolean), Jvm.Cond.code ({ cls := "java/lang/String", name := "equals", desc := "(Ljava/lang/Object;)Z" } : Jvm.MethodName) jdk_42_method_66_code (3 : Nat) (Option.some Jvm.ClassFile.FieldType.boolean), Jvm.Cond.code ({ cls := "java/lang/StringLatin1", name := "equals", desc := "([B[B)Z" } : Jvm.MethodName) jdk_43_method_13_code (3 : Nat) (Option.some Jvm.ClassFile.FieldType.boolean), Jvm.Cond.code ({ cls := "java/lang/AbstractStringBuilder", name := "newCapacity", desc := "(I)I" } : Jvm.MethodName) jdk_68_method_10_code (6 : Nat) (Option.some Jvm.ClassFile.FieldType.int), Jvm.Cond.code ({ cls := "jdk/internal/util/ArraysSupport", name := "newLength", desc := "(III)I" } : Jvm.MethodName) jdk_48_method_27_code (4 : Nat) (Option.some Jvm.ClassFile.FieldType.int), Jvm.Cond.code ({ cls := "java/lang/Math", name := "max", desc := "(II)I" } : Jvm.MethodName) jdk_29_method_65_code (2 : Nat) (Option.some Jvm.ClassFile.FieldType.int), Jvm.Cond.code ({ cls := "java/util/Arrays", name := "copyOf", desc := "([BI)[B" } : Jvm.MethodName) jdk_65_method_121_code (3 : Nat) (Option.some (Jvm.ClassFile.FieldType.array Jvm.ClassFile.FieldType.byte)), Jvm.Cond.code ({ cls := "java/lang/Math", name := "min", desc := "(II)I" } : Jvm.MethodName) jdk_29_method_69_code (2 : Nat) (Option.some Jvm.ClassFile.FieldType.int), Jvm.Cond.code ({ cls := "java/util/Arrays", name := "copyOfRangeByte", desc := "([BII)[B" } : Jvm.MethodName) jdk_65_method_133_code (5 : Nat) (Option.some (Jvm.ClassFile.FieldType.array Jvm.ClassFile.FieldType.byte)), Jvm.Cond.code ({ cls := "java/util/Arrays", name := "checkLength", desc := "(II)V" } : Jvm.MethodName) jdk_65_method_131_code (2 : Nat) (Option.none : Option Jvm.ClassFile.FieldType)]
set_option maxRecDepth 65536 in
theorem codes_eq : words1.filter isCode = codes1 := rfl
theorem w_codes : ∀ c ∈ words1.filter isCode, c.before args0 about1 = true := by
  rw [codes_eq]
  intro c hc
  simp only [codes1, List.mem_cons, List.not_mem_nil, or_false] at hc
  rcases hc with rfl | rfl | rfl | rfl | rfl | rfl | rfl | rfl | rfl | rfl | rfl | rfl | rfl | rfl | rfl | rfl | rfl | rfl | rfl | rfl | rfl | rfl | rfl | rfl | rfl | rfl | rfl | rfl | rfl | rfl | rfl | rfl | rfl | rfl | rfl | rfl | rfl | rfl | rfl | rfl | rfl | rfl | rfl
  · exact w_c0
  · exact w_c1
  · exact w_c2
  · exact w_c3
  · exact w_c4
  · exact w_c5
  · exact w_c6
  · exact w_c7
  · exact w_c8
  · exact w_c9
  · exact w_c10
  · exact w_c11
  · exact w_c12
  · exact w_c13
  · exact w_c14
  · exact w_c15
  · exact w_c16
  · exact w_c17
  · exact w_c18
  · exact w_c19
  · exact w_c20
  · exact w_c21
  · exact w_c22
  · exact w_c23
  · exact w_c24
  · exact w_c25
  · exact w_c26
  · exact w_c27
  · exact w_c28
  · exact w_c29
  · exact w_c30
  · exact w_c31
  · exact w_c32
  · exact w_c33
  · exact w_c34
  · exact w_c35
  · exact w_c36
  · exact w_c37
  · exact w_c38
  · exact w_c39
  · exact w_c40
  · exact w_c41
  · exact w_c42
set_option maxRecDepth 65536 in
theorem w_t1 : (words1.take 24).all (fun c => isCode c || c.before args0 about1) = true := by decide +kernel
set_option maxRecDepth 65536 in
theorem w_t2 : ((words1.drop 24).take 24).all (fun c => isCode c || c.before args0 about1) = true := by decide +kernel
set_option maxRecDepth 65536 in
theorem w_t3 : (((words1.drop 24).drop 24).take 24).all (fun c => isCode c || c.before args0 about1) = true := by decide +kernel
set_option maxRecDepth 65536 in
theorem w_t4 : ((((words1.drop 24).drop 24).drop 24).take 24).all (fun c => isCode c || c.before args0 about1) = true := by decide +kernel
set_option maxRecDepth 65536 in
theorem w_t5 : (((((words1.drop 24).drop 24).drop 24).drop 24).take 24).all (fun c => isCode c || c.before args0 about1) = true := by decide +kernel
set_option maxRecDepth 65536 in
theorem w_t6 : ((((((words1.drop 24).drop 24).drop 24).drop 24).drop 24).take 24).all (fun c => isCode c || c.before args0 about1) = true := by decide +kernel
set_option maxRecDepth 65536 in
theorem w_t7 : (((((((words1.drop 24).drop 24).drop 24).drop 24).drop 24).drop 24).take 24).all (fun c => isCode c || c.before args0 about1) = true := by decide +kernel
set_option maxRecDepth 65536 in
theorem w_t8 : ((((((((words1.drop 24).drop 24).drop 24).drop 24).drop 24).drop 24).drop 24).take 24).all (fun c => isCode c || c.before args0 about1) = true := by decide +kernel
set_option maxRecDepth 65536 in
theorem w_t9 : (((((((((words1.drop 24).drop 24).drop 24).drop 24).drop 24).drop 24).drop 24).drop 24).take 24).all (fun c => isCode c || c.before args0 about1) = true := by decide +kernel
set_option maxRecDepth 65536 in
theorem w_t10 : (((((((((words1.drop 24).drop 24).drop 24).drop 24).drop 24).drop 24).drop 24).drop 24).drop 24).all (fun c => isCode c || c.before args0 about1) = true := by decide +kernel
theorem w_tables : (allAtoms (Jvm.Cond.code x code maxLocals ret :: tables_1)).before args0 about1 = true := by
  rw [allAtoms_all]
  show words1.all (fun c => c.before args0 about1) = true
  refine all_split ?_ w_codes
  rw [← List.take_append_drop 24 words1, List.all_append, w_t1, ← List.take_append_drop 24 (words1.drop 24), List.all_append, w_t2, ← List.take_append_drop 24 ((words1.drop 24).drop 24), List.all_append, w_t3, ← List.take_append_drop 24 (((words1.drop 24).drop 24).drop 24), List.all_append, w_t4, ← List.take_append_drop 24 ((((words1.drop 24).drop 24).drop 24).drop 24), List.all_append, w_t5, ← List.take_append_drop 24 (((((words1.drop 24).drop 24).drop 24).drop 24).drop 24), List.all_append, w_t6, ← List.take_append_drop 24 ((((((words1.drop 24).drop 24).drop 24).drop 24).drop 24).drop 24), List.all_append, w_t7, ← List.take_append_drop 24 (((((((words1.drop 24).drop 24).drop 24).drop 24).drop 24).drop 24).drop 24), List.all_append, w_t8, ← List.take_append_drop 24 ((((((((words1.drop 24).drop 24).drop 24).drop 24).drop 24).drop 24).drop 24).drop 24), List.all_append, w_t9, w_t10]
  rfl
set_option maxRecDepth 65536 in
theorem w_rest : rest_1_c.before args0 about1 = true := by decide +kernel
set_option maxRecDepth 65536 in
theorem w_case : (Jvm.Cond.and given_1 narrow_1).before args0 about1 = true := by decide +kernel
set_option maxRecDepth 65536 in
theorem w_consts : constsHeld consts_1 about1 := Jvm.Lit.constsHeldB_iff.mp (by decide +kernel)
theorem w_applies : (headSpec (Jvm.Cond.code x code maxLocals ret :: tables_1) room_1).applies x e0.platform about1 = true :=
  (Spec.applies_iff w_frames).mpr ⟨w_running, w_runnable, w_alone, w_named, w_hears, w_ripe, w_room, w_tables⟩
theorem atStart : AtStart classFile x code maxLocals ret World_1 tables_1 room_1 Calls_1 rest_1 Pre_1 launch0 p0 e0 about1 theMethod args0 below0 :=
  ⟨lists_1, trivial, launch0.admits_env _ _ _, launch0.least_env, fairChoices_fair.cas, fairChoices_fair.clock, w_frames, w_args, w_heap, w_applies, ⟨w_consts, trivial⟩, w_rest, w_case⟩
end start1
theorem witness_1 : WitnessClaimed_1 := ⟨start1.p0, start1.e0, start1.about1, start1.theMethod, start1.args0, start1.below0, start1.atStart⟩
end Jvm.Pilot.@@N@@
