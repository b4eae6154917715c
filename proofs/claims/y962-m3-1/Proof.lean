import JvmDerived
import JvmDerived.Pilot.@@N@@Statement
import JvmDerived.Pilot.@@N@@Code
set_option linter.unusedVariables false
set_option linter.unusedSimpArgs false
namespace Jvm.Pilot.@@N@@
open Jvm Jvm.ClassFile Sem Op Lib Jvm.Free Jvm.Stand Jvm.LawKit Jvm.RoadKit Bundle Jvm.Pilot.@@N@@.Jvm.D
section OwnKit
variable {p : Program} {l : Launch} {e : Env} {R : Room} {s : State} {m : MethodId} {args : Array Value} {below : List Frame} {meth : Method} {c : Code} {T : State} {locs : List Loc} {cells slots : Nat}
/-- the contract of a body at given arguments and a given heap -/
def own_Con (l : Launch) (Z : State) (y : MethodName) (bytes : ByteArray) (maxL : Nat) (ret : Option FieldType) (ws : List Jvm.Cond) (rm : Room) (as' : Array Value) (h0 : Heap) (Q : Option Value → Heap → List Loc → Prop) : Prop :=
  MetFree l y (head1 (Jvm.Cond.code y bytes maxL ret :: ws) rm) (fun a U => a = as' ∧ Z.Warmed39 U.vm ∧ U.heap = h0) (fun _ _ _ _ _ => True) (fun _ U o U' => ∃ v L, o = .returned v ∧ Q v U'.heap L ∧ FrameEnd U o U' L rm.cells rm.slots)
/-- G holds of a state where the walk is owed; it goes backwards over steps -/
def own_Bk (p : Program) (e : Env) (below : List Frame) (G : State → Prop) : Prop := ∀ S S', (∀ t, Steps p.tables e below S' t → Steps p.tables e below S t) → G S' → G S
/-- a walk may end where its body returns -/
def own_Rt (p : Program) (l : Launch) (e : Env) (rm : Room) (s : State) (m : MethodId) (as' : Array Value) (below : List Frame) (meth : Method) (c : Code) (ret : Option FieldType) (Q : Option Value → Heap → List Loc → Prop) (G : State → Prop) : Prop :=
  ∀ T locs cells slots v S, Stand p l e rm s m as' below meth c T locs cells slots → cells ≤ rm.cells → slots ≤ rm.slots → (ret = none → v = none) → Q v T.heap locs →
    (∀ fs, (∀ (f : JFrame) (acts : List Action), f.method = m → f.locked = none → f.entered = [] → (doReturn e (T.setTop f) acts v).1 = T.setFrames fs) → Steps p.tables e below S (T.setFrames fs)) → G S
theorem own_intro {Z : State} {y : MethodName} {bytes : ByteArray} {maxL : Nat} {ret : Option FieldType} {ws : List Jvm.Cond} {rm : Room} {as' : Array Value} {h0 : Heap} {Q : Option Value → Heap → List Loc → Prop} (hpn : plainFor y = true)
    (H : ∀ (p : Program) (e : Env) (s : State) (m : MethodId) (below : List Frame) (meth : Method) (c : Code) (s₁ : State) (G : State → Prop), p.tables.exec = Jvm.exec → c.code = bytes → c.maxLocals = maxL → s.vm.findClass y.cls = some m.cls → meth.name = y.name → meth.sig.returnType = ret → Z.Warmed39 s.vm →
      Stand p l e rm s m as' below meth c s₁ [] 0 0 → s₁.heap = h0 → own_Bk p e below G → own_Rt p l e rm s m as' below meth c ret Q G → G (s₁.setTop (entryFrame m as' maxL))) : own_Con l Z y bytes maxL ret ws rm as' h0 Q := by
  refine MetFree.of_bodySF hpn hisR ?_
  intro p e s m args below meth c s₁ Bd hml hP hK
  obtain ⟨rfl, hZ, hh⟩ := hP
  refine H p e s m below meth c s₁ (fun S => ∃ s₂ o, Steps p.tables e below S s₂ ∧ s₂.status = .running ∧ Ended s₂ below o ∧ ∃ v L, o = .returned v ∧ Q v s₂.heap L ∧ FrameEnd s o s₂ L rm.cells rm.slots) Bd.exec Bd.bytes hml (findClass_of_methodNamed Bd.named) (name_of_methodNamed Bd.named Bd.method).1 Bd.returns hZ (Stand.of_body Bd) (by rw [← hh, Bd.state]; rfl) ?_ ?_
  · rintro S S' st ⟨s₂, o, h1, h2⟩
    exact ⟨s₂, o, st _ h1, h2⟩
  · intro T locs cells slots v S X hc hs hv hQ hst
    obtain ⟨fs, hr, hrun, hended, hW, hsame⟩ := X.leave (v := v) (fun h => hv (Bd.returns ▸ h))
    exact ⟨_, _, hst fs hr, hrun, hended, v, locs, rfl, hQ, ⟨_, rfl⟩, hW, hsame.mono hc hs⟩
section Rets
variable {Q : Option Value → Heap → List Loc → Prop} {G : State → Prop} {ret : Option FieldType} {pc : Nat} {Ls : Array Slot} {rest : List Value}
theorem own_retV (hR : own_Rt p l e R s m args below meth c none Q G) (hret : meth.sig.returnType = none) (X : Stand p l e R s m args below meth c T locs cells slots) (hx : p.tables.exec = Jvm.exec) (hd : decode c.code pc = .ok (.return_, 1)) (hc : cells ≤ R.cells) (hs : slots ≤ R.slots) (hQ : Q none T.heap locs) : G (T.setTop (mkF m pc Ls [])) :=
  hR T locs cells slots none _ X hc hs (fun _ => rfl) hQ fun fs hr => X.returnOut hx hret hd hr
theorem own_retA {t : FieldType} {v : Value} (hR : own_Rt p l e R s m args below meth c (some t) Q G) (hret : meth.sig.returnType = some t) (ht : t.isReference = true) (hv : v.isRef = true) (X : Stand p l e R s m args below meth c T locs cells slots) (hx : p.tables.exec = Jvm.exec) (hd : decode c.code pc = .ok (.areturn, 1)) (hc : cells ≤ R.cells) (hs : slots ≤ R.slots) (hQ : Q (some v) T.heap locs) : G (T.setTop (mkF m pc Ls (v :: rest))) :=
  hR T locs cells slots (some v) _ X hc hs (fun h => nomatch h) hQ fun fs hr => retOut X hx hret (by cases t <;> simp_all [FieldType.isReference, narrow]) (Or.inr (Or.inr (Or.inr (Or.inr ⟨rfl, ht, hv⟩)))) hd hr
theorem own_retI {z : Int32} (hR : own_Rt p l e R s m args below meth c (some .int) Q G) (hret : meth.sig.returnType = some .int) (X : Stand p l e R s m args below meth c T locs cells slots) (hx : p.tables.exec = Jvm.exec) (hd : decode c.code pc = .ok (.ireturn, 1)) (hc : cells ≤ R.cells) (hs : slots ≤ R.slots) (hQ : Q (some (.int z)) T.heap locs) : G (T.setTop (mkF m pc Ls (.int z :: rest))) :=
  hR T locs cells slots (some (.int z)) _ X hc hs (fun h => nomatch h) hQ fun fs hr => retOut X hx hret rfl (Or.inl ⟨rfl, Or.inl rfl, z, rfl⟩) hd hr
theorem own_retL {z : Int64} (hR : own_Rt p l e R s m args below meth c (some .long) Q G) (hret : meth.sig.returnType = some .long) (X : Stand p l e R s m args below meth c T locs cells slots) (hx : p.tables.exec = Jvm.exec) (hd : decode c.code pc = .ok (.lreturn, 1)) (hc : cells ≤ R.cells) (hs : slots ≤ R.slots) (hQ : Q (some (.long z)) T.heap locs) : G (T.setTop (mkF m pc Ls (.long z :: rest))) :=
  hR T locs cells slots (some (.long z)) _ X hc hs (fun h => nomatch h) hQ fun fs hr => retOut X hx hret rfl (Or.inr (Or.inl ⟨rfl, rfl, z, rfl⟩)) hd hr
theorem own_retN {z : Int32} {t : FieldType} (hR : own_Rt p l e R s m args below meth c (some t) Q G) (hret : meth.sig.returnType = some t) (ht : t = .boolean ∨ t = .byte ∨ t = .char ∨ t = .short) (X : Stand p l e R s m args below meth c T locs cells slots) (hx : p.tables.exec = Jvm.exec) (hd : decode c.code pc = .ok (.ireturn, 1)) (hc : cells ≤ R.cells) (hs : slots ≤ R.slots) (hQ : Q (some (.int (nar t z))) T.heap locs) : G (T.setTop (mkF m pc Ls (.int z :: rest))) :=
  hR T locs cells slots (some (.int (nar t z))) _ X hc hs (fun h => nomatch h) hQ fun fs hr => retN X hx hret ht hd hr
end Rets
section Calls
variable {Z : State} {a0 : Array Value} {own : String} {index : Nat} {y z : MethodName} {bytes : ByteArray} {maxL : Nat} {ret : Option FieldType} {rm : Room} {as' : Array Value} {h : Heap} {Q : Option Value → Heap → List Loc → Prop} {G : State → Prop} {pc : Nat} {Ls : Array Slot} {stk argsL rest : List Value}
theorem own_callS (X : Stand p l e R s m args below meth c T locs cells slots) (hx : p.tables.exec = Jvm.exec) (hZ : Z.Warmed39 s.vm) (hG : own_Bk p e below G) (hown : s.vm.findClass own = some m.cls)
    (w1 : (Jvm.Cond.methodLink own index y).before a0 Z = true) (w2 : (Jvm.Cond.static y).before a0 Z = true) (w3 : (Jvm.Cond.initialized y.cls).before a0 Z = true) (w4 : (Jvm.Cond.code y bytes maxL ret).before a0 Z = true)
    (hy : y.cls ≠ "java/lang/invoke/MethodHandle" ∧ y.cls ≠ "java/lang/invoke/VarHandle") (W : Nat) (hM : own_Con l Z y bytes maxL ret [] rm as' h Q) (hf : rm.frames + 1 ≤ R.frames) (hlo : W + (maxL + 11) + rm.locals ≤ R.locals) (eT : T.heap = h)
    (hsize : Ls.size = c.maxLocals) (hlen : ∀ sig, parseMethodDescriptor y.desc = some sig → argsL.length = sig.parameters.length) (has : argsL.toArray = as') (hst : stk = argsL.reverse ++ rest) (hW : (rest.map fun v => v.category).sum ≤ W)
    (hd : decode c.code pc = .ok (.invokestatic index, 3)) (hc : cells + rm.cells ≤ R.cells) (hs : slots + rm.slots ≤ R.slots)
    (k : ∀ T' h' v L, Stand p l e R s m args below meth c T' (locs ++ L) (cells + rm.cells) (slots + rm.slots) → T'.heap = h' → Q v h' L → G (T'.setTop (mkF m (pc + 3) Ls (v.toList ++ rest)))) : G (T.setTop (mkF m pc Ls stk)) := by
  obtain ⟨v, _, ⟨T1, L1, k1, n1⟩, -, X1, ⟨L, hQ, rfl, rfl, rfl⟩, st⟩ := Jvm.LawKit.callS X hx (y := y) hown (mvT hZ w1) (mvT hZ w2) (mvT hZ w3) (mvT hZ w4) hy (backOf (W := W) hM hZ w4 w3 hf hlo) (g := mkF m pc Ls stk) rfl hsize (argsL := argsL) (rest := rest) hlen hst (by show 2 * 0 + _ ≤ _; rw [Nat.mul_zero, Nat.zero_add]; exact hW) hd (fun _ _ => ⟨has, eT, hc, hs⟩)
  exact hG _ _ st (k T1 _ v L X1 rfl hQ)
theorem own_callI (X : Stand p l e R s m args below meth c T locs cells slots) (hx : p.tables.exec = Jvm.exec) (hZ : Z.Warmed39 s.vm) (hG : own_Bk p e below G) (hown : s.vm.findClass own = some m.cls) (hy1 : y.name = "<init>")
    (w1 : (Jvm.Cond.methodLink own index y).before a0 Z = true) (w2 : (Jvm.Cond.instanceMethod y).before a0 Z = true) (w3 : (Jvm.Cond.initialized y.cls).before a0 Z = true) (w4 : (Jvm.Cond.code y bytes maxL none).before a0 Z = true)
    (hy : y.cls ≠ "java/lang/invoke/MethodHandle" ∧ y.cls ≠ "java/lang/invoke/VarHandle") (W : Nat) (hM : own_Con l Z y bytes maxL none [] rm as' h Q) (hf : rm.frames + 1 ≤ R.frames) (hlo : W + (maxL + 11) + rm.locals ≤ R.locals) (eT : T.heap = h)
    (hsize : Ls.size = c.maxLocals) (hlen : ∀ sig, parseMethodDescriptor y.desc = some sig → argsL.length = sig.parameters.length) {a : Addr} (has : (.ref a :: argsL).toArray = as') (hst : stk = argsL.reverse ++ .ref a :: rest) (hW : (rest.map fun v => v.category).sum ≤ W)
    (hd : decode c.code pc = .ok (.invokespecial index, 3)) (hc : cells + rm.cells ≤ R.cells) (hs : slots + rm.slots ≤ R.slots)
    (k : ∀ T' h' v L, Stand p l e R s m args below meth c T' (locs ++ L) (cells + rm.cells) (slots + rm.slots) → T'.heap = h' → Q v h' L → G (T'.setTop (mkF m (pc + 3) Ls (v.toList ++ rest)))) : G (T.setTop (mkF m pc Ls stk)) := by
  obtain ⟨v, _, ⟨T1, L1, k1, n1⟩, -, X1, ⟨L, hQ, rfl, rfl, rfl⟩, st⟩ := X.specialBack hx (y := y) hy1 hown (mvT hZ w1) (mvT hZ w2) (mvT hZ w4) hy (backOf (W := W) hM hZ w4 w3 hf hlo) (g := mkF m pc Ls stk) rfl hsize (Steps.refl _) (a := a) (argsL := argsL) (rest := rest) hlen hst (by show 2 * 0 + _ ≤ _; rw [Nat.mul_zero, Nat.zero_add]; exact hW) hd (fun _ _ => ⟨has, eT, hc, hs⟩)
  exact hG _ _ (fun t kk => st.trans kk) (k T1 _ v L X1 rfl hQ)
theorem own_callV {C : String} (X : Stand p l e R s m args below meth c T locs cells slots) (hx : p.tables.exec = Jvm.exec) (hZ : Z.Warmed39 s.vm) (hG : own_Bk p e below G) (hown : s.vm.findClass own = some m.cls)
    (w1 : (Jvm.Cond.methodLink own index y).before a0 Z = true) (w2 : (Jvm.Cond.declares y).before a0 Z = true) (w3 : (Jvm.Cond.selects C y y).before a0 Z = true) (w4 : (Jvm.Cond.instanceMethod y).before a0 Z = true) (w5 : (Jvm.Cond.initialized y.cls).before a0 Z = true) (w6 : (Jvm.Cond.code y bytes maxL ret).before a0 Z = true)
    (hy : y.cls ≠ "java/lang/invoke/MethodHandle" ∧ y.cls ≠ "java/lang/invoke/VarHandle") (W : Nat) (hM : own_Con l Z y bytes maxL ret [] rm as' h Q) (hf : rm.frames + 1 ≤ R.frames) (hlo : W + (maxL + 11) + rm.locals ≤ R.locals) (eT : T.heap = h) {b : Addr} (E : Exa Z h b C)
    (hsize : Ls.size = c.maxLocals) (hlen : ∀ sig, parseMethodDescriptor y.desc = some sig → argsL.length = sig.parameters.length) (has : (.ref b :: argsL).toArray = as') (hst : stk = argsL.reverse ++ .ref b :: rest) (hW : (rest.map fun v => v.category).sum ≤ W)
    (hd : decode c.code pc = .ok (.invokevirtual index, 3)) (hc : cells + rm.cells ≤ R.cells) (hs : slots + rm.slots ≤ R.slots)
    (k : ∀ T' h' v L, Stand p l e R s m args below meth c T' (locs ++ L) (cells + rm.cells) (slots + rm.slots) → T'.heap = h' → Q v h' L → G (T'.setTop (mkF m (pc + 3) Ls (v.toList ++ rest)))) : G (T.setTop (mkF m pc Ls stk)) := by
  obtain ⟨cq, kq, qa, qb, qc⟩ := isOf hZ eT E
  obtain ⟨v, _, ⟨T1, L1, k1, n1⟩, -, X1, ⟨L, hQ, rfl, rfl, rfl⟩, st⟩ := X.virtualBack hx (y := y) (z := y) hown (mvT hZ w1) (mvT hZ w2) (notFace_of_selects (args := #[]) (mvT hZ w3)) (mvT hZ w3) (mvT hZ w4) hy (backOf (W := W) hM hZ w6 w5 hf hlo) qa qc (g := mkF m pc Ls stk) rfl hsize (Steps.refl _) (argsL := argsL) (rest := rest) hlen hst (by show 2 * 0 + _ ≤ _; rw [Nat.mul_zero, Nat.zero_add]; exact hW) hd (fun _ _ => ⟨has, eT, hc, hs⟩)
  exact hG _ _ (fun t kk => st.trans kk) (k T1 _ v L X1 rfl hQ)
theorem own_callP (X : Stand p l e R s m args below meth c T locs cells slots) (hx : p.tables.exec = Jvm.exec) (hZ : Z.Warmed39 s.vm) (hG : own_Bk p e below G) (hown : s.vm.findClass own = some m.cls)
    (w1 : (Jvm.Cond.methodLink own index y).before a0 Z = true) (w2 : (Jvm.Cond.instanceMethod y).before a0 Z = true) (w3 : (Jvm.Cond.selects y.cls y y).before a0 Z = true) (wp : (Jvm.Cond.privateMethod y).before a0 Z = true) (w5 : (Jvm.Cond.initialized y.cls).before a0 Z = true) (w6 : (Jvm.Cond.code y bytes maxL ret).before a0 Z = true)
    (hy : y.cls ≠ "java/lang/invoke/MethodHandle" ∧ y.cls ≠ "java/lang/invoke/VarHandle") (W : Nat) (hM : own_Con l Z y bytes maxL ret [] rm as' h Q) (hf : rm.frames + 1 ≤ R.frames) (hlo : W + (maxL + 11) + rm.locals ≤ R.locals) (eT : T.heap = h) {b : Addr} {C : String} (E : Exa Z h b C)
    (hsize : Ls.size = c.maxLocals) (hlen : ∀ sig, parseMethodDescriptor y.desc = some sig → argsL.length = sig.parameters.length) (has : (.ref b :: argsL).toArray = as') (hst : stk = argsL.reverse ++ .ref b :: rest) (hW : (rest.map fun v => v.category).sum ≤ W)
    (hd : decode c.code pc = .ok (.invokevirtual index, 3)) (hc : cells + rm.cells ≤ R.cells) (hs : slots + rm.slots ≤ R.slots)
    (k : ∀ T' h' v L, Stand p l e R s m args below meth c T' (locs ++ L) (cells + rm.cells) (slots + rm.slots) → T'.heap = h' → Q v h' L → G (T'.setTop (mkF m (pc + 3) Ls (v.toList ++ rest)))) : G (T.setTop (mkF m pc Ls stk)) := by
  obtain ⟨cell, hc1, hc2⟩ := (Ins.self E).cell
  obtain ⟨v, _, ⟨T1, L1, k1, n1⟩, -, X1, ⟨L, hQ, rfl, rfl, rfl⟩, st⟩ := X.privateBack hx (y := y) hown (mvT hZ w1) (mvT hZ w2) (mvT hZ w3) (Cond.privateMethod_at (mvP hZ wp (args := #[]))) (mvT hZ w6) hy (backOf (W := W) hM hZ w6 w5 hf hlo) (g := mkF m pc Ls stk) rfl hsize (Steps.refl _) (a := b) (by rw [eT]; exact hc1) hc2 (argsL := argsL) (rest := rest) hlen hst (by show 2 * 0 + _ ≤ _; rw [Nat.mul_zero, Nat.zero_add]; exact hW) hd (fun _ _ => ⟨has, eT, hc, hs⟩)
  exact hG _ _ (fun t kk => st.trans kk) (k T1 _ v L X1 rfl hQ)
theorem own_callF {C : String} {count : Nat} (X : Stand p l e R s m args below meth c T locs cells slots) (hx : p.tables.exec = Jvm.exec) (hZ : Z.Warmed39 s.vm) (hG : own_Bk p e below G) (hown : s.vm.findClass own = some m.cls)
    (w1 : (Jvm.Cond.methodLink own index z).before a0 Z = true) (w2 : (Jvm.Cond.declares z).before a0 Z = true) (wf : ∀ s' : State, Z.Warmed39 s'.vm → (Jvm.Cond.interfaceMethod z.cls z.cls z.name z.desc).before args s' = true) (w3 : (Jvm.Cond.selects C z y).before a0 Z = true) (w4 : (Jvm.Cond.instanceMethod y).before a0 Z = true) (wp : (Jvm.Cond.publicMethod y).before a0 Z = true) (wu : (Jvm.Cond.unhidden C z.name z.desc).before a0 Z = true) (wc : (Jvm.Cond.castable C z.cls).before a0 Z = true) (w5 : (Jvm.Cond.initialized y.cls).before a0 Z = true) (w6 : (Jvm.Cond.code y bytes maxL ret).before a0 Z = true)
    (hy : z.cls ≠ "java/lang/invoke/MethodHandle" ∧ z.cls ≠ "java/lang/invoke/VarHandle") (W : Nat) (hM : own_Con l Z y bytes maxL ret [] rm as' h Q) (hf : rm.frames + 1 ≤ R.frames) (hlo : W + (maxL + 11) + rm.locals ≤ R.locals) (eT : T.heap = h) {b : Addr} (E : Exa Z h b C)
    (hsize : Ls.size = c.maxLocals) (hlen : ∀ sig, parseMethodDescriptor z.desc = some sig → argsL.length = sig.parameters.length) (has : (.ref b :: argsL).toArray = as') (hst : stk = argsL.reverse ++ .ref b :: rest) (hW : (rest.map fun v => v.category).sum ≤ W)
    (hd : decode c.code pc = .ok (.invokeinterface index count, 5)) (hc : cells + rm.cells ≤ R.cells) (hs : slots + rm.slots ≤ R.slots)
    (k : ∀ T' h' v L, Stand p l e R s m args below meth c T' (locs ++ L) (cells + rm.cells) (slots + rm.slots) → T'.heap = h' → Q v h' L → G (T'.setTop (mkF m (pc + 5) Ls (v.toList ++ rest)))) : G (T.setTop (mkF m pc Ls stk)) := by
  obtain ⟨cq, kq, qa, qb, qc⟩ := isOf hZ eT E
  obtain ⟨v, _, ⟨T1, L1, k1, n1⟩, -, X1, ⟨L, hQ, rfl, rfl, rfl⟩, st⟩ := X.interfaceBack hx (xi := z) (y := y) hown (mvT hZ w1) (mvT hZ w2) (wf s hZ) (mvT hZ w3) (mvT hZ w4) (mvT hZ wp) (mvT hZ wu) (mvT hZ wc) hy (backOf (W := W) hM hZ w6 w5 hf hlo) qa qb qc (g := mkF m pc Ls stk) rfl hsize (Steps.refl _) (argsL := argsL) (rest := rest) hlen hst (by show 2 * 0 + _ ≤ _; rw [Nat.mul_zero, Nat.zero_add]; exact hW) hd (fun _ _ => ⟨has, eT, hc, hs⟩)
  exact hG _ _ (fun t kk => st.trans kk) (k T1 _ v L X1 rfl hQ)
end Calls
theorem own_entry {G : State → Prop} {n : Nat} {Ls : Array Slot} (q : entryFrame m args n = mkF m 0 Ls []) (k : G (T.setTop (mkF m 0 Ls []))) : G (T.setTop (entryFrame m args n)) := q ▸ k
abbrev own_Old (Z : State) (h : Heap) : Prop := Old Z Z.heap.size h
abbrev own_Fr (Z : State) (L : List Loc) : Prop := Fr Z.heap.size L
theorem own_ge {Z : State} {h : Heap} (O : own_Old Z h) {b : Addr} (q : h.size ≤ b) : Z.heap.size ≤ b := Nat.le_trans O.2.1 q
theorem own_sta {Z : State} {h : Heap} {C n d : String} {v : Value} (S : Sta Z Z.heap C n d v) (O : own_Old Z h) : Sta Z h C n d v := S.ext O.2
theorem own_ne {h : Heap} {a b : Addr} (q : a < h.size) (r : h.size ≤ b) : a ≠ b := Nat.ne_of_lt (Nat.lt_of_lt_of_le q r)
end OwnKit
theorem own_toInt {i : Nat} (h : i < 2147483648) : (Int32.ofNat i).toInt = i := Int32.toInt_ofNat_of_lt (by omega)
theorem own_clamp {i : Nat} (h : i < 2147483648) : (Int32.ofNat i).toNatClampNeg = i := by
  show ((Int32.ofNat i).toInt).toNat = i
  rw [own_toInt h]; rfl
theorem own_inc (i : Nat) : Int32.ofNat i + 1 = Int32.ofNat (i + 1) := (Int32.ofNat_add i 1).symm
theorem own_nn {i : Nat} (h : i < 2147483648) : ¬ Int32.ofNat i < 0 := by
  rw [Int32.lt_iff_toInt_lt, own_toInt h]; simp
theorem own_lt {i n : Nat} (h : i < n) (hn : n < 2147483648) : Int32.ofNat i < Int32.ofNat n := by
  rw [Int32.lt_iff_toInt_lt, own_toInt (by omega), own_toInt hn]; omega
theorem own_nlt {i n : Nat} (h : n ≤ i) (hi : i < 2147483648) : ¬ Int32.ofNat i < Int32.ofNat n := by
  rw [Int32.lt_iff_toInt_lt, own_toInt hi, own_toInt (by omega)]; omega
theorem own_ofNat_inj {i n : Nat} (hi : i < 2147483648) (hn : n < 2147483648) (h : Int32.ofNat i = Int32.ofNat n) : i = n := by
  have := congrArg Int32.toInt h
  rw [own_toInt hi, own_toInt hn] at this; omega
theorem own_getD_set {α : Type} (vs : List α) (i j : Nat) (x d : α) (h : i < vs.length) : (vs.set i x).getD j d = if j = i then x else vs.getD j d := by
  simp only [List.getD_eq_getElem?_getD, List.getElem?_set]
  by_cases e : i = j
  · subst e; simp [h]
  · simp [e, Ne.symm e]
theorem own_getD_map {α β : Type} (f : α → β) (cs : List α) (j : Nat) (d : β) (e : α) (h : j < cs.length) : (cs.map f).getD j d = f (cs.getD j e) := by
  simp [List.getD_eq_getElem?_getD, List.getElem?_map, h]
theorem own_mapEq {α β : Type} (f : α → β) (cs : List α) (vs : List β) (d : β) (e : α) (hl : vs.length = cs.length) (h : ∀ j, j < cs.length → vs.getD j d = f (cs.getD j e)) : vs = cs.map f := by
  apply List.ext_getElem (by simpa using hl)
  intro j h1 h2
  have q := h j (by simpa using h2)
  have h3 : j < cs.length := by simpa using h2
  simp [List.getD_eq_getElem?_getD, h1, h3] at q
  simpa using q
theorem own_narR {t : FieldType} {v : Value} (ht : t.isReference = true) (hv : v.isRef = true) : narrow t v = v := by cases t <;> simp_all [FieldType.isReference, narrow]
theorem own_nb (x : Int32) : nar .byte x.toInt8.toInt32 = x.toInt8.toInt32 := by
  show x.toInt8.toInt32.toInt8.toInt32 = _
  rw [Int8.toInt8_toInt32]
theorem own_nc (x : Int32) : nar .char x.toUInt32.toUInt16.toUInt32.toInt32 = x.toUInt32.toUInt16.toUInt32.toInt32 := by
  simp only [nar, UInt32.toUInt32_toInt32, UInt16.toUInt16_toUInt32]
theorem own_getD_mem {α : Type} (cs : List α) (i : Nat) (d : α) (h : i < cs.length) : cs.getD i d ∈ cs := by
  rw [List.getD_eq_getElem?_getD, List.getElem?_eq_getElem h]; exact List.getElem_mem h
theorem own_alln {α : Type} {P : α → Prop} : ∀ c ∈ ([] : List α), P c := fun _ q => nomatch q
theorem own_allc {α : Type} {P : α → Prop} {x : α} {L : List α} (q : P x) (r : ∀ c ∈ L, P c) : ∀ c ∈ x :: L, P c := fun c z => (List.mem_cons.mp z).elim (fun u => u ▸ q) (r c)
theorem own_and255 (x : Int32) : 0 ≤ (x &&& 255).toInt ∧ (x &&& 255).toInt ≤ 255 := by
  rw [c_mask x 255 8 (by decide) (by decide)]
  have h1 := Int.emod_nonneg x.toInt (show ((2 ^ 8 : Nat) : Int) ≠ 0 by decide)
  have h2 := Int.emod_lt_of_pos x.toInt (show (0 : Int) < ((2 ^ 8 : Nat) : Int) by decide)
  omega
theorem own_mask8 {x c : Int32} (h : (x &&& 255).toUInt32.toUInt16.toUInt32.toInt32 = c) : 0 ≤ c.toInt ∧ c.toInt ≤ 255 := by
  rw [i2c_mask] at h; subst h; exact own_and255 x
theorem own_narC {c : Int32} (h : 0 ≤ c.toInt ∧ c.toInt ≤ 65535) : nar .char c = c := by
  apply Int32.toInt_inj.mp
  have q := c_i2c c
  show c.toUInt32.toUInt16.toUInt32.toInt32.toInt = c.toInt
  omega
theorem own_le255 {c : Int32} (h : 0 ≤ c.toInt ∧ c.toInt ≤ 255) : ¬ ((255 : Int32) < c) := by
  rw [Int32.lt_iff_toInt_lt]
  have : (255 : Int32).toInt = 255 := by decide
  omega
theorem own_nar8 {c : Int32} (h : 0 ≤ c.toInt ∧ c.toInt ≤ 255) : ¬ ((255 : Int32) < nar .char c) := by
  rw [own_narC ⟨h.1, by omega⟩]; exact own_le255 h
theorem own_setNext {vs : List Value} {cs : List Int32} {i : Nat} (f : Int32 → Value) (d x : Value) (hi : i < vs.length) (hx : x = f (cs.getD i 0)) (hv : ∀ j, j < i → vs.getD j d = f (cs.getD j 0)) : ∀ j, j < i + 1 → (vs.set i x).getD j d = f (cs.getD j 0) := by
  intro j hj
  rw [own_getD_set _ _ _ _ _ hi]
  by_cases e : j = i
  · subst e; rw [if_pos rfl]; exact hx
  · rw [if_neg e]; exact hv j (by omega)
theorem own_fitR {t : FieldType} {v : Value} (ht : t.isReference = true) (hv : v.isRef = true) : fits t v = true := by
  rcases ref_cases hv with rfl | ⟨a, rfl⟩ <;> cases t <;> simp_all [FieldType.isReference, fits]
theorem own_fitC {c : Int32} (h : 0 ≤ c.toInt ∧ c.toInt ≤ 65535) : fits .char (.int c) = true := by
  have q := fits_nar_char c
  rw [own_narC h] at q; exact q
theorem own_zero1 : (0 : Int32) + (1 : Int32) = (1 : Int32) := by decide
theorem own_emptyArv {s : State} {args : Array Value} {t : Term} {a : Addr} {cl : Cell} {ty : FieldType} {dv : Value} (hf : Fit s) (ev : t.eval args s none [] s = some (.ref a)) (A : Arr s s.heap a cl ty) (hl : (Term.length t).eval args s none [] s = some (.int (0 : Int32))) : Arv s s.heap a cl.cls ty (0 : Int32) [] dv := by
  obtain ⟨x, cl', e1, e2, -⟩ := Term.length_spec hl
  cases ev.symm.trans e1
  have hc : s.arrayAt? a = some cl := A.fin (Vm.Alike.refl _)
  cases e2.symm.trans hc
  have h31 := Jvm.Free.SBG.length_lt e1 hc hl
  have e : (Term.length t).eval args s none [] s = some (.int (Int32.ofNat cl.slots.size)) := by simp [Term.eval, e1, hc, h31]
  have q : Int32.ofNat cl.slots.size = (0 : Int32) := by simpa using Option.some.inj (e.symm.trans hl)
  exact Arv.start hf A h31 q (by decide) rfl trivial
theorem own_sz {x n : Int32} (h : ((1 : Int32) + (x &&& (3 : Int32))) = n) : 1 ≤ n.toInt ∧ n.toInt ≤ 4 := by
  have q : (x &&& (3 : Int32)).toInt = x.toInt % (2 ^ 2 : Nat) := c_mask x 3 2 (by decide) (by decide)
  have e := c_iadd 1 (x &&& (3 : Int32)); rw [h] at e
  have e1 : (1 : Int32).toInt = 1 := by decide
  have r := rng32 n
  omega
theorem own_sz0 {n : Int32} (h : 1 ≤ n.toInt ∧ n.toInt ≤ 4) : n ≠ 0 := fun e => by rw [e] at h; exact absurd h.1 (by decide)
theorem own_ixr {x n r : Int32} (h : 1 ≤ n.toInt ∧ n.toInt ≤ 4) (hr : ((x &&& (2147483647 : Int32)) % n) = r) : 0 ≤ r.toInt ∧ r.toInt < n.toInt := by
  have q := c_and x 2147483647 (by decide)
  have c := (c_iremV (x &&& 2147483647) n).1 q.1 (by omega)
  rw [hr] at c
  exact ⟨c.1, c.2.1⟩
theorem own_szb {n k : Int32} {m : Int} (h : ¬ (k < n)) (hk : k.toInt = m) : n.toInt ≤ m := by
  rw [Int32.lt_iff_toInt_lt] at h; omega
theorem own_ix1 {i n : Int32} (h0 : 0 ≤ i.toInt) (h1 : i.toInt < n.toInt) (h2 : n.toInt ≤ 1) : i = (0 : Int32) := Int32.toInt_inj.mp (by have : (0 : Int32).toInt = 0 := (by decide); omega)
theorem own_ix2 {i n : Int32} (h0 : 0 ≤ i.toInt) (h1 : i.toInt < n.toInt) (h2 : n.toInt ≤ 2) : i = (0 : Int32) ∨ i = (1 : Int32) := by
  have e0 : (0 : Int32).toInt = 0 := by decide
  have e1 : (1 : Int32).toInt = 1 := by decide
  simp only [← Int32.toInt_inj]; omega
theorem own_ix3 {i n : Int32} (h0 : 0 ≤ i.toInt) (h1 : i.toInt < n.toInt) (h2 : n.toInt ≤ 3) : i = (0 : Int32) ∨ i = (1 : Int32) ∨ i = (2 : Int32) := by
  have e0 : (0 : Int32).toInt = 0 := by decide
  have e1 : (1 : Int32).toInt = 1 := by decide
  have e2 : (2 : Int32).toInt = 2 := by decide
  simp only [← Int32.toInt_inj]; omega
theorem own_ix4 {i n : Int32} (h0 : 0 ≤ i.toInt) (h1 : i.toInt < n.toInt) (h2 : n.toInt ≤ 4) : i = (0 : Int32) ∨ i = (1 : Int32) ∨ i = (2 : Int32) ∨ i = (3 : Int32) := by
  have e0 : (0 : Int32).toInt = 0 := by decide
  have e1 : (1 : Int32).toInt = 1 := by decide
  have e2 : (2 : Int32).toInt = 2 := by decide
  have e3 : (3 : Int32).toInt = 3 := by decide
  simp only [← Int32.toInt_inj]; omega
section OwnKitW
variable {p : Program} {l : Launch} {e : Env} {R : Room} {s : State} {m : MethodId} {args : Array Value} {below : List Frame} {meth : Method} {c : Code} {T : State} {locs : List Loc} {cells slots : Nat} {EL : List (String × Nat)} {Z : State} {a0 : Array Value}
/-- the contract of a body that may load String constants -/
def own_ConW (l : Launch) (Z : State) (EL : List (String × Nat)) (y : MethodName) (bytes : ByteArray) (maxL : Nat) (ret : Option FieldType) (ws : List Jvm.Cond) (rm : Room) (as' : Array Value) (h0 : Heap) (Q : Option Value → Heap → List Loc → Prop) : Prop :=
  MetFree l y (head1 (Jvm.Cond.code y bytes maxL ret :: ws) rm) (fun a U => a = as' ∧ Z.Warmed39 U.vm ∧ U.heap = h0 ∧ CHv Z EL U.vm h0) (fun _ _ _ _ _ => True) (fun _ U o U' => ∃ v L, o = .returned v ∧ Q v U'.heap L ∧ CHr Z EL U.vm U.heap U'.vm U'.heap ∧ ReturnedEndW U o U' L rm.cells rm.slots)
def own_RtW (p : Program) (l : Launch) (e : Env) (Z : State) (EL : List (String × Nat)) (rm : Room) (s : State) (m : MethodId) (as' : Array Value) (below : List Frame) (meth : Method) (c : Code) (ret : Option FieldType) (h0 : Heap) (Q : Option Value → Heap → List Loc → Prop) (G : State → Prop) : Prop :=
  ∀ T locs cells slots v S vm0 k0, Stand p l e rm (s.setVm vm0) m as' below meth c T locs cells slots → s.Since vm0 k0 → k0 ≤ T.heap.size → Z.Warmed39 vm0 → CHr Z EL s.vm h0 vm0 T.heap → cells ≤ rm.cells → slots ≤ rm.slots → (ret = none → v = none) → Q v T.heap locs →
    (∀ fs, (∀ (f : JFrame) (acts : List Action), f.method = m → f.locked = none → f.entered = [] → (doReturn e (T.setTop f) acts v).1 = T.setFrames fs) → Steps p.tables e below S (T.setFrames fs)) → G S
theorem own_introW {y : MethodName} {bytes : ByteArray} {maxL : Nat} {ret : Option FieldType} {ws : List Jvm.Cond} {rm : Room} {as' : Array Value} {h0 : Heap} {Q : Option Value → Heap → List Loc → Prop} (hEL : EW Z a0 EL) (hpn : plainFor y = true)
    (H : ∀ (p : Program) (e : Env) (s : State) (m : MethodId) (below : List Frame) (meth : Method) (c : Code) (s₁ : State) (G : State → Prop), p.tables.exec = Jvm.exec → c.code = bytes → c.maxLocals = maxL → (s.setVm s.vm).vm.findClass y.cls = some m.cls → meth.name = y.name → meth.sig.returnType = ret → Z.Warmed39 (s.setVm s.vm).vm →
      Stand p l e rm (s.setVm s.vm) m as' below meth c s₁ [] 0 0 → s₁.heap = h0 → CHv Z EL s.vm h0 → s.Since s.vm h0.size → own_Bk p e below G → own_RtW p l e Z EL rm s m as' below meth c ret h0 Q G → G (s₁.setTop (entryFrame m as' maxL))) : own_ConW l Z EL y bytes maxL ret ws rm as' h0 Q := by
  refine MetFree.of_bodySF hpn hisR ?_
  intro p e s m args below meth c s₁ Bd hml hP hK
  obtain ⟨rfl, hZ, hh, hC⟩ := hP
  refine H p e s m below meth c s₁ (fun S => ∃ s₂ o, Steps p.tables e below S s₂ ∧ s₂.status = .running ∧ Ended s₂ below o ∧ ∃ v L, o = .returned v ∧ Q v s₂.heap L ∧ CHr Z EL s.vm s.heap s₂.vm s₂.heap ∧ ReturnedEndW s o s₂ L rm.cells rm.slots) Bd.exec Bd.bytes hml (findClass_of_methodNamed Bd.named) (name_of_methodNamed Bd.named Bd.method).1 Bd.returns hZ (Stand.of_body Bd) (by rw [← hh, Bd.state]; rfl) hC ((State.WarmedH.refl s).since _) ?_ ?_
  · rintro S S' st ⟨s₂, o, h1, h2⟩
    exact ⟨s₂, o, st _ h1, h2⟩
  · intro T locs cells slots v S vm0 k0 X hS hk hZ0 hC0 hc hs hv hQ hst
    obtain ⟨fs, hr, hrun, hended, hW, hsame⟩ := X.leave (v := v) (fun h => hv (Bd.returns ▸ h)) Bd.notSynchronized
    obtain ⟨q1, q2, q3⟩ := hS.ended (U := T.setFrames fs) hW hk hsame
    have hA : CHr Z EL vm0 T.heap T.vm T.heap := CHv.at X hZ0 hEL hC0.1
    refine ⟨_, _, hst fs hr, hrun, hended, v, locs, rfl, hQ, ?_, ⟨_, rfl⟩, q1, q2, q3.mono hc hs⟩
    rw [hh]
    exact hC0.trans hA
section Rets
variable {Q : Option Value → Heap → List Loc → Prop} {G : State → Prop} {pc : Nat} {Ls : Array Slot} {rest : List Value} {h0 h : Heap} {vm0 : Vm} {k0 : Nat}
theorem own_retVW (hR : own_RtW p l e Z EL R s m args below meth c none h0 Q G) (hret : meth.sig.returnType = none) (X : Stand p l e R (s.setVm vm0) m args below meth c T locs cells slots) (hx : p.tables.exec = Jvm.exec) (hd : decode c.code pc = .ok (.return_, 1)) (eT : T.heap = h) (hS : s.Since vm0 k0) (hk : k0 ≤ h.size) (hZ : Z.Warmed39 (s.setVm vm0).vm) (hC : CHr Z EL s.vm h0 vm0 h) (hc : cells ≤ R.cells) (hs : slots ≤ R.slots) (hQ : Q none h locs) : G (T.setTop (mkF m pc Ls [])) :=
  hR T locs cells slots none _ vm0 k0 X hS (by rw [eT]; exact hk) hZ (by rw [eT]; exact hC) hc hs (fun _ => rfl) (by rw [eT]; exact hQ) fun fs hr => X.returnOut hx hret hd hr
theorem own_retAW {t : FieldType} {v : Value} (hR : own_RtW p l e Z EL R s m args below meth c (some t) h0 Q G) (hret : meth.sig.returnType = some t) (ht : t.isReference = true) (hv : v.isRef = true) (X : Stand p l e R (s.setVm vm0) m args below meth c T locs cells slots) (hx : p.tables.exec = Jvm.exec) (hd : decode c.code pc = .ok (.areturn, 1)) (eT : T.heap = h) (hS : s.Since vm0 k0) (hk : k0 ≤ h.size) (hZ : Z.Warmed39 (s.setVm vm0).vm) (hC : CHr Z EL s.vm h0 vm0 h) (hc : cells ≤ R.cells) (hs : slots ≤ R.slots) (hQ : Q (some v) h locs) : G (T.setTop (mkF m pc Ls (v :: rest))) :=
  hR T locs cells slots (some v) _ vm0 k0 X hS (by rw [eT]; exact hk) hZ (by rw [eT]; exact hC) hc hs (fun h => nomatch h) (by rw [eT]; exact hQ) fun fs hr => retOut X hx hret (by cases t <;> simp_all [FieldType.isReference, narrow]) (Or.inr (Or.inr (Or.inr (Or.inr ⟨rfl, ht, hv⟩)))) hd hr
theorem own_retNW {z : Int32} {t : FieldType} (hR : own_RtW p l e Z EL R s m args below meth c (some t) h0 Q G) (hret : meth.sig.returnType = some t) (ht : t = .boolean ∨ t = .byte ∨ t = .char ∨ t = .short) (X : Stand p l e R (s.setVm vm0) m args below meth c T locs cells slots) (hx : p.tables.exec = Jvm.exec) (hd : decode c.code pc = .ok (.ireturn, 1)) (eT : T.heap = h) (hS : s.Since vm0 k0) (hk : k0 ≤ h.size) (hZ : Z.Warmed39 (s.setVm vm0).vm) (hC : CHr Z EL s.vm h0 vm0 h) (hc : cells ≤ R.cells) (hs : slots ≤ R.slots) (hQ : Q (some (.int (nar t z))) h locs) : G (T.setTop (mkF m pc Ls (.int z :: rest))) :=
  hR T locs cells slots (some (.int (nar t z))) _ vm0 k0 X hS (by rw [eT]; exact hk) hZ (by rw [eT]; exact hC) hc hs (fun h => nomatch h) (by rw [eT]; exact hQ) fun fs hr => retN X hx hret ht hd hr
end Rets
section Calls
variable {own : String} {index : Nat} {y : MethodName} {bytes : ByteArray} {maxL : Nat} {ret : Option FieldType} {rm : Room} {as' : Array Value} {h : Heap} {Q : Option Value → Heap → List Loc → Prop} {G : State → Prop} {pc : Nat} {Ls : Array Slot} {stk argsL rest : List Value} {vm0 : Vm} {k0 : Nat}
theorem own_callSW (X : Stand p l e R (s.setVm vm0) m args below meth c T locs cells slots) (hx : p.tables.exec = Jvm.exec) (hZ : Z.Warmed39 (s.setVm vm0).vm) (hG : own_Bk p e below G) (hown : (s.setVm vm0).vm.findClass own = some m.cls)
    (w1 : (Jvm.Cond.methodLink own index y).before a0 Z = true) (w2 : (Jvm.Cond.static y).before a0 Z = true) (w3 : (Jvm.Cond.initialized y.cls).before a0 Z = true) (w4 : (Jvm.Cond.code y bytes maxL ret).before a0 Z = true)
    (hy : y.cls ≠ "java/lang/invoke/MethodHandle" ∧ y.cls ≠ "java/lang/invoke/VarHandle") (W : Nat) (hM : own_ConW l Z EL y bytes maxL ret [] rm as' h Q) (hf : rm.frames + 1 ≤ R.frames) (hlo : W + (maxL + 11) + rm.locals ≤ R.locals) (eT : T.heap = h)
    (hS : s.Since vm0 k0) (hk : k0 ≤ h.size) (hEL : EW Z a0 EL) (H : CHv Z EL vm0 h)
    (hsize : Ls.size = c.maxLocals) (hlen : ∀ sig, parseMethodDescriptor y.desc = some sig → argsL.length = sig.parameters.length) (has : argsL.toArray = as') (hst : stk = argsL.reverse ++ rest) (hW : (rest.map fun v => v.category).sum ≤ W)
    (hd : decode c.code pc = .ok (.invokestatic index, 3)) (hc : cells + rm.cells ≤ R.cells) (hs : slots + rm.slots ≤ R.slots)
    (k : ∀ T' h' v L, Stand p l e R (s.setVm T'.vm) m args below meth c T' (locs ++ L) (cells + rm.cells) (slots + rm.slots) → T'.heap = h' → s.Since T'.vm h'.size → Z.Warmed39 (s.setVm T'.vm).vm → (s.setVm T'.vm).vm.findClass own = some m.cls → CHr Z EL vm0 h T'.vm h' → Q v h' L → G (T'.setTop (mkF m (pc + 3) Ls (v.toList ++ rest)))) : G (T.setTop (mkF m pc Ls stk)) := by
  obtain ⟨v, _, ⟨T1, L1, k1, n1⟩, -, X1, hS1, hg1, ⟨L, hQ, rfl, rfl, rfl, hC⟩, st⟩ := callSS X hx (y := y) hown (mvT hZ w1) (mvT hZ w2) (mvT hZ w3) (mvT hZ w4) hy (backOfSH (W := W) hM hZ w4 w3 hf hlo hEL H) (g := mkF m pc Ls stk) rfl hsize (argsL := argsL) (rest := rest) hlen hst (by show 2 * 0 + _ ≤ _; rw [Nat.mul_zero, Nat.zero_add]; exact hW) hd (fun _ _ => ⟨has, eT, hc, hs⟩)
  obtain ⟨X2, hS2, hZ2, hown2⟩ := rebS hS (by rw [eT]; exact hk) X1 hS1 hg1 hZ hown
  exact hG _ _ (fun t kk => st.trans kk) (k T1 _ v L X2 rfl hS2 hZ2 hown2 hC hQ)
theorem own_callIW (X : Stand p l e R (s.setVm vm0) m args below meth c T locs cells slots) (hx : p.tables.exec = Jvm.exec) (hZ : Z.Warmed39 (s.setVm vm0).vm) (hG : own_Bk p e below G) (hown : (s.setVm vm0).vm.findClass own = some m.cls) (hy1 : y.name = "<init>")
    (w1 : (Jvm.Cond.methodLink own index y).before a0 Z = true) (w2 : (Jvm.Cond.instanceMethod y).before a0 Z = true) (w3 : (Jvm.Cond.initialized y.cls).before a0 Z = true) (w4 : (Jvm.Cond.code y bytes maxL none).before a0 Z = true)
    (hy : y.cls ≠ "java/lang/invoke/MethodHandle" ∧ y.cls ≠ "java/lang/invoke/VarHandle") (W : Nat) (hM : own_ConW l Z EL y bytes maxL none [] rm as' h Q) (hf : rm.frames + 1 ≤ R.frames) (hlo : W + (maxL + 11) + rm.locals ≤ R.locals) (eT : T.heap = h)
    (hS : s.Since vm0 k0) (hk : k0 ≤ h.size) (hEL : EW Z a0 EL) (H : CHv Z EL vm0 h)
    (hsize : Ls.size = c.maxLocals) (hlen : ∀ sig, parseMethodDescriptor y.desc = some sig → argsL.length = sig.parameters.length) {a : Addr} (has : (.ref a :: argsL).toArray = as') (hst : stk = argsL.reverse ++ .ref a :: rest) (hW : (rest.map fun v => v.category).sum ≤ W)
    (hd : decode c.code pc = .ok (.invokespecial index, 3)) (hc : cells + rm.cells ≤ R.cells) (hs : slots + rm.slots ≤ R.slots)
    (k : ∀ T' h' v L, Stand p l e R (s.setVm T'.vm) m args below meth c T' (locs ++ L) (cells + rm.cells) (slots + rm.slots) → T'.heap = h' → s.Since T'.vm h'.size → Z.Warmed39 (s.setVm T'.vm).vm → (s.setVm T'.vm).vm.findClass own = some m.cls → CHr Z EL vm0 h T'.vm h' → Q v h' L → G (T'.setTop (mkF m (pc + 3) Ls (v.toList ++ rest)))) : G (T.setTop (mkF m pc Ls stk)) := by
  obtain ⟨v, _, ⟨T1, L1, k1, n1⟩, -, X1, hS1, hg1, ⟨L, hQ, rfl, rfl, rfl, hC⟩, st⟩ := X.specialBackS hx (y := y) hy1 hown (mvT hZ w1) (mvT hZ w2) (mvT hZ w4) hy (backOfSH (W := W) hM hZ w4 w3 hf hlo hEL H) (g := mkF m pc Ls stk) rfl hsize (Steps.refl _) (a := a) (argsL := argsL) (rest := rest) hlen hst (by show 2 * 0 + _ ≤ _; rw [Nat.mul_zero, Nat.zero_add]; exact hW) hd (fun _ _ => ⟨has, eT, hc, hs⟩)
  obtain ⟨X2, hS2, hZ2, hown2⟩ := rebS hS (by rw [eT]; exact hk) X1 hS1 hg1 hZ hown
  exact hG _ _ (fun t kk => st.trans kk) (k T1 _ v L X2 rfl hS2 hZ2 hown2 hC hQ)
theorem own_callVW {C : String} (X : Stand p l e R (s.setVm vm0) m args below meth c T locs cells slots) (hx : p.tables.exec = Jvm.exec) (hZ : Z.Warmed39 (s.setVm vm0).vm) (hG : own_Bk p e below G) (hown : (s.setVm vm0).vm.findClass own = some m.cls)
    (w1 : (Jvm.Cond.methodLink own index y).before a0 Z = true) (w2 : (Jvm.Cond.declares y).before a0 Z = true) (w3 : (Jvm.Cond.selects C y y).before a0 Z = true) (w4 : (Jvm.Cond.instanceMethod y).before a0 Z = true) (w5 : (Jvm.Cond.initialized y.cls).before a0 Z = true) (w6 : (Jvm.Cond.code y bytes maxL ret).before a0 Z = true)
    (hy : y.cls ≠ "java/lang/invoke/MethodHandle" ∧ y.cls ≠ "java/lang/invoke/VarHandle") (W : Nat) (hM : own_ConW l Z EL y bytes maxL ret [] rm as' h Q) (hf : rm.frames + 1 ≤ R.frames) (hlo : W + (maxL + 11) + rm.locals ≤ R.locals) (eT : T.heap = h)
    (hS : s.Since vm0 k0) (hk : k0 ≤ h.size) (hEL : EW Z a0 EL) (H : CHv Z EL vm0 h) {b : Addr} (E : Exa Z h b C)
    (hsize : Ls.size = c.maxLocals) (hlen : ∀ sig, parseMethodDescriptor y.desc = some sig → argsL.length = sig.parameters.length) (has : (.ref b :: argsL).toArray = as') (hst : stk = argsL.reverse ++ .ref b :: rest) (hW : (rest.map fun v => v.category).sum ≤ W)
    (hd : decode c.code pc = .ok (.invokevirtual index, 3)) (hc : cells + rm.cells ≤ R.cells) (hs : slots + rm.slots ≤ R.slots)
    (k : ∀ T' h' v L, Stand p l e R (s.setVm T'.vm) m args below meth c T' (locs ++ L) (cells + rm.cells) (slots + rm.slots) → T'.heap = h' → s.Since T'.vm h'.size → Z.Warmed39 (s.setVm T'.vm).vm → (s.setVm T'.vm).vm.findClass own = some m.cls → CHr Z EL vm0 h T'.vm h' → Q v h' L → G (T'.setTop (mkF m (pc + 3) Ls (v.toList ++ rest)))) : G (T.setTop (mkF m pc Ls stk)) := by
  obtain ⟨cq, kq, qa, qb, qc⟩ := isOf hZ eT E
  obtain ⟨v, _, ⟨T1, L1, k1, n1⟩, -, X1, hS1, hg1, ⟨L, hQ, rfl, rfl, rfl, hC⟩, st⟩ := X.virtualBackS hx (y := y) (z := y) hown (mvT hZ w1) (mvT hZ w2) (notFace_of_selects (args := #[]) (mvT hZ w3)) (mvT hZ w3) (mvT hZ w4) hy (backOfSH (W := W) hM hZ w6 w5 hf hlo hEL H) qa qc (g := mkF m pc Ls stk) rfl hsize (Steps.refl _) (argsL := argsL) (rest := rest) hlen hst (by show 2 * 0 + _ ≤ _; rw [Nat.mul_zero, Nat.zero_add]; exact hW) hd (fun _ _ => ⟨has, eT, hc, hs⟩)
  obtain ⟨X2, hS2, hZ2, hown2⟩ := rebS hS (by rw [eT]; exact hk) X1 hS1 hg1 hZ hown
  exact hG _ _ (fun t kk => st.trans kk) (k T1 _ v L X2 rfl hS2 hZ2 hown2 hC hQ)
end Calls
/-- a String whose value is still null is none that the JVM holds for a constant -/
theorem own_safeStr {vm : Vm} {h : Heap} {a : Addr} (hal : Z.vm.Alike vm) (E : Exa Z h a "java/lang/String") (F : Fld Z h a "java/lang/String" "value" "[B" .null) : Safe Z EL vm h a := fun B => by
  obtain ⟨p0, hp0, u, a', hb, q, hqa, S, hy⟩ := B
  obtain ⟨cS, ⟨⟨s1, s2, s3, ⟨cv, kv, iv, s4, s4'⟩, ⟨cc, kc, ic, s5, s5'⟩, s6, s7, s8, s9, s10, -⟩, hfS, hcS⟩, -, hB, -⟩ := S
  obtain ⟨kv', z4⟩ := ff_back (U := Wst Z vm h) hal s4
  rcases hy with rfl | rfl
  · have G : Fld Z h q.sa "java/lang/String" "value" "[B" (.ref q.sd) := ⟨q.sC, cv, kv', iv, q.fSV, s1, z4, s6, s2, s3, by rw [← hal.assignable]; exact s4', s8⟩
    exact Fld.ne F G (by simp) rfl
  · obtain ⟨cell, k, e1, e2, -⟩ := E
    have s10' : h[q.sd]? = some q.SA := s10
    cases s10'.symm.trans e1
    have hB' : vm.findClass "[B" = some q.SA.cls := hB
    have hBZ : Z.vm.findClass "[B" = some q.SA.cls := by rw [← hal.findClass]; exact hB'
    obtain ⟨k1, x1, x2⟩ := Vm.findClass_spec e2
    obtain ⟨k2, y1, y2⟩ := Vm.findClass_spec hBZ
    cases x1.symm.trans y1
    exact absurd (x2.symm.trans y2) (by decide)
theorem own_safeArv {vm : Vm} {h : Heap} {a : Addr} {k : ClassId} {ty : FieldType} {z : Int32} {vs : List Value} {d : Value} (hal : Z.vm.Alike vm) (A : Arv Z h a k ty z vs d) (ht : ty ≠ .byte) : Safe Z EL vm h a := by
  obtain ⟨cl, Ar, -⟩ := A
  exact Safe.arr hal Ar ht
end OwnKitW

section OwnKitSB
variable {p : Program} {l : Launch} {e : Env} {R : Room} {s : State} {m : MethodId} {args : Array Value} {below : List Frame} {meth : Method} {c : Code} {T : State} {locs : List Loc} {cells slots : Nat}
theorem own_selfSel {C : String} {y : MethodName} (h : (Jvm.Cond.selects C y y).before args s = true) (hp : s.PrivateAt y) (hi : (Jvm.Cond.instanceMethod y).before args s = true) (hy : y.cls ≠ "java/lang/invoke/MethodHandle" ∧ y.cls ≠ "java/lang/invoke/VarHandle") : (Jvm.Cond.selects y.cls y y).before args s = true := by
  obtain ⟨mk, methM, hnamed, -, -, -⟩ := Cond.instanceMethod_spec hi
  obtain ⟨c2, r2, m2, -, -, q3, -, kP, hkP, hkPi⟩ := Cond.selects_spec h
  cases hnamed.symm.trans q3
  exact selects_self_of_private (findClass_of_methodNamed hnamed) hkP hkPi hp hi hy
theorem own_face {C : String} {w : MethodName} (h : (Jvm.Cond.selects C w w).before args s = true) : ∃ c k, s.vm.findClass w.cls = some c ∧ s.vm.classes[c]? = some k ∧ k.isInterface = false := by
  obtain ⟨c2, r2, m2, -, -, q3, -, kP, hkP, hkPi⟩ := Cond.selects_spec h
  exact ⟨_, kP, findClass_of_methodNamed q3, hkP, hkPi⟩
theorem own_sameSelf {C : String} {y w : MethodName} (hi : (Jvm.Cond.instanceMethod y).before args s = true) (hw : (Jvm.Cond.selects C w w).before args s = true) (hc : w.cls = y.cls) (hy : y.cls ≠ "java/lang/invoke/MethodHandle" ∧ y.cls ≠ "java/lang/invoke/VarHandle") : (Jvm.Cond.sameMethod y.cls y.cls y.name y.desc).before args s = true := by
  obtain ⟨mk, methM, hnamed, -, -, -⟩ := Cond.instanceMethod_spec hi
  obtain ⟨c, k, h1, h2, h3⟩ := own_face hw
  rw [hc] at h1
  have hfound : s.methodFound? y.cls y.name y.desc = some mk := State.methodFound?_of_named hnamed hy
  have hn : s.methodNamed? ⟨y.cls, y.name, y.desc⟩ = some mk := hnamed
  simp only [Cond.before, Cond.holds, Cond.value, hfound, hn, h1]
  simp [h2, h3]
theorem own_notFace {C : String} {y w : MethodName} (hw : (Jvm.Cond.selects C w w).before args s = true) (hc : w.cls = y.cls) : NotFace s y := fun r0 h0 => by
  obtain ⟨c, k, h1, h2, h3⟩ := own_face hw
  rw [hc] at h1
  cases (findClass_of_methodNamed h0).symm.trans h1
  exact ⟨k, h2, h3⟩
variable {Z : State} {a0 : Array Value} {own : String} {index : Nat} {y z : MethodName} {bytes : ByteArray} {maxL : Nat} {ret : Option FieldType} {rm : Room} {as' : Array Value} {h : Heap} {Q : Option Value → Heap → List Loc → Prop} {G : State → Prop} {pc : Nat} {Ls : Array Slot} {stk argsL rest : List Value}
theorem own_callP2 {C : String} (X : Stand p l e R s m args below meth c T locs cells slots) (hx : p.tables.exec = Jvm.exec) (hZ : Z.Warmed39 s.vm) (hG : own_Bk p e below G) (hown : s.vm.findClass own = some m.cls)
    (w1 : (Jvm.Cond.methodLink own index y).before a0 Z = true) (w2 : (Jvm.Cond.instanceMethod y).before a0 Z = true) (w3 : (Jvm.Cond.selects C y y).before a0 Z = true) (wp : (Jvm.Cond.privateMethod y).before a0 Z = true) (w5 : (Jvm.Cond.initialized y.cls).before a0 Z = true) (w6 : (Jvm.Cond.code y bytes maxL ret).before a0 Z = true)
    (hy : y.cls ≠ "java/lang/invoke/MethodHandle" ∧ y.cls ≠ "java/lang/invoke/VarHandle") (W : Nat) (hM : own_Con l Z y bytes maxL ret [] rm as' h Q) (hf : rm.frames + 1 ≤ R.frames) (hlo : W + (maxL + 11) + rm.locals ≤ R.locals) (eT : T.heap = h) {b : Addr} {D : String} (E : Exa Z h b D)
    (hsize : Ls.size = c.maxLocals) (hlen : ∀ sig, parseMethodDescriptor y.desc = some sig → argsL.length = sig.parameters.length) (has : (.ref b :: argsL).toArray = as') (hst : stk = argsL.reverse ++ .ref b :: rest) (hW : (rest.map fun v => v.category).sum ≤ W)
    (hd : decode c.code pc = .ok (.invokevirtual index, 3)) (hc : cells + rm.cells ≤ R.cells) (hs : slots + rm.slots ≤ R.slots)
    (k : ∀ T' h' v L, Stand p l e R s m args below meth c T' (locs ++ L) (cells + rm.cells) (slots + rm.slots) → T'.heap = h' → Q v h' L → G (T'.setTop (mkF m (pc + 3) Ls (v.toList ++ rest)))) : G (T.setTop (mkF m pc Ls stk)) := by
  have hp : Z.PrivateAt y := Cond.privateMethod_at wp
  exact own_callP X hx hZ hG hown w1 w2 (own_selfSel w3 hp w2 hy) wp w5 w6 hy W hM hf hlo eT E hsize hlen has hst hW hd hc hs k
theorem own_callVZ {C D : String} {w : MethodName} (X : Stand p l e R s m args below meth c T locs cells slots) (hx : p.tables.exec = Jvm.exec) (hZ : Z.Warmed39 s.vm) (hG : own_Bk p e below G) (hown : s.vm.findClass own = some m.cls)
    (w1 : (Jvm.Cond.methodLink own index z).before a0 Z = true) (w2 : (Jvm.Cond.declares z).before a0 Z = true) (w3 : (Jvm.Cond.selects C z y).before a0 Z = true) (wq : (Jvm.Cond.selects D w w).before a0 Z = true) (hq : w.cls = z.cls) (w4 : (Jvm.Cond.instanceMethod y).before a0 Z = true) (w5 : (Jvm.Cond.initialized y.cls).before a0 Z = true) (w6 : (Jvm.Cond.code y bytes maxL ret).before a0 Z = true)
    (hy : z.cls ≠ "java/lang/invoke/MethodHandle" ∧ z.cls ≠ "java/lang/invoke/VarHandle") (W : Nat) (hM : own_Con l Z y bytes maxL ret [] rm as' h Q) (hf : rm.frames + 1 ≤ R.frames) (hlo : W + (maxL + 11) + rm.locals ≤ R.locals) (eT : T.heap = h) {b : Addr} (E : Exa Z h b C)
    (hsize : Ls.size = c.maxLocals) (hlen : ∀ sig, parseMethodDescriptor z.desc = some sig → argsL.length = sig.parameters.length) (has : (.ref b :: argsL).toArray = as') (hst : stk = argsL.reverse ++ .ref b :: rest) (hW : (rest.map fun v => v.category).sum ≤ W)
    (hd : decode c.code pc = .ok (.invokevirtual index, 3)) (hc : cells + rm.cells ≤ R.cells) (hs : slots + rm.slots ≤ R.slots)
    (k : ∀ T' h' v L, Stand p l e R s m args below meth c T' (locs ++ L) (cells + rm.cells) (slots + rm.slots) → T'.heap = h' → Q v h' L → G (T'.setTop (mkF m (pc + 3) Ls (v.toList ++ rest)))) : G (T.setTop (mkF m pc Ls stk)) := by
  obtain ⟨cq, kq, qa, qb, qc⟩ := isOf hZ eT E
  obtain ⟨v, _, ⟨T1, L1, k1, n1⟩, -, X1, ⟨L, hQ, rfl, rfl, rfl⟩, st⟩ := X.virtualBack hx (y := z) (z := y) hown (mvT hZ w1) (mvT hZ w2) (own_notFace (args := #[]) (mvT hZ wq) hq) (mvT hZ w3) (mvT hZ w4) hy (backOf (W := W) hM hZ w6 w5 hf hlo) qa qc (g := mkF m pc Ls stk) rfl hsize (Steps.refl _) (argsL := argsL) (rest := rest) hlen hst (by show 2 * 0 + _ ≤ _; rw [Nat.mul_zero, Nat.zero_add]; exact hW) hd (fun _ _ => ⟨has, eT, hc, hs⟩)
  exact hG _ _ (fun t kk => st.trans kk) (k T1 _ v L X1 rfl hQ)
theorem own_callU {B : String} {w : MethodName} (X : Stand p l e R s m args below meth c T locs cells slots) (hx : p.tables.exec = Jvm.exec) (hZ : Z.Warmed39 s.vm) (hG : own_Bk p e below G) (hown : s.vm.findClass own = some m.cls)
    (w1 : (Jvm.Cond.methodLink own index y).before a0 Z = true) (w2 : (Jvm.Cond.instanceMethod y).before a0 Z = true) (w4 : (Jvm.Cond.superclass own y.cls).before a0 Z = true) (wq : (Jvm.Cond.selects B w w).before a0 Z = true) (hq : w.cls = y.cls) (w5 : (Jvm.Cond.initialized y.cls).before a0 Z = true) (w6 : (Jvm.Cond.code y bytes maxL ret).before a0 Z = true)
    (hn : y.name ≠ "<init>") (hy : y.cls ≠ "java/lang/invoke/MethodHandle" ∧ y.cls ≠ "java/lang/invoke/VarHandle") (W : Nat) (hM : own_Con l Z y bytes maxL ret [] rm as' h Q) (hf : rm.frames + 1 ≤ R.frames) (hlo : W + (maxL + 11) + rm.locals ≤ R.locals) (eT : T.heap = h) {b : Addr} {D : String} (E : Exa Z h b D)
    (hsize : Ls.size = c.maxLocals) (hlen : ∀ sig, parseMethodDescriptor y.desc = some sig → argsL.length = sig.parameters.length) (has : (.ref b :: argsL).toArray = as') (hst : stk = argsL.reverse ++ .ref b :: rest) (hW : (rest.map fun v => v.category).sum ≤ W)
    (hd : decode c.code pc = .ok (.invokespecial index, 3)) (hc : cells + rm.cells ≤ R.cells) (hs : slots + rm.slots ≤ R.slots)
    (k : ∀ T' h' v L, Stand p l e R s m args below meth c T' (locs ++ L) (cells + rm.cells) (slots + rm.slots) → T'.heap = h' → Q v h' L → G (T'.setTop (mkF m (pc + 3) Ls (v.toList ++ rest)))) : G (T.setTop (mkF m pc Ls stk)) := by
  obtain ⟨v, _, ⟨T1, L1, k1, n1⟩, -, X1, ⟨L, hQ, rfl, rfl, rfl⟩, st⟩ := superBack X hx hZ hown w1 (own_sameSelf w2 wq hq hy) w2 w4 hn (backOf (W := W) hM hZ w6 w5 hf hlo) eT (Ins.self E) (g := mkF m pc Ls stk) rfl hsize w6 (argsL := argsL) (rest := rest) hlen hst (by show 2 * 0 + _ ≤ _; rw [Nat.mul_zero, Nat.zero_add]; exact hW) hd (fun _ _ => ⟨has, eT, hc, hs⟩)
  exact hG _ _ (fun t kk => st.trans kk) (k T1 _ v L X1 rfl hQ)
end OwnKitSB

def own_lo (ch : Int32) : Int32 := nar .byte ((ch >>> ((0 : Int32) &&& 31)).toInt8.toInt32)
def own_hi (ch : Int32) : Int32 := nar .byte ((ch >>> ((8 : Int32) &&& 31)).toInt8.toInt32)
def own_join (x y : Int32) : Int32 := nar .char ((((x &&& (255 : Int32)) <<< ((0 : Int32) &&& 31)) ||| ((y &&& (255 : Int32)) <<< ((8 : Int32) &&& 31))).toUInt32.toUInt16.toUInt32.toInt32)
def own_is16 (cs : List Int32) (vs : List Value) : Prop := vs.length = 2 * cs.length ∧ ∀ j, j < cs.length → vs.getD (2 * j) (.int (0 : Int32)) = .int (own_lo (cs.getD j 0)) ∧ vs.getD (2 * j + 1) (.int (0 : Int32)) = .int (own_hi (cs.getD j 0))
/-- the bytes of a String of these chars -/
def own_enc (cs : List Int32) (cd nb : Int32) (vs : List Value) : Prop :=
  ((∀ c ∈ cs, ¬ ((255 : Int32) < c)) ∧ cd = 0 ∧ nb = Int32.ofNat cs.length ∧ vs = (cs.map fun c => Value.int c.toInt8.toInt32)) ∨
    ((∃ k, k < cs.length ∧ (255 : Int32) < cs.getD k 0) ∧ cd = 1 ∧ nb = Int32.ofNat (2 * cs.length) ∧ own_is16 cs vs)
theorem own_shl1 (i : Nat) : Int32.ofNat i <<< ((1 : Int32) &&& 31) = Int32.ofNat (2 * i) := by
  rw [shlm (x := Int32.ofNat i) (k := 1) (m := 2) (by decide), Nat.mul_comm, Int32.ofNat_mul]; rfl
theorem own_lo_rng (ch : Int32) : (own_lo ch).toInt % 256 = ch.toInt % 256 := by
  have h0 : (ch >>> ((0 : Int32) &&& 31)).toInt = ch.toInt / (2 ^ 0 : Nat) := c_ishr ch 0 0 (by decide)
  have h1 := c_i2b (ch >>> ((0 : Int32) &&& 31))
  show (nar .byte _).toInt % 256 = _
  rw [own_nb]
  omega
theorem own_hi_rng (ch : Int32) : (own_hi ch).toInt % 256 = (ch.toInt / 256) % 256 := by
  have h0 : (ch >>> ((8 : Int32) &&& 31)).toInt = ch.toInt / (2 ^ 8 : Nat) := c_ishr ch 8 8 (by decide)
  have h1 := c_i2b (ch >>> ((8 : Int32) &&& 31))
  show (nar .byte _).toInt % 256 = _
  rw [own_nb]
  omega
theorem own_join_eq {ch : Int32} (h : 0 ≤ ch.toInt ∧ ch.toInt ≤ 65535) : own_join (own_lo ch) (own_hi ch) = ch := by
  have l := own_lo_rng ch; have g := own_hi_rng ch
  unfold own_join
  rw [own_nc]
  generalize own_lo ch = x at *
  generalize own_hi ch = y at *
  have m1 : (x &&& (255 : Int32)).toInt = x.toInt % 256 := c_mask x 255 8 (by decide) (by decide)
  have m2 : (y &&& (255 : Int32)).toInt = y.toInt % 256 := c_mask y 255 8 (by decide) (by decide)
  have s1 : ((x &&& (255 : Int32)) <<< ((0 : Int32) &&& 31)) = (x &&& (255 : Int32)) := by
    rw [shlm (m := 1) (by decide)]; simp
  have s2 := c_ishl (y &&& (255 : Int32)) 8 8 (by decide)
  rw [s1]
  generalize (x &&& (255 : Int32)) = X at *
  generalize ((y &&& (255 : Int32)) <<< ((8 : Int32) &&& 31)) = Y at *
  have rY := rng32 Y
  have eY : Y.toInt = (y.toInt % 256) * 256 := by omega
  have o := c_or' X Y 8 (by decide) 256 rfl (by omega) (by omega) (by omega)
  have rO := rng32 (X ||| Y)
  have c2 := c_i2c (X ||| Y)
  apply Int32.toInt_inj.mp
  omega
theorem own_coder0 (n : Int32) : nar .byte ((((n - n).toUInt32 >>> ((31 : Int32) &&& 31).toUInt32).toInt32).toInt8.toInt32) = 0 := by rw [Int32.sub_self]; rfl
theorem own_coder1 {n : Nat} (h0 : 0 < n) (h : n < 536870912) : nar .byte ((((Int32.ofNat n - Int32.ofNat (2 * n)).toUInt32 >>> ((31 : Int32) &&& 31).toUInt32).toInt32).toInt8.toInt32) = 1 := by
  have e := c_isub (Int32.ofNat n) (Int32.ofNat (2 * n))
  rw [own_toInt (by omega), own_toInt (by omega)] at e
  have r := rng32 (Int32.ofNat n - Int32.ofNat (2 * n))
  have s := c_iushr (Int32.ofNat n - Int32.ofNat (2 * n)) 31 31 (by decide) (by decide)
  generalize Int32.ofNat n - Int32.ofNat (2 * n) = D at *
  generalize ((D.toUInt32 >>> ((31 : Int32) &&& 31).toUInt32).toInt32) = S at *
  have hS : S.toInt = 1 := by rw [s]; omega
  have : S = 1 := Int32.toInt_inj.mp (by rw [hS]; rfl)
  rw [this]; rfl
theorem own_mask16 {x c : Int32} (h : (x &&& 65535).toUInt32.toUInt16.toUInt32.toInt32 = c) : 0 ≤ c.toInt ∧ c.toInt ≤ 65535 := by
  have q := c_i2c (x &&& 65535); rw [h] at q; omega
theorem own_i2c16 {x c : Int32} (h : x.toUInt32.toUInt16.toUInt32.toInt32 = c) : 0 ≤ c.toInt ∧ c.toInt ≤ 65535 := by
  have q := c_i2c x; rw [h] at q; omega
theorem own_nar16 {c : Int32} (h : 0 ≤ c.toInt ∧ c.toInt ≤ 65535) : 0 ≤ (nar .char c).toInt ∧ (nar .char c).toInt ≤ 65535 := by rw [own_narC h]; exact h
theorem own_ltK {n : Nat} (h : n < 1073741823) : Int32.ofNat n < (1073741823 : Int32) := by
  rw [Int32.lt_iff_toInt_lt, own_toInt (by omega)]
  have : (1073741823 : Int32).toInt = 1073741823 := by decide
  omega
theorem own_ofNat_ne {i n : Nat} (h : i < n) (hn : n < 2147483648) : ¬ (Int32.ofNat i = Int32.ofNat n) := fun e => by
  have := own_ofNat_inj (by omega) hn e; omega
theorem own_set16 {cs : List Int32} {vs : List Value} {i : Nat} (hl : vs.length = 2 * cs.length) (hi : i < cs.length)
    (hv : ∀ j, j < i → vs.getD (2 * j) (.int (0 : Int32)) = .int (own_lo (cs.getD j 0)) ∧ vs.getD (2 * j + 1) (.int (0 : Int32)) = .int (own_hi (cs.getD j 0))) :
    ∀ j, j < i + 1 → ((vs.set (2 * i) (.int (own_lo (cs.getD i 0)))).set (2 * i + 1) (.int (own_hi (cs.getD i 0)))).getD (2 * j) (.int (0 : Int32)) = .int (own_lo (cs.getD j 0)) ∧ ((vs.set (2 * i) (.int (own_lo (cs.getD i 0)))).set (2 * i + 1) (.int (own_hi (cs.getD i 0)))).getD (2 * j + 1) (.int (0 : Int32)) = .int (own_hi (cs.getD j 0)) := by
  intro j hj
  have h1 : 2 * i + 1 < (vs.set (2 * i) (Value.int (own_lo (cs.getD i 0)))).length := by rw [List.length_set]; omega
  have h2 : 2 * i < vs.length := by omega
  rw [own_getD_set _ _ _ _ _ h1, own_getD_set _ _ _ _ _ h2, own_getD_set _ _ _ _ _ h1, own_getD_set _ _ _ _ _ h2]
  by_cases e : j = i
  · subst e
    rw [if_neg (by omega), if_pos rfl, if_pos rfl]; exact ⟨rfl, rfl⟩
  · rw [if_neg (by omega), if_neg (by omega), if_neg (by omega), if_neg (by omega)]; exact hv j (by omega)
theorem own_allD {α : Type} {P : α → Prop} (cs : List α) (d : α) (h : ∀ j, j < cs.length → P (cs.getD j d)) : ∀ c ∈ cs, P c := by
  intro c hc
  obtain ⟨j, hj, rfl⟩ := List.getElem_of_mem hc
  have q := h j hj
  rw [List.getD_eq_getElem?_getD, List.getElem?_eq_getElem hj] at q
  exact q
theorem own_nextD {P : Int32 → Prop} {cs : List Int32} {i : Nat} (h : ∀ j, j < i → P (cs.getD j 0)) (q : P (cs.getD i 0)) : ∀ j, j < i + 1 → P (cs.getD j 0) := by
  intro j hj
  by_cases e : j = i
  · subst e; exact q
  · exact h j (by omega)
theorem own_is16_1 (ch : Int32) : own_is16 [ch] [.int (own_lo ch), .int (own_hi ch)] := ⟨rfl, fun j hj => by
  have e : j = 0 := by simpa using hj
  subst e; exact ⟨rfl, rfl⟩⟩
theorem own_enc_lat1 {ch : Int32} (h : ¬ ((255 : Int32) < ch)) : own_enc [ch] 0 (1 : Int32) [.int (nar .byte (ch.toInt8.toInt32))] :=
  Or.inl ⟨own_allc h own_alln, rfl, rfl, by rw [own_nb]; rfl⟩
theorem own_enc_u1 {ch : Int32} (h : (255 : Int32) < ch) : own_enc [ch] 1 (2 : Int32) [.int (own_lo ch), .int (own_hi ch)] :=
  Or.inr ⟨⟨0, Nat.zero_lt_one, h⟩, rfl, rfl, own_is16_1 ch⟩
theorem own_enc_nil : own_enc [] 0 (0 : Int32) [] := Or.inl ⟨own_alln, rfl, rfl, rfl⟩
theorem own_8to16 {c : Int32} (h : 0 ≤ c.toInt ∧ c.toInt ≤ 255) : 0 ≤ c.toInt ∧ c.toInt ≤ 65535 := ⟨h.1, by omega⟩
theorem own_narrng (x : Int32) : 0 ≤ (nar .char x).toInt ∧ (nar .char x).toInt ≤ 65535 := by
  have q := c_i2c x
  show 0 ≤ x.toUInt32.toUInt16.toUInt32.toInt32.toInt ∧ x.toUInt32.toUInt16.toUInt32.toInt32.toInt ≤ 65535
  omega
theorem own_shr0 (x : Int32) : x >>> ((0 : Int32) &&& 31) = x := Int32.toInt_inj.mp (by rw [c_ishr x 0 0 (by decide)]; simp)
theorem own_shr1 {n : Nat} (h : n < 1073741824) : Int32.ofNat (2 * n) >>> ((1 : Int32) &&& 31) = Int32.ofNat n := by
  apply Int32.toInt_inj.mp
  rw [c_ishr _ 1 1 (by decide), own_toInt (by omega), own_toInt (by omega)]
  omega
theorem own_byteEq {c d : Int32} (hc : 0 ≤ c.toInt ∧ c.toInt ≤ 255) (hd : 0 ≤ d.toInt ∧ d.toInt ≤ 255) : c.toInt8.toInt32 = d.toInt8.toInt32 ↔ c = d := by
  constructor
  · intro h
    have h1 := c_i2b c; have h2 := c_i2b d
    rw [h] at h1
    exact Int32.toInt_inj.mp (by omega)
  · intro h; rw [h]
theorem own_lat_rng {cs : List Int32} (hall : ∀ c ∈ cs, ¬ ((255 : Int32) < c)) (h16 : ∀ c ∈ cs, 0 ≤ c.toInt ∧ c.toInt ≤ 65535) : ∀ c ∈ cs, 0 ≤ c.toInt ∧ c.toInt ≤ 255 := fun c hc => by
  have q := hall c hc; have r := h16 c hc
  rw [Int32.lt_iff_toInt_lt] at q
  have : (255 : Int32).toInt = 255 := by decide
  omega
theorem own_m1 {P : Int32 → Prop} {cs : List Int32} (h : cs.length = 0) : (-1 : Int32) < (0 : Int32) ↔ ∀ c ∈ cs, P c :=
  ⟨fun _ => by rw [List.eq_nil_of_length_eq_zero h]; exact own_alln, fun _ => by decide⟩
theorem own_pos0 {n : Nat} (h : ¬ (0 : Int32) < Int32.ofNat n) (hn : n < 2147483648) : n = 0 := by
  rcases Nat.eq_zero_or_pos n with e | e
  · exact e
  · exact absurd (own_lt (i := 0) e hn) h
theorem own_n3 {x n : Int32} (h : (x &&& (3 : Int32)) = n) (h0 : ¬ (n = (0 : Int32))) (h1 : ¬ (n = (1 : Int32))) (h2 : ¬ (n = (2 : Int32))) : n = (3 : Int32) := by
  have q : (x &&& (3 : Int32)).toInt = x.toInt % (2 ^ 2 : Nat) := c_mask x 3 2 (by decide) (by decide)
  rw [h] at q
  have a0 := mt Int32.toInt_inj.mp h0; have a1 := mt Int32.toInt_inj.mp h1; have a2 := mt Int32.toInt_inj.mp h2
  have e0 : (0 : Int32).toInt = 0 := by decide
  have e1 : (1 : Int32).toInt = 1 := by decide
  have e2 : (2 : Int32).toInt = 2 := by decide
  have e3 : (3 : Int32).toInt = 3 := by decide
  apply Int32.toInt_inj.mp
  omega

theorem own_enc_lat {cs ks : List Int32} (hb : ∃ k, k < cs.length ∧ (255 : Int32) < cs.getD k 0) (hk : ∀ c ∈ ks, ¬ ((255 : Int32) < c)) : cs ≠ ks := fun e => by
  subst e
  obtain ⟨k, h1, h2⟩ := hb
  exact hk _ (own_getD_mem cs k 0 h1) h2
theorem own_eq_of {cs ks : List Int32} (hl : ks.length = cs.length) (h : ∀ j, j < ks.length → ks.getD j 0 = cs.getD j 0) : cs = ks := by
  apply List.ext_getElem? ; intro j
  by_cases hj : j < ks.length
  · have q := h j hj
    rw [List.getD_eq_getElem?_getD, List.getD_eq_getElem?_getD, List.getElem?_eq_getElem hj, List.getElem?_eq_getElem (hl ▸ hj)] at q
    rw [List.getElem?_eq_getElem hj, List.getElem?_eq_getElem (hl ▸ hj)]
    exact congrArg some q.symm
  · rw [List.getElem?_eq_none (by omega), List.getElem?_eq_none (by omega)]
theorem own_ne_of {cs ks : List Int32} {j : Nat} (h : ¬ (ks.getD j 0 = cs.getD j 0)) : cs ≠ ks := fun e => h (by rw [e])
theorem own_ne_len {cs ks : List Int32} (h : ¬ (ks.length = cs.length)) : cs ≠ ks := fun e => h (by rw [e])
theorem own_hasL {cl : Cell} : ∀ (vs : List Value) (k : Nat), (∀ i, i < vs.length → cl.slots[k + i]? = some (vs.getD i .null)) → HasL cl k vs
  | [], _, _ => trivial
  | v :: r, k, h => ⟨by have q := h 0 (Nat.zero_lt_succ _); exact q, own_hasL r (k + 1) fun i hi => by
      have q := h (i + 1) (Nat.succ_lt_succ hi)
      rw [show k + 1 + i = k + (i + 1) by omega]; exact q⟩
theorem own_listArv {s : State} {args : Array Value} {t : Term} {a : Addr} {cl : Cell} {ty : FieldType} {dv : Value} {n : Int32} {vs : List Value} (hf : Fit s) (ev : t.eval args s none [] s = some (.ref a)) (A : Arr s s.heap a cl ty) (hl : (Term.length t).eval args s none [] s = some (.int n)) (hn : ¬ n < 0) (hv : n.toNatClampNeg = vs.length) (h31 : vs.length < 2147483648)
    (he : ∀ i, i < vs.length → (Term.elem t (Term.int (Int32.ofNat i))).eval args s none [] s = some (vs.getD i .null)) : Arv s s.heap a cl.cls ty n vs dv := by
  obtain ⟨x, cl', e1, e2, -⟩ := Term.length_spec hl
  cases ev.symm.trans e1
  have hc : s.arrayAt? a = some cl := A.fin (Vm.Alike.refl _)
  cases e2.symm.trans hc
  have h31' := Jvm.Free.SBG.length_lt e1 hc hl
  have e : (Term.length t).eval args s none [] s = some (.int (Int32.ofNat cl.slots.size)) := by simp [Term.eval, e1, hc, h31']
  have q : Int32.ofNat cl.slots.size = n := by simpa using Option.some.inj (e.symm.trans hl)
  refine Arv.start hf A h31' q hn hv (own_hasL vs 0 fun i hi => ?_)
  have g := he i hi
  rw [elem_f (j := Int32.ofNat i) e1 (Term.int_eval _) hc (own_nn (by omega)), own_clamp (by omega)] at g
  rw [Nat.zero_add]; exact g
theorem own_eqI {args : Array Value} {s : State} {a b : Term} {n : Int32} (h : (Cond.eq a b).value args s none s [] = some true) (hb : b.eval args s none [] s = some (.int n)) : a.eval args s none [] s = some (.int n) := Cond.eq_int (by simp [Cond.holds, h]) hb
theorem own_eqR {args : Array Value} {s : State} {a b : Term} {y : Addr} (h : (Cond.eq a b).value args s none s [] = some true) (hb : b.eval args s none [] s = some (.ref y)) : a.eval args s none [] s = some (.ref y) := Cond.eq_refs (by simp [Cond.holds, h]) hb rfl
theorem own_neR {args : Array Value} {s : State} {a b : Term} {x y : Addr} (h : (Cond.not (Cond.eq a b)).value args s none s [] = some true) (ha : a.eval args s none [] s = some (.ref x)) (hb : b.eval args s none [] s = some (.ref y)) : x ≠ y := fun e => by
  subst e
  have q := not_v h
  simp [Cond.value, ha, hb] at q
theorem own_fldS {args : Array Value} {s : State} {t : Term} {C n d : String} {a : Addr} {v : Value} (ht : t.eval args s none [] s = some (.ref a)) (h : (Term.field t C n d).eval args s none [] s = some v) : Fld s s.heap a C n d v := Fld.start (by simpa [Term.eval, ht] using h)
theorem own_set_same {ks : List Int32} {i : Nat} (hi : i < ks.length) : ks.set i (ks.getD i 0) = ks := by
  apply List.ext_getElem? ; intro j
  by_cases e : i = j
  · subst e
    rw [List.getElem?_set_self hi, List.getD_eq_getElem?_getD, List.getElem?_eq_getElem hi]; rfl
  · rw [List.getElem?_set_ne e]
theorem own_set_ne {ks : List Int32} {i : Nat} {c : Int32} (hi : i < ks.length) (h : ¬ (c = ks.getD i 0)) : ks.set i c ≠ ks := fun e => h (by
  have q := congrArg (fun l => l.getD i 0) e
  simp only [List.getD_eq_getElem?_getD, List.getElem?_set_self hi] at q
  rw [List.getD_eq_getElem?_getD]; exact q)
theorem own_ixl {x n r : Int32} (hn : 0 < n.toInt) (hr : ((x &&& (2147483647 : Int32)) % n) = r) : 0 ≤ r.toInt ∧ r.toInt < n.toInt := by
  have q := c_and x 2147483647 (by decide)
  have c := (c_iremV (x &&& 2147483647) n).1 q.1 (by omega)
  rw [hr] at c
  exact ⟨c.1, c.2.1⟩
theorem own_ixb {n r : Int32} {k : Nat} (h : 0 ≤ r.toInt ∧ r.toInt < n.toInt) (hn : n.toInt = k) : ¬ (r < (0 : Int32)) ∧ r < n ∧ r.toNatClampNeg < k := by
  have hc : r.toNatClampNeg = r.toInt.toNat := rfl
  rw [Int32.lt_iff_toInt_lt, Int32.lt_iff_toInt_lt, hc]
  have e0 : (0 : Int32).toInt = 0 := by decide
  omega
theorem own_r3 {x r : Int32} (h : ((x &&& (2147483647 : Int32)) % (3 : Int32)) = r) : r = (0 : Int32) ∨ r = (1 : Int32) ∨ r = (2 : Int32) := by
  have q := own_ixl (n := 3) (by decide) h
  have e0 : (0 : Int32).toInt = 0 := by decide
  have e1 : (1 : Int32).toInt = 1 := by decide
  have e2 : (2 : Int32).toInt = 2 := by decide
  have e3 : (3 : Int32).toInt = 3 := by decide
  simp only [← Int32.toInt_inj]; omega
theorem own_r7 {x r : Int32} (h : ((x &&& (2147483647 : Int32)) % (7 : Int32)) = r) : r = (0 : Int32) ∨ r = (1 : Int32) ∨ r = (2 : Int32) ∨ r = (3 : Int32) ∨ r = (4 : Int32) ∨ r = (5 : Int32) ∨ r = (6 : Int32) := by
  have q := own_ixl (n := 7) (by decide) h
  have e0 : (0 : Int32).toInt = 0 := by decide
  have e1 : (1 : Int32).toInt = 1 := by decide
  have e2 : (2 : Int32).toInt = 2 := by decide
  have e3 : (3 : Int32).toInt = 3 := by decide
  have e4 : (4 : Int32).toInt = 4 := by decide
  have e5 : (5 : Int32).toInt = 5 := by decide
  have e6 : (6 : Int32).toInt = 6 := by decide
  have e7 : (7 : Int32).toInt = 7 := by decide
  simp only [← Int32.toInt_inj]; omega
theorem own_m3 {x r : Int32} (h : (x &&& (3 : Int32)) = r) : r = (0 : Int32) ∨ r = (1 : Int32) ∨ r = (2 : Int32) ∨ r = (3 : Int32) := by
  have q : (x &&& (3 : Int32)).toInt = x.toInt % (2 ^ 2 : Nat) := c_mask x 3 2 (by decide) (by decide)
  rw [h] at q
  have e0 : (0 : Int32).toInt = 0 := by decide
  have e1 : (1 : Int32).toInt = 1 := by decide
  have e2 : (2 : Int32).toInt = 2 := by decide
  have e3 : (3 : Int32).toInt = 3 := by decide
  simp only [← Int32.toInt_inj]; omega
theorem own_r4 {x r : Int32} (h : ((x &&& (2147483647 : Int32)) % (4 : Int32)) = r) : r = (0 : Int32) ∨ r = (1 : Int32) ∨ r = (2 : Int32) ∨ r = (3 : Int32) := by
  have q := own_ixl (n := 4) (by decide) h
  have e0 : (0 : Int32).toInt = 0 := by decide
  have e1 : (1 : Int32).toInt = 1 := by decide
  have e2 : (2 : Int32).toInt = 2 := by decide
  have e3 : (3 : Int32).toInt = 3 := by decide
  have e4 : (4 : Int32).toInt = 4 := by decide
  simp only [← Int32.toInt_inj]; omega

section OwnLitB
variable {Z : State} {EL : List (String × Nat)} {vm : Vm} {h : Heap} {s : State} {own text : String} {index : Nat} {a b : Addr} {a0 : Array Value} {cid : ClassId}
theorem own_fldEq {C n d : String} {v w : Value} (F : Fld Z h a C n d v) (G : Fld Z h a C n d w) : v = w := Classical.byContradiction fun q => Fld.ne F G q rfl
/-- the byte array of a constant is exactly a byte[] -/
theorem own_litB (hW : Z.Warmed39 vm) (H : CHv Z EL vm h) (hmem : (own, index) ∈ EL) (hL : Lit (s.setVm vm) own index a) (hf : vm.findClass own = some cid) (w : (Jvm.Cond.stringLink own index text).before a0 Z = true)
    (F : Fld Z h a "java/lang/String" "value" "[B" (.ref b)) : Exa Z h b "[B" := by
  have hal : Z.vm.Alike vm := hW.alike
  have w2 : (Jvm.Cond.stringLink own index text).before a0 (Wst Z vm h) = true := mvS (s := { Z with heap := h }) hW w
  obtain ⟨k0', cf, i, units, hkx, hcf, hp, hu, -, htext, -⟩ := Cond.stringLink_spec (s := Wst Z vm h) hf w2
  have hres : k0'.resolved[index]? = some (some (.string a)) := by
    have q : (s.setVm vm).resolvedAt? own index = some (.string a) := hL
    have hk' : vm.classes[cid]? = some k0' := hkx
    have hf' : (s.setVm vm).vm.findClass own = some cid := hf
    have hk2 : (s.setVm vm).vm.classes[cid]? = some k0' := hkx
    simp [State.resolvedAt?, hf, hk'] at q
    cases hr : k0'.resolved[index]? with
    | none => rw [hr] at q; cases q
    | some o => rw [hr] at q; cases o with
      | none => cases q
      | some r => simpa using q
  have hB0 : Booksv vm own index units a := ⟨cid, k0', cf, i, hf, hkx, hcf, hp, hu, Or.inl hres⟩
  obtain ⟨q, hqa, F0⟩ := SlB.of (H _ hmem units a hB0)
  obtain ⟨cS, ⟨⟨s1, s2, s3, ⟨cv, kv, iv, s4, s4'⟩, ⟨cc, kc, ic, s5, s5'⟩, s6, s7, s8, s9, s10, s11, s12, s13, s14, s15, s16⟩, hfS, hcS⟩, ⟨kS, k1, k2, k3⟩, hB, hbyt⟩ := F0
  subst hqa
  have hB : vm.findClass "[B" = some q.SA.cls := hB
  obtain ⟨kv', z4⟩ := ff_back (U := Wst Z vm h) hal s4
  have G : Fld Z h q.sa "java/lang/String" "value" "[B" (.ref q.sd) := ⟨q.sC, cv, kv', iv, q.fSV, s1, z4, s6, s2, s3, by rw [← hal.assignable]; exact s4', s8⟩
  have e : b = q.sd := by have := own_fldEq F G; exact Value.ref.inj this
  subst e
  have hBZ : Z.vm.findClass "[B" = some q.SA.cls := by rw [← hal.findClass]; exact hB
  obtain ⟨kb, hkb, -⟩ := Vm.findClass_spec hBZ
  obtain ⟨kb', hkb', ekb⟩ := hal.2.2 _ _ hkb
  obtain ⟨hst, k9, hk9, comp, hkind9⟩ := s11
  have hk9 : vm.classes[q.SA.cls]? = some k9 := hk9
  have ek9 : k9 = kb' := Option.some.inj (hk9.symm.trans hkb')
  have hkz : kb.kind = .array comp .byte := by rw [ek9, ekb] at hkind9; exact hkind9
  refine ⟨q.SA, kb, s10, hBZ, hkb, ?_, fun ho => by rw [hkz] at ho; cases ho⟩
  cases hv : q.SA.vm <;> first | rfl | exact absurd hv (hst _)
end OwnLitB

def own_TAB : List Int32 := [-1, -1, -1, -1, -1, -1, -1, -1, -1, -1, -1, -1, -1, -1, -1, -1, -1, -1, -1, -1, -1, -1, -1, -1, -1, -1, -1, -1, -1, -1, -1, -1, -1, -1, -1, -1, -1, -1, -1, -1, -1, -1, -1, -1, -1, 62, -1, -1, 52, 53, 54, 55, 56, 57, 58, 59, 60, 61, -1, -1, -1, -2, -1, -1, -1, 0, 1, 2, 3, 4, 5, 6, 7, 8, 9, 10, 11, 12, 13, 14, 15, 16, 17, 18, 19, 20, 21, 22, 23, 24, 25, -1, -1, -1, -1, 63, -1, 26, 27, 28, 29, 30, 31, 32, 33, 34, 35, 36, 37, 38, 39, 40, 41, 42, 43, 44, 45, 46, 47, 48, 49, 50, 51, -1, -1, -1, -1, -1, -1, -1, -1, -1, -1, -1, -1, -1, -1, -1, -1, -1, -1, -1, -1, -1, -1, -1, -1, -1, -1, -1, -1, -1, -1, -1, -1, -1, -1, -1, -1, -1, -1, -1, -1, -1, -1, -1, -1, -1, -1, -1, -1, -1, -1, -1, -1, -1, -1, -1, -1, -1, -1, -1, -1, -1, -1, -1, -1, -1, -1, -1, -1, -1, -1, -1, -1, -1, -1, -1, -1, -1, -1, -1, -1, -1, -1, -1, -1, -1, -1, -1, -1, -1, -1, -1, -1, -1, -1, -1, -1, -1, -1, -1, -1, -1, -1, -1, -1, -1, -1, -1, -1, -1, -1, -1, -1, -1, -1, -1, -1, -1, -1, -1, -1, -1, -1, -1, -1, -1, -1, -1, -1, -1, -1, -1, -1, -1]
def own_syb (c v : Int32) : Bool := decide (45 ≤ c.toInt) && decide (c.toInt ≤ 122) && !decide (c = (61 : Int32)) && decide (own_TAB.getD c.toNatClampNeg 0 = v) && decide (0 ≤ v.toInt) && decide (v.toInt ≤ 63)
def own_sy (c v : Int32) : Prop := own_syb c v = true
theorem own_sy_e {c v : Int32} (h : own_sy c v) : 45 ≤ c.toInt ∧ c.toInt ≤ 122 ∧ ¬ (c = (61 : Int32)) ∧ own_TAB.getD c.toNatClampNeg 0 = v ∧ 0 ≤ v.toInt ∧ v.toInt ≤ 63 := by
  unfold own_sy own_syb at h
  simp only [Bool.and_eq_true, Bool.not_eq_true', decide_eq_true_eq, decide_eq_false_iff_not] at h
  obtain ⟨⟨⟨⟨⟨h1, h2⟩, h3⟩, h4⟩, h5⟩, h6⟩ := h
  exact ⟨h1, h2, h3, h4, h5, h6⟩
theorem own_ofk {v : Int32} (lo n : Nat) (h0 : (lo : Int) ≤ v.toInt) (h : v.toInt < lo + n) (hb : lo + n < 2147483648) : ∃ k : Fin n, v = Int32.ofNat (lo + k.val) := by
  refine ⟨⟨v.toInt.toNat - lo, by omega⟩, ?_⟩
  apply Int32.toInt_inj.mp
  have e : (lo + (v.toInt.toNat - lo)) = v.toInt.toNat := by omega
  show v.toInt = (Int32.ofNat (lo + (v.toInt.toNat - lo))).toInt
  rw [e, own_toInt (by omega)]; omega
theorem own_syA' : ∀ k : Fin 26, own_syb (nar .char (((65 : Int32) + Int32.ofNat (0 + k.val)).toUInt32.toUInt16.toUInt32.toInt32)) (Int32.ofNat (0 + k.val)) = true := by decide +kernel
theorem own_syB' : ∀ k : Fin 26, own_syb (nar .char (((97 : Int32) + (Int32.ofNat (26 + k.val) - (26 : Int32))).toUInt32.toUInt16.toUInt32.toInt32)) (Int32.ofNat (26 + k.val)) = true := by decide +kernel
theorem own_syC' : ∀ k : Fin 10, own_syb (nar .char (((48 : Int32) + (Int32.ofNat (52 + k.val) - (52 : Int32))).toUInt32.toUInt16.toUInt32.toInt32)) (Int32.ofNat (52 + k.val)) = true := by decide +kernel
theorem own_syA {v : Int32} (h0 : 0 ≤ v.toInt ∧ v.toInt ≤ 63) (h1 : v < (26 : Int32)) : own_sy (nar .char (((65 : Int32) + v).toUInt32.toUInt16.toUInt32.toInt32)) v := by
  rw [Int32.lt_iff_toInt_lt] at h1
  have e : (26 : Int32).toInt = 26 := by decide
  obtain ⟨k, rfl⟩ := own_ofk 0 26 (v := v) (by omega) (by omega) (by decide)
  exact own_syA' k
theorem own_syB {v : Int32} (h1 : ¬ (v < (26 : Int32))) (h2 : v < (52 : Int32)) : own_sy (nar .char (((97 : Int32) + (v - (26 : Int32))).toUInt32.toUInt16.toUInt32.toInt32)) v := by
  rw [Int32.lt_iff_toInt_lt] at h1 h2
  have e : (26 : Int32).toInt = 26 := by decide
  have e2 : (52 : Int32).toInt = 52 := by decide
  obtain ⟨k, rfl⟩ := own_ofk 26 26 (v := v) (by omega) (by omega) (by decide)
  exact own_syB' k
theorem own_syC {v : Int32} (h1 : ¬ (v < (52 : Int32))) (h2 : v < (62 : Int32)) : own_sy (nar .char (((48 : Int32) + (v - (52 : Int32))).toUInt32.toUInt16.toUInt32.toInt32)) v := by
  rw [Int32.lt_iff_toInt_lt] at h1 h2
  have e : (52 : Int32).toInt = 52 := by decide
  have e2 : (62 : Int32).toInt = 62 := by decide
  obtain ⟨k, rfl⟩ := own_ofk 52 10 (v := v) (by omega) (by omega) (by decide)
  exact own_syC' k
theorem own_syD : own_sy (nar .char (45 : Int32)) (62 : Int32) := by show own_syb _ _ = true; decide +kernel
theorem own_syE {v : Int32} (h0 : 0 ≤ v.toInt ∧ v.toInt ≤ 63) (h1 : ¬ (v < (62 : Int32))) (h2 : ¬ (v = (62 : Int32))) : own_sy (nar .char (95 : Int32)) v := by
  rw [Int32.lt_iff_toInt_lt] at h1
  have e2 : (62 : Int32).toInt = 62 := by decide
  have e3 : (63 : Int32).toInt = 63 := by decide
  have h3 := mt Int32.toInt_inj.mp h2
  obtain rfl : v = (63 : Int32) := Int32.toInt_inj.mp (by omega)
  show own_syb _ _ = true
  decide +kernel
theorem own_syr {c v : Int32} (h : own_sy c v) : 0 ≤ c.toInt ∧ c.toInt ≤ 65535 := by have := own_sy_e h; omega
theorem own_sy8 {c v : Int32} (h : own_sy c v) : 0 ≤ c.toInt ∧ c.toInt ≤ 255 := by have := own_sy_e h; omega
theorem own_b7 {c v : Int32} (h : own_sy c v) : c.toInt8.toInt32 = c := by
  have q := own_sy_e h
  have r := c_i2b c
  exact Int32.toInt_inj.mp (by omega)
theorem own_m255 {c v : Int32} (h : own_sy c v) : c &&& (255 : Int32) = c := by
  have q := own_sy_e h
  have m1 : (c &&& (255 : Int32)).toInt = c.toInt % 256 := c_mask c 255 8 (by decide) (by decide)
  exact Int32.toInt_inj.mp (by omega)
theorem own_look {c v : Int32} (h : own_sy c v) : ¬ (c < (0 : Int32)) ∧ c < (256 : Int32) ∧ (own_TAB.map Value.int).getD c.toNatClampNeg (.int (0 : Int32)) = .int v := by
  have q := own_sy_e h
  have hc : c.toNatClampNeg = c.toInt.toNat := rfl
  have e0 : (0 : Int32).toInt = 0 := by decide
  have e1 : (256 : Int32).toInt = 256 := by decide
  refine ⟨by rw [Int32.lt_iff_toInt_lt]; omega, by rw [Int32.lt_iff_toInt_lt]; omega, ?_⟩
  have hl : own_TAB.length = 256 := by decide +kernel
  rw [own_getD_map Value.int own_TAB c.toNatClampNeg _ 0 (by rw [hl, hc]; omega), q.2.2.2.1]
def own_w (b0 b1 b2 : Int32) : Int32 := (((b0 <<< ((16 : Int32) &&& 31)) ||| (b1 <<< ((8 : Int32) &&& 31))) ||| b2)
def own_s18 (w : Int32) : Int32 := ((((w).toUInt32 >>> ((18 : Int32) &&& 31).toUInt32).toInt32) &&& (63 : Int32))
def own_s12 (w : Int32) : Int32 := ((((w).toUInt32 >>> ((12 : Int32) &&& 31).toUInt32).toInt32) &&& (63 : Int32))
def own_s6 (w : Int32) : Int32 := ((((w).toUInt32 >>> ((6 : Int32) &&& 31).toUInt32).toInt32) &&& (63 : Int32))
def own_s0 (w : Int32) : Int32 := (w &&& (63 : Int32))
def own_B (b : Int32) : Prop := 0 ≤ b.toInt ∧ b.toInt ≤ 255
theorem own_sh {x k : Int32} {j m : Nat} (hk : k.toBitVec.toNat % 32 = j) (hm : 2 ^ j = m) (h : 0 ≤ x.toInt) (hb : x.toInt * m < 2147483648) : (x <<< (k &&& 31)).toInt = x.toInt * m := by
  have s := c_ishl x k j hk
  have r := rng32 (x <<< (k &&& 31))
  subst hm
  have hp : 0 ≤ x.toInt * ((2 ^ j : Nat) : Int) := Int.mul_nonneg h (Int.natCast_nonneg _)
  omega
theorem own_wI {b0 b1 b2 : Int32} (h0 : own_B b0) (h1 : own_B b1) (h2 : own_B b2) : (own_w b0 b1 b2).toInt = b0.toInt * 65536 + b1.toInt * 256 + b2.toInt := by
  unfold own_B at *
  unfold own_w
  have s1 := own_sh (x := b0) (k := 16) (j := 16) (m := 65536) (by decide) (by decide) h0.1 (by omega)
  have s2 := own_sh (x := b1) (k := 8) (j := 8) (m := 256) (by decide) (by decide) h1.1 (by omega)
  rw [Int32.or_comm (b0 <<< _)]
  generalize (b0 <<< ((16 : Int32) &&& 31)) = X at *
  generalize (b1 <<< ((8 : Int32) &&& 31)) = Y at *
  have o1 := c_or' Y X 16 (by decide) 65536 rfl (by omega) (by omega) (by omega)
  rw [Int32.or_comm (Y ||| X)]
  generalize (Y ||| X) = V at *
  have o2 := c_or' b2 V 8 (by decide) 256 rfl (by omega) (by omega) (by omega)
  have r := rng32 (b2 ||| V)
  omega
theorem own_sxr (x : Int32) : 0 ≤ (x &&& (63 : Int32)).toInt ∧ (x &&& (63 : Int32)).toInt ≤ 63 := by
  have m : (x &&& (63 : Int32)).toInt = x.toInt % (2 ^ 6 : Nat) := c_mask x 63 6 (by decide) (by decide)
  omega
theorem own_sx {w : Int32} (h : 0 ≤ w.toInt) : (own_s18 w).toInt = w.toInt / 262144 % 64 ∧ (own_s12 w).toInt = w.toInt / 4096 % 64 ∧ (own_s6 w).toInt = w.toInt / 64 % 64 ∧ (own_s0 w).toInt = w.toInt % 64 := by
  have r := rng32 w
  have a1 := c_iushr w 18 18 (by decide) (by decide)
  have a2 := c_iushr w 12 12 (by decide) (by decide)
  have a3 := c_iushr w 6 6 (by decide) (by decide)
  have m : ∀ x : Int32, (x &&& (63 : Int32)).toInt = x.toInt % (2 ^ 6 : Nat) := fun x => c_mask x 63 6 (by decide) (by decide)
  unfold own_s18 own_s12 own_s6 own_s0
  rw [m, m, m, m, a1, a2, a3]
  omega
def own_V (v : Int32) : Prop := 0 ≤ v.toInt ∧ v.toInt ≤ 63
theorem own_or2 {a b : Int32} {k : Nat} {P : Int} (hk : k ≤ 31) (hP : P = (2 ^ k : Nat)) (ha : a.toInt % P = 0) (h0 : 0 ≤ b.toInt) (h1 : b.toInt < P) (hs : 0 ≤ a.toInt ∧ a.toInt + b.toInt < 2147483648) : (a ||| b).toInt = a.toInt + b.toInt := by
  rw [Int32.or_comm]
  have o := c_or' b a k hk P hP ha h0 h1
  have r := rng32 (b ||| a)
  omega
theorem own_z0 (x : Int32) : (0 : Int32) ||| x = x := by
  apply Int32.toBitVec_inj.mp; rw [Int32.toBitVec_or]; show (0#32) ||| x.toBitVec = _; simp
theorem own_bits2 {v0 v1 : Int32} (h0 : own_V v0) (h1 : own_V v1) : (((0 : Int32) ||| (v0 <<< ((18 : Int32) &&& 31))) ||| (v1 <<< ((12 : Int32) &&& 31))).toInt = v0.toInt * 262144 + v1.toInt * 4096 := by
  unfold own_V at *
  rw [own_z0]
  have s1 := own_sh (x := v0) (k := 18) (j := 18) (m := 262144) (by decide) (by decide) h0.1 (by omega)
  have s2 := own_sh (x := v1) (k := 12) (j := 12) (m := 4096) (by decide) (by decide) h1.1 (by omega)
  rw [own_or2 (k := 18) (P := 262144) (by decide) (by decide) (by omega) (by omega) (by omega) (by omega), s1, s2]
  omega
theorem own_bits3 {v0 v1 v2 : Int32} (h0 : own_V v0) (h1 : own_V v1) (h2 : own_V v2) : ((((0 : Int32) ||| (v0 <<< ((18 : Int32) &&& 31))) ||| (v1 <<< ((12 : Int32) &&& 31))) ||| (v2 <<< ((6 : Int32) &&& 31))).toInt = v0.toInt * 262144 + v1.toInt * 4096 + v2.toInt * 64 := by
  have b := own_bits2 h0 h1
  unfold own_V at *
  have s2 := own_sh (x := v2) (k := 6) (j := 6) (m := 64) (by decide) (by decide) h2.1 (by omega)
  rw [own_or2 (k := 12) (P := 4096) (by decide) (by decide) (by omega) (by omega) (by omega) (by omega), b, s2]
  omega
theorem own_bits4 {v0 v1 v2 v3 : Int32} (h0 : own_V v0) (h1 : own_V v1) (h2 : own_V v2) (h3 : own_V v3) : (((((0 : Int32) ||| (v0 <<< ((18 : Int32) &&& 31))) ||| (v1 <<< ((12 : Int32) &&& 31))) ||| (v2 <<< ((6 : Int32) &&& 31))) ||| (v3 <<< ((0 : Int32) &&& 31))).toInt = v0.toInt * 262144 + v1.toInt * 4096 + v2.toInt * 64 + v3.toInt := by
  have b := own_bits3 h0 h1 h2
  unfold own_V at *
  have s2 := own_sh (x := v3) (k := 0) (j := 0) (m := 1) (by decide) (by decide) h3.1 (by omega)
  rw [own_or2 (k := 6) (P := 64) (by decide) (by decide) (by omega) (by omega) (by omega) (by omega), b, s2]
  omega
theorem own_bitsB {v0 v1 v2 v3 : Int32} (h0 : own_V v0) (h1 : own_V v1) (h2 : own_V v2) (h3 : own_V v3) : ((((v0 <<< ((18 : Int32) &&& 31)) ||| (v1 <<< ((12 : Int32) &&& 31))) ||| (v2 <<< ((6 : Int32) &&& 31))) ||| v3).toInt = v0.toInt * 262144 + v1.toInt * 4096 + v2.toInt * 64 + v3.toInt := by
  have b := own_bits3 h0 h1 h2
  rw [own_z0] at b
  unfold own_V at *
  rw [own_or2 (k := 6) (P := 64) (by decide) (by decide) (by omega) (by omega) (by omega) (by omega), b]
/-- the three bytes of the bits, as the law reads them -/
theorem own_out {x b : Int32} (h : x.toInt % 256 = b.toInt) (hb : own_B b) : (nar .byte (x.toInt8.toInt32)) &&& (255 : Int32) = b := by
  rw [own_nb]
  have q := c_i2b x
  have m1 : (x.toInt8.toInt32 &&& (255 : Int32)).toInt = x.toInt8.toInt32.toInt % 256 := c_mask _ 255 8 (by decide) (by decide)
  exact Int32.toInt_inj.mp (by omega)
theorem own_out3 {x b0 b1 b2 : Int32} (h0 : own_B b0) (h1 : own_B b1) (h2 : own_B b2) (hx : x.toInt = (own_w b0 b1 b2).toInt) :
    (nar .byte ((x >>> ((16 : Int32) &&& 31)).toInt8.toInt32)) &&& (255 : Int32) = b0 ∧ (nar .byte ((x >>> ((8 : Int32) &&& 31)).toInt8.toInt32)) &&& (255 : Int32) = b1 ∧ (nar .byte (x.toInt8.toInt32)) &&& (255 : Int32) = b2 := by
  have w := own_wI h0 h1 h2
  have a1 := c_ishr x 16 16 (by decide)
  have a2 := c_ishr x 8 8 (by decide)
  refine ⟨own_out ?_ h0, own_out ?_ h1, own_out ?_ h2⟩ <;> unfold own_B at * <;> omega
theorem own_wn {b0 b1 b2 : Int32} (h0 : own_B b0) (h1 : own_B b1) (h2 : own_B b2) : 0 ≤ (own_w b0 b1 b2).toInt ∧ (own_w b0 b1 b2).toInt < 16777216 := by
  have w := own_wI h0 h1 h2; unfold own_B at *; omega
theorem own_Vs (w : Int32) : own_V (own_s18 w) ∧ own_V (own_s12 w) ∧ own_V (own_s6 w) ∧ own_V (own_s0 w) := ⟨own_sxr _, own_sxr _, own_sxr _, own_sxr _⟩
theorem own_zB : own_B (0 : Int32) := by unfold own_B; decide
/-- four sextets say all; three where the last byte is 0; two where the last two are -/
theorem own_full {b0 b1 b2 : Int32} (h0 : own_B b0) (h1 : own_B b1) (h2 : own_B b2) : (own_s18 (own_w b0 b1 b2)).toInt * 262144 + (own_s12 (own_w b0 b1 b2)).toInt * 4096 + (own_s6 (own_w b0 b1 b2)).toInt * 64 + (own_s0 (own_w b0 b1 b2)).toInt = (own_w b0 b1 b2).toInt := by
  have n := own_wn h0 h1 h2
  have s := own_sx n.1
  omega
theorem own_full3 {b0 b1 : Int32} (h0 : own_B b0) (h1 : own_B b1) : (own_s18 (own_w b0 b1 0)).toInt * 262144 + (own_s12 (own_w b0 b1 0)).toInt * 4096 + (own_s6 (own_w b0 b1 0)).toInt * 64 = (own_w b0 b1 0).toInt := by
  have n := own_wn h0 h1 own_zB
  have s := own_sx n.1
  have w := own_wI h0 h1 own_zB
  have e0 : (0 : Int32).toInt = 0 := by decide
  omega
theorem own_full2 {b0 : Int32} (h0 : own_B b0) : (own_s18 (own_w b0 0 0)).toInt * 262144 + (own_s12 (own_w b0 0 0)).toInt * 4096 = (own_w b0 0 0).toInt := by
  have n := own_wn h0 own_zB own_zB
  have s := own_sx n.1
  have w := own_wI h0 own_zB own_zB
  have e0 : (0 : Int32).toInt = 0 := by decide
  omega
theorem own_ornn {a b c d : Int32} (ha : own_V a) (hb : own_V b) (hc : own_V c) (hd : own_V d) : ¬ ((((a ||| b) ||| c) ||| d) < (0 : Int32)) := by
  have key : ∀ {x y : Int32}, ¬ (x < 0) → ¬ (y < 0) → ¬ ((x ||| y) < 0) := by
    intro x y hx hy
    have hx' : ¬ (x.toBitVec.msb = true) := by rw [← BitVec.slt_zero_eq_msb]; exact hx
    have hy' : ¬ (y.toBitVec.msb = true) := by rw [← BitVec.slt_zero_eq_msb]; exact hy
    show ¬ ((x ||| y).toBitVec.slt 0#32 = true)
    rw [BitVec.slt_zero_eq_msb, Int32.toBitVec_or, BitVec.msb_or, Bool.or_eq_true, not_or]
    exact ⟨hx', hy'⟩
  have nn : ∀ {x : Int32}, own_V x → ¬ (x < 0) := fun {x} h => by
    rw [Int32.lt_iff_toInt_lt]; have e0 : (0 : Int32).toInt = 0 := by decide
    unfold own_V at h; omega
  exact key (key (key (nn ha) (nn hb)) (nn hc)) (nn hd)
theorem own_Vnn {v : Int32} (h : own_V v) : ¬ (v < (0 : Int32)) := by
  rw [Int32.lt_iff_toInt_lt]; have e0 : (0 : Int32).toInt = 0 := by decide
  unfold own_V at h; omega
theorem own_syV {c v : Int32} (h : own_sy c v) : own_V v := by have q := own_sy_e h; exact ⟨q.2.2.2.2.1, q.2.2.2.2.2⟩

abbrev own_W (Z : State) (a0 : Array Value) : Prop := ∀ d ∈ tables_1, d.before a0 Z = true
theorem ow {Z : State} {a0 : Array Value} (hw : own_W Z a0) (i : Nat) {d : Jvm.Cond} (h : tables_1[i]? = some d) : d.before a0 Z = true := hw d (List.mem_of_getElem? h)
theorem own_mi {α : Type} {L : List α} {x : α} {P : Prop} (i : Nat) (h : L[i]? = some x) : x ∈ L ∨ P := Or.inl (List.mem_of_getElem? h)
def own_Bd (p : Program) (e : Env) (below : List Frame) (G : State → Prop) (c : Code) (bytes : ByteArray) (ml : Nat) (Z : State) (a0 : Array Value) : Prop := own_Bk p e below G ∧ p.tables.exec = Jvm.exec ∧ c.code = bytes ∧ c.maxLocals = ml ∧ own_W Z a0
section OwnShort
variable {p : Program} {l : Launch} {e : Env} {R : Room} {s : State} {m : MethodId} {args : Array Value} {below : List Frame} {meth : Method} {c : Code} {T : State} {locs : List Loc} {cells slots : Nat} {Z : State} {a0 : Array Value} {own : String} {index : Nat} {y z : MethodName} {bytes code0 : ByteArray} {maxL ml : Nat} {ret : Option FieldType} {rm : Room} {as' : Array Value} {h h0 : Heap} {Q : Option Value → Heap → List Loc → Prop} {G : State → Prop} {pc : Nat} {Ls : Array Slot} {stk argsL rest : List Value}
theorem own_st {ws : List Jvm.Cond} (hw : own_W Z a0) (hpn : plainFor y = true) (Ls : Array Slot) (q : ∀ m, entryFrame m as' maxL = mkF m 0 Ls [])
    (H : ∀ (p : Program) (e : Env) (s : State) (m : MethodId) (below : List Frame) (meth : Method) (c : Code) (s₁ : State) (G : State → Prop), own_Bd p e below G c bytes maxL Z a0 → s.vm.findClass y.cls = some m.cls → meth.name = y.name → meth.sig.returnType = ret → Z.Warmed39 s.vm →
      Stand p l e rm s m as' below meth c s₁ [] 0 0 → s₁.heap = h0 → own_Fr Z [] → own_Rt p l e rm s m as' below meth c ret Q G → G (s₁.setTop (mkF m 0 Ls []))) : own_Con l Z y bytes maxL ret ws rm as' h0 Q :=
  own_intro hpn fun p e s m below meth c s₁ G hx hby hml hown hnm hret hZ X0 e0 hG hR => own_entry (q m) (H p e s m below meth c s₁ G ⟨hG, hx, hby, hml, hw⟩ hown hnm hret hZ X0 e0 (Fr.nil Z.heap.size) hR)
theorem qgf {R0 O n d : String} {a : Addr} {v : Value} (B : own_Bd p e below G c code0 ml Z a0) (X : Stand p l e R s m args below meth c T locs cells slots) (hZ : Z.Warmed39 s.vm) (hown : s.vm.findClass own = some m.cls) (i : Nat) (hi : tables_1[i]? = some (Jvm.Cond.fieldLink own index R0 n d)) (via : Via Z R0 O n d) (eT : T.heap = h) (F : Fld Z h a O n d v) (hd : decode code0 pc = .ok (.getfield index, 3))
    (k : ∀ T', Stand p l e R s m args below meth c T' locs cells slots → T'.heap = h → G (T'.setTop (mkF m (pc + 3) Ls (v :: rest)))) : G (T.setTop (mkF m pc Ls (.ref a :: rest))) := by
  obtain ⟨T', X', e', st⟩ := getF X B.2.1 hZ hown (host := "") (Or.inl (ow B.2.2.2.2 i hi)) via eT F (g := mkF m pc Ls (.ref a :: rest)) rfl rfl (hb B.2.2.1 hd)
  exact B.1 _ _ st (k T' X' e')
theorem qgs {R0 O n d : String} {v : Value} (B : own_Bd p e below G c code0 ml Z a0) (X : Stand p l e R s m args below meth c T locs cells slots) (hZ : Z.Warmed39 s.vm) (hown : s.vm.findClass own = some m.cls) (i : Nat) (hi : tables_1[i]? = some (Jvm.Cond.fieldLink own index R0 n d)) (via : Via Z R0 O n d) (eT : T.heap = h) (F : Sta Z Z.heap O n d v) (O0 : own_Old Z h) (hd : decode code0 pc = .ok (.getstatic index, 3))
    (k : ∀ T', Stand p l e R s m args below meth c T' locs cells slots → T'.heap = h → G (T'.setTop (mkF m (pc + 3) Ls (v :: stk)))) : G (T.setTop (mkF m pc Ls stk)) := by
  obtain ⟨T', X', e', st⟩ := getS2 X B.2.1 hZ hown (host := "") (Or.inl (ow B.2.2.2.2 i hi)) via eT (own_sta F O0) (g := mkF m pc Ls stk) rfl (hb B.2.2.1 hd)
  exact B.1 _ _ st (k T' X' e')
theorem qpf {R0 O n d C : String} {kk : Nat} {ty : FieldType} {a : Addr} {v old : Value} (B : own_Bd p e below G c code0 ml Z a0) (X : Stand p l e R s m args below meth c T locs cells slots) (hZ : Z.Warmed39 s.vm) (hown : s.vm.findClass own = some m.cls) (i j : Nat) (hi : tables_1[i]? = some (Jvm.Cond.fieldLink own index R0 n d)) (hj : tables_1[j]? = some (Jvm.Cond.instantiable C kk)) (via : Via Z R0 O n d) (eT : T.heap = h) (F : Fld Z h a O n d old) (E : Exa Z h a C)
    (Lw : (Jvm.Cond.lays C O n d).before a0 Z = true ∨ ((Jvm.Cond.laysFinal C O n d).before a0 Z = true ∧ own = O ∧ meth.name = "<init>")) (hty : parseFieldDescriptor d = some ty) (hn : narrow ty v = v) (hf : fits ty v = true) (hd : decode code0 pc = .ok (.putfield index, 3))
    (k : ∀ T' h', Stand p l e R s m args below meth c T' (locs ++ [⟨a, Jvm.RoadKit.slotOf Z O n d⟩]) cells slots → T'.heap = h' → Wr h h' a (Jvm.RoadKit.slotOf Z O n d) v → G (T'.setTop (mkF m (pc + 3) Ls rest))) : G (T.setTop (mkF m pc Ls (v :: .ref a :: rest))) := by
  obtain ⟨T', h', X', e', W, st⟩ := putF X B.2.1 hZ hown (host := "") (Or.inl (ow B.2.2.2.2 i hi)) via eT F E Lw (ow B.2.2.2.2 j hj) hty hn hf (g := mkF m pc Ls (v :: .ref a :: rest)) rfl rfl (hb B.2.2.1 hd)
  exact B.1 _ _ st (k T' h' X' e' W)
theorem qpn {R0 O n d C : String} {kk : Nat} {ty : FieldType} {a : Addr} {v old : Value} (v' : Value) (B : own_Bd p e below G c code0 ml Z a0) (X : Stand p l e R s m args below meth c T locs cells slots) (hZ : Z.Warmed39 s.vm) (hown : s.vm.findClass own = some m.cls) (i j : Nat) (hi : tables_1[i]? = some (Jvm.Cond.fieldLink own index R0 n d)) (hj : tables_1[j]? = some (Jvm.Cond.instantiable C kk)) (via : Via Z R0 O n d) (eT : T.heap = h) (F : Fld Z h a O n d old) (E : Exa Z h a C)
    (Lw : (Jvm.Cond.lays C O n d).before a0 Z = true ∨ ((Jvm.Cond.laysFinal C O n d).before a0 Z = true ∧ own = O ∧ meth.name = "<init>")) (hty : parseFieldDescriptor d = some ty) (hn : narrow ty v = v') (hf : fits ty v' = true) (hd : decode code0 pc = .ok (.putfield index, 3))
    (k : ∀ T' h', Stand p l e R s m args below meth c T' (locs ++ [⟨a, Jvm.RoadKit.slotOf Z O n d⟩]) cells slots → T'.heap = h' → Wr h h' a (Jvm.RoadKit.slotOf Z O n d) v' → G (T'.setTop (mkF m (pc + 3) Ls rest))) : G (T.setTop (mkF m pc Ls (v :: .ref a :: rest))) := by
  obtain ⟨T', h', X', e', W, st⟩ := putFN X B.2.1 hZ hown (ow B.2.2.2.2 i hi) via eT F E Lw (ow B.2.2.2.2 j hj) hty hn hf (g := mkF m pc Ls (v :: .ref a :: rest)) rfl rfl (hb B.2.2.1 hd)
  exact B.1 _ _ st (k T' h' X' e' W)
theorem qnw {C : String} {n : Nat} (B : own_Bd p e below G c code0 ml Z a0) (X : Stand p l e R s m args below meth c T locs cells slots) (hZ : Z.Warmed39 s.vm) (hown : s.vm.findClass own = some m.cls) (i1 i2 i3 : Nat) (r1 : tables_1[i1]? = some (Jvm.Cond.classLink own index C)) (r2 : tables_1[i2]? = some (Jvm.Cond.instantiable C n)) (r3 : tables_1[i3]? = some (Jvm.Cond.initialized C)) (eT : T.heap = h) (hd : decode code0 pc = .ok (.new index, 3)) (ck : cells + 1 ≤ R.cells ∧ slots + n ≤ R.slots)
    (k : ∀ T' h' b, b = h.size → Stand p l e R s m args below meth c T' locs (cells + 1) (slots + n) → T'.heap = h' → Ext h h' → Exa Z h' b C → (∀ {O nm d : String} {ty : FieldType}, Laid Z a0 C O nm d → parseFieldDescriptor d = some ty → Fld Z h' b O nm d (defaultValue ty)) → G (T'.setTop (mkF m (pc + 3) Ls (.ref b :: stk)))) : G (T.setTop (mkF m pc Ls stk)) := by
  obtain ⟨T', h', X', e', E, A, D, -, st⟩ := newO X B.2.1 hZ hown (ow B.2.2.2.2 i1 r1) (ow B.2.2.2.2 i2 r2) (ow B.2.2.2.2 i3 r3) eT (g := mkF m pc Ls stk) rfl (hb B.2.2.1 hd) ck.1 ck.2
  exact B.1 _ _ st (k T' h' _ rfl X' e' E A D)
theorem qna {aty : ArrayType} {n : Int32} (cap : Nat) (B : own_Bd p e below G c code0 ml Z a0) (X : Stand p l e R s m args below meth c T locs cells slots) (hZ : Z.Warmed39 s.vm) (i1 : Nat) (r1 : tables_1[i1]? = some (Jvm.Cond.arrayClass (newarray.typeOf aty))) (eT : T.heap = h) (hd : decode code0 pc = .ok (.newarray aty, 2)) (hn : ¬ n < 0) (hcap : n.toNatClampNeg ≤ cap) (ck : cap * 8 ≤ 536870912 ∧ cells + 1 ≤ R.cells ∧ slots + cap ≤ R.slots)
    (k : ∀ T' h' k b, b = h.size → Stand p l e R s m args below meth c T' locs (cells + 1) (slots + cap) → T'.heap = h' → Ext h h' → Arr Z h' b (newA k (newarray.typeOf aty) n) (newarray.typeOf aty) → G (T'.setTop (mkF m (pc + 2) Ls (.ref b :: rest)))) : G (T.setTop (mkF m pc Ls (.int n :: rest))) := by
  obtain ⟨T', h', k', X', e', E, A, st⟩ := newP X B.2.1 hZ (ow B.2.2.2.2 i1 r1) eT (g := mkF m pc Ls (.int n :: rest)) rfl (hb B.2.2.1 hd) rfl hn (cap := cap) hcap ck.1 ck.2.1 ck.2.2
  exact B.1 _ _ st (k T' h' k' _ rfl X' e' E A)
theorem qal {a : Addr} {ka : ClassId} {ty : FieldType} {n : Int32} {vs : List Value} {dv : Value} (B : own_Bd p e below G c code0 ml Z a0) (X : Stand p l e R s m args below meth c T locs cells slots) (hZ : Z.Warmed39 s.vm) (eT : T.heap = h) (F : Arv Z h a ka ty n vs dv) (hd : decode code0 pc = .ok (.arraylength, 1)) (k : G (T.setTop (mkF m (pc + 1) Ls (.int n :: rest)))) : G (T.setTop (mkF m pc Ls (.ref a :: rest))) := by
  obtain ⟨cl, Ar, -, S, M, -, -⟩ := F
  refine B.1 _ _ (X.arraylength B.2.1 (by rw [eT]; exact Ar.1) (State.isArrayOf_alike hZ.alike Ar.2.1) (g := mkF m pc Ls (.ref a :: rest)) rfl rfl (hb B.2.2.1 hd)) ?_
  rw [len_of S M]; exact k
theorem qlb {a : Addr} {ka : ClassId} {n j : Int32} {vs : List Value} {dv v : Value} (B : own_Bd p e below G c code0 ml Z a0) (X : Stand p l e R s m args below meth c T locs cells slots) (hZ : Z.Warmed39 s.vm) (eT : T.heap = h) (F : Arv Z h a ka .byte n vs dv) (hd : decode code0 pc = .ok (.baload, 1)) (hj : ¬ j < 0 ∧ j < n) (hv : vs.getD j.toNatClampNeg dv = v) (k : G (T.setTop (mkF m (pc + 1) Ls (v :: rest)))) : G (T.setTop (mkF m pc Ls (.int j :: .ref a :: rest))) := by
  obtain ⟨cl, Ar, q, S, M, H, -⟩ := F
  exact B.1 _ _ (X.baloadBytes B.2.1 (j := j) (v := v) (by rw [eT]; exact Ar.1) (State.isArrayOf_alike hZ.alike Ar.2.1) Ar.2.2 (inb_of S hj) (Has.at H (inb_of S hj) hv) (g := mkF m pc Ls (.int j :: .ref a :: rest)) rfl rfl (hb B.2.2.1 hd)) k
theorem qli {a : Addr} {ka : ClassId} {n j : Int32} {vs : List Value} {dv v : Value} (B : own_Bd p e below G c code0 ml Z a0) (X : Stand p l e R s m args below meth c T locs cells slots) (hZ : Z.Warmed39 s.vm) (eT : T.heap = h) (F : Arv Z h a ka .int n vs dv) (hd : decode code0 pc = .ok (.iaload, 1)) (hj : ¬ j < 0 ∧ j < n) (hv : vs.getD j.toNatClampNeg dv = v) (k : G (T.setTop (mkF m (pc + 1) Ls (v :: rest)))) : G (T.setTop (mkF m pc Ls (.int j :: .ref a :: rest))) := by
  obtain ⟨cl, Ar, q, S, M, H, -⟩ := F
  exact B.1 _ _ (X.iaload B.2.1 (j := j) (v := v) (by rw [eT]; exact Ar.1) (State.isArrayOf_alike hZ.alike Ar.2.1) Ar.2.2 (inb_of S hj) (Has.at H (inb_of S hj) hv) (g := mkF m pc Ls (.int j :: .ref a :: rest)) rfl rfl (hb B.2.2.1 hd)) k
theorem qlc {a : Addr} {ka : ClassId} {n j : Int32} {vs : List Value} {dv v : Value} (B : own_Bd p e below G c code0 ml Z a0) (X : Stand p l e R s m args below meth c T locs cells slots) (hZ : Z.Warmed39 s.vm) (eT : T.heap = h) (F : Arv Z h a ka .char n vs dv) (hd : decode code0 pc = .ok (.caload, 1)) (hj : ¬ j < 0 ∧ j < n) (hv : vs.getD j.toNatClampNeg dv = v) (k : G (T.setTop (mkF m (pc + 1) Ls (v :: rest)))) : G (T.setTop (mkF m pc Ls (.int j :: .ref a :: rest))) := by
  obtain ⟨cl, Ar, q, S, M, H, -⟩ := F
  exact B.1 _ _ (X.caload B.2.1 (j := j) (v := v) (by rw [eT]; exact Ar.1) (State.isArrayOf_alike hZ.alike Ar.2.1) Ar.2.2 (inb_of S hj) (Has.at H (inb_of S hj) hv) (g := mkF m pc Ls (.int j :: .ref a :: rest)) rfl rfl (hb B.2.2.1 hd)) k
theorem qsb {a : Addr} {ka : ClassId} {n j x : Int32} {vs : List Value} {dv : Value} (i : Nat) (B : own_Bd p e below G c code0 ml Z a0) (X : Stand p l e R s m args below meth c T locs cells slots) (hZ : Z.Warmed39 s.vm) (eT : T.heap = h) (F : Arv Z h a ka .byte n vs dv) (hd : decode code0 pc = .ok (.bastore, 1)) (hj : ¬ j < 0 ∧ j < n) (hi : j.toNatClampNeg = i) (hl : i < vs.length) (k : ∀ T' h', Stand p l e R s m args below meth c T' (locs ++ [⟨a, j.toNatClampNeg⟩]) cells slots → T'.heap = h' → Wr h h' a j.toNatClampNeg (.int (nar .byte x)) → Arv Z h' a ka .byte n (vs.set i (.int (nar .byte x))) dv → G (T'.setTop (mkF m (pc + 1) Ls rest))) : G (T.setTop (mkF m pc Ls (.int x :: .int j :: .ref a :: rest))) := by
  obtain ⟨cl, Ar, q, S, M, H, Gq⟩ := F
  obtain ⟨T', h', X', e', W, st⟩ := stB X B.2.1 hZ eT Ar (inb_of S hj) (g := mkF m pc Ls (.int x :: .int j :: .ref a :: rest)) rfl rfl (hb B.2.2.1 hd)
  exact B.1 _ _ st (k T' h' X' e' W (Arv.set Ar q S M H Gq (fits_nar_byte _) W i hi hl))
theorem qsc {a : Addr} {ka : ClassId} {n j x : Int32} {vs : List Value} {dv : Value} (i : Nat) (B : own_Bd p e below G c code0 ml Z a0) (X : Stand p l e R s m args below meth c T locs cells slots) (hZ : Z.Warmed39 s.vm) (eT : T.heap = h) (F : Arv Z h a ka .char n vs dv) (hd : decode code0 pc = .ok (.castore, 1)) (hj : ¬ j < 0 ∧ j < n) (hi : j.toNatClampNeg = i) (hl : i < vs.length) (k : ∀ T' h', Stand p l e R s m args below meth c T' (locs ++ [⟨a, j.toNatClampNeg⟩]) cells slots → T'.heap = h' → Wr h h' a j.toNatClampNeg (.int (nar .char x)) → Arv Z h' a ka .char n (vs.set i (.int (nar .char x))) dv → G (T'.setTop (mkF m (pc + 1) Ls rest))) : G (T.setTop (mkF m pc Ls (.int x :: .int j :: .ref a :: rest))) := by
  obtain ⟨cl, Ar, q, S, M, H, Gq⟩ := F
  obtain ⟨T', h', X', e', W, st⟩ := stC X B.2.1 hZ eT Ar (inb_of S hj) (g := mkF m pc Ls (.int x :: .int j :: .ref a :: rest)) rfl rfl (hb B.2.2.1 hd)
  exact B.1 _ _ st (k T' h' X' e' W (Arv.set Ar q S M H Gq (fits_nar_char _) W i hi hl))
theorem qRV (bd : own_Bd p e below G c code0 ml Z a0) (hR : own_Rt p l e R s m args below meth c none Q G) (hret : meth.sig.returnType = none) (X : Stand p l e R s m args below meth c T locs cells slots) (hd : decode code0 pc = .ok (.return_, 1)) (eT : T.heap = h) (hQ : Q none h locs) (ck : (cells ≤ R.cells) ∧ (slots ≤ R.slots)) : G (T.setTop (mkF m pc Ls [])) := own_retV hR hret X bd.2.1 (hb bd.2.2.1 hd) ck.1 ck.2 (eT ▸ hQ)
theorem qRA (bd : own_Bd p e below G c code0 ml Z a0) {t : FieldType} {v : Value} (hR : own_Rt p l e R s m args below meth c (some t) Q G) (hret : meth.sig.returnType = some t) (ht : t.isReference = true) (hv : v.isRef = true) (X : Stand p l e R s m args below meth c T locs cells slots) (hd : decode code0 pc = .ok (.areturn, 1)) (eT : T.heap = h) (hQ : Q (some v) h locs) (ck : (cells ≤ R.cells) ∧ (slots ≤ R.slots)) : G (T.setTop (mkF m pc Ls (v :: rest))) := own_retA hR hret ht hv X bd.2.1 (hb bd.2.2.1 hd) ck.1 ck.2 (eT ▸ hQ)
theorem qRI (bd : own_Bd p e below G c code0 ml Z a0) {z : Int32} (hR : own_Rt p l e R s m args below meth c (some .int) Q G) (hret : meth.sig.returnType = some .int) (X : Stand p l e R s m args below meth c T locs cells slots) (hd : decode code0 pc = .ok (.ireturn, 1)) (eT : T.heap = h) (hQ : Q (some (.int z)) h locs) (ck : (cells ≤ R.cells) ∧ (slots ≤ R.slots)) : G (T.setTop (mkF m pc Ls (.int z :: rest))) := own_retI hR hret X bd.2.1 (hb bd.2.2.1 hd) ck.1 ck.2 (eT ▸ hQ)
theorem qRN (bd : own_Bd p e below G c code0 ml Z a0) {z : Int32} {t : FieldType} (hR : own_Rt p l e R s m args below meth c (some t) Q G) (hret : meth.sig.returnType = some t) (ht : t = .boolean ∨ t = .byte ∨ t = .char ∨ t = .short) (X : Stand p l e R s m args below meth c T locs cells slots) (hd : decode code0 pc = .ok (.ireturn, 1)) (eT : T.heap = h) (hQ : Q (some (.int (nar t z))) h locs) (ck : (cells ≤ R.cells) ∧ (slots ≤ R.slots)) : G (T.setTop (mkF m pc Ls (.int z :: rest))) := own_retN hR hret ht X bd.2.1 (hb bd.2.2.1 hd) ck.1 ck.2 (eT ▸ hQ)
theorem qS (bd : own_Bd p e below G c code0 ml Z a0) (X : Stand p l e R s m args below meth c T locs cells slots) (hZ : Z.Warmed39 s.vm) (hown : s.vm.findClass own = some m.cls) (iw1 iw2 iw3 iw4 : Nat) (rw1 : tables_1[iw1]? = some (Jvm.Cond.methodLink own index y)) (rw2 : tables_1[iw2]? = some (Jvm.Cond.static y)) (rw3 : tables_1[iw3]? = some (Jvm.Cond.initialized y.cls)) (rw4 : tables_1[iw4]? = some (Jvm.Cond.code y bytes maxL ret)) (hM : own_Con l Z y bytes maxL ret [] rm as' h Q) (eT : T.heap = h) {sg : MethodDescriptor} (pd : parseMethodDescriptor y.desc = some sg) (has : argsL.toArray = as') (hst : stk = argsL.reverse ++ rest) (hd : decode code0 pc = .ok (.invokestatic index, 3)) (W : Nat) (hsz : Ls.size = ml) (hln : argsL.length = sg.parameters.length) (hW : (rest.map fun v => v.category).sum = W) (ck : (y.cls ≠ "java/lang/invoke/MethodHandle" ∧ y.cls ≠ "java/lang/invoke/VarHandle") ∧ (rm.frames + 1 ≤ R.frames) ∧ (W + (maxL + 11) + rm.locals ≤ R.locals) ∧ (cells + rm.cells ≤ R.cells) ∧ (slots + rm.slots ≤ R.slots)) (k : ∀ T' h' v L, Stand p l e R s m args below meth c T' (locs ++ L) (cells + rm.cells) (slots + rm.slots) → T'.heap = h' → Q v h' L → G (T'.setTop (mkF m (pc + 3) Ls (v.toList ++ rest)))) : G (T.setTop (mkF m pc Ls stk)) := own_callS X bd.2.1 hZ bd.1 hown (ow bd.2.2.2.2 iw1 rw1) (ow bd.2.2.2.2 iw2 rw2) (ow bd.2.2.2.2 iw3 rw3) (ow bd.2.2.2.2 iw4 rw4) ck.1 W hM ck.2.1 ck.2.2.1 eT (Eq.trans hsz bd.2.2.2.1.symm) (lenOf pd hln) has hst (Nat.le_of_eq hW) (hb bd.2.2.1 hd) ck.2.2.2.1 ck.2.2.2.2 k
theorem qI (bd : own_Bd p e below G c code0 ml Z a0) (X : Stand p l e R s m args below meth c T locs cells slots) (hZ : Z.Warmed39 s.vm) (hown : s.vm.findClass own = some m.cls) (iw1 iw2 iw3 iw4 : Nat) (rw1 : tables_1[iw1]? = some (Jvm.Cond.methodLink own index y)) (rw2 : tables_1[iw2]? = some (Jvm.Cond.instanceMethod y)) (rw3 : tables_1[iw3]? = some (Jvm.Cond.initialized y.cls)) (rw4 : tables_1[iw4]? = some (Jvm.Cond.code y bytes maxL none)) (hy1 : y.name = "<init>") (hM : own_Con l Z y bytes maxL none [] rm as' h Q) (eT : T.heap = h) {sg : MethodDescriptor} (pd : parseMethodDescriptor y.desc = some sg) {a : Addr} (has : (.ref a :: argsL).toArray = as') (hst : stk = argsL.reverse ++ .ref a :: rest) (hd : decode code0 pc = .ok (.invokespecial index, 3)) (W : Nat) (hsz : Ls.size = ml) (hln : argsL.length = sg.parameters.length) (hW : (rest.map fun v => v.category).sum = W) (ck : (y.cls ≠ "java/lang/invoke/MethodHandle" ∧ y.cls ≠ "java/lang/invoke/VarHandle") ∧ (rm.frames + 1 ≤ R.frames) ∧ (W + (maxL + 11) + rm.locals ≤ R.locals) ∧ (cells + rm.cells ≤ R.cells) ∧ (slots + rm.slots ≤ R.slots)) (k : ∀ T' h' v L, Stand p l e R s m args below meth c T' (locs ++ L) (cells + rm.cells) (slots + rm.slots) → T'.heap = h' → Q v h' L → G (T'.setTop (mkF m (pc + 3) Ls (v.toList ++ rest)))) : G (T.setTop (mkF m pc Ls stk)) := own_callI X bd.2.1 hZ bd.1 hown hy1 (ow bd.2.2.2.2 iw1 rw1) (ow bd.2.2.2.2 iw2 rw2) (ow bd.2.2.2.2 iw3 rw3) (ow bd.2.2.2.2 iw4 rw4) ck.1 W hM ck.2.1 ck.2.2.1 eT (Eq.trans hsz bd.2.2.2.1.symm) (lenOf pd hln) has hst (Nat.le_of_eq hW) (hb bd.2.2.1 hd) ck.2.2.2.1 ck.2.2.2.2 k
theorem qV (bd : own_Bd p e below G c code0 ml Z a0) {C : String} (X : Stand p l e R s m args below meth c T locs cells slots) (hZ : Z.Warmed39 s.vm) (hown : s.vm.findClass own = some m.cls) (iw1 iw2 iw3 iw4 iw5 iw6 : Nat) (rw1 : tables_1[iw1]? = some (Jvm.Cond.methodLink own index y)) (rw2 : tables_1[iw2]? = some (Jvm.Cond.declares y)) (rw3 : tables_1[iw3]? = some (Jvm.Cond.selects C y y)) (rw4 : tables_1[iw4]? = some (Jvm.Cond.instanceMethod y)) (rw5 : tables_1[iw5]? = some (Jvm.Cond.initialized y.cls)) (rw6 : tables_1[iw6]? = some (Jvm.Cond.code y bytes maxL ret)) (hM : own_Con l Z y bytes maxL ret [] rm as' h Q) (eT : T.heap = h) {b : Addr} (E : Exa Z h b C) {sg : MethodDescriptor} (pd : parseMethodDescriptor y.desc = some sg) (has : (.ref b :: argsL).toArray = as') (hst : stk = argsL.reverse ++ .ref b :: rest) (hd : decode code0 pc = .ok (.invokevirtual index, 3)) (W : Nat) (hsz : Ls.size = ml) (hln : argsL.length = sg.parameters.length) (hW : (rest.map fun v => v.category).sum = W) (ck : (y.cls ≠ "java/lang/invoke/MethodHandle" ∧ y.cls ≠ "java/lang/invoke/VarHandle") ∧ (rm.frames + 1 ≤ R.frames) ∧ (W + (maxL + 11) + rm.locals ≤ R.locals) ∧ (cells + rm.cells ≤ R.cells) ∧ (slots + rm.slots ≤ R.slots)) (k : ∀ T' h' v L, Stand p l e R s m args below meth c T' (locs ++ L) (cells + rm.cells) (slots + rm.slots) → T'.heap = h' → Q v h' L → G (T'.setTop (mkF m (pc + 3) Ls (v.toList ++ rest)))) : G (T.setTop (mkF m pc Ls stk)) := own_callV X bd.2.1 hZ bd.1 hown (ow bd.2.2.2.2 iw1 rw1) (ow bd.2.2.2.2 iw2 rw2) (ow bd.2.2.2.2 iw3 rw3) (ow bd.2.2.2.2 iw4 rw4) (ow bd.2.2.2.2 iw5 rw5) (ow bd.2.2.2.2 iw6 rw6) ck.1 W hM ck.2.1 ck.2.2.1 eT E (Eq.trans hsz bd.2.2.2.1.symm) (lenOf pd hln) has hst (Nat.le_of_eq hW) (hb bd.2.2.1 hd) ck.2.2.2.1 ck.2.2.2.2 k
theorem qP (bd : own_Bd p e below G c code0 ml Z a0) (X : Stand p l e R s m args below meth c T locs cells slots) (hZ : Z.Warmed39 s.vm) (hown : s.vm.findClass own = some m.cls) (iw1 iw2 iw3 iwp iw5 iw6 : Nat) (rw1 : tables_1[iw1]? = some (Jvm.Cond.methodLink own index y)) (rw2 : tables_1[iw2]? = some (Jvm.Cond.instanceMethod y)) (rw3 : tables_1[iw3]? = some (Jvm.Cond.selects y.cls y y)) (rwp : tables_1[iwp]? = some (Jvm.Cond.privateMethod y)) (rw5 : tables_1[iw5]? = some (Jvm.Cond.initialized y.cls)) (rw6 : tables_1[iw6]? = some (Jvm.Cond.code y bytes maxL ret)) (hM : own_Con l Z y bytes maxL ret [] rm as' h Q) (eT : T.heap = h) {b : Addr} {C : String} (E : Exa Z h b C) {sg : MethodDescriptor} (pd : parseMethodDescriptor y.desc = some sg) (has : (.ref b :: argsL).toArray = as') (hst : stk = argsL.reverse ++ .ref b :: rest) (hd : decode code0 pc = .ok (.invokevirtual index, 3)) (W : Nat) (hsz : Ls.size = ml) (hln : argsL.length = sg.parameters.length) (hW : (rest.map fun v => v.category).sum = W) (ck : (y.cls ≠ "java/lang/invoke/MethodHandle" ∧ y.cls ≠ "java/lang/invoke/VarHandle") ∧ (rm.frames + 1 ≤ R.frames) ∧ (W + (maxL + 11) + rm.locals ≤ R.locals) ∧ (cells + rm.cells ≤ R.cells) ∧ (slots + rm.slots ≤ R.slots)) (k : ∀ T' h' v L, Stand p l e R s m args below meth c T' (locs ++ L) (cells + rm.cells) (slots + rm.slots) → T'.heap = h' → Q v h' L → G (T'.setTop (mkF m (pc + 3) Ls (v.toList ++ rest)))) : G (T.setTop (mkF m pc Ls stk)) := own_callP X bd.2.1 hZ bd.1 hown (ow bd.2.2.2.2 iw1 rw1) (ow bd.2.2.2.2 iw2 rw2) (ow bd.2.2.2.2 iw3 rw3) (ow bd.2.2.2.2 iwp rwp) (ow bd.2.2.2.2 iw5 rw5) (ow bd.2.2.2.2 iw6 rw6) ck.1 W hM ck.2.1 ck.2.2.1 eT E (Eq.trans hsz bd.2.2.2.1.symm) (lenOf pd hln) has hst (Nat.le_of_eq hW) (hb bd.2.2.1 hd) ck.2.2.2.1 ck.2.2.2.2 k
variable {EL : List (String × Nat)} {vm0 : Vm} {k0 : Nat}
theorem qRVW (bd : own_Bd p e below G c code0 ml Z a0) (hR : own_RtW p l e Z EL R s m args below meth c none h0 Q G) (hret : meth.sig.returnType = none) (X : Stand p l e R (s.setVm vm0) m args below meth c T locs cells slots) (hd : decode code0 pc = .ok (.return_, 1)) (eT : T.heap = h) (hS : s.Since vm0 k0) (hk : k0 ≤ h.size) (hZ : Z.Warmed39 (s.setVm vm0).vm) (hC : CHr Z EL s.vm h0 vm0 h) (hQ : Q none h locs) (ck : (cells ≤ R.cells) ∧ (slots ≤ R.slots)) : G (T.setTop (mkF m pc Ls [])) := own_retVW hR hret X bd.2.1 (hb bd.2.2.1 hd) eT hS hk hZ hC ck.1 ck.2 hQ
theorem qRNW (bd : own_Bd p e below G c code0 ml Z a0) {z : Int32} {t : FieldType} (hR : own_RtW p l e Z EL R s m args below meth c (some t) h0 Q G) (hret : meth.sig.returnType = some t) (ht : t = .boolean ∨ t = .byte ∨ t = .char ∨ t = .short) (X : Stand p l e R (s.setVm vm0) m args below meth c T locs cells slots) (hd : decode code0 pc = .ok (.ireturn, 1)) (eT : T.heap = h) (hS : s.Since vm0 k0) (hk : k0 ≤ h.size) (hZ : Z.Warmed39 (s.setVm vm0).vm) (hC : CHr Z EL s.vm h0 vm0 h) (hQ : Q (some (.int (nar t z))) h locs) (ck : (cells ≤ R.cells) ∧ (slots ≤ R.slots)) : G (T.setTop (mkF m pc Ls (.int z :: rest))) := own_retNW hR hret ht X bd.2.1 (hb bd.2.2.1 hd) eT hS hk hZ hC ck.1 ck.2 hQ
theorem qIW (bd : own_Bd p e below G c code0 ml Z a0) (X : Stand p l e R (s.setVm vm0) m args below meth c T locs cells slots) (hZ : Z.Warmed39 (s.setVm vm0).vm) (hown : (s.setVm vm0).vm.findClass own = some m.cls) (iw1 iw2 iw3 iw4 : Nat) (rw1 : tables_1[iw1]? = some (Jvm.Cond.methodLink own index y)) (rw2 : tables_1[iw2]? = some (Jvm.Cond.instanceMethod y)) (rw3 : tables_1[iw3]? = some (Jvm.Cond.initialized y.cls)) (rw4 : tables_1[iw4]? = some (Jvm.Cond.code y bytes maxL none)) (hy1 : y.name = "<init>") (hM : own_ConW l Z EL y bytes maxL none [] rm as' h Q) (eT : T.heap = h) (hS : s.Since vm0 k0) (hk : k0 ≤ h.size) (hEL : EW Z a0 EL) (H : CHv Z EL vm0 h) {sg : MethodDescriptor} (pd : parseMethodDescriptor y.desc = some sg) {a : Addr} (has : (.ref a :: argsL).toArray = as') (hst : stk = argsL.reverse ++ .ref a :: rest) (hd : decode code0 pc = .ok (.invokespecial index, 3)) (W : Nat) (hsz : Ls.size = ml) (hln : argsL.length = sg.parameters.length) (hW : (rest.map fun v => v.category).sum = W) (ck : (y.cls ≠ "java/lang/invoke/MethodHandle" ∧ y.cls ≠ "java/lang/invoke/VarHandle") ∧ (rm.frames + 1 ≤ R.frames) ∧ (W + (maxL + 11) + rm.locals ≤ R.locals) ∧ (cells + rm.cells ≤ R.cells) ∧ (slots + rm.slots ≤ R.slots)) (k : ∀ T' h' v L, Stand p l e R (s.setVm T'.vm) m args below meth c T' (locs ++ L) (cells + rm.cells) (slots + rm.slots) → T'.heap = h' → s.Since T'.vm h'.size → Z.Warmed39 (s.setVm T'.vm).vm → (s.setVm T'.vm).vm.findClass own = some m.cls → CHr Z EL vm0 h T'.vm h' → Q v h' L → G (T'.setTop (mkF m (pc + 3) Ls (v.toList ++ rest)))) : G (T.setTop (mkF m pc Ls stk)) := own_callIW X bd.2.1 hZ bd.1 hown hy1 (ow bd.2.2.2.2 iw1 rw1) (ow bd.2.2.2.2 iw2 rw2) (ow bd.2.2.2.2 iw3 rw3) (ow bd.2.2.2.2 iw4 rw4) ck.1 W hM ck.2.1 ck.2.2.1 eT hS hk hEL H (Eq.trans hsz bd.2.2.2.1.symm) (lenOf pd hln) has hst (Nat.le_of_eq hW) (hb bd.2.2.1 hd) ck.2.2.2.1 ck.2.2.2.2 k
theorem own_stW {ws : List Jvm.Cond} (hw : own_W Z a0) (hEL : EW Z a0 EL) (hpn : plainFor y = true) (Ls : Array Slot) (q : ∀ m, entryFrame m as' maxL = mkF m 0 Ls [])
    (H : ∀ (p : Program) (e : Env) (s : State) (m : MethodId) (below : List Frame) (meth : Method) (c : Code) (s₁ : State) (G : State → Prop), own_Bd p e below G c bytes maxL Z a0 → (s.setVm s.vm).vm.findClass y.cls = some m.cls → meth.name = y.name → meth.sig.returnType = ret → Z.Warmed39 (s.setVm s.vm).vm →
      Stand p l e rm (s.setVm s.vm) m as' below meth c s₁ [] 0 0 → s₁.heap = h0 → CHv Z EL s.vm h0 → s.Since s.vm h0.size → own_Fr Z [] → own_RtW p l e Z EL rm s m as' below meth c ret h0 Q G → G (s₁.setTop (mkF m 0 Ls []))) : own_ConW l Z EL y bytes maxL ret ws rm as' h0 Q :=
  own_introW hEL hpn fun p e s m below meth c s₁ G hx hby hml hown hnm hret hZ X0 e0 H0 SI0 hG hR => own_entry (q m) (H p e s m below meth c s₁ G ⟨hG, hx, hby, hml, hw⟩ hown hnm hret hZ X0 e0 H0 SI0 (Fr.nil Z.heap.size) hR)
end OwnShort
abbrev oi (x : Int32) : Slot := .val (.int x)
abbrev oa (a : Addr) : Slot := .val (.ref a)
set_option maxRecDepth 65536
set_option maxHeartbeats 40000000
section OwnQ
variable {p : Program} {l : Launch} {e : Env} {R : Room} {s : State} {m : MethodId} {args : Array Value} {below : List Frame} {meth : Method} {c : Code} {T : State} {locs : List Loc} {cells slots : Nat} {G : State → Prop} {bytes : ByteArray} {g : JFrame}
variable {Z : State} {a0 : Array Value} {ml : Nat}
theorem q_goto   {o : Int} {pc0 : Nat}  (pc' : Nat) (B : own_Bd p e below G c bytes ml Z a0) (X : Stand p l e R s m args below meth c T locs cells slots) (hd : decode bytes pc0 = .ok (.goto o, 3))         (hg : g.method = m) (hpc : g.pc = pc0) (ck : 0 ≤ (pc0 : Int) + o ∧ ((pc0 : Int) + o).toNat = pc') (k_ : G (T.setTop { g with pc := pc' })) : G (T.setTop g) := B.1 _ _ (fun _ y_ => XS.goto X.here B.2.1 hg hpc (by rw [B.2.2.1, hpc]; exact hd)  ck.1 ck.2 y_) k_
theorem q_icmpYes  {cd : ClassFile.Cond} {x y : Int32} {rest : List Value} {o : Int} {pc0 : Nat}  (pc' : Nat) (B : own_Bd p e below G c bytes ml Z a0) (X : Stand p l e R s m args below meth c T locs cells slots) (hd : decode bytes pc0 = .ok (.if_icmp cd o, 3))  (hs : g.stack = .int y :: .int x :: rest) (hc : if_icmp.holds cd x y = true)       (hg : g.method = m) (hpc : g.pc = pc0) (ck : 0 ≤ (pc0 : Int) + o ∧ ((pc0 : Int) + o).toNat = pc') (k_ : G (T.setTop { g with pc := pc', stack := rest })) : G (T.setTop g) := B.1 _ _ (fun _ y_ => XS.icmpYes X.here B.2.1 hg hpc (by rw [B.2.2.1, hpc]; exact hd) hs hc ck.1 ck.2 y_) k_
theorem q_ifYes  {cd : ClassFile.Cond} {x : Int32} {rest : List Value} {o : Int} {pc0 : Nat}  (pc' : Nat) (B : own_Bd p e below G c bytes ml Z a0) (X : Stand p l e R s m args below meth c T locs cells slots) (hd : decode bytes pc0 = .ok (.ifCond cd o, 3))  (hs : g.stack = .int x :: rest) (hc : ifCond.holds cd x = true)       (hg : g.method = m) (hpc : g.pc = pc0) (ck : 0 ≤ (pc0 : Int) + o ∧ ((pc0 : Int) + o).toNat = pc') (k_ : G (T.setTop { g with pc := pc', stack := rest })) : G (T.setTop g) := B.1 _ _ (fun _ y_ => XS.ifYes X.here B.2.1 hg hpc (by rw [B.2.2.1, hpc]; exact hd) hs hc ck.1 ck.2 y_) k_
theorem q_ifnonnullYes  {b : Addr} {rest : List Value} {o : Int} {pc0 : Nat}  (pc' : Nat) (B : own_Bd p e below G c bytes ml Z a0) (X : Stand p l e R s m args below meth c T locs cells slots) (hd : decode bytes pc0 = .ok (.ifnonnull o, 3))  (hs : g.stack = .ref b :: rest)       (hg : g.method = m) (hpc : g.pc = pc0) (ck : 0 ≤ (pc0 : Int) + o ∧ ((pc0 : Int) + o).toNat = pc') (k_ : G (T.setTop { g with pc := pc', stack := rest })) : G (T.setTop g) := B.1 _ _ (fun _ y_ => XS.ifnonnullYes X.here B.2.1 hg hpc (by rw [B.2.2.1, hpc]; exact hd) hs ck.1 ck.2 y_) k_
theorem q_aconstNull (B : own_Bd p e below G c bytes ml Z a0) (X : Stand p l e R s m args below meth c T locs cells slots) (hd : decode bytes g.pc = .ok (.aconst_null, 1)) (hg : g.method = m) (k_ : G (T.setTop { g with pc := g.pc + 1, stack := .null :: g.stack })) : G (T.setTop g) := B.1 _ _ (fun _ y_ => XS.aconstNull X.here B.2.1 hg (B.2.2.1 ▸ hd) y_) k_
theorem q_aload (B : own_Bd p e below G c bytes ml Z a0) (X : Stand p l e R s m args below meth c T locs cells slots) {k : Nat} {v : Value} (hd : decode bytes g.pc = .ok (.aload k, 2)) (hl : g.locals[k]? = some (.val v)) (hv : v.isRef = true) (hg : g.method = m) (k_ : G (T.setTop { g with pc := g.pc + 2, stack := v :: g.stack })) : G (T.setTop g) := B.1 _ _ (fun _ y_ => XS.aload X.here B.2.1 hg (B.2.2.1 ▸ hd) hl hv y_) k_
theorem q_aloadN (B : own_Bd p e below G c bytes ml Z a0) (X : Stand p l e R s m args below meth c T locs cells slots) {k : Fin 4} {v : Value} (hd : decode bytes g.pc = .ok (.aload_n k, 1)) (hl : g.locals[k.val]? = some (.val v)) (hv : v.isRef = true) (hg : g.method = m) (k_ : G (T.setTop { g with pc := g.pc + 1, stack := v :: g.stack })) : G (T.setTop g) := B.1 _ _ (fun _ y_ => XS.aloadN X.here B.2.1 hg (B.2.2.1 ▸ hd) hl hv y_) k_
theorem q_astore (B : own_Bd p e below G c bytes ml Z a0) (X : Stand p l e R s m args below meth c T locs cells slots) {k : Nat} {x : Value} {rest : List Value} {l' : Array Slot} (hd : decode bytes g.pc = .ok (.astore k, 2)) (hs : g.stack = x :: rest) (hv : x.isRef = true) (hl : storeLocals g.locals k x = some l') (hg : g.method = m) (k_ : G (T.setTop { g with pc := g.pc + 2, stack := rest, locals := l' })) : G (T.setTop g) := B.1 _ _ (fun _ y_ => XS.astore X.here B.2.1 hg (B.2.2.1 ▸ hd) hs hv hl y_) k_
theorem q_astoreN (B : own_Bd p e below G c bytes ml Z a0) (X : Stand p l e R s m args below meth c T locs cells slots) {k : Fin 4} {x : Value} {rest : List Value} {l' : Array Slot} (hd : decode bytes g.pc = .ok (.astore_n k, 1)) (hs : g.stack = x :: rest) (hv : x.isRef = true) (hl : storeLocals g.locals k.val x = some l') (hg : g.method = m) (k_ : G (T.setTop { g with pc := g.pc + 1, stack := rest, locals := l' })) : G (T.setTop g) := B.1 _ _ (fun _ y_ => XS.astoreN X.here B.2.1 hg (B.2.2.1 ▸ hd) hs hv hl y_) k_
theorem q_bipush (B : own_Bd p e below G c bytes ml Z a0) (X : Stand p l e R s m args below meth c T locs cells slots) {i : Int} (hd : decode bytes g.pc = .ok (.bipush i, 2)) (hg : g.method = m) (k_ : G (T.setTop { g with pc := g.pc + 2, stack := .int (Int8.ofInt i).toInt32 :: g.stack })) : G (T.setTop g) := B.1 _ _ (fun _ y_ => XS.bipush X.here B.2.1 hg (B.2.2.1 ▸ hd) y_) k_
theorem q_dup (B : own_Bd p e below G c bytes ml Z a0) (X : Stand p l e R s m args below meth c T locs cells slots) {x : Value} {rest : List Value} (hd : decode bytes g.pc = .ok (.dup, 1)) (hs : g.stack = x :: rest) (hc : x.category = 1) (hg : g.method = m) (k_ : G (T.setTop { g with pc := g.pc + 1, stack := x :: x :: rest })) : G (T.setTop g) := B.1 _ _ (fun _ y_ => XS.dup X.here B.2.1 hg (B.2.2.1 ▸ hd) hs hc y_) k_
theorem q_i2b (B : own_Bd p e below G c bytes ml Z a0) (X : Stand p l e R s m args below meth c T locs cells slots) {v : Int32} {rest : List Value} (hd : decode bytes g.pc = .ok (.i2b, 1)) (hs : g.stack = .int v :: rest) (hg : g.method = m) (k_ : G (T.setTop { g with pc := g.pc + 1, stack := .int (v.toInt8.toInt32) :: rest })) : G (T.setTop g) := B.1 _ _ (fun _ y_ => XS.i2b X.here B.2.1 hg (B.2.2.1 ▸ hd) hs y_) k_
theorem q_i2c (B : own_Bd p e below G c bytes ml Z a0) (X : Stand p l e R s m args below meth c T locs cells slots) {v : Int32} {rest : List Value} (hd : decode bytes g.pc = .ok (.i2c, 1)) (hs : g.stack = .int v :: rest) (hg : g.method = m) (k_ : G (T.setTop { g with pc := g.pc + 1, stack := .int (v.toUInt32.toUInt16.toUInt32.toInt32) :: rest })) : G (T.setTop g) := B.1 _ _ (fun _ y_ => XS.i2c X.here B.2.1 hg (B.2.2.1 ▸ hd) hs y_) k_
theorem q_i2l (B : own_Bd p e below G c bytes ml Z a0) (X : Stand p l e R s m args below meth c T locs cells slots) {v : Int32} {rest : List Value} (hd : decode bytes g.pc = .ok (.i2l, 1)) (hs : g.stack = .int v :: rest) (hg : g.method = m) (k_ : G (T.setTop { g with pc := g.pc + 1, stack := .long (v.toInt64) :: rest })) : G (T.setTop g) := B.1 _ _ (fun _ y_ => XS.i2l X.here B.2.1 hg (B.2.2.1 ▸ hd) hs y_) k_
theorem q_iadd (B : own_Bd p e below G c bytes ml Z a0) (X : Stand p l e R s m args below meth c T locs cells slots) {x y : Int32} {rest : List Value} (hd : decode bytes g.pc = .ok (.iadd, 1)) (hs : g.stack = .int y :: .int x :: rest) (hg : g.method = m) (k_ : G (T.setTop { g with pc := g.pc + 1, stack := .int (x + y) :: rest })) : G (T.setTop g) := B.1 _ _ (fun _ y_ => XS.iadd X.here B.2.1 hg (B.2.2.1 ▸ hd) hs y_) k_
theorem q_iand (B : own_Bd p e below G c bytes ml Z a0) (X : Stand p l e R s m args below meth c T locs cells slots) {x y : Int32} {rest : List Value} (hd : decode bytes g.pc = .ok (.iand, 1)) (hs : g.stack = .int y :: .int x :: rest) (hg : g.method = m) (k_ : G (T.setTop { g with pc := g.pc + 1, stack := .int (x &&& y) :: rest })) : G (T.setTop g) := B.1 _ _ (fun _ y_ => XS.iand X.here B.2.1 hg (B.2.2.1 ▸ hd) hs y_) k_
theorem q_icmpNo (B : own_Bd p e below G c bytes ml Z a0) (X : Stand p l e R s m args below meth c T locs cells slots) {cd : ClassFile.Cond} {o : Int} {x y : Int32} {rest : List Value} (hd : decode bytes g.pc = .ok (.if_icmp cd o, 3)) (hs : g.stack = .int y :: .int x :: rest) (hc : if_icmp.holds cd x y = false) (hg : g.method = m) (k_ : G (T.setTop { g with pc := g.pc + 3, stack := rest })) : G (T.setTop g) := B.1 _ _ (fun _ y_ => XS.icmpNo X.here B.2.1 hg (B.2.2.1 ▸ hd) hs hc y_) k_
theorem q_iconst (B : own_Bd p e below G c bytes ml Z a0) (X : Stand p l e R s m args below meth c T locs cells slots) {i : Int} (hd : decode bytes g.pc = .ok (.iconst i, 1)) (hg : g.method = m) (k_ : G (T.setTop { g with pc := g.pc + 1, stack := .int (Int32.ofInt i) :: g.stack })) : G (T.setTop g) := B.1 _ _ (fun _ y_ => XS.iconst X.here B.2.1 hg (B.2.2.1 ▸ hd) y_) k_
theorem q_idiv (B : own_Bd p e below G c bytes ml Z a0) (X : Stand p l e R s m args below meth c T locs cells slots) {x y : Int32} {rest : List Value} (hd : decode bytes g.pc = .ok (.idiv, 1)) (hs : g.stack = .int y :: .int x :: rest) (hy : y ≠ 0) (hg : g.method = m) (k_ : G (T.setTop { g with pc := g.pc + 1, stack := .int (x / y) :: rest })) : G (T.setTop g) := B.1 _ _ (fun _ y_ => XS.idiv X.here B.2.1 hg (B.2.2.1 ▸ hd) hs hy y_) k_
theorem q_ifNo (B : own_Bd p e below G c bytes ml Z a0) (X : Stand p l e R s m args below meth c T locs cells slots) {cd : ClassFile.Cond} {o : Int} {x : Int32} {rest : List Value} (hd : decode bytes g.pc = .ok (.ifCond cd o, 3)) (hs : g.stack = .int x :: rest) (hc : ifCond.holds cd x = false) (hg : g.method = m) (k_ : G (T.setTop { g with pc := g.pc + 3, stack := rest })) : G (T.setTop g) := B.1 _ _ (fun _ y_ => XS.ifNo X.here B.2.1 hg (B.2.2.1 ▸ hd) hs hc y_) k_
theorem q_ifnullNo (B : own_Bd p e below G c bytes ml Z a0) (X : Stand p l e R s m args below meth c T locs cells slots) {o : Int} {b : Addr} {rest : List Value} (hd : decode bytes g.pc = .ok (.ifnull o, 3)) (hs : g.stack = .ref b :: rest) (hg : g.method = m) (k_ : G (T.setTop { g with pc := g.pc + 3, stack := rest })) : G (T.setTop g) := B.1 _ _ (fun _ y_ => XS.ifnullNo X.here B.2.1 hg (B.2.2.1 ▸ hd) hs y_) k_
theorem q_iinc (B : own_Bd p e below G c bytes ml Z a0) (X : Stand p l e R s m args below meth c T locs cells slots) {k : Nat} {cst : Int} {x : Int32} {l' : Array Slot} (hd : decode bytes g.pc = .ok (.iinc k cst, 3)) (hl : g.locals[k]? = some (.val (.int x))) (hl' : storeLocals g.locals k (.int (x + Int32.ofInt cst)) = some l') (hg : g.method = m) (k_ : G (T.setTop { g with pc := g.pc + 3, locals := l' })) : G (T.setTop g) := B.1 _ _ (fun _ y_ => XS.iinc X.here B.2.1 hg (B.2.2.1 ▸ hd) hl hl' y_) k_
theorem q_iload (B : own_Bd p e below G c bytes ml Z a0) (X : Stand p l e R s m args below meth c T locs cells slots) {k : Nat} {v : Int32} (hd : decode bytes g.pc = .ok (.iload k, 2)) (hl : g.locals[k]? = some (.val (.int v))) (hg : g.method = m) (k_ : G (T.setTop { g with pc := g.pc + 2, stack := .int v :: g.stack })) : G (T.setTop g) := B.1 _ _ (fun _ y_ => XS.iload X.here B.2.1 hg (B.2.2.1 ▸ hd) hl y_) k_
theorem q_iloadN (B : own_Bd p e below G c bytes ml Z a0) (X : Stand p l e R s m args below meth c T locs cells slots) {k : Fin 4} {v : Int32} (hd : decode bytes g.pc = .ok (.iload_n k, 1)) (hl : g.locals[k.val]? = some (.val (.int v))) (hg : g.method = m) (k_ : G (T.setTop { g with pc := g.pc + 1, stack := .int v :: g.stack })) : G (T.setTop g) := B.1 _ _ (fun _ y_ => XS.iloadN X.here B.2.1 hg (B.2.2.1 ▸ hd) hl y_) k_
theorem q_imul (B : own_Bd p e below G c bytes ml Z a0) (X : Stand p l e R s m args below meth c T locs cells slots) {x y : Int32} {rest : List Value} (hd : decode bytes g.pc = .ok (.imul, 1)) (hs : g.stack = .int y :: .int x :: rest) (hg : g.method = m) (k_ : G (T.setTop { g with pc := g.pc + 1, stack := .int (x * y) :: rest })) : G (T.setTop g) := B.1 _ _ (fun _ y_ => XS.imul X.here B.2.1 hg (B.2.2.1 ▸ hd) hs y_) k_
theorem q_ior (B : own_Bd p e below G c bytes ml Z a0) (X : Stand p l e R s m args below meth c T locs cells slots) {x : Int32} {y : Int32} {rest : List Value} (hd : decode bytes g.pc = .ok (.ior, 1)) (hs : g.stack = .int y :: .int x :: rest) (hg : g.method = m) (k_ : G (T.setTop { g with pc := g.pc + 1, stack := .int (x ||| y) :: rest })) : G (T.setTop g) := B.1 _ _ (fun _ y_ => XS.ior X.here B.2.1 hg (B.2.2.1 ▸ hd) hs y_) k_
theorem q_ishl (B : own_Bd p e below G c bytes ml Z a0) (X : Stand p l e R s m args below meth c T locs cells slots) {x : Int32} {y : Int32} {rest : List Value} (hd : decode bytes g.pc = .ok (.ishl, 1)) (hs : g.stack = .int y :: .int x :: rest) (hg : g.method = m) (k_ : G (T.setTop { g with pc := g.pc + 1, stack := .int (x <<< (y &&& 31)) :: rest })) : G (T.setTop g) := B.1 _ _ (fun _ y_ => XS.ishl X.here B.2.1 hg (B.2.2.1 ▸ hd) hs y_) k_
theorem q_ishr (B : own_Bd p e below G c bytes ml Z a0) (X : Stand p l e R s m args below meth c T locs cells slots) {x : Int32} {y : Int32} {rest : List Value} (hd : decode bytes g.pc = .ok (.ishr, 1)) (hs : g.stack = .int y :: .int x :: rest) (hg : g.method = m) (k_ : G (T.setTop { g with pc := g.pc + 1, stack := .int (x >>> (y &&& 31)) :: rest })) : G (T.setTop g) := B.1 _ _ (fun _ y_ => XS.ishr X.here B.2.1 hg (B.2.2.1 ▸ hd) hs y_) k_
theorem q_istore (B : own_Bd p e below G c bytes ml Z a0) (X : Stand p l e R s m args below meth c T locs cells slots) {k : Nat} {x : Int32} {rest : List Value} {l' : Array Slot} (hd : decode bytes g.pc = .ok (.istore k, 2)) (hs : g.stack = .int x :: rest) (hl : storeLocals g.locals k (.int x) = some l') (hg : g.method = m) (k_ : G (T.setTop { g with pc := g.pc + 2, stack := rest, locals := l' })) : G (T.setTop g) := B.1 _ _ (fun _ y_ => XS.istore X.here B.2.1 hg (B.2.2.1 ▸ hd) hs hl y_) k_
theorem q_istoreN (B : own_Bd p e below G c bytes ml Z a0) (X : Stand p l e R s m args below meth c T locs cells slots) {k : Fin 4} {x : Int32} {rest : List Value} {l' : Array Slot} (hd : decode bytes g.pc = .ok (.istore_n k, 1)) (hs : g.stack = .int x :: rest) (hl : storeLocals g.locals k.val (.int x) = some l') (hg : g.method = m) (k_ : G (T.setTop { g with pc := g.pc + 1, stack := rest, locals := l' })) : G (T.setTop g) := B.1 _ _ (fun _ y_ => XS.istoreN X.here B.2.1 hg (B.2.2.1 ▸ hd) hs hl y_) k_
theorem q_istoreS (B : own_Bd p e below G c bytes ml Z a0) (X : Stand p l e R s m args below meth c T locs cells slots) {k : Nat} {x : Int32} {rest : List Value} {o : Slot} (hd : decode bytes g.pc = .ok (.istore k, 2)) (hs : g.stack = .int x :: rest) (hold : g.locals[k]? = some o) (ho : o = .unset ∨ ∃ w, o = .val w ∧ w.category = 1) (hg : g.method = m) (k_ : G (T.setTop { g with pc := g.pc + 2, stack := rest, locals := g.locals.setIfInBounds k (.val (.int x)) })) : G (T.setTop g) := B.1 _ _ (fun _ y_ => XS.istoreS X.here B.2.1 hg (B.2.2.1 ▸ hd) hs hold ho y_) k_
theorem q_isub (B : own_Bd p e below G c bytes ml Z a0) (X : Stand p l e R s m args below meth c T locs cells slots) {x y : Int32} {rest : List Value} (hd : decode bytes g.pc = .ok (.isub, 1)) (hs : g.stack = .int y :: .int x :: rest) (hg : g.method = m) (k_ : G (T.setTop { g with pc := g.pc + 1, stack := .int (x - y) :: rest })) : G (T.setTop g) := B.1 _ _ (fun _ y_ => XS.isub X.here B.2.1 hg (B.2.2.1 ▸ hd) hs y_) k_
theorem q_iushr (B : own_Bd p e below G c bytes ml Z a0) (X : Stand p l e R s m args below meth c T locs cells slots) {x : Int32} {y : Int32} {rest : List Value} (hd : decode bytes g.pc = .ok (.iushr, 1)) (hs : g.stack = .int y :: .int x :: rest) (hg : g.method = m) (k_ : G (T.setTop { g with pc := g.pc + 1, stack := .int ((x.toUInt32 >>> (y &&& 31).toUInt32).toInt32) :: rest })) : G (T.setTop g) := B.1 _ _ (fun _ y_ => XS.iushr X.here B.2.1 hg (B.2.2.1 ▸ hd) hs y_) k_
theorem q_l2i (B : own_Bd p e below G c bytes ml Z a0) (X : Stand p l e R s m args below meth c T locs cells slots) {v : Int64} {rest : List Value} (hd : decode bytes g.pc = .ok (.l2i, 1)) (hs : g.stack = .long v :: rest) (hg : g.method = m) (k_ : G (T.setTop { g with pc := g.pc + 1, stack := .int (v.toInt32) :: rest })) : G (T.setTop g) := B.1 _ _ (fun _ y_ => XS.l2i X.here B.2.1 hg (B.2.2.1 ▸ hd) hs y_) k_
theorem q_ladd (B : own_Bd p e below G c bytes ml Z a0) (X : Stand p l e R s m args below meth c T locs cells slots) {x : Int64} {y : Int64} {rest : List Value} (hd : decode bytes g.pc = .ok (.ladd, 1)) (hs : g.stack = .long y :: .long x :: rest) (hg : g.method = m) (k_ : G (T.setTop { g with pc := g.pc + 1, stack := .long (x + y) :: rest })) : G (T.setTop g) := B.1 _ _ (fun _ y_ => XS.ladd X.here B.2.1 hg (B.2.2.1 ▸ hd) hs y_) k_
theorem q_ldiv (B : own_Bd p e below G c bytes ml Z a0) (X : Stand p l e R s m args below meth c T locs cells slots) {x y : Int64} {rest : List Value} (hd : decode bytes g.pc = .ok (.ldiv, 1)) (hs : g.stack = .long y :: .long x :: rest) (hy : y ≠ 0) (hg : g.method = m) (k_ : G (T.setTop { g with pc := g.pc + 1, stack := .long (x / y) :: rest })) : G (T.setTop g) := B.1 _ _ (fun _ y_ => XS.ldiv X.here B.2.1 hg (B.2.2.1 ▸ hd) hs hy y_) k_
theorem q_sipush (B : own_Bd p e below G c bytes ml Z a0) (X : Stand p l e R s m args below meth c T locs cells slots) {i : Int} (hd : decode bytes g.pc = .ok (.sipush i, 3)) (hg : g.method = m) (k_ : G (T.setTop { g with pc := g.pc + 3, stack := .int (Int16.ofInt i).toInt32 :: g.stack })) : G (T.setTop g) := B.1 _ _ (fun _ y_ => XS.sipush X.here B.2.1 hg (B.2.2.1 ▸ hd) y_) k_
end OwnQ
theorem d1_0 : decode jdk_29_method_69_code 0 = .ok (.iload_n 0, 1) := by decide +kernel
theorem d1_1 : decode jdk_29_method_69_code 1 = .ok (.iload_n 1, 1) := by decide +kernel
theorem d1_2 : decode jdk_29_method_69_code 2 = .ok (.if_icmp .gt 7, 3) := by decide +kernel
theorem d1_5 : decode jdk_29_method_69_code 5 = .ok (.iload_n 0, 1) := by decide +kernel
theorem d1_6 : decode jdk_29_method_69_code 6 = .ok (.goto 4, 3) := by decide +kernel
theorem d1_9 : decode jdk_29_method_69_code 9 = .ok (.iload_n 1, 1) := by decide +kernel
theorem d1_10 : decode jdk_29_method_69_code 10 = .ok (.ireturn, 1) := by decide +kernel
theorem d2_0 : decode method_3_code 0 = .ok (.iload_n 2, 1) := by decide +kernel
theorem d2_1 : decode method_3_code 1 = .ok (.bipush 16, 2) := by decide +kernel
theorem d2_3 : decode method_3_code 3 = .ok (.ishl, 1) := by decide +kernel
theorem d2_4 : decode method_3_code 4 = .ok (.iload_n 3, 1) := by decide +kernel
theorem d2_5 : decode method_3_code 5 = .ok (.bipush 8, 2) := by decide +kernel
theorem d2_7 : decode method_3_code 7 = .ok (.ishl, 1) := by decide +kernel
theorem d2_8 : decode method_3_code 8 = .ok (.ior, 1) := by decide +kernel
theorem d2_9 : decode method_3_code 9 = .ok (.iload 4, 2) := by decide +kernel
theorem d2_11 : decode method_3_code 11 = .ok (.ior, 1) := by decide +kernel
theorem d2_12 : decode method_3_code 12 = .ok (.istore 6, 2) := by decide +kernel
theorem d2_14 : decode method_3_code 14 = .ok (.aload_n 0, 1) := by decide +kernel
theorem d2_15 : decode method_3_code 15 = .ok (.iload_n 1, 1) := by decide +kernel
theorem d2_16 : decode method_3_code 16 = .ok (.iload 6, 2) := by decide +kernel
theorem d2_18 : decode method_3_code 18 = .ok (.bipush 18, 2) := by decide +kernel
theorem d2_20 : decode method_3_code 20 = .ok (.iushr, 1) := by decide +kernel
theorem d2_21 : decode method_3_code 21 = .ok (.bipush 63, 2) := by decide +kernel
theorem d2_23 : decode method_3_code 23 = .ok (.iand, 1) := by decide +kernel
theorem d2_24 : decode method_3_code 24 = .ok (.invokestatic 7, 3) := by decide +kernel
theorem d2_27 : decode method_3_code 27 = .ok (.castore, 1) := by decide +kernel
theorem d2_28 : decode method_3_code 28 = .ok (.aload_n 0, 1) := by decide +kernel
theorem d2_29 : decode method_3_code 29 = .ok (.iload_n 1, 1) := by decide +kernel
theorem d2_30 : decode method_3_code 30 = .ok (.iconst 1, 1) := by decide +kernel
theorem d2_31 : decode method_3_code 31 = .ok (.iadd, 1) := by decide +kernel
theorem d2_32 : decode method_3_code 32 = .ok (.iload 6, 2) := by decide +kernel
theorem d2_34 : decode method_3_code 34 = .ok (.bipush 12, 2) := by decide +kernel
theorem d2_36 : decode method_3_code 36 = .ok (.iushr, 1) := by decide +kernel
theorem d2_37 : decode method_3_code 37 = .ok (.bipush 63, 2) := by decide +kernel
theorem d2_39 : decode method_3_code 39 = .ok (.iand, 1) := by decide +kernel
theorem d2_40 : decode method_3_code 40 = .ok (.invokestatic 7, 3) := by decide +kernel
theorem d2_43 : decode method_3_code 43 = .ok (.castore, 1) := by decide +kernel
theorem d2_44 : decode method_3_code 44 = .ok (.iload 5, 2) := by decide +kernel
theorem d2_46 : decode method_3_code 46 = .ok (.iconst 2, 1) := by decide +kernel
theorem d2_47 : decode method_3_code 47 = .ok (.if_icmp .lt 19, 3) := by decide +kernel
theorem d2_50 : decode method_3_code 50 = .ok (.aload_n 0, 1) := by decide +kernel
theorem d2_51 : decode method_3_code 51 = .ok (.iload_n 1, 1) := by decide +kernel
theorem d2_52 : decode method_3_code 52 = .ok (.iconst 2, 1) := by decide +kernel
theorem d2_53 : decode method_3_code 53 = .ok (.iadd, 1) := by decide +kernel
theorem d2_54 : decode method_3_code 54 = .ok (.iload 6, 2) := by decide +kernel
theorem d2_56 : decode method_3_code 56 = .ok (.bipush 6, 2) := by decide +kernel
theorem d2_58 : decode method_3_code 58 = .ok (.iushr, 1) := by decide +kernel
theorem d2_59 : decode method_3_code 59 = .ok (.bipush 63, 2) := by decide +kernel
theorem d2_61 : decode method_3_code 61 = .ok (.iand, 1) := by decide +kernel
theorem d2_62 : decode method_3_code 62 = .ok (.invokestatic 7, 3) := by decide +kernel
theorem d2_65 : decode method_3_code 65 = .ok (.castore, 1) := by decide +kernel
theorem d2_66 : decode method_3_code 66 = .ok (.iload 5, 2) := by decide +kernel
theorem d2_68 : decode method_3_code 68 = .ok (.iconst 3, 1) := by decide +kernel
theorem d2_69 : decode method_3_code 69 = .ok (.if_icmp .lt 16, 3) := by decide +kernel
theorem d2_72 : decode method_3_code 72 = .ok (.aload_n 0, 1) := by decide +kernel
theorem d2_73 : decode method_3_code 73 = .ok (.iload_n 1, 1) := by decide +kernel
theorem d2_74 : decode method_3_code 74 = .ok (.iconst 3, 1) := by decide +kernel
theorem d2_75 : decode method_3_code 75 = .ok (.iadd, 1) := by decide +kernel
theorem d2_76 : decode method_3_code 76 = .ok (.iload 6, 2) := by decide +kernel
theorem d2_78 : decode method_3_code 78 = .ok (.bipush 63, 2) := by decide +kernel
theorem d2_80 : decode method_3_code 80 = .ok (.iand, 1) := by decide +kernel
theorem d2_81 : decode method_3_code 81 = .ok (.invokestatic 7, 3) := by decide +kernel
theorem d2_84 : decode method_3_code 84 = .ok (.castore, 1) := by decide +kernel
theorem d2_85 : decode method_3_code 85 = .ok (.return_, 1) := by decide +kernel
theorem d3_0 : decode method_2_code 0 = .ok (.iload_n 0, 1) := by decide +kernel
theorem d3_1 : decode method_2_code 1 = .ok (.bipush 26, 2) := by decide +kernel
theorem d3_3 : decode method_2_code 3 = .ok (.if_icmp .ge 9, 3) := by decide +kernel
theorem d3_6 : decode method_2_code 6 = .ok (.bipush 65, 2) := by decide +kernel
theorem d3_8 : decode method_2_code 8 = .ok (.iload_n 0, 1) := by decide +kernel
theorem d3_9 : decode method_2_code 9 = .ok (.iadd, 1) := by decide +kernel
theorem d3_10 : decode method_2_code 10 = .ok (.i2c, 1) := by decide +kernel
theorem d3_11 : decode method_2_code 11 = .ok (.ireturn, 1) := by decide +kernel
theorem d3_12 : decode method_2_code 12 = .ok (.iload_n 0, 1) := by decide +kernel
theorem d3_13 : decode method_2_code 13 = .ok (.bipush 52, 2) := by decide +kernel
theorem d3_15 : decode method_2_code 15 = .ok (.if_icmp .ge 12, 3) := by decide +kernel
theorem d3_18 : decode method_2_code 18 = .ok (.bipush 97, 2) := by decide +kernel
theorem d3_20 : decode method_2_code 20 = .ok (.iload_n 0, 1) := by decide +kernel
theorem d3_21 : decode method_2_code 21 = .ok (.bipush 26, 2) := by decide +kernel
theorem d3_23 : decode method_2_code 23 = .ok (.isub, 1) := by decide +kernel
theorem d3_24 : decode method_2_code 24 = .ok (.iadd, 1) := by decide +kernel
theorem d3_25 : decode method_2_code 25 = .ok (.i2c, 1) := by decide +kernel
theorem d3_26 : decode method_2_code 26 = .ok (.ireturn, 1) := by decide +kernel
theorem d3_27 : decode method_2_code 27 = .ok (.iload_n 0, 1) := by decide +kernel
theorem d3_28 : decode method_2_code 28 = .ok (.bipush 62, 2) := by decide +kernel
theorem d3_30 : decode method_2_code 30 = .ok (.if_icmp .ge 12, 3) := by decide +kernel
theorem d3_33 : decode method_2_code 33 = .ok (.bipush 48, 2) := by decide +kernel
theorem d3_35 : decode method_2_code 35 = .ok (.iload_n 0, 1) := by decide +kernel
theorem d3_36 : decode method_2_code 36 = .ok (.bipush 52, 2) := by decide +kernel
theorem d3_38 : decode method_2_code 38 = .ok (.isub, 1) := by decide +kernel
theorem d3_39 : decode method_2_code 39 = .ok (.iadd, 1) := by decide +kernel
theorem d3_40 : decode method_2_code 40 = .ok (.i2c, 1) := by decide +kernel
theorem d3_41 : decode method_2_code 41 = .ok (.ireturn, 1) := by decide +kernel
theorem d3_42 : decode method_2_code 42 = .ok (.iload_n 0, 1) := by decide +kernel
theorem d3_43 : decode method_2_code 43 = .ok (.bipush 62, 2) := by decide +kernel
theorem d3_45 : decode method_2_code 45 = .ok (.if_icmp .ne 6, 3) := by decide +kernel
theorem d3_48 : decode method_2_code 48 = .ok (.bipush 45, 2) := by decide +kernel
theorem d3_50 : decode method_2_code 50 = .ok (.ireturn, 1) := by decide +kernel
theorem d3_51 : decode method_2_code 51 = .ok (.bipush 95, 2) := by decide +kernel
theorem d3_53 : decode method_2_code 53 = .ok (.ireturn, 1) := by decide +kernel
theorem d4_0 : decode jdk_42_method_3_code 0 = .ok (.aload_n 0, 1) := by decide +kernel
theorem d4_1 : decode jdk_42_method_3_code 1 = .ok (.aload_n 1, 1) := by decide +kernel
theorem d4_2 : decode jdk_42_method_3_code 2 = .ok (.iconst 0, 1) := by decide +kernel
theorem d4_3 : decode jdk_42_method_3_code 3 = .ok (.aload_n 1, 1) := by decide +kernel
theorem d4_4 : decode jdk_42_method_3_code 4 = .ok (.arraylength, 1) := by decide +kernel
theorem d4_5 : decode jdk_42_method_3_code 5 = .ok (.aconst_null, 1) := by decide +kernel
theorem d4_6 : decode jdk_42_method_3_code 6 = .ok (.invokespecial 27, 3) := by decide +kernel
theorem d4_9 : decode jdk_42_method_3_code 9 = .ok (.return_, 1) := by decide +kernel
theorem d5_0 : decode jdk_42_method_149_code 0 = .ok (.aload_n 0, 1) := by decide +kernel
theorem d5_1 : decode jdk_42_method_149_code 1 = .ok (.invokespecial 1, 3) := by decide +kernel
theorem d5_4 : decode jdk_42_method_149_code 4 = .ok (.iload_n 3, 1) := by decide +kernel
theorem d5_5 : decode jdk_42_method_149_code 5 = .ok (.ifCond .ne 22, 3) := by decide +kernel
theorem d5_8 : decode jdk_42_method_149_code 8 = .ok (.aload_n 0, 1) := by decide +kernel
theorem d5_9 : decode jdk_42_method_149_code 9 = .ok (.ldc 7, 2) := by decide +kernel
theorem d5_11 : decode jdk_42_method_149_code 11 = .ok (.getfield 9, 3) := by decide +kernel
theorem d5_14 : decode jdk_42_method_149_code 14 = .ok (.putfield 9, 3) := by decide +kernel
theorem d5_17 : decode jdk_42_method_149_code 17 = .ok (.aload_n 0, 1) := by decide +kernel
theorem d5_18 : decode jdk_42_method_149_code 18 = .ok (.ldc 7, 2) := by decide +kernel
theorem d5_20 : decode jdk_42_method_149_code 20 = .ok (.getfield 15, 3) := by decide +kernel
theorem d5_23 : decode jdk_42_method_149_code 23 = .ok (.putfield 15, 3) := by decide +kernel
theorem d5_26 : decode jdk_42_method_149_code 26 = .ok (.return_, 1) := by decide +kernel
theorem d5_27 : decode jdk_42_method_149_code 27 = .ok (.getstatic 38, 3) := by decide +kernel
theorem d5_30 : decode jdk_42_method_149_code 30 = .ok (.ifCond .eq 28, 3) := by decide +kernel
theorem d5_33 : decode jdk_42_method_149_code 33 = .ok (.aload_n 1, 1) := by decide +kernel
theorem d5_34 : decode jdk_42_method_149_code 34 = .ok (.iload_n 2, 1) := by decide +kernel
theorem d5_35 : decode jdk_42_method_149_code 35 = .ok (.iload_n 3, 1) := by decide +kernel
theorem d5_36 : decode jdk_42_method_149_code 36 = .ok (.invokestatic 177, 3) := by decide +kernel
theorem d5_39 : decode jdk_42_method_149_code 39 = .ok (.astore 5, 2) := by decide +kernel
theorem d5_41 : decode jdk_42_method_149_code 41 = .ok (.aload_n 0, 1) := by decide +kernel
theorem d5_42 : decode jdk_42_method_149_code 42 = .ok (.aload 5, 2) := by decide +kernel
theorem d5_44 : decode jdk_42_method_149_code 44 = .ok (.iload_n 3, 1) := by decide +kernel
theorem d5_45 : decode jdk_42_method_149_code 45 = .ok (.invokestatic 47, 3) := by decide +kernel
theorem d5_48 : decode jdk_42_method_149_code 48 = .ok (.putfield 15, 3) := by decide +kernel
theorem d5_51 : decode jdk_42_method_149_code 51 = .ok (.aload_n 0, 1) := by decide +kernel
theorem d5_52 : decode jdk_42_method_149_code 52 = .ok (.aload 5, 2) := by decide +kernel
theorem d5_54 : decode jdk_42_method_149_code 54 = .ok (.putfield 9, 3) := by decide +kernel
theorem d5_57 : decode jdk_42_method_149_code 57 = .ok (.return_, 1) := by decide +kernel
theorem d7_0 : decode jdk_52_method_16_code 0 = .ok (.iload_n 2, 1) := by decide +kernel
theorem d7_1 : decode jdk_52_method_16_code 1 = .ok (.newarray .byte, 2) := by decide +kernel
theorem d7_3 : decode jdk_52_method_16_code 3 = .ok (.astore_n 3, 1) := by decide +kernel
theorem d7_4 : decode jdk_52_method_16_code 4 = .ok (.aload_n 0, 1) := by decide +kernel
theorem d7_5 : decode jdk_52_method_16_code 5 = .ok (.iload_n 1, 1) := by decide +kernel
theorem d7_6 : decode jdk_52_method_16_code 6 = .ok (.aload_n 3, 1) := by decide +kernel
theorem d7_7 : decode jdk_52_method_16_code 7 = .ok (.iconst 0, 1) := by decide +kernel
theorem d7_8 : decode jdk_52_method_16_code 8 = .ok (.iload_n 2, 1) := by decide +kernel
theorem d7_9 : decode jdk_52_method_16_code 9 = .ok (.invokestatic 115, 3) := by decide +kernel
theorem d7_12 : decode jdk_52_method_16_code 12 = .ok (.istore 4, 2) := by decide +kernel
theorem d7_14 : decode jdk_52_method_16_code 14 = .ok (.iload 4, 2) := by decide +kernel
theorem d7_16 : decode jdk_52_method_16_code 16 = .ok (.iload_n 2, 1) := by decide +kernel
theorem d7_17 : decode jdk_52_method_16_code 17 = .ok (.if_icmp .eq 40, 3) := by decide +kernel
theorem d7_57 : decode jdk_52_method_16_code 57 = .ok (.aload_n 3, 1) := by decide +kernel
theorem d7_58 : decode jdk_52_method_16_code 58 = .ok (.areturn, 1) := by decide +kernel
theorem d8_0 : decode jdk_52_method_21_code 0 = .ok (.iconst 0, 1) := by decide +kernel
theorem d8_1 : decode jdk_52_method_21_code 1 = .ok (.istore 5, 2) := by decide +kernel
theorem d8_3 : decode jdk_52_method_21_code 3 = .ok (.iload 5, 2) := by decide +kernel
theorem d8_5 : decode jdk_52_method_21_code 5 = .ok (.iload 4, 2) := by decide +kernel
theorem d8_7 : decode jdk_52_method_21_code 7 = .ok (.if_icmp .ge 37, 3) := by decide +kernel
theorem d8_10 : decode jdk_52_method_21_code 10 = .ok (.aload_n 0, 1) := by decide +kernel
theorem d8_11 : decode jdk_52_method_21_code 11 = .ok (.iload_n 1, 1) := by decide +kernel
theorem d8_12 : decode jdk_52_method_21_code 12 = .ok (.caload, 1) := by decide +kernel
theorem d8_13 : decode jdk_52_method_21_code 13 = .ok (.istore 6, 2) := by decide +kernel
theorem d8_15 : decode jdk_52_method_21_code 15 = .ok (.iload 6, 2) := by decide +kernel
theorem d8_17 : decode jdk_52_method_21_code 17 = .ok (.sipush 255, 3) := by decide +kernel
theorem d8_20 : decode jdk_52_method_21_code 20 = .ok (.if_icmp .le 6, 3) := by decide +kernel
theorem d8_26 : decode jdk_52_method_21_code 26 = .ok (.aload_n 2, 1) := by decide +kernel
theorem d8_27 : decode jdk_52_method_21_code 27 = .ok (.iload_n 3, 1) := by decide +kernel
theorem d8_28 : decode jdk_52_method_21_code 28 = .ok (.iload 6, 2) := by decide +kernel
theorem d8_30 : decode jdk_52_method_21_code 30 = .ok (.i2b, 1) := by decide +kernel
theorem d8_31 : decode jdk_52_method_21_code 31 = .ok (.bastore, 1) := by decide +kernel
theorem d8_32 : decode jdk_52_method_21_code 32 = .ok (.iinc 1 1, 3) := by decide +kernel
theorem d8_35 : decode jdk_52_method_21_code 35 = .ok (.iinc 3 1, 3) := by decide +kernel
theorem d8_38 : decode jdk_52_method_21_code 38 = .ok (.iinc 5 1, 3) := by decide +kernel
theorem d8_41 : decode jdk_52_method_21_code 41 = .ok (.goto (-38), 3) := by decide +kernel
theorem d8_44 : decode jdk_52_method_21_code 44 = .ok (.iload 4, 2) := by decide +kernel
theorem d8_46 : decode jdk_52_method_21_code 46 = .ok (.ireturn, 1) := by decide +kernel
theorem d9_0 : decode jdk_52_method_15_code 0 = .ok (.iload_n 1, 1) := by decide +kernel
theorem d9_1 : decode jdk_52_method_15_code 1 = .ok (.aload_n 0, 1) := by decide +kernel
theorem d9_2 : decode jdk_52_method_15_code 2 = .ok (.arraylength, 1) := by decide +kernel
theorem d9_3 : decode jdk_52_method_15_code 3 = .ok (.isub, 1) := by decide +kernel
theorem d9_4 : decode jdk_52_method_15_code 4 = .ok (.bipush 31, 2) := by decide +kernel
theorem d9_6 : decode jdk_52_method_15_code 6 = .ok (.iushr, 1) := by decide +kernel
theorem d9_7 : decode jdk_52_method_15_code 7 = .ok (.i2b, 1) := by decide +kernel
theorem d9_8 : decode jdk_52_method_15_code 8 = .ok (.ireturn, 1) := by decide +kernel
theorem d10_0 : decode prog_16_method_2_code 0 = .ok (.aload_n 0, 1) := by decide +kernel
theorem d10_1 : decode prog_16_method_2_code 1 = .ok (.bipush 61, 2) := by decide +kernel
theorem d10_3 : decode prog_16_method_2_code 3 = .ok (.invokevirtual 7, 3) := by decide +kernel
theorem d10_6 : decode prog_16_method_2_code 6 = .ok (.ifCond .lt 13, 3) := by decide +kernel
theorem d10_19 : decode prog_16_method_2_code 19 = .ok (.invokestatic 20, 3) := by decide +kernel
theorem d10_22 : decode prog_16_method_2_code 22 = .ok (.aload_n 0, 1) := by decide +kernel
theorem d10_23 : decode prog_16_method_2_code 23 = .ok (.invokevirtual 26, 3) := by decide +kernel
theorem d10_26 : decode prog_16_method_2_code 26 = .ok (.areturn, 1) := by decide +kernel
theorem d11_0 : decode jdk_42_method_79_code 0 = .ok (.aload_n 0, 1) := by decide +kernel
theorem d11_1 : decode jdk_42_method_79_code 1 = .ok (.iload_n 1, 1) := by decide +kernel
theorem d11_2 : decode jdk_42_method_79_code 2 = .ok (.iconst 0, 1) := by decide +kernel
theorem d11_3 : decode jdk_42_method_79_code 3 = .ok (.invokevirtual 633, 3) := by decide +kernel
theorem d11_6 : decode jdk_42_method_79_code 6 = .ok (.ireturn, 1) := by decide +kernel
theorem d12_0 : decode jdk_42_method_80_code 0 = .ok (.aload_n 0, 1) := by decide +kernel
theorem d12_1 : decode jdk_42_method_80_code 1 = .ok (.invokevirtual 492, 3) := by decide +kernel
theorem d12_4 : decode jdk_42_method_80_code 4 = .ok (.ifCond .eq 19, 3) := by decide +kernel
theorem d12_7 : decode jdk_42_method_80_code 7 = .ok (.aload_n 0, 1) := by decide +kernel
theorem d12_8 : decode jdk_42_method_80_code 8 = .ok (.getfield 9, 3) := by decide +kernel
theorem d12_11 : decode jdk_42_method_80_code 11 = .ok (.iload_n 1, 1) := by decide +kernel
theorem d12_12 : decode jdk_42_method_80_code 12 = .ok (.iload_n 2, 1) := by decide +kernel
theorem d12_13 : decode jdk_42_method_80_code 13 = .ok (.aload_n 0, 1) := by decide +kernel
theorem d12_14 : decode jdk_42_method_80_code 14 = .ok (.invokevirtual 505, 3) := by decide +kernel
theorem d12_17 : decode jdk_42_method_80_code 17 = .ok (.invokestatic 637, 3) := by decide +kernel
theorem d12_20 : decode jdk_42_method_80_code 20 = .ok (.goto 16, 3) := by decide +kernel
theorem d12_36 : decode jdk_42_method_80_code 36 = .ok (.ireturn, 1) := by decide +kernel
theorem d13_0 : decode jdk_42_method_154_code 0 = .ok (.getstatic 38, 3) := by decide +kernel
theorem d13_3 : decode jdk_42_method_154_code 3 = .ok (.ifCond .eq 14, 3) := by decide +kernel
theorem d13_6 : decode jdk_42_method_154_code 6 = .ok (.aload_n 0, 1) := by decide +kernel
theorem d13_7 : decode jdk_42_method_154_code 7 = .ok (.getfield 15, 3) := by decide +kernel
theorem d13_10 : decode jdk_42_method_154_code 10 = .ok (.ifCond .ne 7, 3) := by decide +kernel
theorem d13_13 : decode jdk_42_method_154_code 13 = .ok (.iconst 1, 1) := by decide +kernel
theorem d13_14 : decode jdk_42_method_154_code 14 = .ok (.goto 4, 3) := by decide +kernel
theorem d13_18 : decode jdk_42_method_154_code 18 = .ok (.ireturn, 1) := by decide +kernel
theorem d14_0 : decode jdk_42_method_54_code 0 = .ok (.aload_n 0, 1) := by decide +kernel
theorem d14_1 : decode jdk_42_method_54_code 1 = .ok (.getfield 9, 3) := by decide +kernel
theorem d14_4 : decode jdk_42_method_54_code 4 = .ok (.arraylength, 1) := by decide +kernel
theorem d14_5 : decode jdk_42_method_54_code 5 = .ok (.aload_n 0, 1) := by decide +kernel
theorem d14_6 : decode jdk_42_method_54_code 6 = .ok (.invokevirtual 335, 3) := by decide +kernel
theorem d14_9 : decode jdk_42_method_54_code 9 = .ok (.ishr, 1) := by decide +kernel
theorem d14_10 : decode jdk_42_method_54_code 10 = .ok (.ireturn, 1) := by decide +kernel
theorem d15_0 : decode jdk_42_method_152_code 0 = .ok (.getstatic 38, 3) := by decide +kernel
theorem d15_3 : decode jdk_42_method_152_code 3 = .ok (.ifCond .eq 10, 3) := by decide +kernel
theorem d15_6 : decode jdk_42_method_152_code 6 = .ok (.aload_n 0, 1) := by decide +kernel
theorem d15_7 : decode jdk_42_method_152_code 7 = .ok (.getfield 15, 3) := by decide +kernel
theorem d15_10 : decode jdk_42_method_152_code 10 = .ok (.goto 4, 3) := by decide +kernel
theorem d15_14 : decode jdk_42_method_152_code 14 = .ok (.ireturn, 1) := by decide +kernel
theorem d16_0 : decode jdk_43_method_22_code 0 = .ok (.iload_n 1, 1) := by decide +kernel
theorem d16_1 : decode jdk_43_method_22_code 1 = .ok (.invokestatic 88, 3) := by decide +kernel
theorem d16_4 : decode jdk_43_method_22_code 4 = .ok (.ifCond .ne 5, 3) := by decide +kernel
theorem d16_9 : decode jdk_43_method_22_code 9 = .ok (.iload_n 2, 1) := by decide +kernel
theorem d16_10 : decode jdk_43_method_22_code 10 = .ok (.iconst 0, 1) := by decide +kernel
theorem d16_11 : decode jdk_43_method_22_code 11 = .ok (.invokestatic 92, 3) := by decide +kernel
theorem d16_14 : decode jdk_43_method_22_code 14 = .ok (.istore_n 2, 1) := by decide +kernel
theorem d16_15 : decode jdk_43_method_22_code 15 = .ok (.iload_n 3, 1) := by decide +kernel
theorem d16_16 : decode jdk_43_method_22_code 16 = .ok (.aload_n 0, 1) := by decide +kernel
theorem d16_17 : decode jdk_43_method_22_code 17 = .ok (.arraylength, 1) := by decide +kernel
theorem d16_18 : decode jdk_43_method_22_code 18 = .ok (.invokestatic 38, 3) := by decide +kernel
theorem d16_21 : decode jdk_43_method_22_code 21 = .ok (.istore_n 3, 1) := by decide +kernel
theorem d16_22 : decode jdk_43_method_22_code 22 = .ok (.iload_n 2, 1) := by decide +kernel
theorem d16_23 : decode jdk_43_method_22_code 23 = .ok (.iload_n 3, 1) := by decide +kernel
theorem d16_24 : decode jdk_43_method_22_code 24 = .ok (.if_icmp .lt 5, 3) := by decide +kernel
theorem d16_27 : decode jdk_43_method_22_code 27 = .ok (.iconst (-1), 1) := by decide +kernel
theorem d16_28 : decode jdk_43_method_22_code 28 = .ok (.ireturn, 1) := by decide +kernel
theorem d16_29 : decode jdk_43_method_22_code 29 = .ok (.aload_n 0, 1) := by decide +kernel
theorem d16_30 : decode jdk_43_method_22_code 30 = .ok (.iload_n 1, 1) := by decide +kernel
theorem d16_31 : decode jdk_43_method_22_code 31 = .ok (.iload_n 2, 1) := by decide +kernel
theorem d16_32 : decode jdk_43_method_22_code 32 = .ok (.iload_n 3, 1) := by decide +kernel
theorem d16_33 : decode jdk_43_method_22_code 33 = .ok (.invokestatic 95, 3) := by decide +kernel
theorem d16_36 : decode jdk_43_method_22_code 36 = .ok (.ireturn, 1) := by decide +kernel
theorem d17_0 : decode jdk_43_method_4_code 0 = .ok (.iload_n 0, 1) := by decide +kernel
theorem d17_1 : decode jdk_43_method_4_code 1 = .ok (.ifCond .lt 14, 3) := by decide +kernel
theorem d17_4 : decode jdk_43_method_4_code 4 = .ok (.iload_n 0, 1) := by decide +kernel
theorem d17_5 : decode jdk_43_method_4_code 5 = .ok (.sipush 255, 3) := by decide +kernel
theorem d17_8 : decode jdk_43_method_4_code 8 = .ok (.if_icmp .gt 7, 3) := by decide +kernel
theorem d17_11 : decode jdk_43_method_4_code 11 = .ok (.iconst 1, 1) := by decide +kernel
theorem d17_12 : decode jdk_43_method_4_code 12 = .ok (.goto 4, 3) := by decide +kernel
theorem d17_16 : decode jdk_43_method_4_code 16 = .ok (.ireturn, 1) := by decide +kernel
theorem d18_0 : decode jdk_29_method_65_code 0 = .ok (.iload_n 0, 1) := by decide +kernel
theorem d18_1 : decode jdk_29_method_65_code 1 = .ok (.iload_n 1, 1) := by decide +kernel
theorem d18_2 : decode jdk_29_method_65_code 2 = .ok (.if_icmp .lt 7, 3) := by decide +kernel
theorem d18_5 : decode jdk_29_method_65_code 5 = .ok (.iload_n 0, 1) := by decide +kernel
theorem d18_6 : decode jdk_29_method_65_code 6 = .ok (.goto 4, 3) := by decide +kernel
theorem d18_10 : decode jdk_29_method_65_code 10 = .ok (.ireturn, 1) := by decide +kernel
theorem d19_0 : decode jdk_43_method_23_code 0 = .ok (.iload_n 1, 1) := by decide +kernel
theorem d19_1 : decode jdk_43_method_23_code 1 = .ok (.i2b, 1) := by decide +kernel
theorem d19_2 : decode jdk_43_method_23_code 2 = .ok (.istore 4, 2) := by decide +kernel
theorem d19_4 : decode jdk_43_method_23_code 4 = .ok (.iload_n 2, 1) := by decide +kernel
theorem d19_5 : decode jdk_43_method_23_code 5 = .ok (.istore 5, 2) := by decide +kernel
theorem d19_7 : decode jdk_43_method_23_code 7 = .ok (.iload 5, 2) := by decide +kernel
theorem d19_9 : decode jdk_43_method_23_code 9 = .ok (.iload_n 3, 1) := by decide +kernel
theorem d19_10 : decode jdk_43_method_23_code 10 = .ok (.if_icmp .ge 21, 3) := by decide +kernel
theorem d19_13 : decode jdk_43_method_23_code 13 = .ok (.aload_n 0, 1) := by decide +kernel
theorem d19_14 : decode jdk_43_method_23_code 14 = .ok (.iload 5, 2) := by decide +kernel
theorem d19_16 : decode jdk_43_method_23_code 16 = .ok (.baload, 1) := by decide +kernel
theorem d19_17 : decode jdk_43_method_23_code 17 = .ok (.iload 4, 2) := by decide +kernel
theorem d19_19 : decode jdk_43_method_23_code 19 = .ok (.if_icmp .ne 6, 3) := by decide +kernel
theorem d19_22 : decode jdk_43_method_23_code 22 = .ok (.iload 5, 2) := by decide +kernel
theorem d19_24 : decode jdk_43_method_23_code 24 = .ok (.ireturn, 1) := by decide +kernel
theorem d19_25 : decode jdk_43_method_23_code 25 = .ok (.iinc 5 1, 3) := by decide +kernel
theorem d19_28 : decode jdk_43_method_23_code 28 = .ok (.goto (-21), 3) := by decide +kernel
theorem d19_31 : decode jdk_43_method_23_code 31 = .ok (.iconst (-1), 1) := by decide +kernel
theorem d19_32 : decode jdk_43_method_23_code 32 = .ok (.ireturn, 1) := by decide +kernel
theorem d20_0 : decode jdk_2448_method_7_code 0 = .ok (.getstatic 60, 3) := by decide +kernel
theorem d20_3 : decode jdk_2448_method_7_code 3 = .ok (.areturn, 1) := by decide +kernel
theorem d21_0 : decode jdk_2450_method_3_code 0 = .ok (.aload_n 0, 1) := by decide +kernel
theorem d21_1 : decode jdk_2450_method_3_code 1 = .ok (.aload_n 1, 1) := by decide +kernel
theorem d21_2 : decode jdk_2450_method_3_code 2 = .ok (.getstatic 30, 3) := by decide +kernel
theorem d21_5 : decode jdk_2450_method_3_code 5 = .ok (.invokevirtual 36, 3) := by decide +kernel
theorem d21_8 : decode jdk_2450_method_3_code 8 = .ok (.invokevirtual 42, 3) := by decide +kernel
theorem d21_11 : decode jdk_2450_method_3_code 11 = .ok (.areturn, 1) := by decide +kernel
theorem d22_0 : decode jdk_42_method_64_code 0 = .ok (.aload_n 1, 1) := by decide +kernel
theorem d22_1 : decode jdk_42_method_64_code 1 = .ok (.ifnonnull 11, 3) := by decide +kernel
theorem d22_12 : decode jdk_42_method_64_code 12 = .ok (.aload_n 1, 1) := by decide +kernel
theorem d22_13 : decode jdk_42_method_64_code 13 = .ok (.aload_n 0, 1) := by decide +kernel
theorem d22_14 : decode jdk_42_method_64_code 14 = .ok (.invokevirtual 335, 3) := by decide +kernel
theorem d22_17 : decode jdk_42_method_64_code 17 = .ok (.aload_n 0, 1) := by decide +kernel
theorem d22_18 : decode jdk_42_method_64_code 18 = .ok (.getfield 9, 3) := by decide +kernel
theorem d22_21 : decode jdk_42_method_64_code 21 = .ok (.invokestatic 535, 3) := by decide +kernel
theorem d22_24 : decode jdk_42_method_64_code 24 = .ok (.areturn, 1) := by decide +kernel
theorem d23_0 : decode jdk_42_method_18_code 0 = .ok (.aload_n 0, 1) := by decide +kernel
theorem d23_1 : decode jdk_42_method_18_code 1 = .ok (.getstatic 86, 3) := by decide +kernel
theorem d23_4 : decode jdk_42_method_18_code 4 = .ok (.if_acmp .ne 10, 3) := by decide +kernel
theorem d23_14 : decode jdk_42_method_18_code 14 = .ok (.aload_n 0, 1) := by decide +kernel
theorem d23_15 : decode jdk_42_method_18_code 15 = .ok (.getstatic 116, 3) := by decide +kernel
theorem d23_18 : decode jdk_42_method_18_code 18 = .ok (.if_acmp .ne 9, 3) := by decide +kernel
theorem d23_21 : decode jdk_42_method_18_code 21 = .ok (.iload_n 1, 1) := by decide +kernel
theorem d23_22 : decode jdk_42_method_18_code 22 = .ok (.aload_n 2, 1) := by decide +kernel
theorem d23_23 : decode jdk_42_method_18_code 23 = .ok (.invokestatic 256, 3) := by decide +kernel
theorem d23_26 : decode jdk_42_method_18_code 26 = .ok (.areturn, 1) := by decide +kernel
theorem d24_0 : decode jdk_42_method_26_code 0 = .ok (.iload_n 0, 1) := by decide +kernel
theorem d24_1 : decode jdk_42_method_26_code 1 = .ok (.aload_n 1, 1) := by decide +kernel
theorem d24_2 : decode jdk_42_method_26_code 2 = .ok (.iconst 1, 1) := by decide +kernel
theorem d24_3 : decode jdk_42_method_26_code 3 = .ok (.invokestatic 351, 3) := by decide +kernel
theorem d24_6 : decode jdk_42_method_26_code 6 = .ok (.areturn, 1) := by decide +kernel
theorem d25_0 : decode jdk_42_method_27_code 0 = .ok (.iload_n 0, 1) := by decide +kernel
theorem d25_1 : decode jdk_42_method_27_code 1 = .ok (.ifCond .ne 11, 3) := by decide +kernel
theorem d25_4 : decode jdk_42_method_27_code 4 = .ok (.aload_n 1, 1) := by decide +kernel
theorem d25_5 : decode jdk_42_method_27_code 5 = .ok (.invokevirtual 279, 3) := by decide +kernel
theorem d25_8 : decode jdk_42_method_27_code 8 = .ok (.checkcast 280, 3) := by decide +kernel
theorem d25_11 : decode jdk_42_method_27_code 11 = .ok (.areturn, 1) := by decide +kernel
theorem d26_0 : decode jdk_2450_method_2_code 0 = .ok (.aload_n 0, 1) := by decide +kernel
theorem d26_1 : decode jdk_2450_method_2_code 1 = .ok (.aload_n 1, 1) := by decide +kernel
theorem d26_2 : decode jdk_2450_method_2_code 2 = .ok (.iconst 0, 1) := by decide +kernel
theorem d26_3 : decode jdk_2450_method_2_code 3 = .ok (.aload_n 1, 1) := by decide +kernel
theorem d26_4 : decode jdk_2450_method_2_code 4 = .ok (.arraylength, 1) := by decide +kernel
theorem d26_5 : decode jdk_2450_method_2_code 5 = .ok (.invokevirtual 16, 3) := by decide +kernel
theorem d26_8 : decode jdk_2450_method_2_code 8 = .ok (.newarray .byte, 2) := by decide +kernel
theorem d26_10 : decode jdk_2450_method_2_code 10 = .ok (.astore_n 2, 1) := by decide +kernel
theorem d26_11 : decode jdk_2450_method_2_code 11 = .ok (.aload_n 0, 1) := by decide +kernel
theorem d26_12 : decode jdk_2450_method_2_code 12 = .ok (.aload_n 1, 1) := by decide +kernel
theorem d26_13 : decode jdk_2450_method_2_code 13 = .ok (.iconst 0, 1) := by decide +kernel
theorem d26_14 : decode jdk_2450_method_2_code 14 = .ok (.aload_n 1, 1) := by decide +kernel
theorem d26_15 : decode jdk_2450_method_2_code 15 = .ok (.arraylength, 1) := by decide +kernel
theorem d26_16 : decode jdk_2450_method_2_code 16 = .ok (.aload_n 2, 1) := by decide +kernel
theorem d26_17 : decode jdk_2450_method_2_code 17 = .ok (.invokevirtual 20, 3) := by decide +kernel
theorem d26_20 : decode jdk_2450_method_2_code 20 = .ok (.istore_n 3, 1) := by decide +kernel
theorem d26_21 : decode jdk_2450_method_2_code 21 = .ok (.iload_n 3, 1) := by decide +kernel
theorem d26_22 : decode jdk_2450_method_2_code 22 = .ok (.aload_n 2, 1) := by decide +kernel
theorem d26_23 : decode jdk_2450_method_2_code 23 = .ok (.arraylength, 1) := by decide +kernel
theorem d26_24 : decode jdk_2450_method_2_code 24 = .ok (.if_icmp .eq 9, 3) := by decide +kernel
theorem d26_33 : decode jdk_2450_method_2_code 33 = .ok (.aload_n 2, 1) := by decide +kernel
theorem d26_34 : decode jdk_2450_method_2_code 34 = .ok (.areturn, 1) := by decide +kernel
theorem d27_0 : decode jdk_2450_method_7_code 0 = .ok (.aload_n 0, 1) := by decide +kernel
theorem d27_1 : decode jdk_2450_method_7_code 1 = .ok (.getfield 7, 3) := by decide +kernel
theorem d27_4 : decode jdk_2450_method_7_code 4 = .ok (.ifCond .eq 9, 3) := by decide +kernel
theorem d27_7 : decode jdk_2450_method_7_code 7 = .ok (.getstatic 95, 3) := by decide +kernel
theorem d27_10 : decode jdk_2450_method_7_code 10 = .ok (.goto 6, 3) := by decide +kernel
theorem d27_16 : decode jdk_2450_method_7_code 16 = .ok (.astore 4, 2) := by decide +kernel
theorem d27_18 : decode jdk_2450_method_7_code 18 = .ok (.iconst 0, 1) := by decide +kernel
theorem d27_19 : decode jdk_2450_method_7_code 19 = .ok (.istore 5, 2) := by decide +kernel
theorem d27_21 : decode jdk_2450_method_7_code 21 = .ok (.iload_n 3, 1) := by decide +kernel
theorem d27_22 : decode jdk_2450_method_7_code 22 = .ok (.iload_n 2, 1) := by decide +kernel
theorem d27_23 : decode jdk_2450_method_7_code 23 = .ok (.isub, 1) := by decide +kernel
theorem d27_24 : decode jdk_2450_method_7_code 24 = .ok (.istore 6, 2) := by decide +kernel
theorem d27_26 : decode jdk_2450_method_7_code 26 = .ok (.iload 6, 2) := by decide +kernel
theorem d27_28 : decode jdk_2450_method_7_code 28 = .ok (.ifCond .ne 5, 3) := by decide +kernel
theorem d27_31 : decode jdk_2450_method_7_code 31 = .ok (.iconst 0, 1) := by decide +kernel
theorem d27_32 : decode jdk_2450_method_7_code 32 = .ok (.ireturn, 1) := by decide +kernel
theorem d27_33 : decode jdk_2450_method_7_code 33 = .ok (.iload 6, 2) := by decide +kernel
theorem d27_35 : decode jdk_2450_method_7_code 35 = .ok (.iconst 2, 1) := by decide +kernel
theorem d27_36 : decode jdk_2450_method_7_code 36 = .ok (.if_icmp .ge 30, 3) := by decide +kernel
theorem d27_66 : decode jdk_2450_method_7_code 66 = .ok (.aload_n 0, 1) := by decide +kernel
theorem d27_67 : decode jdk_2450_method_7_code 67 = .ok (.getfield 13, 3) := by decide +kernel
theorem d27_70 : decode jdk_2450_method_7_code 70 = .ok (.ifCond .eq 71, 3) := by decide +kernel
theorem d27_141 : decode jdk_2450_method_7_code 141 = .ok (.aload_n 1, 1) := by decide +kernel
theorem d27_142 : decode jdk_2450_method_7_code 142 = .ok (.iload_n 3, 1) := by decide +kernel
theorem d27_143 : decode jdk_2450_method_7_code 143 = .ok (.iconst 1, 1) := by decide +kernel
theorem d27_144 : decode jdk_2450_method_7_code 144 = .ok (.isub, 1) := by decide +kernel
theorem d27_145 : decode jdk_2450_method_7_code 145 = .ok (.baload, 1) := by decide +kernel
theorem d27_146 : decode jdk_2450_method_7_code 146 = .ok (.bipush 61, 2) := by decide +kernel
theorem d27_148 : decode jdk_2450_method_7_code 148 = .ok (.if_icmp .ne 19, 3) := by decide +kernel
theorem d27_167 : decode jdk_2450_method_7_code 167 = .ok (.iload 5, 2) := by decide +kernel
theorem d27_169 : decode jdk_2450_method_7_code 169 = .ok (.ifCond .ne 18, 3) := by decide +kernel
theorem d27_172 : decode jdk_2450_method_7_code 172 = .ok (.iload 6, 2) := by decide +kernel
theorem d27_174 : decode jdk_2450_method_7_code 174 = .ok (.iconst 3, 1) := by decide +kernel
theorem d27_175 : decode jdk_2450_method_7_code 175 = .ok (.iand, 1) := by decide +kernel
theorem d27_176 : decode jdk_2450_method_7_code 176 = .ok (.ifCond .eq 11, 3) := by decide +kernel
theorem d27_179 : decode jdk_2450_method_7_code 179 = .ok (.iconst 4, 1) := by decide +kernel
theorem d27_180 : decode jdk_2450_method_7_code 180 = .ok (.iload 6, 2) := by decide +kernel
theorem d27_182 : decode jdk_2450_method_7_code 182 = .ok (.iconst 3, 1) := by decide +kernel
theorem d27_183 : decode jdk_2450_method_7_code 183 = .ok (.iand, 1) := by decide +kernel
theorem d27_184 : decode jdk_2450_method_7_code 184 = .ok (.isub, 1) := by decide +kernel
theorem d27_185 : decode jdk_2450_method_7_code 185 = .ok (.istore 5, 2) := by decide +kernel
theorem d27_187 : decode jdk_2450_method_7_code 187 = .ok (.iconst 3, 1) := by decide +kernel
theorem d27_188 : decode jdk_2450_method_7_code 188 = .ok (.iload 6, 2) := by decide +kernel
theorem d27_190 : decode jdk_2450_method_7_code 190 = .ok (.i2l, 1) := by decide +kernel
theorem d27_191 : decode jdk_2450_method_7_code 191 = .ok (.ldc2_w 107, 3) := by decide +kernel
theorem d27_194 : decode jdk_2450_method_7_code 194 = .ok (.ladd, 1) := by decide +kernel
theorem d27_195 : decode jdk_2450_method_7_code 195 = .ok (.ldc2_w 109, 3) := by decide +kernel
theorem d27_198 : decode jdk_2450_method_7_code 198 = .ok (.ldiv, 1) := by decide +kernel
theorem d27_199 : decode jdk_2450_method_7_code 199 = .ok (.l2i, 1) := by decide +kernel
theorem d27_200 : decode jdk_2450_method_7_code 200 = .ok (.imul, 1) := by decide +kernel
theorem d27_201 : decode jdk_2450_method_7_code 201 = .ok (.iload 5, 2) := by decide +kernel
theorem d27_203 : decode jdk_2450_method_7_code 203 = .ok (.isub, 1) := by decide +kernel
theorem d27_204 : decode jdk_2450_method_7_code 204 = .ok (.ireturn, 1) := by decide +kernel
theorem d28_0 : decode jdk_2450_method_9_code 0 = .ok (.aload_n 0, 1) := by decide +kernel
theorem d28_1 : decode jdk_2450_method_9_code 1 = .ok (.getfield 7, 3) := by decide +kernel
theorem d28_4 : decode jdk_2450_method_9_code 4 = .ok (.ifCond .eq 9, 3) := by decide +kernel
theorem d28_7 : decode jdk_2450_method_9_code 7 = .ok (.getstatic 95, 3) := by decide +kernel
theorem d28_10 : decode jdk_2450_method_9_code 10 = .ok (.goto 6, 3) := by decide +kernel
theorem d28_16 : decode jdk_2450_method_9_code 16 = .ok (.astore 5, 2) := by decide +kernel
theorem d28_18 : decode jdk_2450_method_9_code 18 = .ok (.iconst 0, 1) := by decide +kernel
theorem d28_19 : decode jdk_2450_method_9_code 19 = .ok (.istore 6, 2) := by decide +kernel
theorem d28_21 : decode jdk_2450_method_9_code 21 = .ok (.iconst 0, 1) := by decide +kernel
theorem d28_22 : decode jdk_2450_method_9_code 22 = .ok (.istore 7, 2) := by decide +kernel
theorem d28_24 : decode jdk_2450_method_9_code 24 = .ok (.bipush 18, 2) := by decide +kernel
theorem d28_26 : decode jdk_2450_method_9_code 26 = .ok (.istore 8, 2) := by decide +kernel
theorem d28_28 : decode jdk_2450_method_9_code 28 = .ok (.iload_n 2, 1) := by decide +kernel
theorem d28_29 : decode jdk_2450_method_9_code 29 = .ok (.iload_n 3, 1) := by decide +kernel
theorem d28_30 : decode jdk_2450_method_9_code 30 = .ok (.if_icmp .ge 251, 3) := by decide +kernel
theorem d28_33 : decode jdk_2450_method_9_code 33 = .ok (.iload 8, 2) := by decide +kernel
theorem d28_35 : decode jdk_2450_method_9_code 35 = .ok (.bipush 18, 2) := by decide +kernel
theorem d28_37 : decode jdk_2450_method_9_code 37 = .ok (.if_icmp .ne 53, 3) := by decide +kernel
theorem d28_40 : decode jdk_2450_method_9_code 40 = .ok (.iload_n 2, 1) := by decide +kernel
theorem d28_41 : decode jdk_2450_method_9_code 41 = .ok (.iload_n 3, 1) := by decide +kernel
theorem d28_42 : decode jdk_2450_method_9_code 42 = .ok (.iconst 4, 1) := by decide +kernel
theorem d28_43 : decode jdk_2450_method_9_code 43 = .ok (.isub, 1) := by decide +kernel
theorem d28_44 : decode jdk_2450_method_9_code 44 = .ok (.if_icmp .ge 46, 3) := by decide +kernel
theorem d28_47 : decode jdk_2450_method_9_code 47 = .ok (.aload_n 0, 1) := by decide +kernel
theorem d28_48 : decode jdk_2450_method_9_code 48 = .ok (.aload_n 1, 1) := by decide +kernel
theorem d28_49 : decode jdk_2450_method_9_code 49 = .ok (.iload_n 2, 1) := by decide +kernel
theorem d28_50 : decode jdk_2450_method_9_code 50 = .ok (.iload_n 3, 1) := by decide +kernel
theorem d28_51 : decode jdk_2450_method_9_code 51 = .ok (.aload 4, 2) := by decide +kernel
theorem d28_53 : decode jdk_2450_method_9_code 53 = .ok (.iload 6, 2) := by decide +kernel
theorem d28_55 : decode jdk_2450_method_9_code 55 = .ok (.aload_n 0, 1) := by decide +kernel
theorem d28_56 : decode jdk_2450_method_9_code 56 = .ok (.getfield 7, 3) := by decide +kernel
theorem d28_59 : decode jdk_2450_method_9_code 59 = .ok (.aload_n 0, 1) := by decide +kernel
theorem d28_60 : decode jdk_2450_method_9_code 60 = .ok (.getfield 13, 3) := by decide +kernel
theorem d28_63 : decode jdk_2450_method_9_code 63 = .ok (.invokevirtual 111, 3) := by decide +kernel
theorem d28_66 : decode jdk_2450_method_9_code 66 = .ok (.istore 9, 2) := by decide +kernel
theorem d28_68 : decode jdk_2450_method_9_code 68 = .ok (.iload 9, 2) := by decide +kernel
theorem d28_70 : decode jdk_2450_method_9_code 70 = .ok (.iconst 2, 1) := by decide +kernel
theorem d28_71 : decode jdk_2450_method_9_code 71 = .ok (.iadd, 1) := by decide +kernel
theorem d28_72 : decode jdk_2450_method_9_code 72 = .ok (.iconst 3, 1) := by decide +kernel
theorem d28_73 : decode jdk_2450_method_9_code 73 = .ok (.idiv, 1) := by decide +kernel
theorem d28_74 : decode jdk_2450_method_9_code 74 = .ok (.iconst 4, 1) := by decide +kernel
theorem d28_75 : decode jdk_2450_method_9_code 75 = .ok (.imul, 1) := by decide +kernel
theorem d28_76 : decode jdk_2450_method_9_code 76 = .ok (.istore 10, 2) := by decide +kernel
theorem d28_78 : decode jdk_2450_method_9_code 78 = .ok (.iload_n 2, 1) := by decide +kernel
theorem d28_79 : decode jdk_2450_method_9_code 79 = .ok (.iload 10, 2) := by decide +kernel
theorem d28_81 : decode jdk_2450_method_9_code 81 = .ok (.iadd, 1) := by decide +kernel
theorem d28_82 : decode jdk_2450_method_9_code 82 = .ok (.istore_n 2, 1) := by decide +kernel
theorem d28_83 : decode jdk_2450_method_9_code 83 = .ok (.iload 6, 2) := by decide +kernel
theorem d28_85 : decode jdk_2450_method_9_code 85 = .ok (.iload 9, 2) := by decide +kernel
theorem d28_87 : decode jdk_2450_method_9_code 87 = .ok (.iadd, 1) := by decide +kernel
theorem d28_88 : decode jdk_2450_method_9_code 88 = .ok (.istore 6, 2) := by decide +kernel
theorem d28_90 : decode jdk_2450_method_9_code 90 = .ok (.iload_n 2, 1) := by decide +kernel
theorem d28_91 : decode jdk_2450_method_9_code 91 = .ok (.iload_n 3, 1) := by decide +kernel
theorem d28_92 : decode jdk_2450_method_9_code 92 = .ok (.if_icmp .lt 6, 3) := by decide +kernel
theorem d28_95 : decode jdk_2450_method_9_code 95 = .ok (.goto 186, 3) := by decide +kernel
theorem d28_98 : decode jdk_2450_method_9_code 98 = .ok (.aload_n 1, 1) := by decide +kernel
theorem d28_99 : decode jdk_2450_method_9_code 99 = .ok (.iload_n 2, 1) := by decide +kernel
theorem d28_100 : decode jdk_2450_method_9_code 100 = .ok (.iinc 2 1, 3) := by decide +kernel
theorem d28_103 : decode jdk_2450_method_9_code 103 = .ok (.baload, 1) := by decide +kernel
theorem d28_104 : decode jdk_2450_method_9_code 104 = .ok (.sipush 255, 3) := by decide +kernel
theorem d28_107 : decode jdk_2450_method_9_code 107 = .ok (.iand, 1) := by decide +kernel
theorem d28_108 : decode jdk_2450_method_9_code 108 = .ok (.istore 9, 2) := by decide +kernel
theorem d28_110 : decode jdk_2450_method_9_code 110 = .ok (.aload 5, 2) := by decide +kernel
theorem d28_112 : decode jdk_2450_method_9_code 112 = .ok (.iload 9, 2) := by decide +kernel
theorem d28_114 : decode jdk_2450_method_9_code 114 = .ok (.iaload, 1) := by decide +kernel
theorem d28_115 : decode jdk_2450_method_9_code 115 = .ok (.dup, 1) := by decide +kernel
theorem d28_116 : decode jdk_2450_method_9_code 116 = .ok (.istore 9, 2) := by decide +kernel
theorem d28_118 : decode jdk_2450_method_9_code 118 = .ok (.ifCond .ge 96, 3) := by decide +kernel
theorem d28_214 : decode jdk_2450_method_9_code 214 = .ok (.iload 7, 2) := by decide +kernel
theorem d28_216 : decode jdk_2450_method_9_code 216 = .ok (.iload 9, 2) := by decide +kernel
theorem d28_218 : decode jdk_2450_method_9_code 218 = .ok (.iload 8, 2) := by decide +kernel
theorem d28_220 : decode jdk_2450_method_9_code 220 = .ok (.ishl, 1) := by decide +kernel
theorem d28_221 : decode jdk_2450_method_9_code 221 = .ok (.ior, 1) := by decide +kernel
theorem d28_222 : decode jdk_2450_method_9_code 222 = .ok (.istore 7, 2) := by decide +kernel
theorem d28_224 : decode jdk_2450_method_9_code 224 = .ok (.iinc 8 (-6), 3) := by decide +kernel
theorem d28_227 : decode jdk_2450_method_9_code 227 = .ok (.iload 8, 2) := by decide +kernel
theorem d28_229 : decode jdk_2450_method_9_code 229 = .ok (.ifCond .ge 49, 3) := by decide +kernel
theorem d28_232 : decode jdk_2450_method_9_code 232 = .ok (.aload 4, 2) := by decide +kernel
theorem d28_234 : decode jdk_2450_method_9_code 234 = .ok (.iload 6, 2) := by decide +kernel
theorem d28_236 : decode jdk_2450_method_9_code 236 = .ok (.iinc 6 1, 3) := by decide +kernel
theorem d28_239 : decode jdk_2450_method_9_code 239 = .ok (.iload 7, 2) := by decide +kernel
theorem d28_241 : decode jdk_2450_method_9_code 241 = .ok (.bipush 16, 2) := by decide +kernel
theorem d28_243 : decode jdk_2450_method_9_code 243 = .ok (.ishr, 1) := by decide +kernel
theorem d28_244 : decode jdk_2450_method_9_code 244 = .ok (.i2b, 1) := by decide +kernel
theorem d28_245 : decode jdk_2450_method_9_code 245 = .ok (.bastore, 1) := by decide +kernel
theorem d28_246 : decode jdk_2450_method_9_code 246 = .ok (.aload 4, 2) := by decide +kernel
theorem d28_248 : decode jdk_2450_method_9_code 248 = .ok (.iload 6, 2) := by decide +kernel
theorem d28_250 : decode jdk_2450_method_9_code 250 = .ok (.iinc 6 1, 3) := by decide +kernel
theorem d28_253 : decode jdk_2450_method_9_code 253 = .ok (.iload 7, 2) := by decide +kernel
theorem d28_255 : decode jdk_2450_method_9_code 255 = .ok (.bipush 8, 2) := by decide +kernel
theorem d28_257 : decode jdk_2450_method_9_code 257 = .ok (.ishr, 1) := by decide +kernel
theorem d28_258 : decode jdk_2450_method_9_code 258 = .ok (.i2b, 1) := by decide +kernel
theorem d28_259 : decode jdk_2450_method_9_code 259 = .ok (.bastore, 1) := by decide +kernel
theorem d28_260 : decode jdk_2450_method_9_code 260 = .ok (.aload 4, 2) := by decide +kernel
theorem d28_262 : decode jdk_2450_method_9_code 262 = .ok (.iload 6, 2) := by decide +kernel
theorem d28_264 : decode jdk_2450_method_9_code 264 = .ok (.iinc 6 1, 3) := by decide +kernel
theorem d28_267 : decode jdk_2450_method_9_code 267 = .ok (.iload 7, 2) := by decide +kernel
theorem d28_269 : decode jdk_2450_method_9_code 269 = .ok (.i2b, 1) := by decide +kernel
theorem d28_270 : decode jdk_2450_method_9_code 270 = .ok (.bastore, 1) := by decide +kernel
theorem d28_271 : decode jdk_2450_method_9_code 271 = .ok (.bipush 18, 2) := by decide +kernel
theorem d28_273 : decode jdk_2450_method_9_code 273 = .ok (.istore 8, 2) := by decide +kernel
theorem d28_275 : decode jdk_2450_method_9_code 275 = .ok (.iconst 0, 1) := by decide +kernel
theorem d28_276 : decode jdk_2450_method_9_code 276 = .ok (.istore 7, 2) := by decide +kernel
theorem d28_278 : decode jdk_2450_method_9_code 278 = .ok (.goto (-250), 3) := by decide +kernel
theorem d28_281 : decode jdk_2450_method_9_code 281 = .ok (.iload 8, 2) := by decide +kernel
theorem d28_283 : decode jdk_2450_method_9_code 283 = .ok (.bipush 6, 2) := by decide +kernel
theorem d28_285 : decode jdk_2450_method_9_code 285 = .ok (.if_icmp .ne 20, 3) := by decide +kernel
theorem d28_288 : decode jdk_2450_method_9_code 288 = .ok (.aload 4, 2) := by decide +kernel
theorem d28_290 : decode jdk_2450_method_9_code 290 = .ok (.iload 6, 2) := by decide +kernel
theorem d28_292 : decode jdk_2450_method_9_code 292 = .ok (.iinc 6 1, 3) := by decide +kernel
theorem d28_295 : decode jdk_2450_method_9_code 295 = .ok (.iload 7, 2) := by decide +kernel
theorem d28_297 : decode jdk_2450_method_9_code 297 = .ok (.bipush 16, 2) := by decide +kernel
theorem d28_299 : decode jdk_2450_method_9_code 299 = .ok (.ishr, 1) := by decide +kernel
theorem d28_300 : decode jdk_2450_method_9_code 300 = .ok (.i2b, 1) := by decide +kernel
theorem d28_301 : decode jdk_2450_method_9_code 301 = .ok (.bastore, 1) := by decide +kernel
theorem d28_302 : decode jdk_2450_method_9_code 302 = .ok (.goto 56, 3) := by decide +kernel
theorem d28_305 : decode jdk_2450_method_9_code 305 = .ok (.iload 8, 2) := by decide +kernel
theorem d28_307 : decode jdk_2450_method_9_code 307 = .ok (.ifCond .ne 34, 3) := by decide +kernel
theorem d28_310 : decode jdk_2450_method_9_code 310 = .ok (.aload 4, 2) := by decide +kernel
theorem d28_312 : decode jdk_2450_method_9_code 312 = .ok (.iload 6, 2) := by decide +kernel
theorem d28_314 : decode jdk_2450_method_9_code 314 = .ok (.iinc 6 1, 3) := by decide +kernel
theorem d28_317 : decode jdk_2450_method_9_code 317 = .ok (.iload 7, 2) := by decide +kernel
theorem d28_319 : decode jdk_2450_method_9_code 319 = .ok (.bipush 16, 2) := by decide +kernel
theorem d28_321 : decode jdk_2450_method_9_code 321 = .ok (.ishr, 1) := by decide +kernel
theorem d28_322 : decode jdk_2450_method_9_code 322 = .ok (.i2b, 1) := by decide +kernel
theorem d28_323 : decode jdk_2450_method_9_code 323 = .ok (.bastore, 1) := by decide +kernel
theorem d28_324 : decode jdk_2450_method_9_code 324 = .ok (.aload 4, 2) := by decide +kernel
theorem d28_326 : decode jdk_2450_method_9_code 326 = .ok (.iload 6, 2) := by decide +kernel
theorem d28_328 : decode jdk_2450_method_9_code 328 = .ok (.iinc 6 1, 3) := by decide +kernel
theorem d28_331 : decode jdk_2450_method_9_code 331 = .ok (.iload 7, 2) := by decide +kernel
theorem d28_333 : decode jdk_2450_method_9_code 333 = .ok (.bipush 8, 2) := by decide +kernel
theorem d28_335 : decode jdk_2450_method_9_code 335 = .ok (.ishr, 1) := by decide +kernel
theorem d28_336 : decode jdk_2450_method_9_code 336 = .ok (.i2b, 1) := by decide +kernel
theorem d28_337 : decode jdk_2450_method_9_code 337 = .ok (.bastore, 1) := by decide +kernel
theorem d28_338 : decode jdk_2450_method_9_code 338 = .ok (.goto 20, 3) := by decide +kernel
theorem d28_341 : decode jdk_2450_method_9_code 341 = .ok (.iload 8, 2) := by decide +kernel
theorem d28_343 : decode jdk_2450_method_9_code 343 = .ok (.bipush 12, 2) := by decide +kernel
theorem d28_345 : decode jdk_2450_method_9_code 345 = .ok (.if_icmp .ne 13, 3) := by decide +kernel
theorem d28_358 : decode jdk_2450_method_9_code 358 = .ok (.iload_n 2, 1) := by decide +kernel
theorem d28_359 : decode jdk_2450_method_9_code 359 = .ok (.iload_n 3, 1) := by decide +kernel
theorem d28_360 : decode jdk_2450_method_9_code 360 = .ok (.if_icmp .ge 56, 3) := by decide +kernel
theorem d28_416 : decode jdk_2450_method_9_code 416 = .ok (.iload 6, 2) := by decide +kernel
theorem d28_418 : decode jdk_2450_method_9_code 418 = .ok (.ireturn, 1) := by decide +kernel
theorem d29_0 : decode method_4_code 0 = .ok (.iload_n 1, 1) := by decide +kernel
theorem d29_1 : decode method_4_code 1 = .ok (.iload_n 2, 1) := by decide +kernel
theorem d29_2 : decode method_4_code 2 = .ok (.if_icmp .lt 5, 3) := by decide +kernel
theorem d29_5 : decode method_4_code 5 = .ok (.iconst 1, 1) := by decide +kernel
theorem d29_6 : decode method_4_code 6 = .ok (.ireturn, 1) := by decide +kernel
theorem d29_7 : decode method_4_code 7 = .ok (.aload_n 0, 1) := by decide +kernel
theorem d29_8 : decode method_4_code 8 = .ok (.iload_n 1, 1) := by decide +kernel
theorem d29_9 : decode method_4_code 9 = .ok (.baload, 1) := by decide +kernel
theorem d29_10 : decode method_4_code 10 = .ok (.sipush 255, 3) := by decide +kernel
theorem d29_13 : decode method_4_code 13 = .ok (.iand, 1) := by decide +kernel
theorem d29_14 : decode method_4_code 14 = .ok (.iload_n 3, 1) := by decide +kernel
theorem d29_15 : decode method_4_code 15 = .ok (.if_icmp .ne 7, 3) := by decide +kernel
theorem d29_18 : decode method_4_code 18 = .ok (.iconst 1, 1) := by decide +kernel
theorem d29_19 : decode method_4_code 19 = .ok (.goto 4, 3) := by decide +kernel
theorem d29_23 : decode method_4_code 23 = .ok (.ireturn, 1) := by decide +kernel
theorem d30_0 : decode jdk_2450_method_8_code 0 = .ok (.iload 6, 2) := by decide +kernel
theorem d30_2 : decode jdk_2450_method_8_code 2 = .ok (.ifCond .eq 9, 3) := by decide +kernel
theorem d30_5 : decode jdk_2450_method_8_code 5 = .ok (.getstatic 95, 3) := by decide +kernel
theorem d30_8 : decode jdk_2450_method_8_code 8 = .ok (.goto 6, 3) := by decide +kernel
theorem d30_14 : decode jdk_2450_method_8_code 14 = .ok (.astore 8, 2) := by decide +kernel
theorem d30_16 : decode jdk_2450_method_8_code 16 = .ok (.iload_n 2, 1) := by decide +kernel
theorem d30_17 : decode jdk_2450_method_8_code 17 = .ok (.iload_n 3, 1) := by decide +kernel
theorem d30_18 : decode jdk_2450_method_8_code 18 = .ok (.iload_n 2, 1) := by decide +kernel
theorem d30_19 : decode jdk_2450_method_8_code 19 = .ok (.isub, 1) := by decide +kernel
theorem d30_20 : decode jdk_2450_method_8_code 20 = .ok (.bipush (-4), 2) := by decide +kernel
theorem d30_22 : decode jdk_2450_method_8_code 22 = .ok (.iand, 1) := by decide +kernel
theorem d30_23 : decode jdk_2450_method_8_code 23 = .ok (.iadd, 1) := by decide +kernel
theorem d30_24 : decode jdk_2450_method_8_code 24 = .ok (.istore 9, 2) := by decide +kernel
theorem d30_26 : decode jdk_2450_method_8_code 26 = .ok (.iload 5, 2) := by decide +kernel
theorem d30_28 : decode jdk_2450_method_8_code 28 = .ok (.istore 10, 2) := by decide +kernel
theorem d30_30 : decode jdk_2450_method_8_code 30 = .ok (.iload_n 2, 1) := by decide +kernel
theorem d30_31 : decode jdk_2450_method_8_code 31 = .ok (.iload 9, 2) := by decide +kernel
theorem d30_33 : decode jdk_2450_method_8_code 33 = .ok (.if_icmp .ge 147, 3) := by decide +kernel
theorem d30_36 : decode jdk_2450_method_8_code 36 = .ok (.aload 8, 2) := by decide +kernel
theorem d30_38 : decode jdk_2450_method_8_code 38 = .ok (.aload_n 1, 1) := by decide +kernel
theorem d30_39 : decode jdk_2450_method_8_code 39 = .ok (.iload_n 2, 1) := by decide +kernel
theorem d30_40 : decode jdk_2450_method_8_code 40 = .ok (.iinc 2 1, 3) := by decide +kernel
theorem d30_43 : decode jdk_2450_method_8_code 43 = .ok (.baload, 1) := by decide +kernel
theorem d30_44 : decode jdk_2450_method_8_code 44 = .ok (.sipush 255, 3) := by decide +kernel
theorem d30_47 : decode jdk_2450_method_8_code 47 = .ok (.iand, 1) := by decide +kernel
theorem d30_48 : decode jdk_2450_method_8_code 48 = .ok (.iaload, 1) := by decide +kernel
theorem d30_49 : decode jdk_2450_method_8_code 49 = .ok (.istore 11, 2) := by decide +kernel
theorem d30_51 : decode jdk_2450_method_8_code 51 = .ok (.aload 8, 2) := by decide +kernel
theorem d30_53 : decode jdk_2450_method_8_code 53 = .ok (.aload_n 1, 1) := by decide +kernel
theorem d30_54 : decode jdk_2450_method_8_code 54 = .ok (.iload_n 2, 1) := by decide +kernel
theorem d30_55 : decode jdk_2450_method_8_code 55 = .ok (.iinc 2 1, 3) := by decide +kernel
theorem d30_58 : decode jdk_2450_method_8_code 58 = .ok (.baload, 1) := by decide +kernel
theorem d30_59 : decode jdk_2450_method_8_code 59 = .ok (.sipush 255, 3) := by decide +kernel
theorem d30_62 : decode jdk_2450_method_8_code 62 = .ok (.iand, 1) := by decide +kernel
theorem d30_63 : decode jdk_2450_method_8_code 63 = .ok (.iaload, 1) := by decide +kernel
theorem d30_64 : decode jdk_2450_method_8_code 64 = .ok (.istore 12, 2) := by decide +kernel
theorem d30_66 : decode jdk_2450_method_8_code 66 = .ok (.aload 8, 2) := by decide +kernel
theorem d30_68 : decode jdk_2450_method_8_code 68 = .ok (.aload_n 1, 1) := by decide +kernel
theorem d30_69 : decode jdk_2450_method_8_code 69 = .ok (.iload_n 2, 1) := by decide +kernel
theorem d30_70 : decode jdk_2450_method_8_code 70 = .ok (.iinc 2 1, 3) := by decide +kernel
theorem d30_73 : decode jdk_2450_method_8_code 73 = .ok (.baload, 1) := by decide +kernel
theorem d30_74 : decode jdk_2450_method_8_code 74 = .ok (.sipush 255, 3) := by decide +kernel
theorem d30_77 : decode jdk_2450_method_8_code 77 = .ok (.iand, 1) := by decide +kernel
theorem d30_78 : decode jdk_2450_method_8_code 78 = .ok (.iaload, 1) := by decide +kernel
theorem d30_79 : decode jdk_2450_method_8_code 79 = .ok (.istore 13, 2) := by decide +kernel
theorem d30_81 : decode jdk_2450_method_8_code 81 = .ok (.aload 8, 2) := by decide +kernel
theorem d30_83 : decode jdk_2450_method_8_code 83 = .ok (.aload_n 1, 1) := by decide +kernel
theorem d30_84 : decode jdk_2450_method_8_code 84 = .ok (.iload_n 2, 1) := by decide +kernel
theorem d30_85 : decode jdk_2450_method_8_code 85 = .ok (.iinc 2 1, 3) := by decide +kernel
theorem d30_88 : decode jdk_2450_method_8_code 88 = .ok (.baload, 1) := by decide +kernel
theorem d30_89 : decode jdk_2450_method_8_code 89 = .ok (.sipush 255, 3) := by decide +kernel
theorem d30_92 : decode jdk_2450_method_8_code 92 = .ok (.iand, 1) := by decide +kernel
theorem d30_93 : decode jdk_2450_method_8_code 93 = .ok (.iaload, 1) := by decide +kernel
theorem d30_94 : decode jdk_2450_method_8_code 94 = .ok (.istore 14, 2) := by decide +kernel
theorem d30_96 : decode jdk_2450_method_8_code 96 = .ok (.iload 11, 2) := by decide +kernel
theorem d30_98 : decode jdk_2450_method_8_code 98 = .ok (.iload 12, 2) := by decide +kernel
theorem d30_100 : decode jdk_2450_method_8_code 100 = .ok (.ior, 1) := by decide +kernel
theorem d30_101 : decode jdk_2450_method_8_code 101 = .ok (.iload 13, 2) := by decide +kernel
theorem d30_103 : decode jdk_2450_method_8_code 103 = .ok (.ior, 1) := by decide +kernel
theorem d30_104 : decode jdk_2450_method_8_code 104 = .ok (.iload 14, 2) := by decide +kernel
theorem d30_106 : decode jdk_2450_method_8_code 106 = .ok (.ior, 1) := by decide +kernel
theorem d30_107 : decode jdk_2450_method_8_code 107 = .ok (.ifCond .ge 9, 3) := by decide +kernel
theorem d30_116 : decode jdk_2450_method_8_code 116 = .ok (.iload 11, 2) := by decide +kernel
theorem d30_118 : decode jdk_2450_method_8_code 118 = .ok (.bipush 18, 2) := by decide +kernel
theorem d30_120 : decode jdk_2450_method_8_code 120 = .ok (.ishl, 1) := by decide +kernel
theorem d30_121 : decode jdk_2450_method_8_code 121 = .ok (.iload 12, 2) := by decide +kernel
theorem d30_123 : decode jdk_2450_method_8_code 123 = .ok (.bipush 12, 2) := by decide +kernel
theorem d30_125 : decode jdk_2450_method_8_code 125 = .ok (.ishl, 1) := by decide +kernel
theorem d30_126 : decode jdk_2450_method_8_code 126 = .ok (.ior, 1) := by decide +kernel
theorem d30_127 : decode jdk_2450_method_8_code 127 = .ok (.iload 13, 2) := by decide +kernel
theorem d30_129 : decode jdk_2450_method_8_code 129 = .ok (.bipush 6, 2) := by decide +kernel
theorem d30_131 : decode jdk_2450_method_8_code 131 = .ok (.ishl, 1) := by decide +kernel
theorem d30_132 : decode jdk_2450_method_8_code 132 = .ok (.ior, 1) := by decide +kernel
theorem d30_133 : decode jdk_2450_method_8_code 133 = .ok (.iload 14, 2) := by decide +kernel
theorem d30_135 : decode jdk_2450_method_8_code 135 = .ok (.ior, 1) := by decide +kernel
theorem d30_136 : decode jdk_2450_method_8_code 136 = .ok (.istore 15, 2) := by decide +kernel
theorem d30_138 : decode jdk_2450_method_8_code 138 = .ok (.aload 4, 2) := by decide +kernel
theorem d30_140 : decode jdk_2450_method_8_code 140 = .ok (.iload 10, 2) := by decide +kernel
theorem d30_142 : decode jdk_2450_method_8_code 142 = .ok (.iinc 10 1, 3) := by decide +kernel
theorem d30_145 : decode jdk_2450_method_8_code 145 = .ok (.iload 15, 2) := by decide +kernel
theorem d30_147 : decode jdk_2450_method_8_code 147 = .ok (.bipush 16, 2) := by decide +kernel
theorem d30_149 : decode jdk_2450_method_8_code 149 = .ok (.ishr, 1) := by decide +kernel
theorem d30_150 : decode jdk_2450_method_8_code 150 = .ok (.i2b, 1) := by decide +kernel
theorem d30_151 : decode jdk_2450_method_8_code 151 = .ok (.bastore, 1) := by decide +kernel
theorem d30_152 : decode jdk_2450_method_8_code 152 = .ok (.aload 4, 2) := by decide +kernel
theorem d30_154 : decode jdk_2450_method_8_code 154 = .ok (.iload 10, 2) := by decide +kernel
theorem d30_156 : decode jdk_2450_method_8_code 156 = .ok (.iinc 10 1, 3) := by decide +kernel
theorem d30_159 : decode jdk_2450_method_8_code 159 = .ok (.iload 15, 2) := by decide +kernel
theorem d30_161 : decode jdk_2450_method_8_code 161 = .ok (.bipush 8, 2) := by decide +kernel
theorem d30_163 : decode jdk_2450_method_8_code 163 = .ok (.ishr, 1) := by decide +kernel
theorem d30_164 : decode jdk_2450_method_8_code 164 = .ok (.i2b, 1) := by decide +kernel
theorem d30_165 : decode jdk_2450_method_8_code 165 = .ok (.bastore, 1) := by decide +kernel
theorem d30_166 : decode jdk_2450_method_8_code 166 = .ok (.aload 4, 2) := by decide +kernel
theorem d30_168 : decode jdk_2450_method_8_code 168 = .ok (.iload 10, 2) := by decide +kernel
theorem d30_170 : decode jdk_2450_method_8_code 170 = .ok (.iinc 10 1, 3) := by decide +kernel
theorem d30_173 : decode jdk_2450_method_8_code 173 = .ok (.iload 15, 2) := by decide +kernel
theorem d30_175 : decode jdk_2450_method_8_code 175 = .ok (.i2b, 1) := by decide +kernel
theorem d30_176 : decode jdk_2450_method_8_code 176 = .ok (.bastore, 1) := by decide +kernel
theorem d30_177 : decode jdk_2450_method_8_code 177 = .ok (.goto (-147), 3) := by decide +kernel
theorem d30_180 : decode jdk_2450_method_8_code 180 = .ok (.iload 10, 2) := by decide +kernel
theorem d30_182 : decode jdk_2450_method_8_code 182 = .ok (.iload 5, 2) := by decide +kernel
theorem d30_184 : decode jdk_2450_method_8_code 184 = .ok (.isub, 1) := by decide +kernel
theorem d30_185 : decode jdk_2450_method_8_code 185 = .ok (.ireturn, 1) := by decide +kernel
theorem own_wS {Z : State} {a0 : Array Value} (hw : ∀ d ∈ tables_1, d.before a0 Z = true) : ∀ a ∈ Bundle.stringAtoms, a.before a0 Z = true := by
  intro a ha
  simp only [Bundle.stringAtoms, List.mem_cons, List.not_mem_nil, or_false] at ha
  rcases ha with rfl | rfl | rfl | rfl | rfl | rfl | rfl
  · exact (ow hw 15 rfl)
  · exact (ow hw 14 rfl)
  · exact (ow hw 31 rfl)
  · exact (ow hw 41 rfl)
  · exact (ow hw 39 rfl)
  · exact (ow hw 155 rfl)
  · exact (ow hw 156 rfl)
theorem own_pd0 : parseMethodDescriptor "([CI[BII)I" = some ⟨[(.array .char), .int, (.array .byte), .int, .int], some .int⟩ := by decide +kernel
theorem own_pd1 : parseMethodDescriptor "([CII)[B" = some ⟨[(.array .char), .int, .int], some (.array .byte)⟩ := by decide +kernel
theorem own_pd2 : parseMethodDescriptor "([BI)B" = some ⟨[(.array .byte), .int], some .byte⟩ := by decide +kernel
theorem own_pd3 : parseMethodDescriptor "([CIILjava/lang/Void;)V" = some ⟨[(.array .char), .int, .int, (.object "java/lang/Void")], none⟩ := by decide +kernel
theorem own_pd4 : parseMethodDescriptor "([C)V" = some ⟨[(.array .char)], none⟩ := by decide +kernel
theorem own_pd5 : parseMethodDescriptor "()B" = some ⟨[], some .byte⟩ := by decide +kernel
theorem own_pd6 : parseMethodDescriptor "()Z" = some ⟨[], some .boolean⟩ := by decide +kernel
theorem own_pd7 : parseMethodDescriptor "()I" = some ⟨[], some .int⟩ := by decide +kernel
theorem own_pd8 : parseMethodDescriptor "(II)I" = some ⟨[.int, .int], some .int⟩ := by decide +kernel
theorem own_pd9 : parseMethodDescriptor "([BIII)I" = some ⟨[(.array .byte), .int, .int, .int], some .int⟩ := by decide +kernel
theorem own_pd10 : parseMethodDescriptor "(I)Z" = some ⟨[.int], some .boolean⟩ := by decide +kernel
theorem own_pd11 : parseMethodDescriptor "(I)I" = some ⟨[.int], some .int⟩ := by decide +kernel
theorem own_pd12 : parseMethodDescriptor "()Ljava/util/Base64$Decoder;" = some ⟨[], some (.object "java/util/Base64$Decoder")⟩ := by decide +kernel
theorem own_pd13 : parseMethodDescriptor "(B[BZ)[B" = some ⟨[.byte, (.array .byte), .boolean], some (.array .byte)⟩ := by decide +kernel
theorem own_pd14 : parseMethodDescriptor "(B[B)[B" = some ⟨[.byte, (.array .byte)], some (.array .byte)⟩ := by decide +kernel
theorem own_pd15 : parseMethodDescriptor "(Ljava/nio/charset/Charset;B[B)[B" = some ⟨[(.object "java/nio/charset/Charset"), .byte, (.array .byte)], some (.array .byte)⟩ := by decide +kernel
theorem own_pd16 : parseMethodDescriptor "(Ljava/nio/charset/Charset;)[B" = some ⟨[(.object "java/nio/charset/Charset")], some (.array .byte)⟩ := by decide +kernel
theorem own_pd17 : parseMethodDescriptor "([BII)I" = some ⟨[(.array .byte), .int, .int], some .int⟩ := by decide +kernel
theorem own_pd18 : parseMethodDescriptor "([BII[B)I" = some ⟨[(.array .byte), .int, .int, (.array .byte)], some .int⟩ := by decide +kernel
theorem own_pd19 : parseMethodDescriptor "([B)[B" = some ⟨[(.array .byte)], some (.array .byte)⟩ := by decide +kernel
theorem own_pd20 : parseMethodDescriptor "(Ljava/lang/String;)[B" = some ⟨[(.object "java/lang/String")], some (.array .byte)⟩ := by decide +kernel
theorem own_pd21 : parseMethodDescriptor "([BII[BIZZ)I" = some ⟨[(.array .byte), .int, .int, (.array .byte), .int, .boolean, .boolean], some .int⟩ := by decide +kernel
theorem own_pd22 : parseMethodDescriptor "(I)C" = some ⟨[.int], some .char⟩ := by decide +kernel
theorem own_pd23 : parseMethodDescriptor "([CIIIII)V" = some ⟨[(.array .char), .int, .int, .int, .int, .int], none⟩ := by decide +kernel
theorem own_pd24 : parseMethodDescriptor "([BIII)Z" = some ⟨[(.array .byte), .int, .int, .int], some .boolean⟩ := by decide +kernel
theorem own_pd25 : parseMethodDescriptor "(III)Z" = some ⟨[.int, .int, .int], some .boolean⟩ := by decide +kernel
set_option maxRecDepth 1000000 in
set_option maxHeartbeats 40000000 in
theorem own_tabE : (List.range 256).map (fun i => Jvm.Cond.eq (Jvm.Term.elem (Jvm.Term.static "java/util/Base64$Decoder" "fromBase64URL" "[I") (Jvm.Term.int (Int32.ofNat i))) (Jvm.Term.int (own_TAB.getD i 0))) = (jdkStatics_1.drop 25).take 256 := by rfl
theorem own_tabM (i : Nat) (hi : i < 256) : Jvm.Cond.eq (Jvm.Term.elem (Jvm.Term.static "java/util/Base64$Decoder" "fromBase64URL" "[I") (Jvm.Term.int (Int32.ofNat i))) (Jvm.Term.int (own_TAB.getD i 0)) ∈ jdkStatics_1 := by
  have h : Jvm.Cond.eq (Jvm.Term.elem (Jvm.Term.static "java/util/Base64$Decoder" "fromBase64URL" "[I") (Jvm.Term.int (Int32.ofNat i))) (Jvm.Term.int (own_TAB.getD i 0)) ∈ (jdkStatics_1.drop 25).take 256 := by
    rw [← own_tabE]; exact List.mem_map.mpr ⟨i, List.mem_range.mpr hi, rfl⟩
  exact List.mem_of_mem_drop (List.mem_of_mem_take h)
theorem own_tabL : own_TAB.length = 256 := by decide +kernel
section OwnC
variable {l : Launch} {Z : State} {a0 : Array Value} {h0 : Heap}
theorem own_cmp5 (hw : own_W Z a0) {a b : Addr} {ka kb : ClassId} (cs : List Int32) (O0 : own_Old Z h0) (g0_V : Arv Z h0 a ka .char (Int32.ofNat cs.length) (cs.map Value.int) (.int 0)) (g1_V : Arv Z h0 b kb .byte (Int32.ofNat cs.length) [] (.int 0)) (g2_G : Z.heap.size ≤ b) (g3_hne : a ≠ b) (g4_hlen : cs.length < 2147483648) (g5_hcs : ∀ c ∈ cs, ¬ ((255 : Int32) < c)) : own_Con l Z ⟨"java/lang/StringUTF16", "compress", "([CI[BII)I"⟩ jdk_52_method_21_code 7 (some .int) [] ⟨0, 0, 0, 0⟩ #[(.ref a), (.int 0), (.ref b), (.int 0), (.int (Int32.ofNat cs.length))] h0 (fun rv rh rL => rv = some (.int (Int32.ofNat cs.length)) ∧ own_Fr Z rL ∧ Keep h0 rh [b] ∧ (Arv Z rh b kb .byte (Int32.ofNat cs.length) (cs.map fun c => Value.int c.toInt8.toInt32) (.int 0))) := by
  refine own_st hw (plainFor_of_name (by decide +kernel)) #[oa a, oi 0, oa b, oi 0, oi (Int32.ofNat cs.length), .unset, .unset] (fun m => by first | (simp [entryFrame, mkF, argsToLocals, Value.category]; done) | rfl) fun p e s m below meth c s₁ G B hown hnm hret hZ X0 e0 N0 hR => ?_
  obtain ⟨hG, hx, hby, hml, -⟩ := id B
  refine q_iconst B X0 d8_0 rfl ?_
  refine q_istore B X0 d8_1 rfl rfl rfl ?_
  show G (s₁.setTop (mkF m 3 #[oa a, oi 0, oa b, oi 0, oi (Int32.ofNat cs.length), oi 0, .unset] []))
  have loop : ∀ (r i : Nat) (T : State) (locs : List Loc) (hT : Heap) (vs : List Value) (ch : Slot), r + i = cs.length → Stand p l e ⟨0, 0, 0, 0⟩ s m #[(.ref a), (.int 0), (.ref b), (.int 0), (.int (Int32.ofNat cs.length))] below meth c T locs 0 0 → T.heap = hT → Keep h0 hT [b] → own_Old Z hT → own_Fr Z locs → Arv Z hT b kb .byte (Int32.ofNat cs.length) vs (.int 0) → vs.length = cs.length → (∀ j, j < i → vs.getD j (.int 0) = Value.int (cs.getD j 0).toInt8.toInt32) → One ch → G (T.setTop (mkF m 3 #[oa a, oi (Int32.ofNat i), oa b, oi (Int32.ofNat i), oi (Int32.ofNat cs.length), oi (Int32.ofNat i), ch] [])) := by
    intro r
    induction r with
    | zero =>
      intro i T locs hT vs ch hri X eT K O N V hl hv hch
      have hi : i = cs.length := by omega
      subst hi
      have hvs := own_mapEq (fun c : Int32 => Value.int c.toInt8.toInt32) cs vs (.int 0) 0 hl hv
      rw [hvs] at V
      refine q_iload B X d8_3 rfl rfl ?_
      refine q_iload B X d8_5 rfl rfl ?_
      refine q_icmpYes 44 B X d8_7 rfl (flt (own_nlt (Nat.le_refl _) g4_hlen)).2.1 rfl rfl (by decide) ?_
      refine q_iload B X d8_44 rfl rfl ?_
      show G (T.setTop (mkF m 46 #[oa a, oi (Int32.ofNat cs.length), oa b, oi (Int32.ofNat cs.length), oi (Int32.ofNat cs.length), oi (Int32.ofNat cs.length), ch] [(.int (Int32.ofNat cs.length))]))
      exact qRI B hR hret X d8_46 eT ⟨rfl, N, K, V⟩ (by decide)
    | succ r ih =>
      intro i T locs hT vs ch hri X eT K O N V hl hv hch
      have hi : i < cs.length := by omega
      refine q_iload B X d8_3 rfl rfl ?_
      refine q_iload B X d8_5 rfl rfl ?_
      refine q_icmpNo B X d8_7 rfl (tlt (own_lt hi g4_hlen)).2.1 rfl ?_
      refine q_aloadN B X d8_10 rfl rfl rfl ?_
      refine q_iloadN B X d8_11 rfl rfl ?_
      refine qlc (v := (.int (cs.getD i 0))) B X hZ eT (g0_V.keep K (ninS g3_hne nin0)) d8_12 ⟨own_nn (by omega), own_lt hi g4_hlen⟩ (by rw [own_clamp (by omega)]; exact own_getD_map Value.int cs i _ 0 hi) ?_
      refine q_istoreS B X d8_13 rfl rfl hch rfl ?_
      refine q_iload B X d8_15 rfl rfl ?_
      refine q_sipush B X d8_17 rfl ?_
      refine q_icmpYes 26 B X d8_20 rfl (flt (g5_hcs _ (own_getD_mem cs i 0 hi))).2.2.2 rfl rfl (by decide) ?_
      refine q_aloadN B X d8_26 rfl rfl rfl ?_
      refine q_iloadN B X d8_27 rfl rfl ?_
      refine q_iload B X d8_28 rfl rfl ?_
      refine q_i2b B X d8_30 rfl rfl ?_
      show G (T.setTop (mkF m 31 #[oa a, oi (Int32.ofNat i), oa b, oi (Int32.ofNat i), oi (Int32.ofNat cs.length), oi (Int32.ofNat i), oi (cs.getD i 0)] [(.int ((cs.getD i 0).toInt8.toInt32)), (.int (Int32.ofNat i)), (.ref b)]))
      obtain ⟨c2, Ar2, q2, S2, M2, H2, G2⟩ := id V
      obtain ⟨T2, h2, X2, e2, W2, st2⟩ := stB X hx hZ eT Ar2 (j := (Int32.ofNat i)) (inb_of S2 ⟨own_nn (by omega), own_lt hi g4_hlen⟩) (g := (mkF m 31 #[oa a, oi (Int32.ofNat i), oa b, oi (Int32.ofNat i), oi (Int32.ofNat cs.length), oi (Int32.ofNat i), oi (cs.getD i 0)] [(.int ((cs.getD i 0).toInt8.toInt32)), (.int (Int32.ofNat i)), (.ref b)])) rfl rfl (hb hby d8_31)
      refine hG _ _ st2 ?_
      have K2 := K.wr W2 (own_mi 0 rfl)
      have O2 := O.wr W2 g2_G
      have V2 : Arv Z h2 b kb .byte (Int32.ofNat cs.length) (vs.set i (.int (nar .byte ((cs.getD i 0).toInt8.toInt32)))) (.int 0) := Arv.set Ar2 q2 S2 M2 H2 G2 (fits_nar_byte _) W2 i (own_clamp (by omega)) (by omega)
      have N2 := Fr.snoc X2 N g2_G
      refine q_iinc B X2 d8_32 rfl rfl rfl ?_
      refine q_iinc B X2 d8_35 rfl rfl rfl ?_
      refine q_iinc B X2 d8_38 rfl rfl rfl ?_
      refine q_goto 3 B X2 d8_41 rfl rfl (by decide) ?_
      show G (T2.setTop (mkF m 3 #[oa a, oi ((Int32.ofNat i) + (1 : Int32)), oa b, oi ((Int32.ofNat i) + (1 : Int32)), oi (Int32.ofNat cs.length), oi ((Int32.ofNat i) + (1 : Int32)), oi (cs.getD i 0)] []))
      rw [own_inc i]
      exact ih (i + 1) _ _ _ _ _ (by omega) X2 e2 K2 O2 N2 V2 (by rw [List.length_set]; exact hl) (own_setNext (fun c => Value.int c.toInt8.toInt32) _ _ (by omega) (by rw [own_nb]) hv) (One.val rfl)
  exact loop cs.length 0 _ _ _ _ _ rfl X0 e0 (Keep.refl h0 [b]) O0 N0 (g1_V.pad (pad_rep [] (.int 0) cs.length)) (by simp) (fun j hj => absurd hj (Nat.not_lt_zero j)) One.u
theorem own_cmp3 (hw : own_W Z a0) {a : Addr} {ka : ClassId} (cs : List Int32) (O0 : own_Old Z h0) (g0_V : Arv Z h0 a ka .char (Int32.ofNat cs.length) (cs.map Value.int) (.int 0)) (g1_hcap : cs.length ≤ 8) (g2_hcs : ∀ c ∈ cs, ¬ ((255 : Int32) < c)) : own_Con l Z ⟨"java/lang/StringUTF16", "compress", "([CII)[B"⟩ jdk_52_method_16_code 6 (some (.array .byte)) [] ⟨1, 1, 8, 18⟩ #[(.ref a), (.int 0), (.int (Int32.ofNat cs.length))] h0 (fun rv rh rL => ∃ (t : Addr) (kt : ClassId), rv = some (.ref t) ∧ own_Fr Z rL ∧ Keep h0 rh [] ∧ h0.size ≤ t ∧ (Exa Z rh t "[B") ∧ (Arv Z rh t kt .byte (Int32.ofNat cs.length) (cs.map fun c => Value.int c.toInt8.toInt32) (.int 0))) := by
  refine own_st hw (plainFor_of_name (by decide +kernel)) #[oa a, oi 0, oi (Int32.ofNat cs.length), .unset, .unset, .unset] (fun m => by first | (simp [entryFrame, mkF, argsToLocals, Value.category]; done) | rfl) fun p e s m below meth c s₁ G B hown hnm hret hZ X0 e0 N0 hR => ?_
  obtain ⟨hG, hx, hby, hml, -⟩ := id B
  refine q_iloadN B X0 d7_0 rfl rfl ?_
  obtain ⟨T1, h1, k1, X1, e1, E1, A1, Ex1, st1⟩ := newPE X0 hx hZ (ow hw 31 rfl) e0 (g := (mkF m 1 #[oa a, oi 0, oi (Int32.ofNat cs.length), .unset, .unset, .unset] [(.int (Int32.ofNat cs.length))])) rfl (hb hby d7_1) rfl (own_nn (by omega)) (cap := 8) (by rw [own_clamp (by omega)]; exact g1_hcap) (by decide) (by decide) (by decide) (ad := "[B") (by decide)
  obtain ⟨b1, z1⟩ : ∃ z, z = h0.size := ⟨_, rfl⟩
  rw [← z1] at A1 Ex1 st1
  refine hG _ _ st1 ?_
  have K1 := (Keep.refl h0 []).ext E1
  have O1 := O0.ext E1
  have V1 : Arv Z h1 b1 k1 .byte (Int32.ofNat cs.length) [] (.int 0) := Arv.new A1 (own_nn (by omega))
  refine q_astoreN B X1 d7_3 rfl rfl rfl rfl ?_
  refine q_aloadN B X1 d7_4 rfl rfl rfl ?_
  refine q_iloadN B X1 d7_5 rfl rfl ?_
  refine q_aloadN B X1 d7_6 rfl rfl rfl ?_
  refine q_iconst B X1 d7_7 rfl ?_
  refine q_iloadN B X1 d7_8 rfl rfl ?_
  show G (T1.setTop (mkF m 9 #[oa a, oi 0, oi (Int32.ofNat cs.length), oa b1, .unset, .unset] [(.int (Int32.ofNat cs.length)), (.int 0), (.ref b1), (.int 0), (.ref a)]))
  have f3 := (g0_V.ext E1)
  refine qS B X1 hZ hown 32 33 29 34 rfl rfl rfl rfl (own_cmp5 hw cs O1 f3 V1 (own_ge O0 (Nat.le_of_eq z1.symm)) (own_ne g0_V.lt (Nat.le_of_eq z1.symm)) (by omega) g2_hcs) e1 own_pd0 rfl rfl d7_9 0 rfl rfl rfl (by decide) ?_
  rintro T2 h2 _ L2 X2 e2 ⟨rfl, M2, J2, r2_0⟩
  have N2 := Fr.app N0 M2
  have K2 := K1.trans J2 (allS (Or.inr (Nat.le_trans (Keep.refl h0 []).1 (Nat.le_of_eq z1.symm))) all0)
  have O2 := O1.keep J2 (allS (own_ge O0 (Nat.le_of_eq z1.symm)) all0)
  refine q_istore B X2 d7_12 rfl rfl rfl ?_
  refine q_iload B X2 d7_14 rfl rfl ?_
  refine q_iloadN B X2 d7_16 rfl rfl ?_
  refine q_icmpYes 57 B X2 d7_17 rfl (teq (rfl : (Int32.ofNat cs.length) = (Int32.ofNat cs.length))).1 rfl rfl (by decide) ?_
  refine q_aloadN B X2 d7_57 rfl rfl rfl ?_
  show G (T2.setTop (mkF m 58 #[oa a, oi 0, oi (Int32.ofNat cs.length), oa b1, oi (Int32.ofNat cs.length), .unset] [(.ref b1)]))
  have f4 := (Ex1.keep J2)
  exact qRA B hR hret rfl rfl X2 d7_58 e2 ⟨b1, k1, rfl, N2, K2, (Nat.le_trans (Keep.refl h0 []).1 (Nat.le_of_eq z1.symm)), f4, r2_0⟩ (by decide)
theorem own_coder (hw : own_W Z a0) {t : Addr} (n : Int32) {kt : ClassId} {n2 : Int32} {vs : List Value} (r : Int32) (O0 : own_Old Z h0) (g0_V : Arv Z h0 t kt .byte n2 vs (.int 0)) (g1_hr : nar .byte ((((n - n2).toUInt32 >>> ((31 : Int32) &&& 31).toUInt32).toInt32).toInt8.toInt32) = r) : own_Con l Z ⟨"java/lang/StringUTF16", "coderFromArrayLen", "([BI)B"⟩ jdk_52_method_15_code 2 (some .byte) [] ⟨0, 0, 0, 0⟩ #[(.ref t), (.int n)] h0 (fun rv rh rL => rv = some (.int r) ∧ own_Fr Z rL ∧ h0 = rh) := by
  refine own_st hw (plainFor_of_name (by decide +kernel)) #[oa t, oi n] (fun _ => rfl) fun p e s m below meth c s₁ G B hown hnm hret hZ X0 e0 N0 hR => ?_
  refine q_iloadN B X0 d9_0 rfl rfl ?_
  refine q_aloadN B X0 d9_1 rfl rfl rfl ?_
  refine qal B X0 hZ e0 g0_V d9_2 ?_
  refine q_isub B X0 d9_3 rfl rfl ?_
  refine q_bipush B X0 d9_4 rfl ?_
  refine q_iushr B X0 d9_6 rfl rfl ?_
  refine q_i2b B X0 d9_7 rfl rfl ?_
  show G (s₁.setTop (mkF m 8 #[oa t, oi n] [(.int ((((n - n2).toUInt32 >>> ((31 : Int32) &&& 31).toUInt32).toInt32).toInt8.toInt32))]))
  exact qRN B hR hret (by simp) X0 d9_8 e0 ⟨(by rw [g1_hr]), N0, rfl⟩ (by decide)
theorem own_str4 (hw : own_W Z a0) {a u : Addr} {ku : ClassId} (cs : List Int32) {cpt : Int32} {v0 v1 : Value} (O0 : own_Old Z h0) (g0_E : Exa Z h0 a "java/lang/String") (g1_F : Fld Z h0 a "java/lang/String" "coder" "B" v0) (g2_F : Fld Z h0 a "java/lang/String" "value" "[B" v1) (g3_G : Z.heap.size ≤ a) (g4_V : Arv Z h0 u ku .char (Int32.ofNat cs.length) (cs.map Value.int) (.int 0)) (g5_hpos : 0 < cs.length) (g6_hcap : cs.length ≤ 8) (g7_hcs : ∀ c ∈ cs, ¬ ((255 : Int32) < c)) (g8_S : Sta Z Z.heap "java/lang/String" "COMPACT_STRINGS" "Z" (.int cpt)) (g9_hcpt : ¬ (cpt = (0 : Int32))) : own_Con l Z ⟨"java/lang/String", "<init>", "([CIILjava/lang/Void;)V"⟩ jdk_42_method_149_code 6 none [] ⟨2, 1, 8, 35⟩ #[(.ref a), (.ref u), (.int 0), (.int (Int32.ofNat cs.length)), .null] h0 (fun rv rh rL => ∃ (t : Addr) (kt : ClassId), rv = none ∧ own_Fr Z rL ∧ Keep h0 rh [a] ∧ h0.size ≤ t ∧ (Exa Z rh a "java/lang/String") ∧ (Fld Z rh a "java/lang/String" "coder" "B" (.int 0)) ∧ (Fld Z rh a "java/lang/String" "value" "[B" (.ref t)) ∧ (Exa Z rh t "[B") ∧ (Arv Z rh t kt .byte (Int32.ofNat cs.length) (cs.map fun c => Value.int c.toInt8.toInt32) (.int 0))) := by
  refine own_st hw (plainFor_of_name (by decide +kernel)) #[oa a, oa u, oi 0, oi (Int32.ofNat cs.length), .val .null, .unset] (fun m => by first | (simp [entryFrame, mkF, argsToLocals, Value.category]; done) | rfl) fun p e s m below meth c s₁ G B hown hnm hret hZ X0 e0 N0 hR => ?_
  obtain ⟨hG, hx, hby, hml, -⟩ := id B
  refine q_aloadN B X0 d5_0 rfl rfl rfl ?_
  show G (s₁.setTop (mkF m 1 #[oa a, oa u, oi 0, oi (Int32.ofNat cs.length), .val .null, .unset] [(.ref a)]))
  obtain ⟨T1, X1, e1, st1⟩ := initO X0 hx hZ hown (ow hw 23 rfl) (ow hw 24 rfl) (ow hw 25 rfl) e0 (g := (mkF m 1 #[oa a, oa u, oi 0, oi (Int32.ofNat cs.length), .val .null, .unset] [(.ref a)])) rfl (by rw [hml]; rfl) rfl (hb hby d5_1) (by decide) (W := 0) (by show 2 * 0 + _ ≤ _; exact Nat.le_of_eq rfl) (by decide)
  refine hG _ _ st1 ?_
  show G (T1.setTop (mkF m 4 #[oa a, oa u, oi 0, oi (Int32.ofNat cs.length), .val .null, .unset] []))
  refine q_iloadN B X1 d5_4 rfl rfl ?_
  refine q_ifYes 27 B X1 d5_5 rfl ((if0 _ _).trans (feq (fun q => Nat.ne_of_gt g5_hpos (own_ofNat_inj (by omega) (by decide) q))).2) rfl rfl (by decide) ?_
  refine qgs B X1 hZ hown 26 rfl Via.refl e1 g8_S O0 d5_27 fun T2 X2 e2 => ?_
  refine q_ifNo B X2 d5_30 rfl ((if0 _ _).trans (feq g9_hcpt).1) rfl ?_
  refine q_aloadN B X2 d5_33 rfl rfl rfl ?_
  refine q_iloadN B X2 d5_34 rfl rfl ?_
  refine q_iloadN B X2 d5_35 rfl rfl ?_
  show G (T2.setTop (mkF m 36 #[oa a, oa u, oi 0, oi (Int32.ofNat cs.length), .val .null, .unset] [(.int (Int32.ofNat cs.length)), (.int 0), (.ref u)]))
  refine qS B X2 hZ hown 27 28 29 30 rfl rfl rfl rfl (own_cmp3 hw cs O0 g4_V g6_hcap g7_hcs) e2 own_pd1 rfl rfl d5_36 0 rfl rfl rfl (by decide) ?_
  rintro T3 h3 _ L3 X3 e3 ⟨t_3, kt_3, rfl, M3, J3, y3_0, r3_0, r3_1⟩
  have N3 := Fr.app N0 M3
  have K3 := (Keep.refl h0 [a]).trans J3 all0
  have O3 := O0.keep J3 all0
  refine q_astore B X3 d5_39 rfl rfl rfl rfl ?_
  refine q_aloadN B X3 d5_41 rfl rfl rfl ?_
  refine q_aload B X3 d5_42 rfl rfl rfl ?_
  refine q_iloadN B X3 d5_44 rfl rfl ?_
  show G (T3.setTop (mkF m 45 #[oa a, oa u, oi 0, oi (Int32.ofNat cs.length), .val .null, oa t_3] [(.int (Int32.ofNat cs.length)), (.ref t_3), (.ref a)]))
  refine qS B X3 hZ hown 35 36 29 37 rfl rfl rfl rfl (own_coder hw (Int32.ofNat cs.length) (0 : Int32) O3 r3_1 (by rw [Int32.sub_self]; rfl)) e3 own_pd2 rfl rfl d5_45 1 rfl rfl rfl (by decide) ?_
  rintro T4 h4 _ L4 X4 e4 ⟨rfl, M4, rfl⟩
  have N4 := Fr.app N3 M4
  have f6 := (g1_F.keep J3 nin0)
  have f7 := (g0_E.keep J3)
  refine qpn (.int 0) B X4 hZ hown 38 14 rfl rfl Via.refl e4 f6 f7 (Or.inr ⟨(ow hw 39 rfl), rfl, hnm⟩) (ty := .byte) (by decide) rfl rfl d5_48 fun T5 h5 X5 e5 W5 => ?_
  have K5 := K3.wr W5 (own_mi 0 rfl)
  have O5 := O3.wr W5 g3_G
  have N5 := Fr.snoc X5 N4 g3_G
  refine q_aloadN B X5 d5_51 rfl rfl rfl ?_
  refine q_aload B X5 d5_52 rfl rfl rfl ?_
  have f9 := ((g2_F.keep J3 nin0).other W5 (Or.inr (slot_ne (Or.inr (ow hw 41 rfl)) (Or.inr (ow hw 39 rfl)) (by decide) (t := (.array .byte)) (t' := .byte) (by decide) (by decide))))
  have f10 := (f7.wr W5)
  refine qpf B X5 hZ hown 40 14 rfl rfl Via.refl e5 f9 f10 (Or.inr ⟨(ow hw 41 rfl), rfl, hnm⟩) (ty := (.array .byte)) (by decide) rfl rfl d5_54 fun T8 h8 X8 e8 W8 => ?_
  have K8 := K5.wr W8 (own_mi 0 rfl)
  have O8 := O5.wr W8 g3_G
  have N8 := Fr.snoc X8 N5 g3_G
  show G (T8.setTop (mkF m 57 #[oa a, oa u, oi 0, oi (Int32.ofNat cs.length), .val .null, oa t_3] []))
  have f11 := (f10.wr W8)
  have f12 := ((f6.same W5).other W8 (Or.inr (slot_ne (Or.inr (ow hw 39 rfl)) (Or.inr (ow hw 41 rfl)) (by decide) (t := .byte) (t' := (.array .byte)) (by decide) (by decide))))
  have f13 := ((r3_0.wr W5).wr W8)
  have f14 := ((r3_1.other W5 (Ne.symm (own_ne g0_E.lt y3_0))).other W8 (Ne.symm (own_ne g0_E.lt y3_0)))
  exact qRV B hR hret X8 d5_57 e8 ⟨t_3, kt_3, rfl, N8, K8, (Nat.le_trans (Keep.refl h0 [a]).1 y3_0), f11, f12, (f9.same W8), f13, f14⟩ (by decide)
theorem own_str1 (hw : own_W Z a0) {a u : Addr} {ku : ClassId} (cs : List Int32) {cpt : Int32} {v0 v1 : Value} (O0 : own_Old Z h0) (g0_E : Exa Z h0 a "java/lang/String") (g1_F : Fld Z h0 a "java/lang/String" "coder" "B" v0) (g2_F : Fld Z h0 a "java/lang/String" "value" "[B" v1) (g3_G : Z.heap.size ≤ a) (g4_V : Arv Z h0 u ku .char (Int32.ofNat cs.length) (cs.map Value.int) (.int 0)) (g5_hpos : 0 < cs.length) (g6_hcap : cs.length ≤ 8) (g7_hcs : ∀ c ∈ cs, ¬ ((255 : Int32) < c)) (g8_S : Sta Z Z.heap "java/lang/String" "COMPACT_STRINGS" "Z" (.int cpt)) (g9_hcpt : ¬ (cpt = (0 : Int32))) : own_Con l Z ⟨"java/lang/String", "<init>", "([C)V"⟩ jdk_42_method_3_code 2 none [] ⟨3, 1, 8, 52⟩ #[(.ref a), (.ref u)] h0 (fun rv rh rL => ∃ (t : Addr) (kt : ClassId), rv = none ∧ own_Fr Z rL ∧ Keep h0 rh [a] ∧ h0.size ≤ t ∧ (Exa Z rh a "java/lang/String") ∧ (Fld Z rh a "java/lang/String" "coder" "B" (.int 0)) ∧ (Fld Z rh a "java/lang/String" "value" "[B" (.ref t)) ∧ (Exa Z rh t "[B") ∧ (Arv Z rh t kt .byte (Int32.ofNat cs.length) (cs.map fun c => Value.int c.toInt8.toInt32) (.int 0))) := by
  refine own_st hw (plainFor_of_name (by decide +kernel)) #[oa a, oa u] (fun _ => rfl) fun p e s m below meth c s₁ G B hown hnm hret hZ X0 e0 N0 hR => ?_
  refine q_aloadN B X0 d4_0 rfl rfl rfl ?_
  refine q_aloadN B X0 d4_1 rfl rfl rfl ?_
  refine q_iconst B X0 d4_2 rfl ?_
  refine q_aloadN B X0 d4_3 rfl rfl rfl ?_
  refine qal B X0 hZ e0 g4_V d4_4 ?_
  refine q_aconstNull B X0 d4_5 rfl ?_
  show G (s₁.setTop (mkF m 6 #[oa a, oa u] [.null, (.int (Int32.ofNat cs.length)), (.int 0), (.ref u), (.ref a)]))
  refine qI B X0 hZ hown 19 20 15 22 rfl rfl rfl rfl rfl (own_str4 hw cs O0 g0_E g1_F g2_F g3_G g4_V g5_hpos g6_hcap g7_hcs g8_S g9_hcpt) e0 own_pd3 rfl rfl d4_6 0 rfl rfl rfl (by decide) ?_
  rintro T2 h2 _ L2 X2 e2 ⟨t_2, kt_2, rfl, M2, J2, y2_0, r2_0, r2_1, r2_2, r2_3, r2_4⟩
  have N2 := Fr.app N0 M2
  have K2 := (Keep.refl h0 [a]).trans J2 (allS (own_mi 0 rfl) all0)
  have O2 := O0.keep J2 (allS g3_G all0)
  show G (T2.setTop (mkF m 9 #[oa a, oa u] []))
  exact qRV B hR hret X2 d4_9 e2 ⟨t_2, kt_2, rfl, N2, K2, (Nat.le_trans (Keep.refl h0 [a]).1 y2_0), r2_0, r2_1, r2_2, r2_3, r2_4⟩ (by decide)
theorem own_str4E (hw : own_W Z a0) (hEL : EW Z a0 consts_1) {a : Addr} (u : Addr) {v0 : Value} (O0 : own_Old Z h0) (g0_E : Exa Z h0 a "java/lang/String") (g1_F : Fld Z h0 a "java/lang/String" "coder" "B" v0) (g2_F : Fld Z h0 a "java/lang/String" "value" "[B" .null) (g3_G : Z.heap.size ≤ a) : own_ConW l Z consts_1 ⟨"java/lang/String", "<init>", "([CIILjava/lang/Void;)V"⟩ jdk_42_method_149_code 6 none [] ⟨1, 2, 4, 12⟩ #[(.ref a), (.ref u), (.int 0), (.int 0), .null] h0 (fun rv rh rL => ∃ (t : Addr) (kt : ClassId), rv = none ∧ own_Fr Z rL ∧ Keep h0 rh [a] ∧ (Exa Z rh a "java/lang/String") ∧ (Fld Z rh a "java/lang/String" "coder" "B" (.int 0)) ∧ (Fld Z rh a "java/lang/String" "value" "[B" (.ref t)) ∧ (Exa Z rh t "[B") ∧ (Arv Z rh t kt .byte (0 : Int32) [] (.int 0))) := by
  refine own_stW hw hEL (plainFor_of_name (by decide +kernel)) #[oa a, oa u, oi 0, oi 0, .val .null, .unset] (fun m => by first | (simp [entryFrame, mkF, argsToLocals, Value.category]; done) | rfl) fun p e s m below meth c s₁ G B hown hnm hret hZ X0 e0 H0 SI0 N0 hR => ?_
  obtain ⟨hG, hx, hby, hml, -⟩ := id B
  refine q_aloadN B X0 d5_0 rfl rfl rfl ?_
  show G (s₁.setTop (mkF m 1 #[oa a, oa u, oi 0, oi 0, .val .null, .unset] [(.ref a)]))
  obtain ⟨T1, X1, e1, st1⟩ := initO X0 hx hZ hown (ow hw 23 rfl) (ow hw 24 rfl) (ow hw 25 rfl) e0 (g := (mkF m 1 #[oa a, oa u, oi 0, oi 0, .val .null, .unset] [(.ref a)])) rfl (by rw [hml]; rfl) rfl (hb hby d5_1) (by decide) (W := 0) (by show 2 * 0 + _ ≤ _; exact Nat.le_of_eq rfl) (by decide)
  refine hG _ _ st1 ?_
  show G (T1.setTop (mkF m 4 #[oa a, oa u, oi 0, oi 0, .val .null, .unset] []))
  refine q_iloadN B X1 d5_4 rfl rfl ?_
  refine q_ifNo B X1 d5_5 rfl ((if0 _ _).trans (teq (rfl : (0 : Int32) = (0 : Int32))).2) rfl ?_
  refine q_aloadN B X1 d5_8 rfl rfl rfl ?_
  obtain ⟨a2, T2, h2, k2, b2, kc2, X2, e2, E2, SI2, hk2, hZ2, hown2, Ea2, Fc2, Fv2, V2, la2, lb2, Y2, Li2, Nq2, st2⟩ := ldcCH X1 hx hZ hown (ow hw 154 rfl) (own_wS hw) e1 SI0 (Nat.le_refl _) hEL (List.mem_of_getElem? (i := 0) rfl) H0 (vs := []) (z := (0 : Int32)) ⟨by decide, by decide⟩ (by decide) rfl (g := (mkF m 9 #[oa a, oa u, oi 0, oi 0, .val .null, .unset] [(.ref a)])) rfl (hb hby d5_9) (n := 0) (by decide) (by decide) (by decide) (by decide)
  refine hG _ _ st2 ?_
  have R2 := Y2
  have C2 := (CHr.refl H0).trans R2
  have K2 := (Keep.refl h0 [a]).ext E2
  have O2 := O0.ext E2
  have Eb2 := own_litB hZ2 R2.1 (List.mem_of_getElem? (i := 0) rfl) Li2 hown2 (ow hw 154 rfl) Fv2
  refine qgf B X2 hZ2 hown2 40 rfl Via.refl e2 Fv2 d5_11 fun T3 X3 e3 => ?_
  have f5 := (g2_F.ext E2)
  have f6 := (g0_E.ext E2)
  refine qpf B X3 hZ2 hown2 40 14 rfl rfl Via.refl e3 f5 f6 (Or.inr ⟨(ow hw 41 rfl), rfl, hnm⟩) (ty := (.array .byte)) (by decide) rfl rfl d5_14 fun T4 h4 X4 e4 W4 => ?_
  have sf7 : Safe Z consts_1 _ h2 a := (own_safeStr hZ2.alike f6 f5)
  have R4 := (CHr.wr W4 sf7 R2.1)
  have C4 := C2.trans R4
  have K4 := K2.wr W4 (own_mi 0 rfl)
  have O4 := O2.wr W4 g3_G
  have N4 := Fr.snoc X4 N0 g3_G
  refine q_aloadN B X4 d5_17 rfl rfl rfl ?_
  refine hG _ _ (ldcAgain X4 hx hZ2 hown2 (ow hw 154 rfl) Li2 (g := (mkF m 18 #[oa a, oa u, oi 0, oi 0, .val .null, .unset] [(.ref a)])) rfl (hb hby d5_18)) ?_
  have f9 := (Fc2.other W4 (Or.inl (Ne.symm (Nq2 a sf7).1)))
  refine qgf B X4 hZ2 hown2 38 rfl Via.refl e4 f9 d5_20 fun T8 X8 e8 => ?_
  have f11 := ((g1_F.ext E2).other W4 (Or.inr (slot_ne (Or.inr (ow hw 39 rfl)) (Or.inr (ow hw 41 rfl)) (by decide) (t := .byte) (t' := (.array .byte)) (by decide) (by decide))))
  have f12 := (f6.wr W4)
  refine qpn (.int 0) B X8 hZ2 hown2 38 14 rfl rfl Via.refl e8 f11 f12 (Or.inr ⟨(ow hw 39 rfl), rfl, hnm⟩) (ty := .byte) (by decide) rfl rfl d5_23 fun T10 h10 X10 e10 W10 => ?_
  have sf13 := (R4.safe f5.lt sf7)
  have R10 := (CHr.wr W10 sf13 R4.1)
  have C10 := C4.trans R10
  have K10 := K4.wr W10 (own_mi 0 rfl)
  have O10 := O4.wr W10 g3_G
  have N10 := Fr.snoc X10 N4 g3_G
  show G (T10.setTop (mkF m 26 #[oa a, oa u, oi 0, oi 0, .val .null, .unset] []))
  have f14 := (f12.wr W10)
  have f15 := ((f5.same W4).other W10 (Or.inr (slot_ne (Or.inr (ow hw 41 rfl)) (Or.inr (ow hw 39 rfl)) (by decide) (t := (.array .byte)) (t' := .byte) (by decide) (by decide))))
  have f16 := ((Eb2.wr W4).wr W10)
  have f17 := ((V2.other W4 (Ne.symm (Nq2 a sf7).2)).other W10 (Ne.symm (Nq2 a sf7).2))
  exact qRVW B hR hret X10 d5_26 e10 SI2 (Nat.le_trans (Nat.le_trans hk2 R4.2.1) R10.2.1) hZ2 C10 ⟨b2, kc2, rfl, N10, K10, f14, (f11.same W10), f15, f16, f17⟩ (by decide)
theorem own_str1E (hw : own_W Z a0) (hEL : EW Z a0 consts_1) {a u : Addr} {v0 : Value} {ku : ClassId} (O0 : own_Old Z h0) (g0_E : Exa Z h0 a "java/lang/String") (g1_F : Fld Z h0 a "java/lang/String" "coder" "B" v0) (g2_F : Fld Z h0 a "java/lang/String" "value" "[B" .null) (g3_G : Z.heap.size ≤ a) (g4_V : Arv Z h0 u ku .char (0 : Int32) [] (.int 0)) : own_ConW l Z consts_1 ⟨"java/lang/String", "<init>", "([C)V"⟩ jdk_42_method_3_code 2 none [] ⟨2, 2, 4, 29⟩ #[(.ref a), (.ref u)] h0 (fun rv rh rL => ∃ (t : Addr) (kt : ClassId), rv = none ∧ own_Fr Z rL ∧ Keep h0 rh [a] ∧ (Exa Z rh a "java/lang/String") ∧ (Fld Z rh a "java/lang/String" "coder" "B" (.int 0)) ∧ (Fld Z rh a "java/lang/String" "value" "[B" (.ref t)) ∧ (Exa Z rh t "[B") ∧ (Arv Z rh t kt .byte (0 : Int32) [] (.int 0))) := by
  refine own_stW hw hEL (plainFor_of_name (by decide +kernel)) #[oa a, oa u] (fun _ => rfl) fun p e s m below meth c s₁ G B hown hnm hret hZ X0 e0 H0 SI0 N0 hR => ?_
  refine q_aloadN B X0 d4_0 rfl rfl rfl ?_
  refine q_aloadN B X0 d4_1 rfl rfl rfl ?_
  refine q_iconst B X0 d4_2 rfl ?_
  refine q_aloadN B X0 d4_3 rfl rfl rfl ?_
  refine qal B X0 hZ e0 g4_V d4_4 ?_
  refine q_aconstNull B X0 d4_5 rfl ?_
  show G (s₁.setTop (mkF m 6 #[oa a, oa u] [.null, (.int 0), (.int 0), (.ref u), (.ref a)]))
  refine qIW B X0 hZ hown 19 20 15 22 rfl rfl rfl rfl rfl (own_str4E hw hEL u O0 g0_E g1_F g2_F g3_G) e0 SI0 (Nat.le_refl _) hEL H0 own_pd3 rfl rfl d4_6 0 rfl rfl rfl (by decide) ?_
  rintro T2 h2 v2 L2 X2 e2 SI2 hZ2 hown2 Y2 ⟨t_2, kt_2, rfl, M2, J2, r2_0, r2_1, r2_2, r2_3, r2_4⟩
  have N2 := Fr.app N0 M2
  have R2 := Y2
  have C2 := (CHr.refl H0).trans R2
  have K2 := (Keep.refl h0 [a]).trans J2 (allS (own_mi 0 rfl) all0)
  have O2 := O0.keep J2 (allS g3_G all0)
  show G (T2.setTop (mkF m 9 #[oa a, oa u] []))
  exact qRVW B hR hret X2 d4_9 e2 SI2 (Nat.le_refl _) hZ2 C2 ⟨t_2, kt_2, rfl, N2, K2, r2_0, r2_1, r2_2, r2_3, r2_4⟩ (by decide)
theorem own_cod0 (hw : own_W Z a0) {a : Addr} {cpt : Int32} (O0 : own_Old Z h0) (g0_F : Fld Z h0 a "java/lang/String" "coder" "B" (.int 0)) (g1_S : Sta Z Z.heap "java/lang/String" "COMPACT_STRINGS" "Z" (.int cpt)) (g2_hcpt : ¬ (cpt = (0 : Int32))) : own_Con l Z ⟨"java/lang/String", "coder", "()B"⟩ jdk_42_method_152_code 1 (some .byte) [] ⟨0, 0, 0, 0⟩ #[(.ref a)] h0 (fun rv rh rL => rv = some (.int 0) ∧ own_Fr Z rL ∧ h0 = rh) := by
  refine own_st hw (plainFor_of_name (by decide +kernel)) #[oa a] (fun _ => rfl) fun p e s m below meth c s₁ G B hown hnm hret hZ X0 e0 N0 hR => ?_
  refine qgs B X0 hZ hown 26 rfl Via.refl e0 g1_S O0 d15_0 fun T1 X1 e1 => ?_
  refine q_ifNo B X1 d15_3 rfl ((if0 _ _).trans (feq g2_hcpt).1) rfl ?_
  refine q_aloadN B X1 d15_6 rfl rfl rfl ?_
  refine qgf B X1 hZ hown 38 rfl Via.refl e1 g0_F d15_7 fun T2 X2 e2 => ?_
  refine q_goto 14 B X2 d15_10 rfl rfl (by decide) ?_
  show G (T2.setTop (mkF m 14 #[oa a] [(.int 0)]))
  exact qRN B hR hret (by simp) X2 d15_14 e2 ⟨rfl, N0, rfl⟩ (by decide)
theorem own_isl0 (hw : own_W Z a0) {a : Addr} {cpt : Int32} (O0 : own_Old Z h0) (g0_F : Fld Z h0 a "java/lang/String" "coder" "B" (.int 0)) (g1_S : Sta Z Z.heap "java/lang/String" "COMPACT_STRINGS" "Z" (.int cpt)) (g2_hcpt : ¬ (cpt = (0 : Int32))) : own_Con l Z ⟨"java/lang/String", "isLatin1", "()Z"⟩ jdk_42_method_154_code 1 (some .boolean) [] ⟨0, 0, 0, 0⟩ #[(.ref a)] h0 (fun rv rh rL => rv = some (.int 1) ∧ own_Fr Z rL ∧ h0 = rh) := by
  refine own_st hw (plainFor_of_name (by decide +kernel)) #[oa a] (fun _ => rfl) fun p e s m below meth c s₁ G B hown hnm hret hZ X0 e0 N0 hR => ?_
  refine qgs B X0 hZ hown 26 rfl Via.refl e0 g1_S O0 d13_0 fun T1 X1 e1 => ?_
  refine q_ifNo B X1 d13_3 rfl ((if0 _ _).trans (feq g2_hcpt).1) rfl ?_
  refine q_aloadN B X1 d13_6 rfl rfl rfl ?_
  refine qgf B X1 hZ hown 38 rfl Via.refl e1 g0_F d13_7 fun T2 X2 e2 => ?_
  refine q_ifNo B X2 d13_10 rfl ((if0 _ _).trans (teq (by decide)).2) rfl ?_
  refine q_iconst B X2 d13_13 rfl ?_
  refine q_goto 18 B X2 d13_14 rfl rfl (by decide) ?_
  show G (T2.setTop (mkF m 18 #[oa a] [(.int 1)]))
  exact qRN B hR hret (by simp) X2 d13_18 e2 ⟨rfl, N0, rfl⟩ (by decide)
theorem own_lenL (hw : own_W Z a0) {a t : Addr} {kt : ClassId} {n : Int32} {vs : List Value} {cpt : Int32} (O0 : own_Old Z h0) (g0_E : Exa Z h0 a "java/lang/String") (g1_F : Fld Z h0 a "java/lang/String" "coder" "B" (.int 0)) (g2_F : Fld Z h0 a "java/lang/String" "value" "[B" (.ref t)) (g3_V : Arv Z h0 t kt .byte n vs (.int 0)) (g4_S : Sta Z Z.heap "java/lang/String" "COMPACT_STRINGS" "Z" (.int cpt)) (g5_hcpt : ¬ (cpt = (0 : Int32))) : own_Con l Z ⟨"java/lang/String", "length", "()I"⟩ jdk_42_method_54_code 1 (some .int) [] ⟨1, 0, 0, 13⟩ #[(.ref a)] h0 (fun rv rh rL => rv = some (.int n) ∧ own_Fr Z rL ∧ h0 = rh) := by
  refine own_st hw (plainFor_of_name (by decide +kernel)) #[oa a] (fun _ => rfl) fun p e s m below meth c s₁ G B hown hnm hret hZ X0 e0 N0 hR => ?_
  refine q_aloadN B X0 d14_0 rfl rfl rfl ?_
  refine qgf B X0 hZ hown 40 rfl Via.refl e0 g2_F d14_1 fun T1 X1 e1 => ?_
  refine qal B X1 hZ e1 g3_V d14_4 ?_
  refine q_aloadN B X1 d14_5 rfl rfl rfl ?_
  show G (T1.setTop (mkF m 6 #[oa a] [(.ref a), (.int n)]))
  refine qV B X1 hZ hown 66 67 69 68 15 70 rfl rfl rfl rfl rfl rfl (own_cod0 hw O0 g1_F g4_S g5_hcpt) e1 g0_E own_pd5 rfl rfl d14_6 1 rfl rfl rfl (by decide) ?_
  rintro T3 h3 _ L3 X3 e3 ⟨rfl, M3, rfl⟩
  have N3 := Fr.app N0 M3
  refine q_ishr B X3 d14_9 rfl rfl ?_
  show G (T3.setTop (mkF m 10 #[oa a] [(.int (n >>> ((0 : Int32) &&& 31)))]))
  exact qRI B hR hret X3 d14_10 e3 ⟨(by rw [own_shr0]), N3, rfl⟩ (by decide)
theorem own_max00 (hw : own_W Z a0) (O0 : own_Old Z h0) : own_Con l Z ⟨"java/lang/Math", "max", "(II)I"⟩ jdk_29_method_65_code 2 (some .int) [] ⟨0, 0, 0, 0⟩ #[(.int 0), (.int 0)] h0 (fun rv rh rL => rv = some (.int 0) ∧ own_Fr Z rL ∧ h0 = rh) := by
  refine own_st hw (Jvm.Free.JP.mathPlain rfl (by decide +kernel)) #[oi 0, oi 0] (fun _ => rfl) fun p e s m below meth c s₁ G B hown hnm hret hZ X0 e0 N0 hR => ?_
  refine q_iloadN B X0 d18_0 rfl rfl ?_
  refine q_iloadN B X0 d18_1 rfl rfl ?_
  refine q_icmpNo B X0 d18_2 rfl (flt (by decide)).1 rfl ?_
  refine q_iloadN B X0 d18_5 rfl rfl ?_
  refine q_goto 10 B X0 d18_6 rfl rfl (by decide) ?_
  show G (s₁.setTop (mkF m 10 #[oi 0, oi 0] [(.int 0)]))
  exact qRI B hR hret X0 d18_10 e0 ⟨rfl, N0, rfl⟩ (by decide)
theorem own_minnn (hw : own_W Z a0) (x : Int32) (O0 : own_Old Z h0) : own_Con l Z ⟨"java/lang/Math", "min", "(II)I"⟩ jdk_29_method_69_code 2 (some .int) [] ⟨0, 0, 0, 0⟩ #[(.int x), (.int x)] h0 (fun rv rh rL => rv = some (.int x) ∧ own_Fr Z rL ∧ h0 = rh) := by
  refine own_st hw (Jvm.Free.JP.mathPlain rfl (by decide +kernel)) #[oi x, oi x] (fun _ => rfl) fun p e s m below meth c s₁ G B hown hnm hret hZ X0 e0 N0 hR => ?_
  refine q_iloadN B X0 d1_0 rfl rfl ?_
  refine q_iloadN B X0 d1_1 rfl rfl ?_
  refine q_icmpNo B X0 d1_2 rfl (flt (fun q => Int32.lt_irrefl q)).2.2.1 rfl ?_
  refine q_iloadN B X0 d1_5 rfl rfl ?_
  refine q_goto 10 B X0 d1_6 rfl rfl (by decide) ?_
  show G (s₁.setTop (mkF m 10 #[oi x, oi x] [(.int x)]))
  exact qRI B hR hret X0 d1_10 e0 ⟨rfl, N0, rfl⟩ (by decide)
theorem own_ioc (hw : own_W Z a0) {t : Addr} {kt : ClassId} (cs : List Int32) (O0 : own_Old Z h0) (g0_V : Arv Z h0 t kt .byte (Int32.ofNat cs.length) (cs.map fun c => Value.int c.toInt8.toInt32) (.int 0)) (g1_hcap : cs.length ≤ 8) (g2_h8 : ∀ c ∈ cs, 0 ≤ c.toInt ∧ c.toInt ≤ 255) : own_Con l Z ⟨"java/lang/StringLatin1", "indexOfChar", "([BIII)I"⟩ jdk_43_method_23_code 6 (some .int) [] ⟨0, 0, 0, 0⟩ #[(.ref t), (.int 61), (.int 0), (.int (Int32.ofNat cs.length))] h0 (fun rv rh rL => ∃ (r : Int32), rv = some (.int r) ∧ own_Fr Z rL ∧ h0 = rh ∧ (r < (0 : Int32) ↔ ∀ c ∈ cs, ¬ (c = (61 : Int32)))) := by
  refine own_st hw (plainFor_of_name (by decide +kernel)) #[oa t, oi 61, oi 0, oi (Int32.ofNat cs.length), .unset, .unset] (fun m => by first | (simp [entryFrame, mkF, argsToLocals, Value.category]; done) | rfl) fun p e s m below meth c s₁ G B hown hnm hret hZ X0 e0 N0 hR => ?_
  refine q_iloadN B X0 d19_0 rfl rfl ?_
  refine q_i2b B X0 d19_1 rfl rfl ?_
  refine q_istore B X0 d19_2 rfl rfl rfl ?_
  refine q_iloadN B X0 d19_4 rfl rfl ?_
  refine q_istore B X0 d19_5 rfl rfl rfl ?_
  show G (s₁.setTop (mkF m 7 #[oa t, oi 61, oi 0, oi (Int32.ofNat cs.length), oi ((61 : Int32).toInt8.toInt32), oi 0] []))
  have loop : ∀ (r i : Nat) (T : State) (locs : List Loc), r + i = cs.length → Stand p l e ⟨0, 0, 0, 0⟩ s m #[(.ref t), (.int 61), (.int 0), (.int (Int32.ofNat cs.length))] below meth c T locs 0 0 → T.heap = h0 → own_Fr Z locs → (∀ j, j < i → ¬ (cs.getD j 0 = (61 : Int32))) → G (T.setTop (mkF m 7 #[oa t, oi 61, oi 0, oi (Int32.ofNat cs.length), oi ((61 : Int32).toInt8.toInt32), oi (Int32.ofNat i)] [])) := by
    intro r
    induction r with
    | zero =>
      intro i T locs hri X eT N hs
      have hi : i = cs.length := by omega
      subst hi
      refine q_iload B X d19_7 rfl rfl ?_
      refine q_iloadN B X d19_9 rfl rfl ?_
      refine q_icmpYes 31 B X d19_10 rfl (flt (own_nlt (Nat.le_refl _) (by omega))).2.1 rfl rfl (by decide) ?_
      refine q_iconst B X d19_31 rfl ?_
      show G (T.setTop (mkF m 32 #[oa t, oi 61, oi 0, oi (Int32.ofNat cs.length), oi ((61 : Int32).toInt8.toInt32), oi (Int32.ofNat cs.length)] [(.int (-1))]))
      exact qRI B hR hret X d19_32 eT ⟨(-1 : Int32), rfl, N, rfl, ⟨fun _ => own_allD cs 0 hs, fun _ => (by decide)⟩⟩ (by decide)
    | succ r ih =>
      intro i T locs hri X eT N hs
      have hi : i < cs.length := by omega
      have h58 := own_byteEq (g2_h8 _ (own_getD_mem cs i 0 hi)) (show 0 ≤ (61 : Int32).toInt ∧ (61 : Int32).toInt ≤ 255 by decide)
      refine q_iload B X d19_7 rfl rfl ?_
      refine q_iloadN B X d19_9 rfl rfl ?_
      refine q_icmpNo B X d19_10 rfl (tlt (own_lt hi (by omega))).2.1 rfl ?_
      refine q_aloadN B X d19_13 rfl rfl rfl ?_
      refine q_iload B X d19_14 rfl rfl ?_
      refine qlb (v := (.int ((cs.getD i 0).toInt8.toInt32))) B X hZ eT g0_V d19_16 ⟨own_nn (by omega), own_lt hi (by omega)⟩ (by rw [own_clamp (by omega)]; exact own_getD_map (fun c : Int32 => Value.int c.toInt8.toInt32) cs i _ 0 hi) ?_
      refine q_iload B X d19_17 rfl rfl ?_
      by_cases hc19_2 : ((cs.getD i 0).toInt8.toInt32) = ((61 : Int32).toInt8.toInt32)
      · skip
        refine q_icmpNo B X d19_19 rfl (teq hc19_2).2 rfl ?_
        refine q_iload B X d19_22 rfl rfl ?_
        show G (T.setTop (mkF m 24 #[oa t, oi 61, oi 0, oi (Int32.ofNat cs.length), oi ((61 : Int32).toInt8.toInt32), oi (Int32.ofNat i)] [(.int (Int32.ofNat i))]))
        exact qRI B hR hret X d19_24 eT ⟨(Int32.ofNat i), rfl, N, rfl, ⟨fun q => absurd q (own_nn (by omega)), fun q => absurd (h58.mp hc19_2) (q _ (own_getD_mem cs i 0 hi))⟩⟩ (by decide)
      · skip
        refine q_icmpYes 25 B X d19_19 rfl (feq hc19_2).2 rfl rfl (by decide) ?_
        refine q_iinc B X d19_25 rfl rfl rfl ?_
        refine q_goto 7 B X d19_28 rfl rfl (by decide) ?_
        show G (T.setTop (mkF m 7 #[oa t, oi 61, oi 0, oi (Int32.ofNat cs.length), oi ((61 : Int32).toInt8.toInt32), oi ((Int32.ofNat i) + (1 : Int32))] []))
        rw [own_inc i]
        exact ih (i + 1) _ _ (by omega) X eT N (own_nextD (P := fun c => ¬ (c = (61 : Int32))) hs (fun q => hc19_2 (h58.mpr q)))
  exact loop cs.length 0 _ _ rfl X0 e0 N0 (fun j hj => absurd hj (Nat.not_lt_zero j))
theorem own_canI (hw : own_W Z a0) (O0 : own_Old Z h0) : own_Con l Z ⟨"java/lang/StringLatin1", "canEncode", "(I)Z"⟩ jdk_43_method_4_code 1 (some .boolean) [] ⟨0, 0, 0, 0⟩ #[(.int 61)] h0 (fun rv rh rL => rv = some (.int 1) ∧ own_Fr Z rL ∧ h0 = rh) := by
  refine own_st hw (plainFor_of_name (by decide +kernel)) #[oi 61] (fun _ => rfl) fun p e s m below meth c s₁ G B hown hnm hret hZ X0 e0 N0 hR => ?_
  refine q_iloadN B X0 d17_0 rfl rfl ?_
  refine q_ifNo B X0 d17_1 rfl ((if0 _ _).trans (flt (by decide)).1) rfl ?_
  refine q_iloadN B X0 d17_4 rfl rfl ?_
  refine q_sipush B X0 d17_5 rfl ?_
  refine q_icmpNo B X0 d17_8 rfl (flt (by decide)).2.2.1 rfl ?_
  refine q_iconst B X0 d17_11 rfl ?_
  refine q_goto 16 B X0 d17_12 rfl rfl (by decide) ?_
  show G (s₁.setTop (mkF m 16 #[oi 61] [(.int 1)]))
  exact qRN B hR hret (by simp) X0 d17_16 e0 ⟨rfl, N0, rfl⟩ (by decide)
theorem own_iol (hw : own_W Z a0) {t : Addr} {kt : ClassId} (cs : List Int32) (O0 : own_Old Z h0) (g0_V : Arv Z h0 t kt .byte (Int32.ofNat cs.length) (cs.map fun c => Value.int c.toInt8.toInt32) (.int 0)) (g1_hcap : cs.length ≤ 8) (g2_h8 : ∀ c ∈ cs, 0 ≤ c.toInt ∧ c.toInt ≤ 255) : own_Con l Z ⟨"java/lang/StringLatin1", "indexOf", "([BIII)I"⟩ jdk_43_method_22_code 4 (some .int) [] ⟨1, 0, 0, 17⟩ #[(.ref t), (.int 61), (.int 0), (.int (Int32.ofNat cs.length))] h0 (fun rv rh rL => ∃ (r : Int32), rv = some (.int r) ∧ own_Fr Z rL ∧ h0 = rh ∧ (r < (0 : Int32) ↔ ∀ c ∈ cs, ¬ (c = (61 : Int32)))) := by
  refine own_st hw (plainFor_of_name (by decide +kernel)) #[oa t, oi 61, oi 0, oi (Int32.ofNat cs.length)] (fun m => by first | (simp [entryFrame, mkF, argsToLocals, Value.category]; done) | rfl) fun p e s m below meth c s₁ G B hown hnm hret hZ X0 e0 N0 hR => ?_
  refine q_iloadN B X0 d16_0 rfl rfl ?_
  show G (s₁.setTop (mkF m 1 #[oa t, oi 61, oi 0, oi (Int32.ofNat cs.length)] [(.int 61)]))
  refine qS B X0 hZ hown 75 76 73 77 rfl rfl rfl rfl (own_canI hw O0) e0 own_pd10 rfl rfl d16_1 0 rfl rfl rfl (by decide) ?_
  rintro T1 h1 _ L1 X1 e1 ⟨rfl, M1, rfl⟩
  have N1 := Fr.app N0 M1
  refine q_ifYes 9 B X1 d16_4 rfl ((if0 _ _).trans (feq (by decide)).2) rfl rfl (by decide) ?_
  refine q_iloadN B X1 d16_9 rfl rfl ?_
  refine q_iconst B X1 d16_10 rfl ?_
  show G (T1.setTop (mkF m 11 #[oa t, oi 61, oi 0, oi (Int32.ofNat cs.length)] [(.int 0), (.int 0)]))
  refine qS B X1 hZ hown 78 79 4 80 rfl rfl rfl rfl (own_max00 hw O0) e1 own_pd8 rfl rfl d16_11 0 rfl rfl rfl (by decide) ?_
  rintro T2 h2 _ L2 X2 e2 ⟨rfl, M2, rfl⟩
  have N2 := Fr.app N1 M2
  refine q_istoreN B X2 d16_14 rfl rfl rfl ?_
  refine q_iloadN B X2 d16_15 rfl rfl ?_
  refine q_aloadN B X2 d16_16 rfl rfl rfl ?_
  refine qal B X2 hZ e2 g0_V d16_17 ?_
  show G (T2.setTop (mkF m 18 #[oa t, oi 61, oi 0, oi (Int32.ofNat cs.length)] [(.int (Int32.ofNat cs.length)), (.int (Int32.ofNat cs.length))]))
  refine qS B X2 hZ hown 81 3 4 5 rfl rfl rfl rfl (own_minnn hw (Int32.ofNat cs.length) O0) e2 own_pd8 rfl rfl d16_18 0 rfl rfl rfl (by decide) ?_
  rintro T4 h4 _ L4 X4 e4 ⟨rfl, M4, rfl⟩
  have N4 := Fr.app N2 M4
  refine q_istoreN B X4 d16_21 rfl rfl rfl ?_
  refine q_iloadN B X4 d16_22 rfl rfl ?_
  refine q_iloadN B X4 d16_23 rfl rfl ?_
  by_cases hc24_5 : (0 : Int32) < (Int32.ofNat cs.length)
  · skip
    refine q_icmpYes 29 B X4 d16_24 rfl (tlt hc24_5).1 rfl rfl (by decide) ?_
    refine q_aloadN B X4 d16_29 rfl rfl rfl ?_
    refine q_iloadN B X4 d16_30 rfl rfl ?_
    refine q_iloadN B X4 d16_31 rfl rfl ?_
    refine q_iloadN B X4 d16_32 rfl rfl ?_
    show G (T4.setTop (mkF m 33 #[oa t, oi 61, oi 0, oi (Int32.ofNat cs.length)] [(.int (Int32.ofNat cs.length)), (.int 0), (.int 61), (.ref t)]))
    refine qS B X4 hZ hown 82 83 73 84 rfl rfl rfl rfl (own_ioc hw cs O0 g0_V g1_hcap g2_h8) e4 own_pd9 rfl rfl d16_33 0 rfl rfl rfl (by decide) ?_
    rintro T6 h6 _ L6 X6 e6 ⟨r_6, rfl, M6, rfl, r6_0⟩
    have N6 := Fr.app N4 M6
    show G (T6.setTop (mkF m 36 #[oa t, oi 61, oi 0, oi (Int32.ofNat cs.length)] [(.int r_6)]))
    exact qRI B hR hret X6 d16_36 e6 ⟨r_6, rfl, N6, rfl, r6_0⟩ (by decide)
  · skip
    refine q_icmpNo B X4 d16_24 rfl (flt hc24_5).1 rfl ?_
    refine q_iconst B X4 d16_27 rfl ?_
    show G (T4.setTop (mkF m 28 #[oa t, oi 61, oi 0, oi (Int32.ofNat cs.length)] [(.int (-1))]))
    exact qRI B hR hret X4 d16_28 e4 ⟨(-1 : Int32), rfl, N4, rfl, (own_m1 (own_pos0 hc24_5 (by omega)))⟩ (by decide)
theorem own_sio2 (hw : own_W Z a0) {a t : Addr} {kt : ClassId} (cs : List Int32) {cpt : Int32} (O0 : own_Old Z h0) (g0_E : Exa Z h0 a "java/lang/String") (g1_F : Fld Z h0 a "java/lang/String" "coder" "B" (.int 0)) (g2_F : Fld Z h0 a "java/lang/String" "value" "[B" (.ref t)) (g3_V : Arv Z h0 t kt .byte (Int32.ofNat cs.length) (cs.map fun c => Value.int c.toInt8.toInt32) (.int 0)) (g4_hcap : cs.length ≤ 8) (g5_h8 : ∀ c ∈ cs, 0 ≤ c.toInt ∧ c.toInt ≤ 255) (g6_S : Sta Z Z.heap "java/lang/String" "COMPACT_STRINGS" "Z" (.int cpt)) (g7_hcpt : ¬ (cpt = (0 : Int32))) : own_Con l Z ⟨"java/lang/String", "indexOf", "(II)I"⟩ jdk_42_method_80_code 3 (some .int) [] ⟨2, 0, 0, 32⟩ #[(.ref a), (.int 61), (.int 0)] h0 (fun rv rh rL => ∃ (r : Int32), rv = some (.int r) ∧ own_Fr Z rL ∧ h0 = rh ∧ (r < (0 : Int32) ↔ ∀ c ∈ cs, ¬ (c = (61 : Int32)))) := by
  refine own_st hw (plainFor_of_name (by decide +kernel)) #[oa a, oi 61, oi 0] (fun m => by first | (simp [entryFrame, mkF, argsToLocals, Value.category]; done) | rfl) fun p e s m below meth c s₁ G B hown hnm hret hZ X0 e0 N0 hR => ?_
  refine q_aloadN B X0 d12_0 rfl rfl rfl ?_
  show G (s₁.setTop (mkF m 1 #[oa a, oi 61, oi 0] [(.ref a)]))
  refine qV B X0 hZ hown 56 57 59 58 15 60 rfl rfl rfl rfl rfl rfl (own_isl0 hw O0 g1_F g6_S g7_hcpt) e0 g0_E own_pd6 rfl rfl d12_1 0 rfl rfl rfl (by decide) ?_
  rintro T1 h1 _ L1 X1 e1 ⟨rfl, M1, rfl⟩
  have N1 := Fr.app N0 M1
  refine q_ifNo B X1 d12_4 rfl ((if0 _ _).trans (feq (by decide)).1) rfl ?_
  refine q_aloadN B X1 d12_7 rfl rfl rfl ?_
  refine qgf B X1 hZ hown 40 rfl Via.refl e1 g2_F d12_8 fun T2 X2 e2 => ?_
  refine q_iloadN B X2 d12_11 rfl rfl ?_
  refine q_iloadN B X2 d12_12 rfl rfl ?_
  refine q_aloadN B X2 d12_13 rfl rfl rfl ?_
  show G (T2.setTop (mkF m 14 #[oa a, oi 61, oi 0] [(.ref a), (.int 0), (.int 61), (.ref t)]))
  refine qV B X2 hZ hown 61 62 64 63 15 65 rfl rfl rfl rfl rfl rfl (own_lenL hw O0 g0_E g1_F g2_F g3_V g6_S g7_hcpt) e2 g0_E own_pd7 rfl rfl d12_14 3 rfl rfl rfl (by decide) ?_
  rintro T3 h3 _ L3 X3 e3 ⟨rfl, M3, rfl⟩
  have N3 := Fr.app N1 M3
  show G (T3.setTop (mkF m 17 #[oa a, oi 61, oi 0] [(.int (Int32.ofNat cs.length)), (.int 0), (.int 61), (.ref t)]))
  refine qS B X3 hZ hown 71 72 73 74 rfl rfl rfl rfl (own_iol hw cs O0 g3_V g4_hcap g5_h8) e3 own_pd9 rfl rfl d12_17 0 rfl rfl rfl (by decide) ?_
  rintro T4 h4 _ L4 X4 e4 ⟨r_4, rfl, M4, rfl, r4_0⟩
  have N4 := Fr.app N3 M4
  refine q_goto 36 B X4 d12_20 rfl rfl (by decide) ?_
  show G (T4.setTop (mkF m 36 #[oa a, oi 61, oi 0] [(.int r_4)]))
  exact qRI B hR hret X4 d12_36 e4 ⟨r_4, rfl, N4, rfl, r4_0⟩ (by decide)
theorem own_sio1 (hw : own_W Z a0) {a t : Addr} {kt : ClassId} (cs : List Int32) {cpt : Int32} (O0 : own_Old Z h0) (g0_E : Exa Z h0 a "java/lang/String") (g1_F : Fld Z h0 a "java/lang/String" "coder" "B" (.int 0)) (g2_F : Fld Z h0 a "java/lang/String" "value" "[B" (.ref t)) (g3_V : Arv Z h0 t kt .byte (Int32.ofNat cs.length) (cs.map fun c => Value.int c.toInt8.toInt32) (.int 0)) (g4_hcap : cs.length ≤ 8) (g5_h8 : ∀ c ∈ cs, 0 ≤ c.toInt ∧ c.toInt ≤ 255) (g6_S : Sta Z Z.heap "java/lang/String" "COMPACT_STRINGS" "Z" (.int cpt)) (g7_hcpt : ¬ (cpt = (0 : Int32))) : own_Con l Z ⟨"java/lang/String", "indexOf", "(I)I"⟩ jdk_42_method_79_code 2 (some .int) [] ⟨3, 0, 0, 46⟩ #[(.ref a), (.int 61)] h0 (fun rv rh rL => ∃ (r : Int32), rv = some (.int r) ∧ own_Fr Z rL ∧ h0 = rh ∧ (r < (0 : Int32) ↔ ∀ c ∈ cs, ¬ (c = (61 : Int32)))) := by
  refine own_st hw (plainFor_of_name (by decide +kernel)) #[oa a, oi 61] (fun _ => rfl) fun p e s m below meth c s₁ G B hown hnm hret hZ X0 e0 N0 hR => ?_
  refine q_aloadN B X0 d11_0 rfl rfl rfl ?_
  refine q_iloadN B X0 d11_1 rfl rfl ?_
  refine q_iconst B X0 d11_2 rfl ?_
  show G (s₁.setTop (mkF m 3 #[oa a, oi 61] [(.int 0), (.int 61), (.ref a)]))
  refine qV B X0 hZ hown 51 52 54 53 15 55 rfl rfl rfl rfl rfl rfl (own_sio2 hw cs O0 g0_E g1_F g2_F g3_V g4_hcap g5_h8 g6_S g7_hcpt) e0 g0_E own_pd8 rfl rfl d11_3 0 rfl rfl rfl (by decide) ?_
  rintro T1 h1 _ L1 X1 e1 ⟨r_1, rfl, M1, rfl, r1_0⟩
  have N1 := Fr.app N0 M1
  show G (T1.setTop (mkF m 6 #[oa a, oi 61] [(.int r_1)]))
  exact qRI B hR hret X1 d11_6 e1 ⟨r_1, rfl, N1, rfl, r1_0⟩ (by decide)
theorem own_gud (hw : own_W Z a0) {dc : Addr} (O0 : own_Old Z h0) (g0_S : Sta Z Z.heap "java/util/Base64$Decoder" "RFC4648_URLSAFE" "Ljava/util/Base64$Decoder;" (.ref dc)) : own_Con l Z ⟨"java/util/Base64", "getUrlDecoder", "()Ljava/util/Base64$Decoder;"⟩ jdk_2448_method_7_code 0 (some (.object "java/util/Base64$Decoder")) [] ⟨0, 0, 0, 0⟩ #[] h0 (fun rv rh rL => rv = some (.ref dc) ∧ own_Fr Z rL ∧ h0 = rh) := by
  refine own_st hw (plainFor_of_name (by decide +kernel)) #[] (fun _ => rfl) fun p e s m below meth c s₁ G B hown hnm hret hZ X0 e0 N0 hR => ?_
  refine qgs B X0 hZ hown 89 rfl Via.refl e0 g0_S O0 d20_0 fun T1 X1 e1 => ?_
  show G (T1.setTop (mkF m 3 #[] [(.ref dc)]))
  exact qRA B hR hret rfl rfl X1 d20_3 e1 ⟨rfl, N0, rfl⟩ (by decide)
theorem own_e3 (hw : own_W Z a0) {t : Addr} {kt : ClassId} {n : Int32} {vs : List Value} (O0 : own_Old Z h0) (g0_E : Exa Z h0 t "[B") (g1_V : Arv Z h0 t kt .byte n vs (.int 0)) (g2_hn8 : n.toNatClampNeg ≤ 8) : own_Con l Z ⟨"java/lang/String", "encode8859_1", "(B[BZ)[B"⟩ jdk_42_method_27_code 10 (some (.array .byte)) [] ⟨1, 1, 8, 14⟩ #[(.int 0), (.ref t), (.int 1)] h0 (fun rv rh rL => ∃ (u : Addr) (ku : ClassId), rv = some (.ref u) ∧ own_Fr Z rL ∧ Keep h0 rh [] ∧ h0.size ≤ u ∧ (Arv Z rh u ku .byte n vs (.int 0))) := by
  refine own_st hw (plainFor_of_name (by decide +kernel)) #[oi 0, oa t, oi 1, .unset, .unset, .unset, .unset, .unset, .unset, .unset] (fun m => by first | (simp [entryFrame, mkF, argsToLocals, Value.category]; done) | rfl) fun p e s m below meth c s₁ G B hown hnm hret hZ X0 e0 N0 hR => ?_
  obtain ⟨hG, hx, hby, hml, -⟩ := id B
  refine q_iloadN B X0 d25_0 rfl rfl ?_
  refine q_ifNo B X0 d25_1 rfl ((if0 _ _).trans (teq (by decide)).2) rfl ?_
  refine q_aloadN B X0 d25_4 rfl rfl rfl ?_
  show G (s₁.setTop (mkF m 5 #[oi 0, oa t, oi 1, .unset, .unset, .unset, .unset, .unset, .unset, .unset] [(.ref t)]))
  obtain ⟨T1, h1, X1, e1, E1, V1, A1, st1⟩ := cloneH X0 hx hZ hown (ow hw 115 rfl) (ow hw 116 rfl) (ow hw 120 rfl) (ow hw 118 rfl) (ow hw 119 rfl) (ow hw 121 rfl) e0 (Arv.arh g1_V) g0_E (g := (mkF m 5 #[oi 0, oa t, oi 1, .unset, .unset, .unset, .unset, .unset, .unset, .unset] [(.ref t)])) rfl (by rw [hml]; rfl) rfl (hb hby d25_5) (by decide) (W := 0) (cap := 8) (by show 2 * 0 + _ ≤ _; exact Nat.le_of_eq rfl) (by decide) g2_hn8 (by decide) (by decide)
  obtain ⟨b1, z1⟩ : ∃ z, z = h0.size := ⟨_, rfl⟩
  rw [← z1] at A1 V1 st1
  refine hG _ _ st1 ?_
  have K1 := (Keep.refl h0 []).ext E1
  have O1 := O0.ext E1
  show G (T1.setTop (mkF m 8 #[oi 0, oa t, oi 1, .unset, .unset, .unset, .unset, .unset, .unset, .unset] [(.ref b1)]))
  obtain ⟨T2, X2, e2, st2⟩ := castY X1 hx hZ hown (ow hw 122 rfl) e1 (Ins.self A1) (g := (mkF m 8 #[oi 0, oa t, oi 1, .unset, .unset, .unset, .unset, .unset, .unset, .unset] [(.ref b1)])) rfl rfl (hb hby d25_8)
  refine hG _ _ st2 ?_
  show G (T2.setTop (mkF m 11 #[oi 0, oa t, oi 1, .unset, .unset, .unset, .unset, .unset, .unset, .unset] [(.ref b1)]))
  exact qRA B hR hret rfl rfl X2 d25_11 e2 ⟨b1, kt, rfl, N0, K1, (Nat.le_trans (Keep.refl h0 []).1 (Nat.le_of_eq z1.symm)), V1⟩ (by decide)
theorem own_e2 (hw : own_W Z a0) {t : Addr} {kt : ClassId} {n : Int32} {vs : List Value} (O0 : own_Old Z h0) (g0_E : Exa Z h0 t "[B") (g1_V : Arv Z h0 t kt .byte n vs (.int 0)) (g2_hn8 : n.toNatClampNeg ≤ 8) : own_Con l Z ⟨"java/lang/String", "encode8859_1", "(B[B)[B"⟩ jdk_42_method_26_code 2 (some (.array .byte)) [] ⟨2, 1, 8, 35⟩ #[(.int 0), (.ref t)] h0 (fun rv rh rL => ∃ (u : Addr) (ku : ClassId), rv = some (.ref u) ∧ own_Fr Z rL ∧ Keep h0 rh [] ∧ h0.size ≤ u ∧ (Arv Z rh u ku .byte n vs (.int 0))) := by
  refine own_st hw (plainFor_of_name (by decide +kernel)) #[oi 0, oa t] (fun _ => rfl) fun p e s m below meth c s₁ G B hown hnm hret hZ X0 e0 N0 hR => ?_
  refine q_iloadN B X0 d24_0 rfl rfl ?_
  refine q_aloadN B X0 d24_1 rfl rfl rfl ?_
  refine q_iconst B X0 d24_2 rfl ?_
  show G (s₁.setTop (mkF m 3 #[oi 0, oa t] [(.int 1), (.ref t), (.int 0)]))
  refine qS B X0 hZ hown 112 113 15 114 rfl rfl rfl rfl (own_e3 hw O0 g0_E g1_V g2_hn8) e0 own_pd13 rfl rfl d24_3 0 rfl rfl rfl (by decide) ?_
  rintro T1 h1 _ L1 X1 e1 ⟨u_1, ku_1, rfl, M1, J1, y1_0, r1_0⟩
  have N1 := Fr.app N0 M1
  have K1 := (Keep.refl h0 []).trans J1 all0
  have O1 := O0.keep J1 all0
  show G (T1.setTop (mkF m 6 #[oi 0, oa t] [(.ref u_1)]))
  exact qRA B hR hret rfl rfl X1 d24_6 e1 ⟨u_1, ku_1, rfl, N1, K1, (Nat.le_trans (Keep.refl h0 []).1 y1_0), r1_0⟩ (by decide)
theorem own_en (hw : own_W Z a0) {iso u8 t : Addr} {kt : ClassId} {n : Int32} {vs : List Value} (O0 : own_Old Z h0) (g0_S : Sta Z Z.heap "sun/nio/cs/ISO_8859_1" "INSTANCE" "Lsun/nio/cs/ISO_8859_1;" (.ref iso)) (g1_S : Sta Z Z.heap "sun/nio/cs/UTF_8" "INSTANCE" "Lsun/nio/cs/UTF_8;" (.ref u8)) (g2_hiu : iso ≠ u8) (g3_E : Exa Z h0 t "[B") (g4_V : Arv Z h0 t kt .byte n vs (.int 0)) (g5_hn8 : n.toNatClampNeg ≤ 8) : own_Con l Z ⟨"java/lang/String", "encode", "(Ljava/nio/charset/Charset;B[B)[B"⟩ jdk_42_method_18_code 3 (some (.array .byte)) [] ⟨3, 1, 8, 48⟩ #[(.ref iso), (.int 0), (.ref t)] h0 (fun rv rh rL => ∃ (u : Addr) (ku : ClassId), rv = some (.ref u) ∧ own_Fr Z rL ∧ Keep h0 rh [] ∧ h0.size ≤ u ∧ (Arv Z rh u ku .byte n vs (.int 0))) := by
  refine own_st hw (plainFor_of_name (by decide +kernel)) #[oa iso, oi 0, oa t] (fun m => by first | (simp [entryFrame, mkF, argsToLocals, Value.category]; done) | rfl) fun p e s m below meth c s₁ G B hown hnm hret hZ X0 e0 N0 hR => ?_
  obtain ⟨hG, hx, hby, hml, -⟩ := id B
  refine q_aloadN B X0 d23_0 rfl rfl rfl ?_
  refine qgs B X0 hZ hown 106 rfl Via.refl e0 g1_S O0 d23_1 fun T1 X1 e1 => ?_
  refine hG _ _ (fun t_ k_ => Jvm.RoadKit.acmp (g := (mkF m 4 #[oa iso, oi 0, oa t] [(.ref u8), (.ref iso)])) X1 hx rfl rfl rfl (pc0 := 4) (pc' := 14) (same := false) rfl (hb hby d23_4) rfl (decide_eq_false fun q => g2_hiu (Value.ref.inj q)) (by decide) (by decide) k_) ?_
  refine q_aloadN B X1 d23_14 rfl rfl rfl ?_
  refine qgs B X1 hZ hown 108 rfl Via.refl e1 g0_S O0 d23_15 fun T2 X2 e2 => ?_
  refine hG _ _ (fun t_ k_ => Jvm.RoadKit.acmp (g := (mkF m 18 #[oa iso, oi 0, oa t] [(.ref iso), (.ref iso)])) X2 hx rfl rfl rfl (pc0 := 18) (pc' := 21) (same := true) rfl (hb hby d23_18) rfl (decide_eq_true rfl) (by decide) (by decide) k_) ?_
  refine q_iloadN B X2 d23_21 rfl rfl ?_
  refine q_aloadN B X2 d23_22 rfl rfl rfl ?_
  show G (T2.setTop (mkF m 23 #[oa iso, oi 0, oa t] [(.ref t), (.int 0)]))
  refine qS B X2 hZ hown 109 110 15 111 rfl rfl rfl rfl (own_e2 hw O0 g3_E g4_V g5_hn8) e2 own_pd14 rfl rfl d23_23 0 rfl rfl rfl (by decide) ?_
  rintro T3 h3 _ L3 X3 e3 ⟨u_3, ku_3, rfl, M3, J3, y3_0, r3_0⟩
  have N3 := Fr.app N0 M3
  have K3 := (Keep.refl h0 []).trans J3 all0
  have O3 := O0.keep J3 all0
  show G (T3.setTop (mkF m 26 #[oa iso, oi 0, oa t] [(.ref u_3)]))
  exact qRA B hR hret rfl rfl X3 d23_26 e3 ⟨u_3, ku_3, rfl, N3, K3, (Nat.le_trans (Keep.refl h0 []).1 y3_0), r3_0⟩ (by decide)
theorem own_gby (hw : own_W Z a0) {a iso u8 : Addr} {cpt : Int32} {t : Addr} {kt : ClassId} {n : Int32} {vs : List Value} (O0 : own_Old Z h0) (g0_S : Sta Z Z.heap "sun/nio/cs/ISO_8859_1" "INSTANCE" "Lsun/nio/cs/ISO_8859_1;" (.ref iso)) (g1_S : Sta Z Z.heap "sun/nio/cs/UTF_8" "INSTANCE" "Lsun/nio/cs/UTF_8;" (.ref u8)) (g2_hiu : iso ≠ u8) (g3_E : Exa Z h0 a "java/lang/String") (g4_F : Fld Z h0 a "java/lang/String" "coder" "B" (.int 0)) (g5_F : Fld Z h0 a "java/lang/String" "value" "[B" (.ref t)) (g6_E : Exa Z h0 t "[B") (g7_V : Arv Z h0 t kt .byte n vs (.int 0)) (g8_hn8 : n.toNatClampNeg ≤ 8) (g9_S : Sta Z Z.heap "java/lang/String" "COMPACT_STRINGS" "Z" (.int cpt)) (g10_hcpt : ¬ (cpt = (0 : Int32))) : own_Con l Z ⟨"java/lang/String", "getBytes", "(Ljava/nio/charset/Charset;)[B"⟩ jdk_42_method_64_code 2 (some (.array .byte)) [] ⟨4, 1, 8, 62⟩ #[(.ref a), (.ref iso)] h0 (fun rv rh rL => ∃ (u : Addr) (ku : ClassId), rv = some (.ref u) ∧ own_Fr Z rL ∧ Keep h0 rh [] ∧ h0.size ≤ u ∧ (Arv Z rh u ku .byte n vs (.int 0))) := by
  refine own_st hw (plainFor_of_name (by decide +kernel)) #[oa a, oa iso] (fun _ => rfl) fun p e s m below meth c s₁ G B hown hnm hret hZ X0 e0 N0 hR => ?_
  refine q_aloadN B X0 d22_0 rfl rfl rfl ?_
  refine q_ifnonnullYes 12 B X0 d22_1 rfl rfl rfl (by decide) ?_
  refine q_aloadN B X0 d22_12 rfl rfl rfl ?_
  refine q_aloadN B X0 d22_13 rfl rfl rfl ?_
  show G (s₁.setTop (mkF m 14 #[oa a, oa iso] [(.ref a), (.ref iso)]))
  refine qV B X0 hZ hown 66 67 69 68 15 70 rfl rfl rfl rfl rfl rfl (own_cod0 hw O0 g4_F g9_S g10_hcpt) e0 g3_E own_pd5 rfl rfl d22_14 1 rfl rfl rfl (by decide) ?_
  rintro T1 h1 _ L1 X1 e1 ⟨rfl, M1, rfl⟩
  have N1 := Fr.app N0 M1
  refine q_aloadN B X1 d22_17 rfl rfl rfl ?_
  refine qgf B X1 hZ hown 40 rfl Via.refl e1 g5_F d22_18 fun T2 X2 e2 => ?_
  show G (T2.setTop (mkF m 21 #[oa a, oa iso] [(.ref t), (.int 0), (.ref iso)]))
  refine qS B X2 hZ hown 103 104 15 105 rfl rfl rfl rfl (own_en hw O0 g0_S g1_S g2_hiu g6_E g7_V g8_hn8) e2 own_pd15 rfl rfl d22_21 0 rfl rfl rfl (by decide) ?_
  rintro T3 h3 _ L3 X3 e3 ⟨u_3, ku_3, rfl, M3, J3, y3_0, r3_0⟩
  have N3 := Fr.app N1 M3
  have K3 := (Keep.refl h0 []).trans J3 all0
  have O3 := O0.keep J3 all0
  show G (T3.setTop (mkF m 24 #[oa a, oa iso] [(.ref u_3)]))
  exact qRA B hR hret rfl rfl X3 d22_24 e3 ⟨u_3, ku_3, rfl, N3, K3, (Nat.le_trans (Keep.refl h0 []).1 y3_0), r3_0⟩ (by decide)
theorem own_dol0 (hw : own_W Z a0) {dc tab sr : Addr} {ks : ClassId} (O0 : own_Old Z h0) (g0_S : Sta Z Z.heap "java/util/Base64$Decoder" "fromBase64URL" "[I" (.ref tab)) (g1_E : Exa Z h0 dc "java/util/Base64$Decoder") (g2_F : Fld Z h0 dc "java/util/Base64$Decoder" "isURL" "Z" (.int 1)) (g3_F : Fld Z h0 dc "java/util/Base64$Decoder" "isMIME" "Z" (.int 0)) (g4_V : Arv Z h0 sr ks .byte (0 : Int32) [] (.int 0)) : own_Con l Z ⟨"java/util/Base64$Decoder", "decodedOutLength", "([BII)I"⟩ jdk_2450_method_7_code 9 (some .int) [] ⟨0, 0, 0, 0⟩ #[(.ref dc), (.ref sr), (.int 0), (.int 0)] h0 (fun rv rh rL => rv = some (.int 0) ∧ own_Fr Z rL ∧ h0 = rh) := by
  refine own_st hw (plainFor_of_name (by decide +kernel)) #[oa dc, oa sr, oi 0, oi 0, .unset, .unset, .unset, .unset, .unset] (fun m => by first | (simp [entryFrame, mkF, argsToLocals, Value.category]; done) | rfl) fun p e s m below meth c s₁ G B hown hnm hret hZ X0 e0 N0 hR => ?_
  refine q_aloadN B X0 d27_0 rfl rfl rfl ?_
  refine qgf B X0 hZ hown 134 rfl Via.refl e0 g2_F d27_1 fun T1 X1 e1 => ?_
  refine q_ifNo B X1 d27_4 rfl ((if0 _ _).trans (feq (by decide)).1) rfl ?_
  refine qgs B X1 hZ hown 136 rfl Via.refl e1 g0_S O0 d27_7 fun T2 X2 e2 => ?_
  refine q_goto 16 B X2 d27_10 rfl rfl (by decide) ?_
  refine q_astore B X2 d27_16 rfl rfl rfl rfl ?_
  refine q_iconst B X2 d27_18 rfl ?_
  refine q_istore B X2 d27_19 rfl rfl rfl ?_
  refine q_iloadN B X2 d27_21 rfl rfl ?_
  refine q_iloadN B X2 d27_22 rfl rfl ?_
  refine q_isub B X2 d27_23 rfl rfl ?_
  show G (T2.setTop (mkF m 24 #[oa dc, oa sr, oi 0, oi 0, oa tab, oi 0, .unset, .unset, .unset] [(.int ((0 : Int32) - (0 : Int32)))]))
  rw [show ((0 : Int32) - (0 : Int32)) = (0 : Int32) from by decide]
  show G (T2.setTop (mkF m 24 #[oa dc, oa sr, oi 0, oi 0, oa tab, oi 0, .unset, .unset, .unset] [(.int 0)]))
  refine q_istore B X2 d27_24 rfl rfl rfl ?_
  refine q_iload B X2 d27_26 rfl rfl ?_
  refine q_ifNo B X2 d27_28 rfl ((if0 _ _).trans (teq (by decide)).2) rfl ?_
  refine q_iconst B X2 d27_31 rfl ?_
  show G (T2.setTop (mkF m 32 #[oa dc, oa sr, oi 0, oi 0, oa tab, oi 0, oi 0, .unset, .unset] [(.int 0)]))
  exact qRI B hR hret X2 d27_32 e2 ⟨rfl, N0, rfl⟩ (by decide)
theorem own_dec00 (hw : own_W Z a0) {dc tab : Addr} {ktab : ClassId} {sr : Addr} {ks : ClassId} {o : Addr} {ko : ClassId} (O0 : own_Old Z h0) (g0_S : Sta Z Z.heap "java/util/Base64$Decoder" "fromBase64URL" "[I" (.ref tab)) (g1_E : Exa Z h0 dc "java/util/Base64$Decoder") (g2_F : Fld Z h0 dc "java/util/Base64$Decoder" "isURL" "Z" (.int 1)) (g3_F : Fld Z h0 dc "java/util/Base64$Decoder" "isMIME" "Z" (.int 0)) (g4_V : Arv Z h0 tab ktab .int 256 (own_TAB.map Value.int) (.int 0)) (g5_V : Arv Z h0 sr ks .byte (0 : Int32) [] (.int 0)) (g6_V : Arv Z h0 o ko .byte (0 : Int32) [] (.int 0)) (g7_G : Z.heap.size ≤ o) (g8_ne_sr_o : sr ≠ o) (g9_ne_tab_o : tab ≠ o) (g10_ne_dc_o : dc ≠ o) : own_Con l Z ⟨"java/util/Base64$Decoder", "decode0", "([BII[B)I"⟩ jdk_2450_method_9_code 11 (some .int) [] ⟨0, 0, 0, 0⟩ #[(.ref dc), (.ref sr), (.int 0), (.int 0), (.ref o)] h0 (fun rv rh rL => rv = some (.int 0) ∧ own_Fr Z rL ∧ Keep h0 rh [o] ∧ (Arv Z rh o ko .byte (0 : Int32) [] (.int 0))) := by
  refine own_st hw (plainFor_of_name (by decide +kernel)) #[oa dc, oa sr, oi 0, oi 0, oa o, .unset, .unset, .unset, .unset, .unset, .unset] (fun m => by first | (simp [entryFrame, mkF, argsToLocals, Value.category]; done) | rfl) fun p e s m below meth c s₁ G B hown hnm hret hZ X0 e0 N0 hR => ?_
  refine q_aloadN B X0 d28_0 rfl rfl rfl ?_
  refine qgf B X0 hZ hown 134 rfl Via.refl e0 g2_F d28_1 fun T1 X1 e1 => ?_
  refine q_ifNo B X1 d28_4 rfl ((if0 _ _).trans (feq (by decide)).1) rfl ?_
  refine qgs B X1 hZ hown 136 rfl Via.refl e1 g0_S O0 d28_7 fun T2 X2 e2 => ?_
  refine q_goto 16 B X2 d28_10 rfl rfl (by decide) ?_
  refine q_astore B X2 d28_16 rfl rfl rfl rfl ?_
  refine q_iconst B X2 d28_18 rfl ?_
  refine q_istore B X2 d28_19 rfl rfl rfl ?_
  refine q_iconst B X2 d28_21 rfl ?_
  refine q_istore B X2 d28_22 rfl rfl rfl ?_
  refine q_bipush B X2 d28_24 rfl ?_
  refine q_istore B X2 d28_26 rfl rfl rfl ?_
  refine q_iloadN B X2 d28_28 rfl rfl ?_
  refine q_iloadN B X2 d28_29 rfl rfl ?_
  refine q_icmpYes 281 B X2 d28_30 rfl (flt (by decide)).2.1 rfl rfl (by decide) ?_
  refine q_iload B X2 d28_281 rfl rfl ?_
  refine q_bipush B X2 d28_283 rfl ?_
  show G (T2.setTop (mkF m 285 #[oa dc, oa sr, oi 0, oi 0, oa o, oa tab, oi 0, oi 0, oi 18, .unset, .unset] [(.int 6), (.int 18)]))
  refine q_icmpYes 305 B X2 d28_285 rfl (feq (by decide)).2 rfl rfl (by decide) ?_
  refine q_iload B X2 d28_305 rfl rfl ?_
  refine q_ifYes 341 B X2 d28_307 rfl ((if0 _ _).trans (feq (by decide)).2) rfl rfl (by decide) ?_
  refine q_iload B X2 d28_341 rfl rfl ?_
  refine q_bipush B X2 d28_343 rfl ?_
  refine q_icmpYes 358 B X2 d28_345 rfl (feq (by decide)).2 rfl rfl (by decide) ?_
  refine q_iloadN B X2 d28_358 rfl rfl ?_
  refine q_iloadN B X2 d28_359 rfl rfl ?_
  refine q_icmpYes 416 B X2 d28_360 rfl (flt (by decide)).2.1 rfl rfl (by decide) ?_
  refine q_iload B X2 d28_416 rfl rfl ?_
  show G (T2.setTop (mkF m 418 #[oa dc, oa sr, oi 0, oi 0, oa o, oa tab, oi 0, oi 0, oi 18, .unset, .unset] [(.int 0)]))
  exact qRI B hR hret X2 d28_418 e2 ⟨rfl, N0, (Keep.refl h0 [o]), g6_V⟩ (by decide)
theorem own_decb0 (hw : own_W Z a0) {dc tab : Addr} {ktab : ClassId} {sr : Addr} {ks : ClassId} (O0 : own_Old Z h0) (g0_S : Sta Z Z.heap "java/util/Base64$Decoder" "fromBase64URL" "[I" (.ref tab)) (g1_E : Exa Z h0 dc "java/util/Base64$Decoder") (g2_F : Fld Z h0 dc "java/util/Base64$Decoder" "isURL" "Z" (.int 1)) (g3_F : Fld Z h0 dc "java/util/Base64$Decoder" "isMIME" "Z" (.int 0)) (g4_V : Arv Z h0 tab ktab .int 256 (own_TAB.map Value.int) (.int 0)) (g5_V : Arv Z h0 sr ks .byte (0 : Int32) [] (.int 0)) : own_Con l Z ⟨"java/util/Base64$Decoder", "decode", "([B)[B"⟩ jdk_2450_method_2_code 4 (some (.array .byte)) [] ⟨1, 1, 0, 22⟩ #[(.ref dc), (.ref sr)] h0 (fun rv rh rL => ∃ (o : Addr) (ko : ClassId), rv = some (.ref o) ∧ own_Fr Z rL ∧ Keep h0 rh [] ∧ h0.size ≤ o ∧ (Arv Z rh o ko .byte (0 : Int32) [] (.int 0))) := by
  refine own_st hw (plainFor_of_name (by decide +kernel)) #[oa dc, oa sr, .unset, .unset] (fun _ => rfl) fun p e s m below meth c s₁ G B hown hnm hret hZ X0 e0 N0 hR => ?_
  refine q_aloadN B X0 d26_0 rfl rfl rfl ?_
  refine q_aloadN B X0 d26_1 rfl rfl rfl ?_
  refine q_iconst B X0 d26_2 rfl ?_
  refine q_aloadN B X0 d26_3 rfl rfl rfl ?_
  refine qal B X0 hZ e0 g5_V d26_4 ?_
  show G (s₁.setTop (mkF m 5 #[oa dc, oa sr, .unset, .unset] [(.int 0), (.int 0), (.ref sr), (.ref dc)]))
  refine qP B X0 hZ hown 129 130 132 131 90 133 rfl rfl rfl rfl rfl rfl (own_dol0 hw O0 g0_S g1_E g2_F g3_F g5_V) e0 g1_E own_pd17 rfl rfl d26_5 0 rfl rfl rfl (by decide) ?_
  rintro T2 h2 _ L2 X2 e2 ⟨rfl, M2, rfl⟩
  have N2 := Fr.app N0 M2
  refine qna 0 B X2 hZ 31 rfl e2 d26_8 (by decide) (by decide) (by decide) fun T3 h3 k3 b3 z3 X3 e3 E3 A3 => ?_
  have K3 := (Keep.refl h0 []).ext E3
  have O3 := O0.ext E3
  have V3 : Arv Z h3 b3 k3 .byte (0 : Int32) [] (.int 0) := (Arv.new A3 (by decide)).pad (pad_rep [] (.int 0) 0)
  refine q_astoreN B X3 d26_10 rfl rfl rfl rfl ?_
  refine q_aloadN B X3 d26_11 rfl rfl rfl ?_
  refine q_aloadN B X3 d26_12 rfl rfl rfl ?_
  refine q_iconst B X3 d26_13 rfl ?_
  refine q_aloadN B X3 d26_14 rfl rfl rfl ?_
  have f5 := (g5_V.ext E3)
  refine qal B X3 hZ e3 f5 d26_15 ?_
  refine q_aloadN B X3 d26_16 rfl rfl rfl ?_
  show G (T3.setTop (mkF m 17 #[oa dc, oa sr, oa b3, .unset] [(.ref b3), (.int 0), (.int 0), (.ref sr), (.ref dc)]))
  have f7 := (g1_E.ext E3)
  have f8 := (g2_F.ext E3)
  have f9 := (g3_F.ext E3)
  have f10 := (g4_V.ext E3)
  refine qP B X3 hZ hown 141 142 144 143 90 145 rfl rfl rfl rfl rfl rfl (own_dec00 hw O3 g0_S f7 f8 f9 f10 f5 V3 (own_ge O0 (Nat.le_of_eq z3.symm)) (own_ne g5_V.lt (Nat.le_of_eq z3.symm)) (own_ne g4_V.lt (Nat.le_of_eq z3.symm)) (own_ne g1_E.lt (Nat.le_of_eq z3.symm))) e3 f7 own_pd18 rfl rfl d26_17 0 rfl rfl rfl (by decide) ?_
  rintro T6 h6 _ L6 X6 e6 ⟨rfl, M6, J6, r6_0⟩
  have N6 := Fr.app N2 M6
  have K6 := K3.trans J6 (allS (Or.inr (Nat.le_trans (Keep.refl h0 []).1 (Nat.le_of_eq z3.symm))) all0)
  have O6 := O3.keep J6 (allS (own_ge O0 (Nat.le_of_eq z3.symm)) all0)
  refine q_istoreN B X6 d26_20 rfl rfl rfl ?_
  refine q_iloadN B X6 d26_21 rfl rfl ?_
  refine q_aloadN B X6 d26_22 rfl rfl rfl ?_
  refine qal B X6 hZ e6 r6_0 d26_23 ?_
  refine q_icmpYes 33 B X6 d26_24 rfl (teq (by decide)).1 rfl rfl (by decide) ?_
  refine q_aloadN B X6 d26_33 rfl rfl rfl ?_
  show G (T6.setTop (mkF m 34 #[oa dc, oa sr, oa b3, oi 0] [(.ref b3)]))
  exact qRA B hR hret rfl rfl X6 d26_34 e6 ⟨b3, k3, rfl, N6, K6, (Nat.le_trans (Keep.refl h0 []).1 (Nat.le_of_eq z3.symm)), r6_0⟩ (by decide)
theorem own_decs0 (hw : own_W Z a0) {dc iso u8 tab : Addr} {ktab : ClassId} {a : Addr} {cpt : Int32} {t : Addr} {kt : ClassId} (O0 : own_Old Z h0) (g0_S : Sta Z Z.heap "sun/nio/cs/ISO_8859_1" "INSTANCE" "Lsun/nio/cs/ISO_8859_1;" (.ref iso)) (g1_S : Sta Z Z.heap "sun/nio/cs/UTF_8" "INSTANCE" "Lsun/nio/cs/UTF_8;" (.ref u8)) (g2_S : Sta Z Z.heap "java/util/Base64$Decoder" "fromBase64URL" "[I" (.ref tab)) (g3_hiu : iso ≠ u8) (g4_E : Exa Z h0 dc "java/util/Base64$Decoder") (g5_F : Fld Z h0 dc "java/util/Base64$Decoder" "isURL" "Z" (.int 1)) (g6_F : Fld Z h0 dc "java/util/Base64$Decoder" "isMIME" "Z" (.int 0)) (g7_V : Arv Z h0 tab ktab .int 256 (own_TAB.map Value.int) (.int 0)) (g8_E : Exa Z h0 a "java/lang/String") (g9_F : Fld Z h0 a "java/lang/String" "coder" "B" (.int 0)) (g10_F : Fld Z h0 a "java/lang/String" "value" "[B" (.ref t)) (g11_E : Exa Z h0 t "[B") (g12_V : Arv Z h0 t kt .byte (0 : Int32) [] (.int 0)) (g13_S : Sta Z Z.heap "java/lang/String" "COMPACT_STRINGS" "Z" (.int cpt)) (g14_hcpt : ¬ (cpt = (0 : Int32))) : own_Con l Z ⟨"java/util/Base64$Decoder", "decode", "(Ljava/lang/String;)[B"⟩ jdk_2450_method_3_code 2 (some (.array .byte)) [] ⟨5, 2, 8, 76⟩ #[(.ref dc), (.ref a)] h0 (fun rv rh rL => ∃ (o : Addr) (ko : ClassId), rv = some (.ref o) ∧ own_Fr Z rL ∧ Keep h0 rh [] ∧ h0.size ≤ o ∧ (Arv Z rh o ko .byte (0 : Int32) [] (.int 0))) := by
  refine own_st hw (plainFor_of_name (by decide +kernel)) #[oa dc, oa a] (fun _ => rfl) fun p e s m below meth c s₁ G B hown hnm hret hZ X0 e0 N0 hR => ?_
  refine q_aloadN B X0 d21_0 rfl rfl rfl ?_
  refine q_aloadN B X0 d21_1 rfl rfl rfl ?_
  refine qgs B X0 hZ hown 96 rfl Via.refl e0 g0_S O0 d21_2 fun T1 X1 e1 => ?_
  show G (T1.setTop (mkF m 5 #[oa dc, oa a] [(.ref iso), (.ref a), (.ref dc)]))
  refine qV B X1 hZ hown 98 99 101 100 15 102 rfl rfl rfl rfl rfl rfl (own_gby hw O0 g0_S g1_S g3_hiu g8_E g9_F g10_F g11_E g12_V (by decide) g13_S g14_hcpt) e1 g8_E own_pd16 rfl rfl d21_5 1 rfl rfl rfl (by decide) ?_
  rintro T2 h2 _ L2 X2 e2 ⟨u_2, ku_2, rfl, M2, J2, y2_0, r2_0⟩
  have N2 := Fr.app N0 M2
  have K2 := (Keep.refl h0 []).trans J2 all0
  have O2 := O0.keep J2 all0
  show G (T2.setTop (mkF m 8 #[oa dc, oa a] [(.ref u_2), (.ref dc)]))
  have f4 := (g4_E.keep J2)
  have f5 := (g5_F.keep J2 nin0)
  have f6 := (g6_F.keep J2 nin0)
  have f7 := (g7_V.keep J2 nin0)
  refine qV B X2 hZ hown 124 125 127 126 90 128 rfl rfl rfl rfl rfl rfl (own_decb0 hw O2 g2_S f4 f5 f6 f7 r2_0) e2 f4 own_pd19 rfl rfl d21_8 0 rfl rfl rfl (by decide) ?_
  rintro T3 h3 _ L3 X3 e3 ⟨o_3, ko_3, rfl, M3, J3, y3_0, r3_0⟩
  have N3 := Fr.app N2 M3
  have K3 := K2.trans J3 all0
  have O3 := O2.keep J3 all0
  show G (T3.setTop (mkF m 11 #[oa dc, oa a] [(.ref o_3)]))
  exact qRA B hR hret rfl rfl X3 d21_11 e3 ⟨o_3, ko_3, rfl, N3, K3, (Nat.le_trans K2.1 y3_0), r3_0⟩ (by decide)
theorem own_b64_0 (hw : own_W Z a0) {dc iso u8 tab : Addr} {ktab : ClassId} {a : Addr} {cpt : Int32} {t : Addr} {kt : ClassId} (O0 : own_Old Z h0) (g0_S : Sta Z Z.heap "java/util/Base64$Decoder" "RFC4648_URLSAFE" "Ljava/util/Base64$Decoder;" (.ref dc)) (g1_S : Sta Z Z.heap "sun/nio/cs/ISO_8859_1" "INSTANCE" "Lsun/nio/cs/ISO_8859_1;" (.ref iso)) (g2_S : Sta Z Z.heap "sun/nio/cs/UTF_8" "INSTANCE" "Lsun/nio/cs/UTF_8;" (.ref u8)) (g3_S : Sta Z Z.heap "java/util/Base64$Decoder" "fromBase64URL" "[I" (.ref tab)) (g4_hiu : iso ≠ u8) (g5_E : Exa Z h0 dc "java/util/Base64$Decoder") (g6_F : Fld Z h0 dc "java/util/Base64$Decoder" "isURL" "Z" (.int 1)) (g7_F : Fld Z h0 dc "java/util/Base64$Decoder" "isMIME" "Z" (.int 0)) (g8_V : Arv Z h0 tab ktab .int 256 (own_TAB.map Value.int) (.int 0)) (g9_E : Exa Z h0 a "java/lang/String") (g10_F : Fld Z h0 a "java/lang/String" "coder" "B" (.int 0)) (g11_F : Fld Z h0 a "java/lang/String" "value" "[B" (.ref t)) (g12_E : Exa Z h0 t "[B") (g13_V : Arv Z h0 t kt .byte (Int32.ofNat ([] : List Int32).length) (([] : List Int32).map fun c => Value.int c.toInt8.toInt32) (.int 0)) (g14_S : Sta Z Z.heap "java/lang/String" "COMPACT_STRINGS" "Z" (.int cpt)) (g15_hcpt : ¬ (cpt = (0 : Int32))) : own_Con l Z ⟨"com/example/research_access_policy/researchaccesspolicy/token/Base64Url", "decode", "(Ljava/lang/String;)[B"⟩ prog_16_method_2_code 1 (some (.array .byte)) [] ⟨6, 2, 8, 89⟩ #[(.ref a)] h0 (fun rv rh rL => ∃ (o : Addr) (ko : ClassId), rv = some (.ref o) ∧ own_Fr Z rL ∧ Keep h0 rh [] ∧ h0.size ≤ o ∧ (Arv Z rh o ko .byte (0 : Int32) [] (.int 0))) := by
  refine own_st hw (plainFor_of_name (by decide +kernel)) #[oa a] (fun _ => rfl) fun p e s m below meth c s₁ G B hown hnm hret hZ X0 e0 N0 hR => ?_
  refine q_aloadN B X0 d10_0 rfl rfl rfl ?_
  refine q_bipush B X0 d10_1 rfl ?_
  show G (s₁.setTop (mkF m 3 #[oa a] [(.int 61), (.ref a)]))
  refine qV B X0 hZ hown 46 47 49 48 15 50 rfl rfl rfl rfl rfl rfl (own_sio1 hw ([] : List Int32) O0 g9_E g10_F g11_F g13_V (Nat.le_of_ble_eq_true rfl) own_alln g14_S g15_hcpt) e0 g9_E own_pd11 rfl rfl d10_3 0 rfl rfl rfl (by decide) ?_
  rintro T1 h1 _ L1 X1 e1 ⟨r_1, rfl, M1, rfl, r1_0⟩
  have N1 := Fr.app N0 M1
  refine q_ifYes 19 B X1 d10_6 rfl ((if0 _ _).trans (tlt (r1_0.mpr own_alln)).1) rfl rfl (by decide) ?_
  show G (T1.setTop (mkF m 19 #[oa a] []))
  have W2 : Arv Z h0 t kt .byte (0 : Int32) [] (.int 0) := by have q := g13_V; simp only [List.map_cons, List.map_nil] at q; exact q
  show G (T1.setTop (mkF m 19 #[oa a] []))
  refine qS B X1 hZ hown 85 86 87 88 rfl rfl rfl rfl (own_gud hw O0 g0_S) e1 own_pd12 rfl rfl d10_19 0 rfl rfl rfl (by decide) ?_
  rintro T3 h3 _ L3 X3 e3 ⟨rfl, M3, rfl⟩
  have N3 := Fr.app N1 M3
  refine q_aloadN B X3 d10_22 rfl rfl rfl ?_
  show G (T3.setTop (mkF m 23 #[oa a] [(.ref a), (.ref dc)]))
  refine qV B X3 hZ hown 91 92 94 93 90 95 rfl rfl rfl rfl rfl rfl (own_decs0 hw O0 g1_S g2_S g3_S g4_hiu g5_E g6_F g7_F g8_V g9_E g10_F g11_F g12_E W2 g14_S g15_hcpt) e3 g5_E own_pd20 rfl rfl d10_23 0 rfl rfl rfl (by decide) ?_
  rintro T4 h4 _ L4 X4 e4 ⟨o_4, ko_4, rfl, M4, J4, y4_0, r4_0⟩
  have N4 := Fr.app N3 M4
  have K4 := (Keep.refl h0 []).trans J4 all0
  have O4 := O0.keep J4 all0
  show G (T4.setTop (mkF m 26 #[oa a] [(.ref o_4)]))
  exact qRA B hR hret rfl rfl X4 d10_26 e4 ⟨o_4, ko_4, rfl, N4, K4, (Nat.le_trans (Keep.refl h0 []).1 y4_0), r4_0⟩ (by decide)
theorem own_dol2 (hw : own_W Z a0) {dc tab sr : Addr} {ks : ClassId} {ch0 ch1 : Int32} (sv0 sv1 : Int32) (O0 : own_Old Z h0) (g0_S : Sta Z Z.heap "java/util/Base64$Decoder" "fromBase64URL" "[I" (.ref tab)) (g1_E : Exa Z h0 dc "java/util/Base64$Decoder") (g2_F : Fld Z h0 dc "java/util/Base64$Decoder" "isURL" "Z" (.int 1)) (g3_F : Fld Z h0 dc "java/util/Base64$Decoder" "isMIME" "Z" (.int 0)) (g4_V : Arv Z h0 sr ks .byte (2 : Int32) [(.int ch0), (.int ch1)] (.int 0)) (g5_hs0 : own_sy ch0 sv0) (g6_hs1 : own_sy ch1 sv1) : own_Con l Z ⟨"java/util/Base64$Decoder", "decodedOutLength", "([BII)I"⟩ jdk_2450_method_7_code 9 (some .int) [] ⟨0, 0, 0, 0⟩ #[(.ref dc), (.ref sr), (.int 0), (.int 2)] h0 (fun rv rh rL => rv = some (.int 1) ∧ own_Fr Z rL ∧ h0 = rh) := by
  refine own_st hw (plainFor_of_name (by decide +kernel)) #[oa dc, oa sr, oi 0, oi 2, .unset, .unset, .unset, .unset, .unset] (fun m => by first | (simp [entryFrame, mkF, argsToLocals, Value.category]; done) | rfl) fun p e s m below meth c s₁ G B hown hnm hret hZ X0 e0 N0 hR => ?_
  obtain ⟨hG, hx, hby, hml, -⟩ := id B
  refine q_aloadN B X0 d27_0 rfl rfl rfl ?_
  refine qgf B X0 hZ hown 134 rfl Via.refl e0 g2_F d27_1 fun T1 X1 e1 => ?_
  refine q_ifNo B X1 d27_4 rfl ((if0 _ _).trans (feq (by decide)).1) rfl ?_
  refine qgs B X1 hZ hown 136 rfl Via.refl e1 g0_S O0 d27_7 fun T2 X2 e2 => ?_
  refine q_goto 16 B X2 d27_10 rfl rfl (by decide) ?_
  refine q_astore B X2 d27_16 rfl rfl rfl rfl ?_
  refine q_iconst B X2 d27_18 rfl ?_
  refine q_istore B X2 d27_19 rfl rfl rfl ?_
  refine q_iloadN B X2 d27_21 rfl rfl ?_
  refine q_iloadN B X2 d27_22 rfl rfl ?_
  refine q_isub B X2 d27_23 rfl rfl ?_
  show G (T2.setTop (mkF m 24 #[oa dc, oa sr, oi 0, oi 2, oa tab, oi 0, .unset, .unset, .unset] [(.int ((2 : Int32) - (0 : Int32)))]))
  rw [show ((2 : Int32) - (0 : Int32)) = (2 : Int32) from by decide]
  show G (T2.setTop (mkF m 24 #[oa dc, oa sr, oi 0, oi 2, oa tab, oi 0, .unset, .unset, .unset] [(.int 2)]))
  refine q_istore B X2 d27_24 rfl rfl rfl ?_
  refine q_iload B X2 d27_26 rfl rfl ?_
  refine q_ifYes 33 B X2 d27_28 rfl ((if0 _ _).trans (feq (by decide)).2) rfl rfl (by decide) ?_
  refine q_iload B X2 d27_33 rfl rfl ?_
  refine q_iconst B X2 d27_35 rfl ?_
  refine q_icmpYes 66 B X2 d27_36 rfl (flt (by decide)).2.1 rfl rfl (by decide) ?_
  refine q_aloadN B X2 d27_66 rfl rfl rfl ?_
  refine qgf B X2 hZ hown 137 rfl Via.refl e2 g3_F d27_67 fun T3 X3 e3 => ?_
  refine q_ifYes 141 B X3 d27_70 rfl ((if0 _ _).trans (teq (by decide)).1) rfl rfl (by decide) ?_
  refine q_aloadN B X3 d27_141 rfl rfl rfl ?_
  refine q_iloadN B X3 d27_142 rfl rfl ?_
  refine q_iconst B X3 d27_143 rfl ?_
  refine q_isub B X3 d27_144 rfl rfl ?_
  show G (T3.setTop (mkF m 145 #[oa dc, oa sr, oi 0, oi 2, oa tab, oi 0, oi 2, .unset, .unset] [(.int ((2 : Int32) - (1 : Int32))), (.ref sr)]))
  rw [show ((2 : Int32) - (1 : Int32)) = (1 : Int32) from by decide]
  show G (T3.setTop (mkF m 145 #[oa dc, oa sr, oi 0, oi 2, oa tab, oi 0, oi 2, .unset, .unset] [(.int 1), (.ref sr)]))
  refine qlb (v := (.int ch1)) B X3 hZ e3 g4_V d27_145 (by decide) rfl ?_
  refine q_bipush B X3 d27_146 rfl ?_
  refine q_icmpYes 167 B X3 d27_148 rfl (feq (own_sy_e g6_hs1).2.2.1).2 rfl rfl (by decide) ?_
  refine q_iload B X3 d27_167 rfl rfl ?_
  refine q_ifNo B X3 d27_169 rfl ((if0 _ _).trans (teq (by decide)).2) rfl ?_
  refine q_iload B X3 d27_172 rfl rfl ?_
  refine q_iconst B X3 d27_174 rfl ?_
  refine q_iand B X3 d27_175 rfl rfl ?_
  show G (T3.setTop (mkF m 176 #[oa dc, oa sr, oi 0, oi 2, oa tab, oi 0, oi 2, .unset, .unset] [(.int ((2 : Int32) &&& (3 : Int32)))]))
  rw [show ((2 : Int32) &&& (3 : Int32)) = (2 : Int32) from by decide]
  show G (T3.setTop (mkF m 176 #[oa dc, oa sr, oi 0, oi 2, oa tab, oi 0, oi 2, .unset, .unset] [(.int 2)]))
  refine q_ifNo B X3 d27_176 rfl ((if0 _ _).trans (feq (by decide)).1) rfl ?_
  refine q_iconst B X3 d27_179 rfl ?_
  refine q_iload B X3 d27_180 rfl rfl ?_
  refine q_iconst B X3 d27_182 rfl ?_
  refine q_iand B X3 d27_183 rfl rfl ?_
  show G (T3.setTop (mkF m 184 #[oa dc, oa sr, oi 0, oi 2, oa tab, oi 0, oi 2, .unset, .unset] [(.int ((2 : Int32) &&& (3 : Int32))), (.int 4)]))
  rw [show ((2 : Int32) &&& (3 : Int32)) = (2 : Int32) from by decide]
  show G (T3.setTop (mkF m 184 #[oa dc, oa sr, oi 0, oi 2, oa tab, oi 0, oi 2, .unset, .unset] [(.int 2), (.int 4)]))
  refine q_isub B X3 d27_184 rfl rfl ?_
  show G (T3.setTop (mkF m 185 #[oa dc, oa sr, oi 0, oi 2, oa tab, oi 0, oi 2, .unset, .unset] [(.int ((4 : Int32) - (2 : Int32)))]))
  rw [show ((4 : Int32) - (2 : Int32)) = (2 : Int32) from by decide]
  show G (T3.setTop (mkF m 185 #[oa dc, oa sr, oi 0, oi 2, oa tab, oi 0, oi 2, .unset, .unset] [(.int 2)]))
  refine q_istore B X3 d27_185 rfl rfl rfl ?_
  refine q_iconst B X3 d27_187 rfl ?_
  refine q_iload B X3 d27_188 rfl rfl ?_
  refine q_i2l B X3 d27_190 rfl rfl ?_
  refine hG _ _ (X3.ldc2Long hx hown (mvT hZ (ow hw 139 rfl)) (g := (mkF m 191 #[oa dc, oa sr, oi 0, oi 2, oa tab, oi 2, oi 2, .unset, .unset] [(.long ((2 : Int32).toInt64)), (.int 3)])) rfl (hb hby d27_191)) ?_
  refine q_ladd B X3 d27_194 rfl rfl ?_
  refine hG _ _ (X3.ldc2Long hx hown (mvT hZ (ow hw 140 rfl)) (g := (mkF m 195 #[oa dc, oa sr, oi 0, oi 2, oa tab, oi 2, oi 2, .unset, .unset] [(.long (((2 : Int32).toInt64) + (3 : Int64))), (.int 3)])) rfl (hb hby d27_195)) ?_
  refine q_ldiv B X3 d27_198 rfl (by decide) rfl ?_
  refine q_l2i B X3 d27_199 rfl rfl ?_
  show G (T3.setTop (mkF m 200 #[oa dc, oa sr, oi 0, oi 2, oa tab, oi 2, oi 2, .unset, .unset] [(.int (((((2 : Int32).toInt64) + (3 : Int64)) / (4 : Int64)).toInt32)), (.int 3)]))
  rw [show (((((2 : Int32).toInt64) + (3 : Int64)) / (4 : Int64)).toInt32) = (1 : Int32) from by decide]
  show G (T3.setTop (mkF m 200 #[oa dc, oa sr, oi 0, oi 2, oa tab, oi 2, oi 2, .unset, .unset] [(.int 1), (.int 3)]))
  refine q_imul B X3 d27_200 rfl rfl ?_
  show G (T3.setTop (mkF m 201 #[oa dc, oa sr, oi 0, oi 2, oa tab, oi 2, oi 2, .unset, .unset] [(.int ((3 : Int32) * (1 : Int32)))]))
  rw [show ((3 : Int32) * (1 : Int32)) = (3 : Int32) from by decide]
  show G (T3.setTop (mkF m 201 #[oa dc, oa sr, oi 0, oi 2, oa tab, oi 2, oi 2, .unset, .unset] [(.int 3)]))
  refine q_iload B X3 d27_201 rfl rfl ?_
  refine q_isub B X3 d27_203 rfl rfl ?_
  show G (T3.setTop (mkF m 204 #[oa dc, oa sr, oi 0, oi 2, oa tab, oi 2, oi 2, .unset, .unset] [(.int ((3 : Int32) - (2 : Int32)))]))
  rw [show ((3 : Int32) - (2 : Int32)) = (1 : Int32) from by decide]
  show G (T3.setTop (mkF m 204 #[oa dc, oa sr, oi 0, oi 2, oa tab, oi 2, oi 2, .unset, .unset] [(.int 1)]))
  exact qRI B hR hret X3 d27_204 e3 ⟨rfl, N0, rfl⟩ (by decide)
theorem own_dec02 (hw : own_W Z a0) {dc tab : Addr} {ktab : ClassId} {sr : Addr} {ks : ClassId} {o : Addr} {ko : ClassId} {ch0 ch1 : Int32} (sv0 sv1 : Int32) (O0 : own_Old Z h0) (g0_S : Sta Z Z.heap "java/util/Base64$Decoder" "fromBase64URL" "[I" (.ref tab)) (g1_E : Exa Z h0 dc "java/util/Base64$Decoder") (g2_F : Fld Z h0 dc "java/util/Base64$Decoder" "isURL" "Z" (.int 1)) (g3_F : Fld Z h0 dc "java/util/Base64$Decoder" "isMIME" "Z" (.int 0)) (g4_V : Arv Z h0 tab ktab .int 256 (own_TAB.map Value.int) (.int 0)) (g5_V : Arv Z h0 sr ks .byte (2 : Int32) [(.int ch0), (.int ch1)] (.int 0)) (g6_V : Arv Z h0 o ko .byte (1 : Int32) [(.int 0)] (.int 0)) (g7_G : Z.heap.size ≤ o) (g8_ne_sr_o : sr ≠ o) (g9_ne_tab_o : tab ≠ o) (g10_ne_dc_o : dc ≠ o) (g11_hs0 : own_sy ch0 sv0) (g12_hs1 : own_sy ch1 sv1) : own_Con l Z ⟨"java/util/Base64$Decoder", "decode0", "([BII[B)I"⟩ jdk_2450_method_9_code 11 (some .int) [] ⟨0, 0, 0, 0⟩ #[(.ref dc), (.ref sr), (.int 0), (.int 2), (.ref o)] h0 (fun rv rh rL => rv = some (.int 1) ∧ own_Fr Z rL ∧ Keep h0 rh [o] ∧ (Arv Z rh o ko .byte (1 : Int32) [(.int (nar .byte (((((0 : Int32) ||| (sv0 <<< ((18 : Int32) &&& 31))) ||| (sv1 <<< ((12 : Int32) &&& 31))) >>> ((16 : Int32) &&& 31)).toInt8.toInt32)))] (.int 0))) := by
  refine own_st hw (plainFor_of_name (by decide +kernel)) #[oa dc, oa sr, oi 0, oi 2, oa o, .unset, .unset, .unset, .unset, .unset, .unset] (fun m => by first | (simp [entryFrame, mkF, argsToLocals, Value.category]; done) | rfl) fun p e s m below meth c s₁ G B hown hnm hret hZ X0 e0 N0 hR => ?_
  refine q_aloadN B X0 d28_0 rfl rfl rfl ?_
  refine qgf B X0 hZ hown 134 rfl Via.refl e0 g2_F d28_1 fun T1 X1 e1 => ?_
  refine q_ifNo B X1 d28_4 rfl ((if0 _ _).trans (feq (by decide)).1) rfl ?_
  refine qgs B X1 hZ hown 136 rfl Via.refl e1 g0_S O0 d28_7 fun T2 X2 e2 => ?_
  refine q_goto 16 B X2 d28_10 rfl rfl (by decide) ?_
  refine q_astore B X2 d28_16 rfl rfl rfl rfl ?_
  refine q_iconst B X2 d28_18 rfl ?_
  refine q_istore B X2 d28_19 rfl rfl rfl ?_
  refine q_iconst B X2 d28_21 rfl ?_
  refine q_istore B X2 d28_22 rfl rfl rfl ?_
  refine q_bipush B X2 d28_24 rfl ?_
  refine q_istore B X2 d28_26 rfl rfl rfl ?_
  refine q_iloadN B X2 d28_28 rfl rfl ?_
  refine q_iloadN B X2 d28_29 rfl rfl ?_
  refine q_icmpNo B X2 d28_30 rfl (tlt (by decide)).2.1 rfl ?_
  refine q_iload B X2 d28_33 rfl rfl ?_
  refine q_bipush B X2 d28_35 rfl ?_
  show G (T2.setTop (mkF m 37 #[oa dc, oa sr, oi 0, oi 2, oa o, oa tab, oi 0, oi 0, oi 18, .unset, .unset] [(.int 18), (.int 18)]))
  refine q_icmpNo B X2 d28_37 rfl (teq (by decide)).2 rfl ?_
  refine q_iloadN B X2 d28_40 rfl rfl ?_
  refine q_iloadN B X2 d28_41 rfl rfl ?_
  refine q_iconst B X2 d28_42 rfl ?_
  refine q_isub B X2 d28_43 rfl rfl ?_
  show G (T2.setTop (mkF m 44 #[oa dc, oa sr, oi 0, oi 2, oa o, oa tab, oi 0, oi 0, oi 18, .unset, .unset] [(.int ((2 : Int32) - (4 : Int32))), (.int 0)]))
  rw [show ((2 : Int32) - (4 : Int32)) = (-2 : Int32) from by decide]
  show G (T2.setTop (mkF m 44 #[oa dc, oa sr, oi 0, oi 2, oa o, oa tab, oi 0, oi 0, oi 18, .unset, .unset] [(.int (-2)), (.int 0)]))
  refine q_icmpYes 90 B X2 d28_44 rfl (flt (by decide)).2.1 rfl rfl (by decide) ?_
  refine q_iloadN B X2 d28_90 rfl rfl ?_
  refine q_iloadN B X2 d28_91 rfl rfl ?_
  refine q_icmpYes 98 B X2 d28_92 rfl (tlt (by decide)).1 rfl rfl (by decide) ?_
  refine q_aloadN B X2 d28_98 rfl rfl rfl ?_
  refine q_iloadN B X2 d28_99 rfl rfl ?_
  refine q_iinc B X2 d28_100 rfl rfl rfl ?_
  show G (T2.setTop (mkF m 103 #[oa dc, oa sr, oi ((0 : Int32) + (1 : Int32)), oi 2, oa o, oa tab, oi 0, oi 0, oi 18, .unset, .unset] [(.int 0), (.ref sr)]))
  rw [show ((0 : Int32) + (1 : Int32)) = (1 : Int32) from by decide]
  show G (T2.setTop (mkF m 103 #[oa dc, oa sr, oi 1, oi 2, oa o, oa tab, oi 0, oi 0, oi 18, .unset, .unset] [(.int 0), (.ref sr)]))
  refine qlb (v := (.int ch0)) B X2 hZ e2 g5_V d28_103 (by decide) rfl ?_
  refine q_sipush B X2 d28_104 rfl ?_
  refine q_iand B X2 d28_107 rfl rfl ?_
  show G (T2.setTop (mkF m 108 #[oa dc, oa sr, oi 1, oi 2, oa o, oa tab, oi 0, oi 0, oi 18, .unset, .unset] [(.int (ch0 &&& (255 : Int32)))]))
  rw [own_m255 g11_hs0]
  show G (T2.setTop (mkF m 108 #[oa dc, oa sr, oi 1, oi 2, oa o, oa tab, oi 0, oi 0, oi 18, .unset, .unset] [(.int ch0)]))
  refine q_istore B X2 d28_108 rfl rfl rfl ?_
  refine q_aload B X2 d28_110 rfl rfl rfl ?_
  refine q_iload B X2 d28_112 rfl rfl ?_
  refine qli (v := (.int sv0)) B X2 hZ e2 g4_V d28_114 ⟨(own_look g11_hs0).1, (own_look g11_hs0).2.1⟩ (own_look g11_hs0).2.2 ?_
  refine q_dup B X2 d28_115 rfl rfl rfl ?_
  refine q_istore B X2 d28_116 rfl rfl rfl ?_
  refine q_ifYes 214 B X2 d28_118 rfl ((if0 _ _).trans (flt (own_Vnn (own_syV g11_hs0))).2.1) rfl rfl (by decide) ?_
  refine q_iload B X2 d28_214 rfl rfl ?_
  refine q_iload B X2 d28_216 rfl rfl ?_
  refine q_iload B X2 d28_218 rfl rfl ?_
  refine q_ishl B X2 d28_220 rfl rfl ?_
  refine q_ior B X2 d28_221 rfl rfl ?_
  refine q_istore B X2 d28_222 rfl rfl rfl ?_
  refine q_iinc B X2 d28_224 rfl rfl rfl ?_
  show G (T2.setTop (mkF m 227 #[oa dc, oa sr, oi 1, oi 2, oa o, oa tab, oi 0, oi ((0 : Int32) ||| (sv0 <<< ((18 : Int32) &&& 31))), oi ((18 : Int32) + (-6 : Int32)), oi sv0, .unset] []))
  rw [show ((18 : Int32) + (-6 : Int32)) = (12 : Int32) from by decide]
  show G (T2.setTop (mkF m 227 #[oa dc, oa sr, oi 1, oi 2, oa o, oa tab, oi 0, oi ((0 : Int32) ||| (sv0 <<< ((18 : Int32) &&& 31))), oi 12, oi sv0, .unset] []))
  refine q_iload B X2 d28_227 rfl rfl ?_
  refine q_ifYes 278 B X2 d28_229 rfl ((if0 _ _).trans (flt (by decide)).2.1) rfl rfl (by decide) ?_
  refine q_goto 28 B X2 d28_278 rfl rfl (by decide) ?_
  refine q_iloadN B X2 d28_28 rfl rfl ?_
  refine q_iloadN B X2 d28_29 rfl rfl ?_
  refine q_icmpNo B X2 d28_30 rfl (tlt (by decide)).2.1 rfl ?_
  refine q_iload B X2 d28_33 rfl rfl ?_
  refine q_bipush B X2 d28_35 rfl ?_
  refine q_icmpYes 90 B X2 d28_37 rfl (feq (by decide)).2 rfl rfl (by decide) ?_
  refine q_iloadN B X2 d28_90 rfl rfl ?_
  refine q_iloadN B X2 d28_91 rfl rfl ?_
  refine q_icmpYes 98 B X2 d28_92 rfl (tlt (by decide)).1 rfl rfl (by decide) ?_
  refine q_aloadN B X2 d28_98 rfl rfl rfl ?_
  refine q_iloadN B X2 d28_99 rfl rfl ?_
  refine q_iinc B X2 d28_100 rfl rfl rfl ?_
  show G (T2.setTop (mkF m 103 #[oa dc, oa sr, oi ((1 : Int32) + (1 : Int32)), oi 2, oa o, oa tab, oi 0, oi ((0 : Int32) ||| (sv0 <<< ((18 : Int32) &&& 31))), oi 12, oi sv0, .unset] [(.int 1), (.ref sr)]))
  rw [show ((1 : Int32) + (1 : Int32)) = (2 : Int32) from by decide]
  show G (T2.setTop (mkF m 103 #[oa dc, oa sr, oi 2, oi 2, oa o, oa tab, oi 0, oi ((0 : Int32) ||| (sv0 <<< ((18 : Int32) &&& 31))), oi 12, oi sv0, .unset] [(.int 1), (.ref sr)]))
  refine qlb (v := (.int ch1)) B X2 hZ e2 g5_V d28_103 (by decide) rfl ?_
  refine q_sipush B X2 d28_104 rfl ?_
  refine q_iand B X2 d28_107 rfl rfl ?_
  show G (T2.setTop (mkF m 108 #[oa dc, oa sr, oi 2, oi 2, oa o, oa tab, oi 0, oi ((0 : Int32) ||| (sv0 <<< ((18 : Int32) &&& 31))), oi 12, oi sv0, .unset] [(.int (ch1 &&& (255 : Int32)))]))
  rw [own_m255 g12_hs1]
  show G (T2.setTop (mkF m 108 #[oa dc, oa sr, oi 2, oi 2, oa o, oa tab, oi 0, oi ((0 : Int32) ||| (sv0 <<< ((18 : Int32) &&& 31))), oi 12, oi sv0, .unset] [(.int ch1)]))
  refine q_istore B X2 d28_108 rfl rfl rfl ?_
  refine q_aload B X2 d28_110 rfl rfl rfl ?_
  refine q_iload B X2 d28_112 rfl rfl ?_
  refine qli (v := (.int sv1)) B X2 hZ e2 g4_V d28_114 ⟨(own_look g12_hs1).1, (own_look g12_hs1).2.1⟩ (own_look g12_hs1).2.2 ?_
  refine q_dup B X2 d28_115 rfl rfl rfl ?_
  refine q_istore B X2 d28_116 rfl rfl rfl ?_
  refine q_ifYes 214 B X2 d28_118 rfl ((if0 _ _).trans (flt (own_Vnn (own_syV g12_hs1))).2.1) rfl rfl (by decide) ?_
  refine q_iload B X2 d28_214 rfl rfl ?_
  refine q_iload B X2 d28_216 rfl rfl ?_
  refine q_iload B X2 d28_218 rfl rfl ?_
  refine q_ishl B X2 d28_220 rfl rfl ?_
  refine q_ior B X2 d28_221 rfl rfl ?_
  refine q_istore B X2 d28_222 rfl rfl rfl ?_
  refine q_iinc B X2 d28_224 rfl rfl rfl ?_
  show G (T2.setTop (mkF m 227 #[oa dc, oa sr, oi 2, oi 2, oa o, oa tab, oi 0, oi (((0 : Int32) ||| (sv0 <<< ((18 : Int32) &&& 31))) ||| (sv1 <<< ((12 : Int32) &&& 31))), oi ((12 : Int32) + (-6 : Int32)), oi sv1, .unset] []))
  rw [show ((12 : Int32) + (-6 : Int32)) = (6 : Int32) from by decide]
  show G (T2.setTop (mkF m 227 #[oa dc, oa sr, oi 2, oi 2, oa o, oa tab, oi 0, oi (((0 : Int32) ||| (sv0 <<< ((18 : Int32) &&& 31))) ||| (sv1 <<< ((12 : Int32) &&& 31))), oi 6, oi sv1, .unset] []))
  refine q_iload B X2 d28_227 rfl rfl ?_
  refine q_ifYes 278 B X2 d28_229 rfl ((if0 _ _).trans (flt (by decide)).2.1) rfl rfl (by decide) ?_
  refine q_goto 28 B X2 d28_278 rfl rfl (by decide) ?_
  refine q_iloadN B X2 d28_28 rfl rfl ?_
  refine q_iloadN B X2 d28_29 rfl rfl ?_
  refine q_icmpYes 281 B X2 d28_30 rfl (flt (by decide)).2.1 rfl rfl (by decide) ?_
  refine q_iload B X2 d28_281 rfl rfl ?_
  refine q_bipush B X2 d28_283 rfl ?_
  refine q_icmpNo B X2 d28_285 rfl (teq (by decide)).2 rfl ?_
  refine q_aload B X2 d28_288 rfl rfl rfl ?_
  refine q_iload B X2 d28_290 rfl rfl ?_
  refine q_iinc B X2 d28_292 rfl rfl rfl ?_
  show G (T2.setTop (mkF m 295 #[oa dc, oa sr, oi 2, oi 2, oa o, oa tab, oi ((0 : Int32) + (1 : Int32)), oi (((0 : Int32) ||| (sv0 <<< ((18 : Int32) &&& 31))) ||| (sv1 <<< ((12 : Int32) &&& 31))), oi 6, oi sv1, .unset] [(.int 0), (.ref o)]))
  rw [show ((0 : Int32) + (1 : Int32)) = (1 : Int32) from by decide]
  show G (T2.setTop (mkF m 295 #[oa dc, oa sr, oi 2, oi 2, oa o, oa tab, oi 1, oi (((0 : Int32) ||| (sv0 <<< ((18 : Int32) &&& 31))) ||| (sv1 <<< ((12 : Int32) &&& 31))), oi 6, oi sv1, .unset] [(.int 0), (.ref o)]))
  refine q_iload B X2 d28_295 rfl rfl ?_
  refine q_bipush B X2 d28_297 rfl ?_
  refine q_ishr B X2 d28_299 rfl rfl ?_
  refine q_i2b B X2 d28_300 rfl rfl ?_
  show G (T2.setTop (mkF m 301 #[oa dc, oa sr, oi 2, oi 2, oa o, oa tab, oi 1, oi (((0 : Int32) ||| (sv0 <<< ((18 : Int32) &&& 31))) ||| (sv1 <<< ((12 : Int32) &&& 31))), oi 6, oi sv1, .unset] [(.int (((((0 : Int32) ||| (sv0 <<< ((18 : Int32) &&& 31))) ||| (sv1 <<< ((12 : Int32) &&& 31))) >>> ((16 : Int32) &&& 31)).toInt8.toInt32)), (.int 0), (.ref o)]))
  refine qsb 0 B X2 hZ e2 g6_V d28_301 (by decide) rfl (Nat.le_of_ble_eq_true rfl) fun T7 h7 X7 e7 W7 V7 => ?_
  have K7 := (Keep.refl h0 [o]).wr W7 (own_mi 0 rfl)
  have O7 := O0.wr W7 g7_G
  have N7 := Fr.snoc X7 N0 g7_G
  refine q_goto 358 B X7 d28_302 rfl rfl (by decide) ?_
  refine q_iloadN B X7 d28_358 rfl rfl ?_
  refine q_iloadN B X7 d28_359 rfl rfl ?_
  refine q_icmpYes 416 B X7 d28_360 rfl (flt (by decide)).2.1 rfl rfl (by decide) ?_
  refine q_iload B X7 d28_416 rfl rfl ?_
  show G (T7.setTop (mkF m 418 #[oa dc, oa sr, oi 2, oi 2, oa o, oa tab, oi 1, oi (((0 : Int32) ||| (sv0 <<< ((18 : Int32) &&& 31))) ||| (sv1 <<< ((12 : Int32) &&& 31))), oi 6, oi sv1, .unset] [(.int 1)]))
  exact qRI B hR hret X7 d28_418 e7 ⟨rfl, N7, K7, V7⟩ (by decide)
theorem own_decb2 (hw : own_W Z a0) {dc tab : Addr} {ktab : ClassId} {sr : Addr} {ks : ClassId} {ch0 ch1 : Int32} (sv0 sv1 : Int32) (O0 : own_Old Z h0) (g0_S : Sta Z Z.heap "java/util/Base64$Decoder" "fromBase64URL" "[I" (.ref tab)) (g1_E : Exa Z h0 dc "java/util/Base64$Decoder") (g2_F : Fld Z h0 dc "java/util/Base64$Decoder" "isURL" "Z" (.int 1)) (g3_F : Fld Z h0 dc "java/util/Base64$Decoder" "isMIME" "Z" (.int 0)) (g4_V : Arv Z h0 tab ktab .int 256 (own_TAB.map Value.int) (.int 0)) (g5_V : Arv Z h0 sr ks .byte (2 : Int32) [(.int ch0), (.int ch1)] (.int 0)) (g6_hs0 : own_sy ch0 sv0) (g7_hs1 : own_sy ch1 sv1) : own_Con l Z ⟨"java/util/Base64$Decoder", "decode", "([B)[B"⟩ jdk_2450_method_2_code 4 (some (.array .byte)) [] ⟨1, 1, 1, 22⟩ #[(.ref dc), (.ref sr)] h0 (fun rv rh rL => ∃ (o : Addr) (ko : ClassId), rv = some (.ref o) ∧ own_Fr Z rL ∧ Keep h0 rh [] ∧ h0.size ≤ o ∧ (Arv Z rh o ko .byte (1 : Int32) [(.int (nar .byte (((((0 : Int32) ||| (sv0 <<< ((18 : Int32) &&& 31))) ||| (sv1 <<< ((12 : Int32) &&& 31))) >>> ((16 : Int32) &&& 31)).toInt8.toInt32)))] (.int 0))) := by
  refine own_st hw (plainFor_of_name (by decide +kernel)) #[oa dc, oa sr, .unset, .unset] (fun _ => rfl) fun p e s m below meth c s₁ G B hown hnm hret hZ X0 e0 N0 hR => ?_
  refine q_aloadN B X0 d26_0 rfl rfl rfl ?_
  refine q_aloadN B X0 d26_1 rfl rfl rfl ?_
  refine q_iconst B X0 d26_2 rfl ?_
  refine q_aloadN B X0 d26_3 rfl rfl rfl ?_
  refine qal B X0 hZ e0 g5_V d26_4 ?_
  show G (s₁.setTop (mkF m 5 #[oa dc, oa sr, .unset, .unset] [(.int 2), (.int 0), (.ref sr), (.ref dc)]))
  refine qP B X0 hZ hown 129 130 132 131 90 133 rfl rfl rfl rfl rfl rfl (own_dol2 hw (ch0 := ch0) (ch1 := ch1) sv0 sv1 O0 g0_S g1_E g2_F g3_F g5_V g6_hs0 g7_hs1) e0 g1_E own_pd17 rfl rfl d26_5 0 rfl rfl rfl (by decide) ?_
  rintro T2 h2 _ L2 X2 e2 ⟨rfl, M2, rfl⟩
  have N2 := Fr.app N0 M2
  refine qna 1 B X2 hZ 31 rfl e2 d26_8 (by decide) (by decide) (by decide) fun T3 h3 k3 b3 z3 X3 e3 E3 A3 => ?_
  have K3 := (Keep.refl h0 []).ext E3
  have O3 := O0.ext E3
  have V3 : Arv Z h3 b3 k3 .byte (1 : Int32) [(.int 0)] (.int 0) := (Arv.new A3 (by decide)).pad (pad_rep [] (.int 0) 1)
  refine q_astoreN B X3 d26_10 rfl rfl rfl rfl ?_
  refine q_aloadN B X3 d26_11 rfl rfl rfl ?_
  refine q_aloadN B X3 d26_12 rfl rfl rfl ?_
  refine q_iconst B X3 d26_13 rfl ?_
  refine q_aloadN B X3 d26_14 rfl rfl rfl ?_
  have f5 := (g5_V.ext E3)
  refine qal B X3 hZ e3 f5 d26_15 ?_
  refine q_aloadN B X3 d26_16 rfl rfl rfl ?_
  show G (T3.setTop (mkF m 17 #[oa dc, oa sr, oa b3, .unset] [(.ref b3), (.int 2), (.int 0), (.ref sr), (.ref dc)]))
  have f7 := (g1_E.ext E3)
  have f8 := (g2_F.ext E3)
  have f9 := (g3_F.ext E3)
  have f10 := (g4_V.ext E3)
  refine qP B X3 hZ hown 141 142 144 143 90 145 rfl rfl rfl rfl rfl rfl (own_dec02 hw (ch0 := ch0) (ch1 := ch1) sv0 sv1 O3 g0_S f7 f8 f9 f10 f5 V3 (own_ge O0 (Nat.le_of_eq z3.symm)) (own_ne g5_V.lt (Nat.le_of_eq z3.symm)) (own_ne g4_V.lt (Nat.le_of_eq z3.symm)) (own_ne g1_E.lt (Nat.le_of_eq z3.symm)) g6_hs0 g7_hs1) e3 f7 own_pd18 rfl rfl d26_17 0 rfl rfl rfl (by decide) ?_
  rintro T6 h6 _ L6 X6 e6 ⟨rfl, M6, J6, r6_0⟩
  have N6 := Fr.app N2 M6
  have K6 := K3.trans J6 (allS (Or.inr (Nat.le_trans (Keep.refl h0 []).1 (Nat.le_of_eq z3.symm))) all0)
  have O6 := O3.keep J6 (allS (own_ge O0 (Nat.le_of_eq z3.symm)) all0)
  refine q_istoreN B X6 d26_20 rfl rfl rfl ?_
  refine q_iloadN B X6 d26_21 rfl rfl ?_
  refine q_aloadN B X6 d26_22 rfl rfl rfl ?_
  refine qal B X6 hZ e6 r6_0 d26_23 ?_
  refine q_icmpYes 33 B X6 d26_24 rfl (teq (by decide)).1 rfl rfl (by decide) ?_
  refine q_aloadN B X6 d26_33 rfl rfl rfl ?_
  show G (T6.setTop (mkF m 34 #[oa dc, oa sr, oa b3, oi 1] [(.ref b3)]))
  exact qRA B hR hret rfl rfl X6 d26_34 e6 ⟨b3, k3, rfl, N6, K6, (Nat.le_trans (Keep.refl h0 []).1 (Nat.le_of_eq z3.symm)), r6_0⟩ (by decide)
theorem own_decs2 (hw : own_W Z a0) {dc iso u8 tab : Addr} {ktab : ClassId} {a : Addr} {cpt : Int32} {t : Addr} {kt : ClassId} {ch0 ch1 : Int32} (sv0 sv1 : Int32) (O0 : own_Old Z h0) (g0_S : Sta Z Z.heap "sun/nio/cs/ISO_8859_1" "INSTANCE" "Lsun/nio/cs/ISO_8859_1;" (.ref iso)) (g1_S : Sta Z Z.heap "sun/nio/cs/UTF_8" "INSTANCE" "Lsun/nio/cs/UTF_8;" (.ref u8)) (g2_S : Sta Z Z.heap "java/util/Base64$Decoder" "fromBase64URL" "[I" (.ref tab)) (g3_hiu : iso ≠ u8) (g4_E : Exa Z h0 dc "java/util/Base64$Decoder") (g5_F : Fld Z h0 dc "java/util/Base64$Decoder" "isURL" "Z" (.int 1)) (g6_F : Fld Z h0 dc "java/util/Base64$Decoder" "isMIME" "Z" (.int 0)) (g7_V : Arv Z h0 tab ktab .int 256 (own_TAB.map Value.int) (.int 0)) (g8_E : Exa Z h0 a "java/lang/String") (g9_F : Fld Z h0 a "java/lang/String" "coder" "B" (.int 0)) (g10_F : Fld Z h0 a "java/lang/String" "value" "[B" (.ref t)) (g11_E : Exa Z h0 t "[B") (g12_V : Arv Z h0 t kt .byte (2 : Int32) [(.int ch0), (.int ch1)] (.int 0)) (g13_S : Sta Z Z.heap "java/lang/String" "COMPACT_STRINGS" "Z" (.int cpt)) (g14_hcpt : ¬ (cpt = (0 : Int32))) (g15_hs0 : own_sy ch0 sv0) (g16_hs1 : own_sy ch1 sv1) : own_Con l Z ⟨"java/util/Base64$Decoder", "decode", "(Ljava/lang/String;)[B"⟩ jdk_2450_method_3_code 2 (some (.array .byte)) [] ⟨5, 2, 9, 76⟩ #[(.ref dc), (.ref a)] h0 (fun rv rh rL => ∃ (o : Addr) (ko : ClassId), rv = some (.ref o) ∧ own_Fr Z rL ∧ Keep h0 rh [] ∧ h0.size ≤ o ∧ (Arv Z rh o ko .byte (1 : Int32) [(.int (nar .byte (((((0 : Int32) ||| (sv0 <<< ((18 : Int32) &&& 31))) ||| (sv1 <<< ((12 : Int32) &&& 31))) >>> ((16 : Int32) &&& 31)).toInt8.toInt32)))] (.int 0))) := by
  refine own_st hw (plainFor_of_name (by decide +kernel)) #[oa dc, oa a] (fun _ => rfl) fun p e s m below meth c s₁ G B hown hnm hret hZ X0 e0 N0 hR => ?_
  refine q_aloadN B X0 d21_0 rfl rfl rfl ?_
  refine q_aloadN B X0 d21_1 rfl rfl rfl ?_
  refine qgs B X0 hZ hown 96 rfl Via.refl e0 g0_S O0 d21_2 fun T1 X1 e1 => ?_
  show G (T1.setTop (mkF m 5 #[oa dc, oa a] [(.ref iso), (.ref a), (.ref dc)]))
  refine qV B X1 hZ hown 98 99 101 100 15 102 rfl rfl rfl rfl rfl rfl (own_gby hw O0 g0_S g1_S g3_hiu g8_E g9_F g10_F g11_E g12_V (by decide) g13_S g14_hcpt) e1 g8_E own_pd16 rfl rfl d21_5 1 rfl rfl rfl (by decide) ?_
  rintro T2 h2 _ L2 X2 e2 ⟨u_2, ku_2, rfl, M2, J2, y2_0, r2_0⟩
  have N2 := Fr.app N0 M2
  have K2 := (Keep.refl h0 []).trans J2 all0
  have O2 := O0.keep J2 all0
  show G (T2.setTop (mkF m 8 #[oa dc, oa a] [(.ref u_2), (.ref dc)]))
  have f4 := (g4_E.keep J2)
  have f5 := (g5_F.keep J2 nin0)
  have f6 := (g6_F.keep J2 nin0)
  have f7 := (g7_V.keep J2 nin0)
  refine qV B X2 hZ hown 124 125 127 126 90 128 rfl rfl rfl rfl rfl rfl (own_decb2 hw (ch0 := ch0) (ch1 := ch1) sv0 sv1 O2 g2_S f4 f5 f6 f7 r2_0 g15_hs0 g16_hs1) e2 f4 own_pd19 rfl rfl d21_8 0 rfl rfl rfl (by decide) ?_
  rintro T3 h3 _ L3 X3 e3 ⟨o_3, ko_3, rfl, M3, J3, y3_0, r3_0⟩
  have N3 := Fr.app N2 M3
  have K3 := K2.trans J3 all0
  have O3 := O2.keep J3 all0
  show G (T3.setTop (mkF m 11 #[oa dc, oa a] [(.ref o_3)]))
  exact qRA B hR hret rfl rfl X3 d21_11 e3 ⟨o_3, ko_3, rfl, N3, K3, (Nat.le_trans K2.1 y3_0), r3_0⟩ (by decide)
theorem own_b64_2 (hw : own_W Z a0) {dc iso u8 tab : Addr} {ktab : ClassId} {a : Addr} {cpt : Int32} {t : Addr} {kt : ClassId} (ch0 ch1 sv0 sv1 : Int32) (O0 : own_Old Z h0) (g0_S : Sta Z Z.heap "java/util/Base64$Decoder" "RFC4648_URLSAFE" "Ljava/util/Base64$Decoder;" (.ref dc)) (g1_S : Sta Z Z.heap "sun/nio/cs/ISO_8859_1" "INSTANCE" "Lsun/nio/cs/ISO_8859_1;" (.ref iso)) (g2_S : Sta Z Z.heap "sun/nio/cs/UTF_8" "INSTANCE" "Lsun/nio/cs/UTF_8;" (.ref u8)) (g3_S : Sta Z Z.heap "java/util/Base64$Decoder" "fromBase64URL" "[I" (.ref tab)) (g4_hiu : iso ≠ u8) (g5_E : Exa Z h0 dc "java/util/Base64$Decoder") (g6_F : Fld Z h0 dc "java/util/Base64$Decoder" "isURL" "Z" (.int 1)) (g7_F : Fld Z h0 dc "java/util/Base64$Decoder" "isMIME" "Z" (.int 0)) (g8_V : Arv Z h0 tab ktab .int 256 (own_TAB.map Value.int) (.int 0)) (g9_E : Exa Z h0 a "java/lang/String") (g10_F : Fld Z h0 a "java/lang/String" "coder" "B" (.int 0)) (g11_F : Fld Z h0 a "java/lang/String" "value" "[B" (.ref t)) (g12_E : Exa Z h0 t "[B") (g13_V : Arv Z h0 t kt .byte (Int32.ofNat [ch0, ch1].length) ([ch0, ch1].map fun c => Value.int c.toInt8.toInt32) (.int 0)) (g14_S : Sta Z Z.heap "java/lang/String" "COMPACT_STRINGS" "Z" (.int cpt)) (g15_hcpt : ¬ (cpt = (0 : Int32))) (g16_hs0 : own_sy ch0 sv0) (g17_hs1 : own_sy ch1 sv1) : own_Con l Z ⟨"com/example/research_access_policy/researchaccesspolicy/token/Base64Url", "decode", "(Ljava/lang/String;)[B"⟩ prog_16_method_2_code 1 (some (.array .byte)) [] ⟨6, 2, 9, 89⟩ #[(.ref a)] h0 (fun rv rh rL => ∃ (o : Addr) (ko : ClassId), rv = some (.ref o) ∧ own_Fr Z rL ∧ Keep h0 rh [] ∧ h0.size ≤ o ∧ (Arv Z rh o ko .byte (1 : Int32) [(.int (nar .byte (((((0 : Int32) ||| (sv0 <<< ((18 : Int32) &&& 31))) ||| (sv1 <<< ((12 : Int32) &&& 31))) >>> ((16 : Int32) &&& 31)).toInt8.toInt32)))] (.int 0))) := by
  refine own_st hw (plainFor_of_name (by decide +kernel)) #[oa a] (fun _ => rfl) fun p e s m below meth c s₁ G B hown hnm hret hZ X0 e0 N0 hR => ?_
  refine q_aloadN B X0 d10_0 rfl rfl rfl ?_
  refine q_bipush B X0 d10_1 rfl ?_
  show G (s₁.setTop (mkF m 3 #[oa a] [(.int 61), (.ref a)]))
  refine qV B X0 hZ hown 46 47 49 48 15 50 rfl rfl rfl rfl rfl rfl (own_sio1 hw [ch0, ch1] O0 g9_E g10_F g11_F g13_V (Nat.le_of_ble_eq_true rfl) (own_allc (own_sy8 g16_hs0) (own_allc (own_sy8 g17_hs1) own_alln)) g14_S g15_hcpt) e0 g9_E own_pd11 rfl rfl d10_3 0 rfl rfl rfl (by decide) ?_
  rintro T1 h1 _ L1 X1 e1 ⟨r_1, rfl, M1, rfl, r1_0⟩
  have N1 := Fr.app N0 M1
  refine q_ifYes 19 B X1 d10_6 rfl ((if0 _ _).trans (tlt (r1_0.mpr (own_allc (own_sy_e g16_hs0).2.2.1 (own_allc (own_sy_e g17_hs1).2.2.1 own_alln)))).1) rfl rfl (by decide) ?_
  show G (T1.setTop (mkF m 19 #[oa a] []))
  have W2 : Arv Z h0 t kt .byte (2 : Int32) [(.int ch0), (.int ch1)] (.int 0) := by have q := g13_V; simp only [List.map_cons, List.map_nil, own_b7 g16_hs0, own_b7 g17_hs1] at q; exact q
  show G (T1.setTop (mkF m 19 #[oa a] []))
  refine qS B X1 hZ hown 85 86 87 88 rfl rfl rfl rfl (own_gud hw O0 g0_S) e1 own_pd12 rfl rfl d10_19 0 rfl rfl rfl (by decide) ?_
  rintro T3 h3 _ L3 X3 e3 ⟨rfl, M3, rfl⟩
  have N3 := Fr.app N1 M3
  refine q_aloadN B X3 d10_22 rfl rfl rfl ?_
  show G (T3.setTop (mkF m 23 #[oa a] [(.ref a), (.ref dc)]))
  refine qV B X3 hZ hown 91 92 94 93 90 95 rfl rfl rfl rfl rfl rfl (own_decs2 hw (ch0 := ch0) (ch1 := ch1) sv0 sv1 O0 g1_S g2_S g3_S g4_hiu g5_E g6_F g7_F g8_V g9_E g10_F g11_F g12_E W2 g14_S g15_hcpt g16_hs0 g17_hs1) e3 g5_E own_pd20 rfl rfl d10_23 0 rfl rfl rfl (by decide) ?_
  rintro T4 h4 _ L4 X4 e4 ⟨o_4, ko_4, rfl, M4, J4, y4_0, r4_0⟩
  have N4 := Fr.app N3 M4
  have K4 := (Keep.refl h0 []).trans J4 all0
  have O4 := O0.keep J4 all0
  show G (T4.setTop (mkF m 26 #[oa a] [(.ref o_4)]))
  exact qRA B hR hret rfl rfl X4 d10_26 e4 ⟨o_4, ko_4, rfl, N4, K4, (Nat.le_trans (Keep.refl h0 []).1 y4_0), r4_0⟩ (by decide)
theorem own_dol3 (hw : own_W Z a0) {dc tab sr : Addr} {ks : ClassId} {ch0 ch1 ch2 : Int32} (sv0 sv1 sv2 : Int32) (O0 : own_Old Z h0) (g0_S : Sta Z Z.heap "java/util/Base64$Decoder" "fromBase64URL" "[I" (.ref tab)) (g1_E : Exa Z h0 dc "java/util/Base64$Decoder") (g2_F : Fld Z h0 dc "java/util/Base64$Decoder" "isURL" "Z" (.int 1)) (g3_F : Fld Z h0 dc "java/util/Base64$Decoder" "isMIME" "Z" (.int 0)) (g4_V : Arv Z h0 sr ks .byte (3 : Int32) [(.int ch0), (.int ch1), (.int ch2)] (.int 0)) (g5_hs0 : own_sy ch0 sv0) (g6_hs1 : own_sy ch1 sv1) (g7_hs2 : own_sy ch2 sv2) : own_Con l Z ⟨"java/util/Base64$Decoder", "decodedOutLength", "([BII)I"⟩ jdk_2450_method_7_code 9 (some .int) [] ⟨0, 0, 0, 0⟩ #[(.ref dc), (.ref sr), (.int 0), (.int 3)] h0 (fun rv rh rL => rv = some (.int 2) ∧ own_Fr Z rL ∧ h0 = rh) := by
  refine own_st hw (plainFor_of_name (by decide +kernel)) #[oa dc, oa sr, oi 0, oi 3, .unset, .unset, .unset, .unset, .unset] (fun m => by first | (simp [entryFrame, mkF, argsToLocals, Value.category]; done) | rfl) fun p e s m below meth c s₁ G B hown hnm hret hZ X0 e0 N0 hR => ?_
  obtain ⟨hG, hx, hby, hml, -⟩ := id B
  refine q_aloadN B X0 d27_0 rfl rfl rfl ?_
  refine qgf B X0 hZ hown 134 rfl Via.refl e0 g2_F d27_1 fun T1 X1 e1 => ?_
  refine q_ifNo B X1 d27_4 rfl ((if0 _ _).trans (feq (by decide)).1) rfl ?_
  refine qgs B X1 hZ hown 136 rfl Via.refl e1 g0_S O0 d27_7 fun T2 X2 e2 => ?_
  refine q_goto 16 B X2 d27_10 rfl rfl (by decide) ?_
  refine q_astore B X2 d27_16 rfl rfl rfl rfl ?_
  refine q_iconst B X2 d27_18 rfl ?_
  refine q_istore B X2 d27_19 rfl rfl rfl ?_
  refine q_iloadN B X2 d27_21 rfl rfl ?_
  refine q_iloadN B X2 d27_22 rfl rfl ?_
  refine q_isub B X2 d27_23 rfl rfl ?_
  show G (T2.setTop (mkF m 24 #[oa dc, oa sr, oi 0, oi 3, oa tab, oi 0, .unset, .unset, .unset] [(.int ((3 : Int32) - (0 : Int32)))]))
  rw [show ((3 : Int32) - (0 : Int32)) = (3 : Int32) from by decide]
  show G (T2.setTop (mkF m 24 #[oa dc, oa sr, oi 0, oi 3, oa tab, oi 0, .unset, .unset, .unset] [(.int 3)]))
  refine q_istore B X2 d27_24 rfl rfl rfl ?_
  refine q_iload B X2 d27_26 rfl rfl ?_
  refine q_ifYes 33 B X2 d27_28 rfl ((if0 _ _).trans (feq (by decide)).2) rfl rfl (by decide) ?_
  refine q_iload B X2 d27_33 rfl rfl ?_
  refine q_iconst B X2 d27_35 rfl ?_
  refine q_icmpYes 66 B X2 d27_36 rfl (flt (by decide)).2.1 rfl rfl (by decide) ?_
  refine q_aloadN B X2 d27_66 rfl rfl rfl ?_
  refine qgf B X2 hZ hown 137 rfl Via.refl e2 g3_F d27_67 fun T3 X3 e3 => ?_
  refine q_ifYes 141 B X3 d27_70 rfl ((if0 _ _).trans (teq (by decide)).1) rfl rfl (by decide) ?_
  refine q_aloadN B X3 d27_141 rfl rfl rfl ?_
  refine q_iloadN B X3 d27_142 rfl rfl ?_
  refine q_iconst B X3 d27_143 rfl ?_
  refine q_isub B X3 d27_144 rfl rfl ?_
  show G (T3.setTop (mkF m 145 #[oa dc, oa sr, oi 0, oi 3, oa tab, oi 0, oi 3, .unset, .unset] [(.int ((3 : Int32) - (1 : Int32))), (.ref sr)]))
  rw [show ((3 : Int32) - (1 : Int32)) = (2 : Int32) from by decide]
  show G (T3.setTop (mkF m 145 #[oa dc, oa sr, oi 0, oi 3, oa tab, oi 0, oi 3, .unset, .unset] [(.int 2), (.ref sr)]))
  refine qlb (v := (.int ch2)) B X3 hZ e3 g4_V d27_145 (by decide) rfl ?_
  refine q_bipush B X3 d27_146 rfl ?_
  refine q_icmpYes 167 B X3 d27_148 rfl (feq (own_sy_e g7_hs2).2.2.1).2 rfl rfl (by decide) ?_
  refine q_iload B X3 d27_167 rfl rfl ?_
  refine q_ifNo B X3 d27_169 rfl ((if0 _ _).trans (teq (by decide)).2) rfl ?_
  refine q_iload B X3 d27_172 rfl rfl ?_
  refine q_iconst B X3 d27_174 rfl ?_
  refine q_iand B X3 d27_175 rfl rfl ?_
  show G (T3.setTop (mkF m 176 #[oa dc, oa sr, oi 0, oi 3, oa tab, oi 0, oi 3, .unset, .unset] [(.int ((3 : Int32) &&& (3 : Int32)))]))
  rw [show ((3 : Int32) &&& (3 : Int32)) = (3 : Int32) from by decide]
  show G (T3.setTop (mkF m 176 #[oa dc, oa sr, oi 0, oi 3, oa tab, oi 0, oi 3, .unset, .unset] [(.int 3)]))
  refine q_ifNo B X3 d27_176 rfl ((if0 _ _).trans (feq (by decide)).1) rfl ?_
  refine q_iconst B X3 d27_179 rfl ?_
  refine q_iload B X3 d27_180 rfl rfl ?_
  refine q_iconst B X3 d27_182 rfl ?_
  refine q_iand B X3 d27_183 rfl rfl ?_
  show G (T3.setTop (mkF m 184 #[oa dc, oa sr, oi 0, oi 3, oa tab, oi 0, oi 3, .unset, .unset] [(.int ((3 : Int32) &&& (3 : Int32))), (.int 4)]))
  rw [show ((3 : Int32) &&& (3 : Int32)) = (3 : Int32) from by decide]
  show G (T3.setTop (mkF m 184 #[oa dc, oa sr, oi 0, oi 3, oa tab, oi 0, oi 3, .unset, .unset] [(.int 3), (.int 4)]))
  refine q_isub B X3 d27_184 rfl rfl ?_
  show G (T3.setTop (mkF m 185 #[oa dc, oa sr, oi 0, oi 3, oa tab, oi 0, oi 3, .unset, .unset] [(.int ((4 : Int32) - (3 : Int32)))]))
  rw [show ((4 : Int32) - (3 : Int32)) = (1 : Int32) from by decide]
  show G (T3.setTop (mkF m 185 #[oa dc, oa sr, oi 0, oi 3, oa tab, oi 0, oi 3, .unset, .unset] [(.int 1)]))
  refine q_istore B X3 d27_185 rfl rfl rfl ?_
  refine q_iconst B X3 d27_187 rfl ?_
  refine q_iload B X3 d27_188 rfl rfl ?_
  refine q_i2l B X3 d27_190 rfl rfl ?_
  refine hG _ _ (X3.ldc2Long hx hown (mvT hZ (ow hw 139 rfl)) (g := (mkF m 191 #[oa dc, oa sr, oi 0, oi 3, oa tab, oi 1, oi 3, .unset, .unset] [(.long ((3 : Int32).toInt64)), (.int 3)])) rfl (hb hby d27_191)) ?_
  refine q_ladd B X3 d27_194 rfl rfl ?_
  refine hG _ _ (X3.ldc2Long hx hown (mvT hZ (ow hw 140 rfl)) (g := (mkF m 195 #[oa dc, oa sr, oi 0, oi 3, oa tab, oi 1, oi 3, .unset, .unset] [(.long (((3 : Int32).toInt64) + (3 : Int64))), (.int 3)])) rfl (hb hby d27_195)) ?_
  refine q_ldiv B X3 d27_198 rfl (by decide) rfl ?_
  refine q_l2i B X3 d27_199 rfl rfl ?_
  show G (T3.setTop (mkF m 200 #[oa dc, oa sr, oi 0, oi 3, oa tab, oi 1, oi 3, .unset, .unset] [(.int (((((3 : Int32).toInt64) + (3 : Int64)) / (4 : Int64)).toInt32)), (.int 3)]))
  rw [show (((((3 : Int32).toInt64) + (3 : Int64)) / (4 : Int64)).toInt32) = (1 : Int32) from by decide]
  show G (T3.setTop (mkF m 200 #[oa dc, oa sr, oi 0, oi 3, oa tab, oi 1, oi 3, .unset, .unset] [(.int 1), (.int 3)]))
  refine q_imul B X3 d27_200 rfl rfl ?_
  show G (T3.setTop (mkF m 201 #[oa dc, oa sr, oi 0, oi 3, oa tab, oi 1, oi 3, .unset, .unset] [(.int ((3 : Int32) * (1 : Int32)))]))
  rw [show ((3 : Int32) * (1 : Int32)) = (3 : Int32) from by decide]
  show G (T3.setTop (mkF m 201 #[oa dc, oa sr, oi 0, oi 3, oa tab, oi 1, oi 3, .unset, .unset] [(.int 3)]))
  refine q_iload B X3 d27_201 rfl rfl ?_
  refine q_isub B X3 d27_203 rfl rfl ?_
  show G (T3.setTop (mkF m 204 #[oa dc, oa sr, oi 0, oi 3, oa tab, oi 1, oi 3, .unset, .unset] [(.int ((3 : Int32) - (1 : Int32)))]))
  rw [show ((3 : Int32) - (1 : Int32)) = (2 : Int32) from by decide]
  show G (T3.setTop (mkF m 204 #[oa dc, oa sr, oi 0, oi 3, oa tab, oi 1, oi 3, .unset, .unset] [(.int 2)]))
  exact qRI B hR hret X3 d27_204 e3 ⟨rfl, N0, rfl⟩ (by decide)
theorem own_dec03 (hw : own_W Z a0) {dc tab : Addr} {ktab : ClassId} {sr : Addr} {ks : ClassId} {o : Addr} {ko : ClassId} {ch0 ch1 ch2 : Int32} (sv0 sv1 sv2 : Int32) (O0 : own_Old Z h0) (g0_S : Sta Z Z.heap "java/util/Base64$Decoder" "fromBase64URL" "[I" (.ref tab)) (g1_E : Exa Z h0 dc "java/util/Base64$Decoder") (g2_F : Fld Z h0 dc "java/util/Base64$Decoder" "isURL" "Z" (.int 1)) (g3_F : Fld Z h0 dc "java/util/Base64$Decoder" "isMIME" "Z" (.int 0)) (g4_V : Arv Z h0 tab ktab .int 256 (own_TAB.map Value.int) (.int 0)) (g5_V : Arv Z h0 sr ks .byte (3 : Int32) [(.int ch0), (.int ch1), (.int ch2)] (.int 0)) (g6_V : Arv Z h0 o ko .byte (2 : Int32) [(.int 0), (.int 0)] (.int 0)) (g7_G : Z.heap.size ≤ o) (g8_ne_sr_o : sr ≠ o) (g9_ne_tab_o : tab ≠ o) (g10_ne_dc_o : dc ≠ o) (g11_hs0 : own_sy ch0 sv0) (g12_hs1 : own_sy ch1 sv1) (g13_hs2 : own_sy ch2 sv2) : own_Con l Z ⟨"java/util/Base64$Decoder", "decode0", "([BII[B)I"⟩ jdk_2450_method_9_code 11 (some .int) [] ⟨0, 0, 0, 0⟩ #[(.ref dc), (.ref sr), (.int 0), (.int 3), (.ref o)] h0 (fun rv rh rL => rv = some (.int 2) ∧ own_Fr Z rL ∧ Keep h0 rh [o] ∧ (Arv Z rh o ko .byte (2 : Int32) [(.int (nar .byte ((((((0 : Int32) ||| (sv0 <<< ((18 : Int32) &&& 31))) ||| (sv1 <<< ((12 : Int32) &&& 31))) ||| (sv2 <<< ((6 : Int32) &&& 31))) >>> ((16 : Int32) &&& 31)).toInt8.toInt32))), (.int (nar .byte ((((((0 : Int32) ||| (sv0 <<< ((18 : Int32) &&& 31))) ||| (sv1 <<< ((12 : Int32) &&& 31))) ||| (sv2 <<< ((6 : Int32) &&& 31))) >>> ((8 : Int32) &&& 31)).toInt8.toInt32)))] (.int 0))) := by
  refine own_st hw (plainFor_of_name (by decide +kernel)) #[oa dc, oa sr, oi 0, oi 3, oa o, .unset, .unset, .unset, .unset, .unset, .unset] (fun m => by first | (simp [entryFrame, mkF, argsToLocals, Value.category]; done) | rfl) fun p e s m below meth c s₁ G B hown hnm hret hZ X0 e0 N0 hR => ?_
  refine q_aloadN B X0 d28_0 rfl rfl rfl ?_
  refine qgf B X0 hZ hown 134 rfl Via.refl e0 g2_F d28_1 fun T1 X1 e1 => ?_
  refine q_ifNo B X1 d28_4 rfl ((if0 _ _).trans (feq (by decide)).1) rfl ?_
  refine qgs B X1 hZ hown 136 rfl Via.refl e1 g0_S O0 d28_7 fun T2 X2 e2 => ?_
  refine q_goto 16 B X2 d28_10 rfl rfl (by decide) ?_
  refine q_astore B X2 d28_16 rfl rfl rfl rfl ?_
  refine q_iconst B X2 d28_18 rfl ?_
  refine q_istore B X2 d28_19 rfl rfl rfl ?_
  refine q_iconst B X2 d28_21 rfl ?_
  refine q_istore B X2 d28_22 rfl rfl rfl ?_
  refine q_bipush B X2 d28_24 rfl ?_
  refine q_istore B X2 d28_26 rfl rfl rfl ?_
  refine q_iloadN B X2 d28_28 rfl rfl ?_
  refine q_iloadN B X2 d28_29 rfl rfl ?_
  refine q_icmpNo B X2 d28_30 rfl (tlt (by decide)).2.1 rfl ?_
  refine q_iload B X2 d28_33 rfl rfl ?_
  refine q_bipush B X2 d28_35 rfl ?_
  show G (T2.setTop (mkF m 37 #[oa dc, oa sr, oi 0, oi 3, oa o, oa tab, oi 0, oi 0, oi 18, .unset, .unset] [(.int 18), (.int 18)]))
  refine q_icmpNo B X2 d28_37 rfl (teq (by decide)).2 rfl ?_
  refine q_iloadN B X2 d28_40 rfl rfl ?_
  refine q_iloadN B X2 d28_41 rfl rfl ?_
  refine q_iconst B X2 d28_42 rfl ?_
  refine q_isub B X2 d28_43 rfl rfl ?_
  show G (T2.setTop (mkF m 44 #[oa dc, oa sr, oi 0, oi 3, oa o, oa tab, oi 0, oi 0, oi 18, .unset, .unset] [(.int ((3 : Int32) - (4 : Int32))), (.int 0)]))
  rw [show ((3 : Int32) - (4 : Int32)) = (-1 : Int32) from by decide]
  show G (T2.setTop (mkF m 44 #[oa dc, oa sr, oi 0, oi 3, oa o, oa tab, oi 0, oi 0, oi 18, .unset, .unset] [(.int (-1)), (.int 0)]))
  refine q_icmpYes 90 B X2 d28_44 rfl (flt (by decide)).2.1 rfl rfl (by decide) ?_
  refine q_iloadN B X2 d28_90 rfl rfl ?_
  refine q_iloadN B X2 d28_91 rfl rfl ?_
  refine q_icmpYes 98 B X2 d28_92 rfl (tlt (by decide)).1 rfl rfl (by decide) ?_
  refine q_aloadN B X2 d28_98 rfl rfl rfl ?_
  refine q_iloadN B X2 d28_99 rfl rfl ?_
  refine q_iinc B X2 d28_100 rfl rfl rfl ?_
  show G (T2.setTop (mkF m 103 #[oa dc, oa sr, oi ((0 : Int32) + (1 : Int32)), oi 3, oa o, oa tab, oi 0, oi 0, oi 18, .unset, .unset] [(.int 0), (.ref sr)]))
  rw [show ((0 : Int32) + (1 : Int32)) = (1 : Int32) from by decide]
  show G (T2.setTop (mkF m 103 #[oa dc, oa sr, oi 1, oi 3, oa o, oa tab, oi 0, oi 0, oi 18, .unset, .unset] [(.int 0), (.ref sr)]))
  refine qlb (v := (.int ch0)) B X2 hZ e2 g5_V d28_103 (by decide) rfl ?_
  refine q_sipush B X2 d28_104 rfl ?_
  refine q_iand B X2 d28_107 rfl rfl ?_
  show G (T2.setTop (mkF m 108 #[oa dc, oa sr, oi 1, oi 3, oa o, oa tab, oi 0, oi 0, oi 18, .unset, .unset] [(.int (ch0 &&& (255 : Int32)))]))
  rw [own_m255 g11_hs0]
  show G (T2.setTop (mkF m 108 #[oa dc, oa sr, oi 1, oi 3, oa o, oa tab, oi 0, oi 0, oi 18, .unset, .unset] [(.int ch0)]))
  refine q_istore B X2 d28_108 rfl rfl rfl ?_
  refine q_aload B X2 d28_110 rfl rfl rfl ?_
  refine q_iload B X2 d28_112 rfl rfl ?_
  refine qli (v := (.int sv0)) B X2 hZ e2 g4_V d28_114 ⟨(own_look g11_hs0).1, (own_look g11_hs0).2.1⟩ (own_look g11_hs0).2.2 ?_
  refine q_dup B X2 d28_115 rfl rfl rfl ?_
  refine q_istore B X2 d28_116 rfl rfl rfl ?_
  refine q_ifYes 214 B X2 d28_118 rfl ((if0 _ _).trans (flt (own_Vnn (own_syV g11_hs0))).2.1) rfl rfl (by decide) ?_
  refine q_iload B X2 d28_214 rfl rfl ?_
  refine q_iload B X2 d28_216 rfl rfl ?_
  refine q_iload B X2 d28_218 rfl rfl ?_
  refine q_ishl B X2 d28_220 rfl rfl ?_
  refine q_ior B X2 d28_221 rfl rfl ?_
  refine q_istore B X2 d28_222 rfl rfl rfl ?_
  refine q_iinc B X2 d28_224 rfl rfl rfl ?_
  show G (T2.setTop (mkF m 227 #[oa dc, oa sr, oi 1, oi 3, oa o, oa tab, oi 0, oi ((0 : Int32) ||| (sv0 <<< ((18 : Int32) &&& 31))), oi ((18 : Int32) + (-6 : Int32)), oi sv0, .unset] []))
  rw [show ((18 : Int32) + (-6 : Int32)) = (12 : Int32) from by decide]
  show G (T2.setTop (mkF m 227 #[oa dc, oa sr, oi 1, oi 3, oa o, oa tab, oi 0, oi ((0 : Int32) ||| (sv0 <<< ((18 : Int32) &&& 31))), oi 12, oi sv0, .unset] []))
  refine q_iload B X2 d28_227 rfl rfl ?_
  refine q_ifYes 278 B X2 d28_229 rfl ((if0 _ _).trans (flt (by decide)).2.1) rfl rfl (by decide) ?_
  refine q_goto 28 B X2 d28_278 rfl rfl (by decide) ?_
  refine q_iloadN B X2 d28_28 rfl rfl ?_
  refine q_iloadN B X2 d28_29 rfl rfl ?_
  refine q_icmpNo B X2 d28_30 rfl (tlt (by decide)).2.1 rfl ?_
  refine q_iload B X2 d28_33 rfl rfl ?_
  refine q_bipush B X2 d28_35 rfl ?_
  refine q_icmpYes 90 B X2 d28_37 rfl (feq (by decide)).2 rfl rfl (by decide) ?_
  refine q_iloadN B X2 d28_90 rfl rfl ?_
  refine q_iloadN B X2 d28_91 rfl rfl ?_
  refine q_icmpYes 98 B X2 d28_92 rfl (tlt (by decide)).1 rfl rfl (by decide) ?_
  refine q_aloadN B X2 d28_98 rfl rfl rfl ?_
  refine q_iloadN B X2 d28_99 rfl rfl ?_
  refine q_iinc B X2 d28_100 rfl rfl rfl ?_
  show G (T2.setTop (mkF m 103 #[oa dc, oa sr, oi ((1 : Int32) + (1 : Int32)), oi 3, oa o, oa tab, oi 0, oi ((0 : Int32) ||| (sv0 <<< ((18 : Int32) &&& 31))), oi 12, oi sv0, .unset] [(.int 1), (.ref sr)]))
  rw [show ((1 : Int32) + (1 : Int32)) = (2 : Int32) from by decide]
  show G (T2.setTop (mkF m 103 #[oa dc, oa sr, oi 2, oi 3, oa o, oa tab, oi 0, oi ((0 : Int32) ||| (sv0 <<< ((18 : Int32) &&& 31))), oi 12, oi sv0, .unset] [(.int 1), (.ref sr)]))
  refine qlb (v := (.int ch1)) B X2 hZ e2 g5_V d28_103 (by decide) rfl ?_
  refine q_sipush B X2 d28_104 rfl ?_
  refine q_iand B X2 d28_107 rfl rfl ?_
  show G (T2.setTop (mkF m 108 #[oa dc, oa sr, oi 2, oi 3, oa o, oa tab, oi 0, oi ((0 : Int32) ||| (sv0 <<< ((18 : Int32) &&& 31))), oi 12, oi sv0, .unset] [(.int (ch1 &&& (255 : Int32)))]))
  rw [own_m255 g12_hs1]
  show G (T2.setTop (mkF m 108 #[oa dc, oa sr, oi 2, oi 3, oa o, oa tab, oi 0, oi ((0 : Int32) ||| (sv0 <<< ((18 : Int32) &&& 31))), oi 12, oi sv0, .unset] [(.int ch1)]))
  refine q_istore B X2 d28_108 rfl rfl rfl ?_
  refine q_aload B X2 d28_110 rfl rfl rfl ?_
  refine q_iload B X2 d28_112 rfl rfl ?_
  refine qli (v := (.int sv1)) B X2 hZ e2 g4_V d28_114 ⟨(own_look g12_hs1).1, (own_look g12_hs1).2.1⟩ (own_look g12_hs1).2.2 ?_
  refine q_dup B X2 d28_115 rfl rfl rfl ?_
  refine q_istore B X2 d28_116 rfl rfl rfl ?_
  refine q_ifYes 214 B X2 d28_118 rfl ((if0 _ _).trans (flt (own_Vnn (own_syV g12_hs1))).2.1) rfl rfl (by decide) ?_
  refine q_iload B X2 d28_214 rfl rfl ?_
  refine q_iload B X2 d28_216 rfl rfl ?_
  refine q_iload B X2 d28_218 rfl rfl ?_
  refine q_ishl B X2 d28_220 rfl rfl ?_
  refine q_ior B X2 d28_221 rfl rfl ?_
  refine q_istore B X2 d28_222 rfl rfl rfl ?_
  refine q_iinc B X2 d28_224 rfl rfl rfl ?_
  show G (T2.setTop (mkF m 227 #[oa dc, oa sr, oi 2, oi 3, oa o, oa tab, oi 0, oi (((0 : Int32) ||| (sv0 <<< ((18 : Int32) &&& 31))) ||| (sv1 <<< ((12 : Int32) &&& 31))), oi ((12 : Int32) + (-6 : Int32)), oi sv1, .unset] []))
  rw [show ((12 : Int32) + (-6 : Int32)) = (6 : Int32) from by decide]
  show G (T2.setTop (mkF m 227 #[oa dc, oa sr, oi 2, oi 3, oa o, oa tab, oi 0, oi (((0 : Int32) ||| (sv0 <<< ((18 : Int32) &&& 31))) ||| (sv1 <<< ((12 : Int32) &&& 31))), oi 6, oi sv1, .unset] []))
  refine q_iload B X2 d28_227 rfl rfl ?_
  refine q_ifYes 278 B X2 d28_229 rfl ((if0 _ _).trans (flt (by decide)).2.1) rfl rfl (by decide) ?_
  refine q_goto 28 B X2 d28_278 rfl rfl (by decide) ?_
  refine q_iloadN B X2 d28_28 rfl rfl ?_
  refine q_iloadN B X2 d28_29 rfl rfl ?_
  refine q_icmpNo B X2 d28_30 rfl (tlt (by decide)).2.1 rfl ?_
  refine q_iload B X2 d28_33 rfl rfl ?_
  refine q_bipush B X2 d28_35 rfl ?_
  refine q_icmpYes 90 B X2 d28_37 rfl (feq (by decide)).2 rfl rfl (by decide) ?_
  refine q_iloadN B X2 d28_90 rfl rfl ?_
  refine q_iloadN B X2 d28_91 rfl rfl ?_
  refine q_icmpYes 98 B X2 d28_92 rfl (tlt (by decide)).1 rfl rfl (by decide) ?_
  refine q_aloadN B X2 d28_98 rfl rfl rfl ?_
  refine q_iloadN B X2 d28_99 rfl rfl ?_
  refine q_iinc B X2 d28_100 rfl rfl rfl ?_
  show G (T2.setTop (mkF m 103 #[oa dc, oa sr, oi ((2 : Int32) + (1 : Int32)), oi 3, oa o, oa tab, oi 0, oi (((0 : Int32) ||| (sv0 <<< ((18 : Int32) &&& 31))) ||| (sv1 <<< ((12 : Int32) &&& 31))), oi 6, oi sv1, .unset] [(.int 2), (.ref sr)]))
  rw [show ((2 : Int32) + (1 : Int32)) = (3 : Int32) from by decide]
  show G (T2.setTop (mkF m 103 #[oa dc, oa sr, oi 3, oi 3, oa o, oa tab, oi 0, oi (((0 : Int32) ||| (sv0 <<< ((18 : Int32) &&& 31))) ||| (sv1 <<< ((12 : Int32) &&& 31))), oi 6, oi sv1, .unset] [(.int 2), (.ref sr)]))
  refine qlb (v := (.int ch2)) B X2 hZ e2 g5_V d28_103 (by decide) rfl ?_
  refine q_sipush B X2 d28_104 rfl ?_
  refine q_iand B X2 d28_107 rfl rfl ?_
  show G (T2.setTop (mkF m 108 #[oa dc, oa sr, oi 3, oi 3, oa o, oa tab, oi 0, oi (((0 : Int32) ||| (sv0 <<< ((18 : Int32) &&& 31))) ||| (sv1 <<< ((12 : Int32) &&& 31))), oi 6, oi sv1, .unset] [(.int (ch2 &&& (255 : Int32)))]))
  rw [own_m255 g13_hs2]
  show G (T2.setTop (mkF m 108 #[oa dc, oa sr, oi 3, oi 3, oa o, oa tab, oi 0, oi (((0 : Int32) ||| (sv0 <<< ((18 : Int32) &&& 31))) ||| (sv1 <<< ((12 : Int32) &&& 31))), oi 6, oi sv1, .unset] [(.int ch2)]))
  refine q_istore B X2 d28_108 rfl rfl rfl ?_
  refine q_aload B X2 d28_110 rfl rfl rfl ?_
  refine q_iload B X2 d28_112 rfl rfl ?_
  refine qli (v := (.int sv2)) B X2 hZ e2 g4_V d28_114 ⟨(own_look g13_hs2).1, (own_look g13_hs2).2.1⟩ (own_look g13_hs2).2.2 ?_
  refine q_dup B X2 d28_115 rfl rfl rfl ?_
  refine q_istore B X2 d28_116 rfl rfl rfl ?_
  refine q_ifYes 214 B X2 d28_118 rfl ((if0 _ _).trans (flt (own_Vnn (own_syV g13_hs2))).2.1) rfl rfl (by decide) ?_
  refine q_iload B X2 d28_214 rfl rfl ?_
  refine q_iload B X2 d28_216 rfl rfl ?_
  refine q_iload B X2 d28_218 rfl rfl ?_
  refine q_ishl B X2 d28_220 rfl rfl ?_
  refine q_ior B X2 d28_221 rfl rfl ?_
  refine q_istore B X2 d28_222 rfl rfl rfl ?_
  refine q_iinc B X2 d28_224 rfl rfl rfl ?_
  show G (T2.setTop (mkF m 227 #[oa dc, oa sr, oi 3, oi 3, oa o, oa tab, oi 0, oi ((((0 : Int32) ||| (sv0 <<< ((18 : Int32) &&& 31))) ||| (sv1 <<< ((12 : Int32) &&& 31))) ||| (sv2 <<< ((6 : Int32) &&& 31))), oi ((6 : Int32) + (-6 : Int32)), oi sv2, .unset] []))
  rw [show ((6 : Int32) + (-6 : Int32)) = (0 : Int32) from by decide]
  show G (T2.setTop (mkF m 227 #[oa dc, oa sr, oi 3, oi 3, oa o, oa tab, oi 0, oi ((((0 : Int32) ||| (sv0 <<< ((18 : Int32) &&& 31))) ||| (sv1 <<< ((12 : Int32) &&& 31))) ||| (sv2 <<< ((6 : Int32) &&& 31))), oi 0, oi sv2, .unset] []))
  refine q_iload B X2 d28_227 rfl rfl ?_
  refine q_ifYes 278 B X2 d28_229 rfl ((if0 _ _).trans (flt (by decide)).2.1) rfl rfl (by decide) ?_
  refine q_goto 28 B X2 d28_278 rfl rfl (by decide) ?_
  refine q_iloadN B X2 d28_28 rfl rfl ?_
  refine q_iloadN B X2 d28_29 rfl rfl ?_
  refine q_icmpYes 281 B X2 d28_30 rfl (flt (by decide)).2.1 rfl rfl (by decide) ?_
  refine q_iload B X2 d28_281 rfl rfl ?_
  refine q_bipush B X2 d28_283 rfl ?_
  refine q_icmpYes 305 B X2 d28_285 rfl (feq (by decide)).2 rfl rfl (by decide) ?_
  refine q_iload B X2 d28_305 rfl rfl ?_
  refine q_ifNo B X2 d28_307 rfl ((if0 _ _).trans (teq (by decide)).2) rfl ?_
  refine q_aload B X2 d28_310 rfl rfl rfl ?_
  refine q_iload B X2 d28_312 rfl rfl ?_
  refine q_iinc B X2 d28_314 rfl rfl rfl ?_
  show G (T2.setTop (mkF m 317 #[oa dc, oa sr, oi 3, oi 3, oa o, oa tab, oi ((0 : Int32) + (1 : Int32)), oi ((((0 : Int32) ||| (sv0 <<< ((18 : Int32) &&& 31))) ||| (sv1 <<< ((12 : Int32) &&& 31))) ||| (sv2 <<< ((6 : Int32) &&& 31))), oi 0, oi sv2, .unset] [(.int 0), (.ref o)]))
  rw [show ((0 : Int32) + (1 : Int32)) = (1 : Int32) from by decide]
  show G (T2.setTop (mkF m 317 #[oa dc, oa sr, oi 3, oi 3, oa o, oa tab, oi 1, oi ((((0 : Int32) ||| (sv0 <<< ((18 : Int32) &&& 31))) ||| (sv1 <<< ((12 : Int32) &&& 31))) ||| (sv2 <<< ((6 : Int32) &&& 31))), oi 0, oi sv2, .unset] [(.int 0), (.ref o)]))
  refine q_iload B X2 d28_317 rfl rfl ?_
  refine q_bipush B X2 d28_319 rfl ?_
  refine q_ishr B X2 d28_321 rfl rfl ?_
  refine q_i2b B X2 d28_322 rfl rfl ?_
  show G (T2.setTop (mkF m 323 #[oa dc, oa sr, oi 3, oi 3, oa o, oa tab, oi 1, oi ((((0 : Int32) ||| (sv0 <<< ((18 : Int32) &&& 31))) ||| (sv1 <<< ((12 : Int32) &&& 31))) ||| (sv2 <<< ((6 : Int32) &&& 31))), oi 0, oi sv2, .unset] [(.int ((((((0 : Int32) ||| (sv0 <<< ((18 : Int32) &&& 31))) ||| (sv1 <<< ((12 : Int32) &&& 31))) ||| (sv2 <<< ((6 : Int32) &&& 31))) >>> ((16 : Int32) &&& 31)).toInt8.toInt32)), (.int 0), (.ref o)]))
  refine qsb 0 B X2 hZ e2 g6_V d28_323 (by decide) rfl (Nat.le_of_ble_eq_true rfl) fun T9 h9 X9 e9 W9 V9 => ?_
  have K9 := (Keep.refl h0 [o]).wr W9 (own_mi 0 rfl)
  have O9 := O0.wr W9 g7_G
  have N9 := Fr.snoc X9 N0 g7_G
  refine q_aload B X9 d28_324 rfl rfl rfl ?_
  refine q_iload B X9 d28_326 rfl rfl ?_
  refine q_iinc B X9 d28_328 rfl rfl rfl ?_
  show G (T9.setTop (mkF m 331 #[oa dc, oa sr, oi 3, oi 3, oa o, oa tab, oi ((1 : Int32) + (1 : Int32)), oi ((((0 : Int32) ||| (sv0 <<< ((18 : Int32) &&& 31))) ||| (sv1 <<< ((12 : Int32) &&& 31))) ||| (sv2 <<< ((6 : Int32) &&& 31))), oi 0, oi sv2, .unset] [(.int 1), (.ref o)]))
  rw [show ((1 : Int32) + (1 : Int32)) = (2 : Int32) from by decide]
  show G (T9.setTop (mkF m 331 #[oa dc, oa sr, oi 3, oi 3, oa o, oa tab, oi 2, oi ((((0 : Int32) ||| (sv0 <<< ((18 : Int32) &&& 31))) ||| (sv1 <<< ((12 : Int32) &&& 31))) ||| (sv2 <<< ((6 : Int32) &&& 31))), oi 0, oi sv2, .unset] [(.int 1), (.ref o)]))
  refine q_iload B X9 d28_331 rfl rfl ?_
  refine q_bipush B X9 d28_333 rfl ?_
  refine q_ishr B X9 d28_335 rfl rfl ?_
  refine q_i2b B X9 d28_336 rfl rfl ?_
  show G (T9.setTop (mkF m 337 #[oa dc, oa sr, oi 3, oi 3, oa o, oa tab, oi 2, oi ((((0 : Int32) ||| (sv0 <<< ((18 : Int32) &&& 31))) ||| (sv1 <<< ((12 : Int32) &&& 31))) ||| (sv2 <<< ((6 : Int32) &&& 31))), oi 0, oi sv2, .unset] [(.int ((((((0 : Int32) ||| (sv0 <<< ((18 : Int32) &&& 31))) ||| (sv1 <<< ((12 : Int32) &&& 31))) ||| (sv2 <<< ((6 : Int32) &&& 31))) >>> ((8 : Int32) &&& 31)).toInt8.toInt32)), (.int 1), (.ref o)]))
  refine qsb 1 B X9 hZ e9 V9 d28_337 (by decide) rfl (Nat.le_of_ble_eq_true rfl) fun T10 h10 X10 e10 W10 V10 => ?_
  have K10 := K9.wr W10 (own_mi 0 rfl)
  have O10 := O9.wr W10 g7_G
  have N10 := Fr.snoc X10 N9 g7_G
  refine q_goto 358 B X10 d28_338 rfl rfl (by decide) ?_
  refine q_iloadN B X10 d28_358 rfl rfl ?_
  refine q_iloadN B X10 d28_359 rfl rfl ?_
  refine q_icmpYes 416 B X10 d28_360 rfl (flt (by decide)).2.1 rfl rfl (by decide) ?_
  refine q_iload B X10 d28_416 rfl rfl ?_
  show G (T10.setTop (mkF m 418 #[oa dc, oa sr, oi 3, oi 3, oa o, oa tab, oi 2, oi ((((0 : Int32) ||| (sv0 <<< ((18 : Int32) &&& 31))) ||| (sv1 <<< ((12 : Int32) &&& 31))) ||| (sv2 <<< ((6 : Int32) &&& 31))), oi 0, oi sv2, .unset] [(.int 2)]))
  exact qRI B hR hret X10 d28_418 e10 ⟨rfl, N10, K10, V10⟩ (by decide)
theorem own_decb3 (hw : own_W Z a0) {dc tab : Addr} {ktab : ClassId} {sr : Addr} {ks : ClassId} {ch0 ch1 ch2 : Int32} (sv0 sv1 sv2 : Int32) (O0 : own_Old Z h0) (g0_S : Sta Z Z.heap "java/util/Base64$Decoder" "fromBase64URL" "[I" (.ref tab)) (g1_E : Exa Z h0 dc "java/util/Base64$Decoder") (g2_F : Fld Z h0 dc "java/util/Base64$Decoder" "isURL" "Z" (.int 1)) (g3_F : Fld Z h0 dc "java/util/Base64$Decoder" "isMIME" "Z" (.int 0)) (g4_V : Arv Z h0 tab ktab .int 256 (own_TAB.map Value.int) (.int 0)) (g5_V : Arv Z h0 sr ks .byte (3 : Int32) [(.int ch0), (.int ch1), (.int ch2)] (.int 0)) (g6_hs0 : own_sy ch0 sv0) (g7_hs1 : own_sy ch1 sv1) (g8_hs2 : own_sy ch2 sv2) : own_Con l Z ⟨"java/util/Base64$Decoder", "decode", "([B)[B"⟩ jdk_2450_method_2_code 4 (some (.array .byte)) [] ⟨1, 1, 2, 22⟩ #[(.ref dc), (.ref sr)] h0 (fun rv rh rL => ∃ (o : Addr) (ko : ClassId), rv = some (.ref o) ∧ own_Fr Z rL ∧ Keep h0 rh [] ∧ h0.size ≤ o ∧ (Arv Z rh o ko .byte (2 : Int32) [(.int (nar .byte ((((((0 : Int32) ||| (sv0 <<< ((18 : Int32) &&& 31))) ||| (sv1 <<< ((12 : Int32) &&& 31))) ||| (sv2 <<< ((6 : Int32) &&& 31))) >>> ((16 : Int32) &&& 31)).toInt8.toInt32))), (.int (nar .byte ((((((0 : Int32) ||| (sv0 <<< ((18 : Int32) &&& 31))) ||| (sv1 <<< ((12 : Int32) &&& 31))) ||| (sv2 <<< ((6 : Int32) &&& 31))) >>> ((8 : Int32) &&& 31)).toInt8.toInt32)))] (.int 0))) := by
  refine own_st hw (plainFor_of_name (by decide +kernel)) #[oa dc, oa sr, .unset, .unset] (fun _ => rfl) fun p e s m below meth c s₁ G B hown hnm hret hZ X0 e0 N0 hR => ?_
  refine q_aloadN B X0 d26_0 rfl rfl rfl ?_
  refine q_aloadN B X0 d26_1 rfl rfl rfl ?_
  refine q_iconst B X0 d26_2 rfl ?_
  refine q_aloadN B X0 d26_3 rfl rfl rfl ?_
  refine qal B X0 hZ e0 g5_V d26_4 ?_
  show G (s₁.setTop (mkF m 5 #[oa dc, oa sr, .unset, .unset] [(.int 3), (.int 0), (.ref sr), (.ref dc)]))
  refine qP B X0 hZ hown 129 130 132 131 90 133 rfl rfl rfl rfl rfl rfl (own_dol3 hw (ch0 := ch0) (ch1 := ch1) (ch2 := ch2) sv0 sv1 sv2 O0 g0_S g1_E g2_F g3_F g5_V g6_hs0 g7_hs1 g8_hs2) e0 g1_E own_pd17 rfl rfl d26_5 0 rfl rfl rfl (by decide) ?_
  rintro T2 h2 _ L2 X2 e2 ⟨rfl, M2, rfl⟩
  have N2 := Fr.app N0 M2
  refine qna 2 B X2 hZ 31 rfl e2 d26_8 (by decide) (by decide) (by decide) fun T3 h3 k3 b3 z3 X3 e3 E3 A3 => ?_
  have K3 := (Keep.refl h0 []).ext E3
  have O3 := O0.ext E3
  have V3 : Arv Z h3 b3 k3 .byte (2 : Int32) [(.int 0), (.int 0)] (.int 0) := (Arv.new A3 (by decide)).pad (pad_rep [] (.int 0) 2)
  refine q_astoreN B X3 d26_10 rfl rfl rfl rfl ?_
  refine q_aloadN B X3 d26_11 rfl rfl rfl ?_
  refine q_aloadN B X3 d26_12 rfl rfl rfl ?_
  refine q_iconst B X3 d26_13 rfl ?_
  refine q_aloadN B X3 d26_14 rfl rfl rfl ?_
  have f5 := (g5_V.ext E3)
  refine qal B X3 hZ e3 f5 d26_15 ?_
  refine q_aloadN B X3 d26_16 rfl rfl rfl ?_
  show G (T3.setTop (mkF m 17 #[oa dc, oa sr, oa b3, .unset] [(.ref b3), (.int 3), (.int 0), (.ref sr), (.ref dc)]))
  have f7 := (g1_E.ext E3)
  have f8 := (g2_F.ext E3)
  have f9 := (g3_F.ext E3)
  have f10 := (g4_V.ext E3)
  refine qP B X3 hZ hown 141 142 144 143 90 145 rfl rfl rfl rfl rfl rfl (own_dec03 hw (ch0 := ch0) (ch1 := ch1) (ch2 := ch2) sv0 sv1 sv2 O3 g0_S f7 f8 f9 f10 f5 V3 (own_ge O0 (Nat.le_of_eq z3.symm)) (own_ne g5_V.lt (Nat.le_of_eq z3.symm)) (own_ne g4_V.lt (Nat.le_of_eq z3.symm)) (own_ne g1_E.lt (Nat.le_of_eq z3.symm)) g6_hs0 g7_hs1 g8_hs2) e3 f7 own_pd18 rfl rfl d26_17 0 rfl rfl rfl (by decide) ?_
  rintro T6 h6 _ L6 X6 e6 ⟨rfl, M6, J6, r6_0⟩
  have N6 := Fr.app N2 M6
  have K6 := K3.trans J6 (allS (Or.inr (Nat.le_trans (Keep.refl h0 []).1 (Nat.le_of_eq z3.symm))) all0)
  have O6 := O3.keep J6 (allS (own_ge O0 (Nat.le_of_eq z3.symm)) all0)
  refine q_istoreN B X6 d26_20 rfl rfl rfl ?_
  refine q_iloadN B X6 d26_21 rfl rfl ?_
  refine q_aloadN B X6 d26_22 rfl rfl rfl ?_
  refine qal B X6 hZ e6 r6_0 d26_23 ?_
  refine q_icmpYes 33 B X6 d26_24 rfl (teq (by decide)).1 rfl rfl (by decide) ?_
  refine q_aloadN B X6 d26_33 rfl rfl rfl ?_
  show G (T6.setTop (mkF m 34 #[oa dc, oa sr, oa b3, oi 2] [(.ref b3)]))
  exact qRA B hR hret rfl rfl X6 d26_34 e6 ⟨b3, k3, rfl, N6, K6, (Nat.le_trans (Keep.refl h0 []).1 (Nat.le_of_eq z3.symm)), r6_0⟩ (by decide)
theorem own_decs3 (hw : own_W Z a0) {dc iso u8 tab : Addr} {ktab : ClassId} {a : Addr} {cpt : Int32} {t : Addr} {kt : ClassId} {ch0 ch1 ch2 : Int32} (sv0 sv1 sv2 : Int32) (O0 : own_Old Z h0) (g0_S : Sta Z Z.heap "sun/nio/cs/ISO_8859_1" "INSTANCE" "Lsun/nio/cs/ISO_8859_1;" (.ref iso)) (g1_S : Sta Z Z.heap "sun/nio/cs/UTF_8" "INSTANCE" "Lsun/nio/cs/UTF_8;" (.ref u8)) (g2_S : Sta Z Z.heap "java/util/Base64$Decoder" "fromBase64URL" "[I" (.ref tab)) (g3_hiu : iso ≠ u8) (g4_E : Exa Z h0 dc "java/util/Base64$Decoder") (g5_F : Fld Z h0 dc "java/util/Base64$Decoder" "isURL" "Z" (.int 1)) (g6_F : Fld Z h0 dc "java/util/Base64$Decoder" "isMIME" "Z" (.int 0)) (g7_V : Arv Z h0 tab ktab .int 256 (own_TAB.map Value.int) (.int 0)) (g8_E : Exa Z h0 a "java/lang/String") (g9_F : Fld Z h0 a "java/lang/String" "coder" "B" (.int 0)) (g10_F : Fld Z h0 a "java/lang/String" "value" "[B" (.ref t)) (g11_E : Exa Z h0 t "[B") (g12_V : Arv Z h0 t kt .byte (3 : Int32) [(.int ch0), (.int ch1), (.int ch2)] (.int 0)) (g13_S : Sta Z Z.heap "java/lang/String" "COMPACT_STRINGS" "Z" (.int cpt)) (g14_hcpt : ¬ (cpt = (0 : Int32))) (g15_hs0 : own_sy ch0 sv0) (g16_hs1 : own_sy ch1 sv1) (g17_hs2 : own_sy ch2 sv2) : own_Con l Z ⟨"java/util/Base64$Decoder", "decode", "(Ljava/lang/String;)[B"⟩ jdk_2450_method_3_code 2 (some (.array .byte)) [] ⟨5, 2, 10, 76⟩ #[(.ref dc), (.ref a)] h0 (fun rv rh rL => ∃ (o : Addr) (ko : ClassId), rv = some (.ref o) ∧ own_Fr Z rL ∧ Keep h0 rh [] ∧ h0.size ≤ o ∧ (Arv Z rh o ko .byte (2 : Int32) [(.int (nar .byte ((((((0 : Int32) ||| (sv0 <<< ((18 : Int32) &&& 31))) ||| (sv1 <<< ((12 : Int32) &&& 31))) ||| (sv2 <<< ((6 : Int32) &&& 31))) >>> ((16 : Int32) &&& 31)).toInt8.toInt32))), (.int (nar .byte ((((((0 : Int32) ||| (sv0 <<< ((18 : Int32) &&& 31))) ||| (sv1 <<< ((12 : Int32) &&& 31))) ||| (sv2 <<< ((6 : Int32) &&& 31))) >>> ((8 : Int32) &&& 31)).toInt8.toInt32)))] (.int 0))) := by
  refine own_st hw (plainFor_of_name (by decide +kernel)) #[oa dc, oa a] (fun _ => rfl) fun p e s m below meth c s₁ G B hown hnm hret hZ X0 e0 N0 hR => ?_
  refine q_aloadN B X0 d21_0 rfl rfl rfl ?_
  refine q_aloadN B X0 d21_1 rfl rfl rfl ?_
  refine qgs B X0 hZ hown 96 rfl Via.refl e0 g0_S O0 d21_2 fun T1 X1 e1 => ?_
  show G (T1.setTop (mkF m 5 #[oa dc, oa a] [(.ref iso), (.ref a), (.ref dc)]))
  refine qV B X1 hZ hown 98 99 101 100 15 102 rfl rfl rfl rfl rfl rfl (own_gby hw O0 g0_S g1_S g3_hiu g8_E g9_F g10_F g11_E g12_V (by decide) g13_S g14_hcpt) e1 g8_E own_pd16 rfl rfl d21_5 1 rfl rfl rfl (by decide) ?_
  rintro T2 h2 _ L2 X2 e2 ⟨u_2, ku_2, rfl, M2, J2, y2_0, r2_0⟩
  have N2 := Fr.app N0 M2
  have K2 := (Keep.refl h0 []).trans J2 all0
  have O2 := O0.keep J2 all0
  show G (T2.setTop (mkF m 8 #[oa dc, oa a] [(.ref u_2), (.ref dc)]))
  have f4 := (g4_E.keep J2)
  have f5 := (g5_F.keep J2 nin0)
  have f6 := (g6_F.keep J2 nin0)
  have f7 := (g7_V.keep J2 nin0)
  refine qV B X2 hZ hown 124 125 127 126 90 128 rfl rfl rfl rfl rfl rfl (own_decb3 hw (ch0 := ch0) (ch1 := ch1) (ch2 := ch2) sv0 sv1 sv2 O2 g2_S f4 f5 f6 f7 r2_0 g15_hs0 g16_hs1 g17_hs2) e2 f4 own_pd19 rfl rfl d21_8 0 rfl rfl rfl (by decide) ?_
  rintro T3 h3 _ L3 X3 e3 ⟨o_3, ko_3, rfl, M3, J3, y3_0, r3_0⟩
  have N3 := Fr.app N2 M3
  have K3 := K2.trans J3 all0
  have O3 := O2.keep J3 all0
  show G (T3.setTop (mkF m 11 #[oa dc, oa a] [(.ref o_3)]))
  exact qRA B hR hret rfl rfl X3 d21_11 e3 ⟨o_3, ko_3, rfl, N3, K3, (Nat.le_trans K2.1 y3_0), r3_0⟩ (by decide)
theorem own_b64_3 (hw : own_W Z a0) {dc iso u8 tab : Addr} {ktab : ClassId} {a : Addr} {cpt : Int32} {t : Addr} {kt : ClassId} (ch0 ch1 ch2 sv0 sv1 sv2 : Int32) (O0 : own_Old Z h0) (g0_S : Sta Z Z.heap "java/util/Base64$Decoder" "RFC4648_URLSAFE" "Ljava/util/Base64$Decoder;" (.ref dc)) (g1_S : Sta Z Z.heap "sun/nio/cs/ISO_8859_1" "INSTANCE" "Lsun/nio/cs/ISO_8859_1;" (.ref iso)) (g2_S : Sta Z Z.heap "sun/nio/cs/UTF_8" "INSTANCE" "Lsun/nio/cs/UTF_8;" (.ref u8)) (g3_S : Sta Z Z.heap "java/util/Base64$Decoder" "fromBase64URL" "[I" (.ref tab)) (g4_hiu : iso ≠ u8) (g5_E : Exa Z h0 dc "java/util/Base64$Decoder") (g6_F : Fld Z h0 dc "java/util/Base64$Decoder" "isURL" "Z" (.int 1)) (g7_F : Fld Z h0 dc "java/util/Base64$Decoder" "isMIME" "Z" (.int 0)) (g8_V : Arv Z h0 tab ktab .int 256 (own_TAB.map Value.int) (.int 0)) (g9_E : Exa Z h0 a "java/lang/String") (g10_F : Fld Z h0 a "java/lang/String" "coder" "B" (.int 0)) (g11_F : Fld Z h0 a "java/lang/String" "value" "[B" (.ref t)) (g12_E : Exa Z h0 t "[B") (g13_V : Arv Z h0 t kt .byte (Int32.ofNat [ch0, ch1, ch2].length) ([ch0, ch1, ch2].map fun c => Value.int c.toInt8.toInt32) (.int 0)) (g14_S : Sta Z Z.heap "java/lang/String" "COMPACT_STRINGS" "Z" (.int cpt)) (g15_hcpt : ¬ (cpt = (0 : Int32))) (g16_hs0 : own_sy ch0 sv0) (g17_hs1 : own_sy ch1 sv1) (g18_hs2 : own_sy ch2 sv2) : own_Con l Z ⟨"com/example/research_access_policy/researchaccesspolicy/token/Base64Url", "decode", "(Ljava/lang/String;)[B"⟩ prog_16_method_2_code 1 (some (.array .byte)) [] ⟨6, 2, 10, 89⟩ #[(.ref a)] h0 (fun rv rh rL => ∃ (o : Addr) (ko : ClassId), rv = some (.ref o) ∧ own_Fr Z rL ∧ Keep h0 rh [] ∧ h0.size ≤ o ∧ (Arv Z rh o ko .byte (2 : Int32) [(.int (nar .byte ((((((0 : Int32) ||| (sv0 <<< ((18 : Int32) &&& 31))) ||| (sv1 <<< ((12 : Int32) &&& 31))) ||| (sv2 <<< ((6 : Int32) &&& 31))) >>> ((16 : Int32) &&& 31)).toInt8.toInt32))), (.int (nar .byte ((((((0 : Int32) ||| (sv0 <<< ((18 : Int32) &&& 31))) ||| (sv1 <<< ((12 : Int32) &&& 31))) ||| (sv2 <<< ((6 : Int32) &&& 31))) >>> ((8 : Int32) &&& 31)).toInt8.toInt32)))] (.int 0))) := by
  refine own_st hw (plainFor_of_name (by decide +kernel)) #[oa a] (fun _ => rfl) fun p e s m below meth c s₁ G B hown hnm hret hZ X0 e0 N0 hR => ?_
  refine q_aloadN B X0 d10_0 rfl rfl rfl ?_
  refine q_bipush B X0 d10_1 rfl ?_
  show G (s₁.setTop (mkF m 3 #[oa a] [(.int 61), (.ref a)]))
  refine qV B X0 hZ hown 46 47 49 48 15 50 rfl rfl rfl rfl rfl rfl (own_sio1 hw [ch0, ch1, ch2] O0 g9_E g10_F g11_F g13_V (Nat.le_of_ble_eq_true rfl) (own_allc (own_sy8 g16_hs0) (own_allc (own_sy8 g17_hs1) (own_allc (own_sy8 g18_hs2) own_alln))) g14_S g15_hcpt) e0 g9_E own_pd11 rfl rfl d10_3 0 rfl rfl rfl (by decide) ?_
  rintro T1 h1 _ L1 X1 e1 ⟨r_1, rfl, M1, rfl, r1_0⟩
  have N1 := Fr.app N0 M1
  refine q_ifYes 19 B X1 d10_6 rfl ((if0 _ _).trans (tlt (r1_0.mpr (own_allc (own_sy_e g16_hs0).2.2.1 (own_allc (own_sy_e g17_hs1).2.2.1 (own_allc (own_sy_e g18_hs2).2.2.1 own_alln))))).1) rfl rfl (by decide) ?_
  show G (T1.setTop (mkF m 19 #[oa a] []))
  have W2 : Arv Z h0 t kt .byte (3 : Int32) [(.int ch0), (.int ch1), (.int ch2)] (.int 0) := by have q := g13_V; simp only [List.map_cons, List.map_nil, own_b7 g16_hs0, own_b7 g17_hs1, own_b7 g18_hs2] at q; exact q
  show G (T1.setTop (mkF m 19 #[oa a] []))
  refine qS B X1 hZ hown 85 86 87 88 rfl rfl rfl rfl (own_gud hw O0 g0_S) e1 own_pd12 rfl rfl d10_19 0 rfl rfl rfl (by decide) ?_
  rintro T3 h3 _ L3 X3 e3 ⟨rfl, M3, rfl⟩
  have N3 := Fr.app N1 M3
  refine q_aloadN B X3 d10_22 rfl rfl rfl ?_
  show G (T3.setTop (mkF m 23 #[oa a] [(.ref a), (.ref dc)]))
  refine qV B X3 hZ hown 91 92 94 93 90 95 rfl rfl rfl rfl rfl rfl (own_decs3 hw (ch0 := ch0) (ch1 := ch1) (ch2 := ch2) sv0 sv1 sv2 O0 g1_S g2_S g3_S g4_hiu g5_E g6_F g7_F g8_V g9_E g10_F g11_F g12_E W2 g14_S g15_hcpt g16_hs0 g17_hs1 g18_hs2) e3 g5_E own_pd20 rfl rfl d10_23 0 rfl rfl rfl (by decide) ?_
  rintro T4 h4 _ L4 X4 e4 ⟨o_4, ko_4, rfl, M4, J4, y4_0, r4_0⟩
  have N4 := Fr.app N3 M4
  have K4 := (Keep.refl h0 []).trans J4 all0
  have O4 := O0.keep J4 all0
  show G (T4.setTop (mkF m 26 #[oa a] [(.ref o_4)]))
  exact qRA B hR hret rfl rfl X4 d10_26 e4 ⟨o_4, ko_4, rfl, N4, K4, (Nat.le_trans (Keep.refl h0 []).1 y4_0), r4_0⟩ (by decide)
theorem own_dol4 (hw : own_W Z a0) {dc tab sr : Addr} {ks : ClassId} {ch0 ch1 ch2 ch3 : Int32} (sv0 sv1 sv2 sv3 : Int32) (O0 : own_Old Z h0) (g0_S : Sta Z Z.heap "java/util/Base64$Decoder" "fromBase64URL" "[I" (.ref tab)) (g1_E : Exa Z h0 dc "java/util/Base64$Decoder") (g2_F : Fld Z h0 dc "java/util/Base64$Decoder" "isURL" "Z" (.int 1)) (g3_F : Fld Z h0 dc "java/util/Base64$Decoder" "isMIME" "Z" (.int 0)) (g4_V : Arv Z h0 sr ks .byte (4 : Int32) [(.int ch0), (.int ch1), (.int ch2), (.int ch3)] (.int 0)) (g5_hs0 : own_sy ch0 sv0) (g6_hs1 : own_sy ch1 sv1) (g7_hs2 : own_sy ch2 sv2) (g8_hs3 : own_sy ch3 sv3) : own_Con l Z ⟨"java/util/Base64$Decoder", "decodedOutLength", "([BII)I"⟩ jdk_2450_method_7_code 9 (some .int) [] ⟨0, 0, 0, 0⟩ #[(.ref dc), (.ref sr), (.int 0), (.int 4)] h0 (fun rv rh rL => rv = some (.int 3) ∧ own_Fr Z rL ∧ h0 = rh) := by
  refine own_st hw (plainFor_of_name (by decide +kernel)) #[oa dc, oa sr, oi 0, oi 4, .unset, .unset, .unset, .unset, .unset] (fun m => by first | (simp [entryFrame, mkF, argsToLocals, Value.category]; done) | rfl) fun p e s m below meth c s₁ G B hown hnm hret hZ X0 e0 N0 hR => ?_
  obtain ⟨hG, hx, hby, hml, -⟩ := id B
  refine q_aloadN B X0 d27_0 rfl rfl rfl ?_
  refine qgf B X0 hZ hown 134 rfl Via.refl e0 g2_F d27_1 fun T1 X1 e1 => ?_
  refine q_ifNo B X1 d27_4 rfl ((if0 _ _).trans (feq (by decide)).1) rfl ?_
  refine qgs B X1 hZ hown 136 rfl Via.refl e1 g0_S O0 d27_7 fun T2 X2 e2 => ?_
  refine q_goto 16 B X2 d27_10 rfl rfl (by decide) ?_
  refine q_astore B X2 d27_16 rfl rfl rfl rfl ?_
  refine q_iconst B X2 d27_18 rfl ?_
  refine q_istore B X2 d27_19 rfl rfl rfl ?_
  refine q_iloadN B X2 d27_21 rfl rfl ?_
  refine q_iloadN B X2 d27_22 rfl rfl ?_
  refine q_isub B X2 d27_23 rfl rfl ?_
  show G (T2.setTop (mkF m 24 #[oa dc, oa sr, oi 0, oi 4, oa tab, oi 0, .unset, .unset, .unset] [(.int ((4 : Int32) - (0 : Int32)))]))
  rw [show ((4 : Int32) - (0 : Int32)) = (4 : Int32) from by decide]
  show G (T2.setTop (mkF m 24 #[oa dc, oa sr, oi 0, oi 4, oa tab, oi 0, .unset, .unset, .unset] [(.int 4)]))
  refine q_istore B X2 d27_24 rfl rfl rfl ?_
  refine q_iload B X2 d27_26 rfl rfl ?_
  refine q_ifYes 33 B X2 d27_28 rfl ((if0 _ _).trans (feq (by decide)).2) rfl rfl (by decide) ?_
  refine q_iload B X2 d27_33 rfl rfl ?_
  refine q_iconst B X2 d27_35 rfl ?_
  refine q_icmpYes 66 B X2 d27_36 rfl (flt (by decide)).2.1 rfl rfl (by decide) ?_
  refine q_aloadN B X2 d27_66 rfl rfl rfl ?_
  refine qgf B X2 hZ hown 137 rfl Via.refl e2 g3_F d27_67 fun T3 X3 e3 => ?_
  refine q_ifYes 141 B X3 d27_70 rfl ((if0 _ _).trans (teq (by decide)).1) rfl rfl (by decide) ?_
  refine q_aloadN B X3 d27_141 rfl rfl rfl ?_
  refine q_iloadN B X3 d27_142 rfl rfl ?_
  refine q_iconst B X3 d27_143 rfl ?_
  refine q_isub B X3 d27_144 rfl rfl ?_
  show G (T3.setTop (mkF m 145 #[oa dc, oa sr, oi 0, oi 4, oa tab, oi 0, oi 4, .unset, .unset] [(.int ((4 : Int32) - (1 : Int32))), (.ref sr)]))
  rw [show ((4 : Int32) - (1 : Int32)) = (3 : Int32) from by decide]
  show G (T3.setTop (mkF m 145 #[oa dc, oa sr, oi 0, oi 4, oa tab, oi 0, oi 4, .unset, .unset] [(.int 3), (.ref sr)]))
  refine qlb (v := (.int ch3)) B X3 hZ e3 g4_V d27_145 (by decide) rfl ?_
  refine q_bipush B X3 d27_146 rfl ?_
  refine q_icmpYes 167 B X3 d27_148 rfl (feq (own_sy_e g8_hs3).2.2.1).2 rfl rfl (by decide) ?_
  refine q_iload B X3 d27_167 rfl rfl ?_
  refine q_ifNo B X3 d27_169 rfl ((if0 _ _).trans (teq (by decide)).2) rfl ?_
  refine q_iload B X3 d27_172 rfl rfl ?_
  refine q_iconst B X3 d27_174 rfl ?_
  refine q_iand B X3 d27_175 rfl rfl ?_
  show G (T3.setTop (mkF m 176 #[oa dc, oa sr, oi 0, oi 4, oa tab, oi 0, oi 4, .unset, .unset] [(.int ((4 : Int32) &&& (3 : Int32)))]))
  rw [show ((4 : Int32) &&& (3 : Int32)) = (0 : Int32) from by decide]
  show G (T3.setTop (mkF m 176 #[oa dc, oa sr, oi 0, oi 4, oa tab, oi 0, oi 4, .unset, .unset] [(.int 0)]))
  refine q_ifYes 187 B X3 d27_176 rfl ((if0 _ _).trans (teq (by decide)).1) rfl rfl (by decide) ?_
  refine q_iconst B X3 d27_187 rfl ?_
  refine q_iload B X3 d27_188 rfl rfl ?_
  refine q_i2l B X3 d27_190 rfl rfl ?_
  refine hG _ _ (X3.ldc2Long hx hown (mvT hZ (ow hw 139 rfl)) (g := (mkF m 191 #[oa dc, oa sr, oi 0, oi 4, oa tab, oi 0, oi 4, .unset, .unset] [(.long ((4 : Int32).toInt64)), (.int 3)])) rfl (hb hby d27_191)) ?_
  refine q_ladd B X3 d27_194 rfl rfl ?_
  refine hG _ _ (X3.ldc2Long hx hown (mvT hZ (ow hw 140 rfl)) (g := (mkF m 195 #[oa dc, oa sr, oi 0, oi 4, oa tab, oi 0, oi 4, .unset, .unset] [(.long (((4 : Int32).toInt64) + (3 : Int64))), (.int 3)])) rfl (hb hby d27_195)) ?_
  refine q_ldiv B X3 d27_198 rfl (by decide) rfl ?_
  refine q_l2i B X3 d27_199 rfl rfl ?_
  show G (T3.setTop (mkF m 200 #[oa dc, oa sr, oi 0, oi 4, oa tab, oi 0, oi 4, .unset, .unset] [(.int (((((4 : Int32).toInt64) + (3 : Int64)) / (4 : Int64)).toInt32)), (.int 3)]))
  rw [show (((((4 : Int32).toInt64) + (3 : Int64)) / (4 : Int64)).toInt32) = (1 : Int32) from by decide]
  show G (T3.setTop (mkF m 200 #[oa dc, oa sr, oi 0, oi 4, oa tab, oi 0, oi 4, .unset, .unset] [(.int 1), (.int 3)]))
  refine q_imul B X3 d27_200 rfl rfl ?_
  show G (T3.setTop (mkF m 201 #[oa dc, oa sr, oi 0, oi 4, oa tab, oi 0, oi 4, .unset, .unset] [(.int ((3 : Int32) * (1 : Int32)))]))
  rw [show ((3 : Int32) * (1 : Int32)) = (3 : Int32) from by decide]
  show G (T3.setTop (mkF m 201 #[oa dc, oa sr, oi 0, oi 4, oa tab, oi 0, oi 4, .unset, .unset] [(.int 3)]))
  refine q_iload B X3 d27_201 rfl rfl ?_
  refine q_isub B X3 d27_203 rfl rfl ?_
  show G (T3.setTop (mkF m 204 #[oa dc, oa sr, oi 0, oi 4, oa tab, oi 0, oi 4, .unset, .unset] [(.int ((3 : Int32) - (0 : Int32)))]))
  rw [show ((3 : Int32) - (0 : Int32)) = (3 : Int32) from by decide]
  show G (T3.setTop (mkF m 204 #[oa dc, oa sr, oi 0, oi 4, oa tab, oi 0, oi 4, .unset, .unset] [(.int 3)]))
  exact qRI B hR hret X3 d27_204 e3 ⟨rfl, N0, rfl⟩ (by decide)
theorem own_dec04 (hw : own_W Z a0) {dc tab : Addr} {ktab : ClassId} {sr : Addr} {ks : ClassId} {o : Addr} {ko : ClassId} {ch0 ch1 ch2 ch3 : Int32} (sv0 sv1 sv2 sv3 : Int32) (O0 : own_Old Z h0) (g0_S : Sta Z Z.heap "java/util/Base64$Decoder" "fromBase64URL" "[I" (.ref tab)) (g1_E : Exa Z h0 dc "java/util/Base64$Decoder") (g2_F : Fld Z h0 dc "java/util/Base64$Decoder" "isURL" "Z" (.int 1)) (g3_F : Fld Z h0 dc "java/util/Base64$Decoder" "isMIME" "Z" (.int 0)) (g4_V : Arv Z h0 tab ktab .int 256 (own_TAB.map Value.int) (.int 0)) (g5_V : Arv Z h0 sr ks .byte (4 : Int32) [(.int ch0), (.int ch1), (.int ch2), (.int ch3)] (.int 0)) (g6_V : Arv Z h0 o ko .byte (3 : Int32) [(.int 0), (.int 0), (.int 0)] (.int 0)) (g7_G : Z.heap.size ≤ o) (g8_ne_sr_o : sr ≠ o) (g9_ne_tab_o : tab ≠ o) (g10_ne_dc_o : dc ≠ o) (g11_hs0 : own_sy ch0 sv0) (g12_hs1 : own_sy ch1 sv1) (g13_hs2 : own_sy ch2 sv2) (g14_hs3 : own_sy ch3 sv3) : own_Con l Z ⟨"java/util/Base64$Decoder", "decode0", "([BII[B)I"⟩ jdk_2450_method_9_code 11 (some .int) [] ⟨0, 0, 0, 0⟩ #[(.ref dc), (.ref sr), (.int 0), (.int 4), (.ref o)] h0 (fun rv rh rL => rv = some (.int 3) ∧ own_Fr Z rL ∧ Keep h0 rh [o] ∧ (Arv Z rh o ko .byte (3 : Int32) [(.int (nar .byte (((((((0 : Int32) ||| (sv0 <<< ((18 : Int32) &&& 31))) ||| (sv1 <<< ((12 : Int32) &&& 31))) ||| (sv2 <<< ((6 : Int32) &&& 31))) ||| (sv3 <<< ((0 : Int32) &&& 31))) >>> ((16 : Int32) &&& 31)).toInt8.toInt32))), (.int (nar .byte (((((((0 : Int32) ||| (sv0 <<< ((18 : Int32) &&& 31))) ||| (sv1 <<< ((12 : Int32) &&& 31))) ||| (sv2 <<< ((6 : Int32) &&& 31))) ||| (sv3 <<< ((0 : Int32) &&& 31))) >>> ((8 : Int32) &&& 31)).toInt8.toInt32))), (.int (nar .byte ((((((0 : Int32) ||| (sv0 <<< ((18 : Int32) &&& 31))) ||| (sv1 <<< ((12 : Int32) &&& 31))) ||| (sv2 <<< ((6 : Int32) &&& 31))) ||| (sv3 <<< ((0 : Int32) &&& 31))).toInt8.toInt32)))] (.int 0))) := by
  refine own_st hw (plainFor_of_name (by decide +kernel)) #[oa dc, oa sr, oi 0, oi 4, oa o, .unset, .unset, .unset, .unset, .unset, .unset] (fun m => by first | (simp [entryFrame, mkF, argsToLocals, Value.category]; done) | rfl) fun p e s m below meth c s₁ G B hown hnm hret hZ X0 e0 N0 hR => ?_
  refine q_aloadN B X0 d28_0 rfl rfl rfl ?_
  refine qgf B X0 hZ hown 134 rfl Via.refl e0 g2_F d28_1 fun T1 X1 e1 => ?_
  refine q_ifNo B X1 d28_4 rfl ((if0 _ _).trans (feq (by decide)).1) rfl ?_
  refine qgs B X1 hZ hown 136 rfl Via.refl e1 g0_S O0 d28_7 fun T2 X2 e2 => ?_
  refine q_goto 16 B X2 d28_10 rfl rfl (by decide) ?_
  refine q_astore B X2 d28_16 rfl rfl rfl rfl ?_
  refine q_iconst B X2 d28_18 rfl ?_
  refine q_istore B X2 d28_19 rfl rfl rfl ?_
  refine q_iconst B X2 d28_21 rfl ?_
  refine q_istore B X2 d28_22 rfl rfl rfl ?_
  refine q_bipush B X2 d28_24 rfl ?_
  refine q_istore B X2 d28_26 rfl rfl rfl ?_
  refine q_iloadN B X2 d28_28 rfl rfl ?_
  refine q_iloadN B X2 d28_29 rfl rfl ?_
  refine q_icmpNo B X2 d28_30 rfl (tlt (by decide)).2.1 rfl ?_
  refine q_iload B X2 d28_33 rfl rfl ?_
  refine q_bipush B X2 d28_35 rfl ?_
  show G (T2.setTop (mkF m 37 #[oa dc, oa sr, oi 0, oi 4, oa o, oa tab, oi 0, oi 0, oi 18, .unset, .unset] [(.int 18), (.int 18)]))
  refine q_icmpNo B X2 d28_37 rfl (teq (by decide)).2 rfl ?_
  refine q_iloadN B X2 d28_40 rfl rfl ?_
  refine q_iloadN B X2 d28_41 rfl rfl ?_
  refine q_iconst B X2 d28_42 rfl ?_
  refine q_isub B X2 d28_43 rfl rfl ?_
  show G (T2.setTop (mkF m 44 #[oa dc, oa sr, oi 0, oi 4, oa o, oa tab, oi 0, oi 0, oi 18, .unset, .unset] [(.int ((4 : Int32) - (4 : Int32))), (.int 0)]))
  rw [show ((4 : Int32) - (4 : Int32)) = (0 : Int32) from by decide]
  show G (T2.setTop (mkF m 44 #[oa dc, oa sr, oi 0, oi 4, oa o, oa tab, oi 0, oi 0, oi 18, .unset, .unset] [(.int 0), (.int 0)]))
  refine q_icmpYes 90 B X2 d28_44 rfl (flt (by decide)).2.1 rfl rfl (by decide) ?_
  refine q_iloadN B X2 d28_90 rfl rfl ?_
  refine q_iloadN B X2 d28_91 rfl rfl ?_
  refine q_icmpYes 98 B X2 d28_92 rfl (tlt (by decide)).1 rfl rfl (by decide) ?_
  refine q_aloadN B X2 d28_98 rfl rfl rfl ?_
  refine q_iloadN B X2 d28_99 rfl rfl ?_
  refine q_iinc B X2 d28_100 rfl rfl rfl ?_
  show G (T2.setTop (mkF m 103 #[oa dc, oa sr, oi ((0 : Int32) + (1 : Int32)), oi 4, oa o, oa tab, oi 0, oi 0, oi 18, .unset, .unset] [(.int 0), (.ref sr)]))
  rw [show ((0 : Int32) + (1 : Int32)) = (1 : Int32) from by decide]
  show G (T2.setTop (mkF m 103 #[oa dc, oa sr, oi 1, oi 4, oa o, oa tab, oi 0, oi 0, oi 18, .unset, .unset] [(.int 0), (.ref sr)]))
  refine qlb (v := (.int ch0)) B X2 hZ e2 g5_V d28_103 (by decide) rfl ?_
  refine q_sipush B X2 d28_104 rfl ?_
  refine q_iand B X2 d28_107 rfl rfl ?_
  show G (T2.setTop (mkF m 108 #[oa dc, oa sr, oi 1, oi 4, oa o, oa tab, oi 0, oi 0, oi 18, .unset, .unset] [(.int (ch0 &&& (255 : Int32)))]))
  rw [own_m255 g11_hs0]
  show G (T2.setTop (mkF m 108 #[oa dc, oa sr, oi 1, oi 4, oa o, oa tab, oi 0, oi 0, oi 18, .unset, .unset] [(.int ch0)]))
  refine q_istore B X2 d28_108 rfl rfl rfl ?_
  refine q_aload B X2 d28_110 rfl rfl rfl ?_
  refine q_iload B X2 d28_112 rfl rfl ?_
  refine qli (v := (.int sv0)) B X2 hZ e2 g4_V d28_114 ⟨(own_look g11_hs0).1, (own_look g11_hs0).2.1⟩ (own_look g11_hs0).2.2 ?_
  refine q_dup B X2 d28_115 rfl rfl rfl ?_
  refine q_istore B X2 d28_116 rfl rfl rfl ?_
  refine q_ifYes 214 B X2 d28_118 rfl ((if0 _ _).trans (flt (own_Vnn (own_syV g11_hs0))).2.1) rfl rfl (by decide) ?_
  refine q_iload B X2 d28_214 rfl rfl ?_
  refine q_iload B X2 d28_216 rfl rfl ?_
  refine q_iload B X2 d28_218 rfl rfl ?_
  refine q_ishl B X2 d28_220 rfl rfl ?_
  refine q_ior B X2 d28_221 rfl rfl ?_
  refine q_istore B X2 d28_222 rfl rfl rfl ?_
  refine q_iinc B X2 d28_224 rfl rfl rfl ?_
  show G (T2.setTop (mkF m 227 #[oa dc, oa sr, oi 1, oi 4, oa o, oa tab, oi 0, oi ((0 : Int32) ||| (sv0 <<< ((18 : Int32) &&& 31))), oi ((18 : Int32) + (-6 : Int32)), oi sv0, .unset] []))
  rw [show ((18 : Int32) + (-6 : Int32)) = (12 : Int32) from by decide]
  show G (T2.setTop (mkF m 227 #[oa dc, oa sr, oi 1, oi 4, oa o, oa tab, oi 0, oi ((0 : Int32) ||| (sv0 <<< ((18 : Int32) &&& 31))), oi 12, oi sv0, .unset] []))
  refine q_iload B X2 d28_227 rfl rfl ?_
  refine q_ifYes 278 B X2 d28_229 rfl ((if0 _ _).trans (flt (by decide)).2.1) rfl rfl (by decide) ?_
  refine q_goto 28 B X2 d28_278 rfl rfl (by decide) ?_
  refine q_iloadN B X2 d28_28 rfl rfl ?_
  refine q_iloadN B X2 d28_29 rfl rfl ?_
  refine q_icmpNo B X2 d28_30 rfl (tlt (by decide)).2.1 rfl ?_
  refine q_iload B X2 d28_33 rfl rfl ?_
  refine q_bipush B X2 d28_35 rfl ?_
  refine q_icmpYes 90 B X2 d28_37 rfl (feq (by decide)).2 rfl rfl (by decide) ?_
  refine q_iloadN B X2 d28_90 rfl rfl ?_
  refine q_iloadN B X2 d28_91 rfl rfl ?_
  refine q_icmpYes 98 B X2 d28_92 rfl (tlt (by decide)).1 rfl rfl (by decide) ?_
  refine q_aloadN B X2 d28_98 rfl rfl rfl ?_
  refine q_iloadN B X2 d28_99 rfl rfl ?_
  refine q_iinc B X2 d28_100 rfl rfl rfl ?_
  show G (T2.setTop (mkF m 103 #[oa dc, oa sr, oi ((1 : Int32) + (1 : Int32)), oi 4, oa o, oa tab, oi 0, oi ((0 : Int32) ||| (sv0 <<< ((18 : Int32) &&& 31))), oi 12, oi sv0, .unset] [(.int 1), (.ref sr)]))
  rw [show ((1 : Int32) + (1 : Int32)) = (2 : Int32) from by decide]
  show G (T2.setTop (mkF m 103 #[oa dc, oa sr, oi 2, oi 4, oa o, oa tab, oi 0, oi ((0 : Int32) ||| (sv0 <<< ((18 : Int32) &&& 31))), oi 12, oi sv0, .unset] [(.int 1), (.ref sr)]))
  refine qlb (v := (.int ch1)) B X2 hZ e2 g5_V d28_103 (by decide) rfl ?_
  refine q_sipush B X2 d28_104 rfl ?_
  refine q_iand B X2 d28_107 rfl rfl ?_
  show G (T2.setTop (mkF m 108 #[oa dc, oa sr, oi 2, oi 4, oa o, oa tab, oi 0, oi ((0 : Int32) ||| (sv0 <<< ((18 : Int32) &&& 31))), oi 12, oi sv0, .unset] [(.int (ch1 &&& (255 : Int32)))]))
  rw [own_m255 g12_hs1]
  show G (T2.setTop (mkF m 108 #[oa dc, oa sr, oi 2, oi 4, oa o, oa tab, oi 0, oi ((0 : Int32) ||| (sv0 <<< ((18 : Int32) &&& 31))), oi 12, oi sv0, .unset] [(.int ch1)]))
  refine q_istore B X2 d28_108 rfl rfl rfl ?_
  refine q_aload B X2 d28_110 rfl rfl rfl ?_
  refine q_iload B X2 d28_112 rfl rfl ?_
  refine qli (v := (.int sv1)) B X2 hZ e2 g4_V d28_114 ⟨(own_look g12_hs1).1, (own_look g12_hs1).2.1⟩ (own_look g12_hs1).2.2 ?_
  refine q_dup B X2 d28_115 rfl rfl rfl ?_
  refine q_istore B X2 d28_116 rfl rfl rfl ?_
  refine q_ifYes 214 B X2 d28_118 rfl ((if0 _ _).trans (flt (own_Vnn (own_syV g12_hs1))).2.1) rfl rfl (by decide) ?_
  refine q_iload B X2 d28_214 rfl rfl ?_
  refine q_iload B X2 d28_216 rfl rfl ?_
  refine q_iload B X2 d28_218 rfl rfl ?_
  refine q_ishl B X2 d28_220 rfl rfl ?_
  refine q_ior B X2 d28_221 rfl rfl ?_
  refine q_istore B X2 d28_222 rfl rfl rfl ?_
  refine q_iinc B X2 d28_224 rfl rfl rfl ?_
  show G (T2.setTop (mkF m 227 #[oa dc, oa sr, oi 2, oi 4, oa o, oa tab, oi 0, oi (((0 : Int32) ||| (sv0 <<< ((18 : Int32) &&& 31))) ||| (sv1 <<< ((12 : Int32) &&& 31))), oi ((12 : Int32) + (-6 : Int32)), oi sv1, .unset] []))
  rw [show ((12 : Int32) + (-6 : Int32)) = (6 : Int32) from by decide]
  show G (T2.setTop (mkF m 227 #[oa dc, oa sr, oi 2, oi 4, oa o, oa tab, oi 0, oi (((0 : Int32) ||| (sv0 <<< ((18 : Int32) &&& 31))) ||| (sv1 <<< ((12 : Int32) &&& 31))), oi 6, oi sv1, .unset] []))
  refine q_iload B X2 d28_227 rfl rfl ?_
  refine q_ifYes 278 B X2 d28_229 rfl ((if0 _ _).trans (flt (by decide)).2.1) rfl rfl (by decide) ?_
  refine q_goto 28 B X2 d28_278 rfl rfl (by decide) ?_
  refine q_iloadN B X2 d28_28 rfl rfl ?_
  refine q_iloadN B X2 d28_29 rfl rfl ?_
  refine q_icmpNo B X2 d28_30 rfl (tlt (by decide)).2.1 rfl ?_
  refine q_iload B X2 d28_33 rfl rfl ?_
  refine q_bipush B X2 d28_35 rfl ?_
  refine q_icmpYes 90 B X2 d28_37 rfl (feq (by decide)).2 rfl rfl (by decide) ?_
  refine q_iloadN B X2 d28_90 rfl rfl ?_
  refine q_iloadN B X2 d28_91 rfl rfl ?_
  refine q_icmpYes 98 B X2 d28_92 rfl (tlt (by decide)).1 rfl rfl (by decide) ?_
  refine q_aloadN B X2 d28_98 rfl rfl rfl ?_
  refine q_iloadN B X2 d28_99 rfl rfl ?_
  refine q_iinc B X2 d28_100 rfl rfl rfl ?_
  show G (T2.setTop (mkF m 103 #[oa dc, oa sr, oi ((2 : Int32) + (1 : Int32)), oi 4, oa o, oa tab, oi 0, oi (((0 : Int32) ||| (sv0 <<< ((18 : Int32) &&& 31))) ||| (sv1 <<< ((12 : Int32) &&& 31))), oi 6, oi sv1, .unset] [(.int 2), (.ref sr)]))
  rw [show ((2 : Int32) + (1 : Int32)) = (3 : Int32) from by decide]
  show G (T2.setTop (mkF m 103 #[oa dc, oa sr, oi 3, oi 4, oa o, oa tab, oi 0, oi (((0 : Int32) ||| (sv0 <<< ((18 : Int32) &&& 31))) ||| (sv1 <<< ((12 : Int32) &&& 31))), oi 6, oi sv1, .unset] [(.int 2), (.ref sr)]))
  refine qlb (v := (.int ch2)) B X2 hZ e2 g5_V d28_103 (by decide) rfl ?_
  refine q_sipush B X2 d28_104 rfl ?_
  refine q_iand B X2 d28_107 rfl rfl ?_
  show G (T2.setTop (mkF m 108 #[oa dc, oa sr, oi 3, oi 4, oa o, oa tab, oi 0, oi (((0 : Int32) ||| (sv0 <<< ((18 : Int32) &&& 31))) ||| (sv1 <<< ((12 : Int32) &&& 31))), oi 6, oi sv1, .unset] [(.int (ch2 &&& (255 : Int32)))]))
  rw [own_m255 g13_hs2]
  show G (T2.setTop (mkF m 108 #[oa dc, oa sr, oi 3, oi 4, oa o, oa tab, oi 0, oi (((0 : Int32) ||| (sv0 <<< ((18 : Int32) &&& 31))) ||| (sv1 <<< ((12 : Int32) &&& 31))), oi 6, oi sv1, .unset] [(.int ch2)]))
  refine q_istore B X2 d28_108 rfl rfl rfl ?_
  refine q_aload B X2 d28_110 rfl rfl rfl ?_
  refine q_iload B X2 d28_112 rfl rfl ?_
  refine qli (v := (.int sv2)) B X2 hZ e2 g4_V d28_114 ⟨(own_look g13_hs2).1, (own_look g13_hs2).2.1⟩ (own_look g13_hs2).2.2 ?_
  refine q_dup B X2 d28_115 rfl rfl rfl ?_
  refine q_istore B X2 d28_116 rfl rfl rfl ?_
  refine q_ifYes 214 B X2 d28_118 rfl ((if0 _ _).trans (flt (own_Vnn (own_syV g13_hs2))).2.1) rfl rfl (by decide) ?_
  refine q_iload B X2 d28_214 rfl rfl ?_
  refine q_iload B X2 d28_216 rfl rfl ?_
  refine q_iload B X2 d28_218 rfl rfl ?_
  refine q_ishl B X2 d28_220 rfl rfl ?_
  refine q_ior B X2 d28_221 rfl rfl ?_
  refine q_istore B X2 d28_222 rfl rfl rfl ?_
  refine q_iinc B X2 d28_224 rfl rfl rfl ?_
  show G (T2.setTop (mkF m 227 #[oa dc, oa sr, oi 3, oi 4, oa o, oa tab, oi 0, oi ((((0 : Int32) ||| (sv0 <<< ((18 : Int32) &&& 31))) ||| (sv1 <<< ((12 : Int32) &&& 31))) ||| (sv2 <<< ((6 : Int32) &&& 31))), oi ((6 : Int32) + (-6 : Int32)), oi sv2, .unset] []))
  rw [show ((6 : Int32) + (-6 : Int32)) = (0 : Int32) from by decide]
  show G (T2.setTop (mkF m 227 #[oa dc, oa sr, oi 3, oi 4, oa o, oa tab, oi 0, oi ((((0 : Int32) ||| (sv0 <<< ((18 : Int32) &&& 31))) ||| (sv1 <<< ((12 : Int32) &&& 31))) ||| (sv2 <<< ((6 : Int32) &&& 31))), oi 0, oi sv2, .unset] []))
  refine q_iload B X2 d28_227 rfl rfl ?_
  refine q_ifYes 278 B X2 d28_229 rfl ((if0 _ _).trans (flt (by decide)).2.1) rfl rfl (by decide) ?_
  refine q_goto 28 B X2 d28_278 rfl rfl (by decide) ?_
  refine q_iloadN B X2 d28_28 rfl rfl ?_
  refine q_iloadN B X2 d28_29 rfl rfl ?_
  refine q_icmpNo B X2 d28_30 rfl (tlt (by decide)).2.1 rfl ?_
  refine q_iload B X2 d28_33 rfl rfl ?_
  refine q_bipush B X2 d28_35 rfl ?_
  refine q_icmpYes 90 B X2 d28_37 rfl (feq (by decide)).2 rfl rfl (by decide) ?_
  refine q_iloadN B X2 d28_90 rfl rfl ?_
  refine q_iloadN B X2 d28_91 rfl rfl ?_
  refine q_icmpYes 98 B X2 d28_92 rfl (tlt (by decide)).1 rfl rfl (by decide) ?_
  refine q_aloadN B X2 d28_98 rfl rfl rfl ?_
  refine q_iloadN B X2 d28_99 rfl rfl ?_
  refine q_iinc B X2 d28_100 rfl rfl rfl ?_
  show G (T2.setTop (mkF m 103 #[oa dc, oa sr, oi ((3 : Int32) + (1 : Int32)), oi 4, oa o, oa tab, oi 0, oi ((((0 : Int32) ||| (sv0 <<< ((18 : Int32) &&& 31))) ||| (sv1 <<< ((12 : Int32) &&& 31))) ||| (sv2 <<< ((6 : Int32) &&& 31))), oi 0, oi sv2, .unset] [(.int 3), (.ref sr)]))
  rw [show ((3 : Int32) + (1 : Int32)) = (4 : Int32) from by decide]
  show G (T2.setTop (mkF m 103 #[oa dc, oa sr, oi 4, oi 4, oa o, oa tab, oi 0, oi ((((0 : Int32) ||| (sv0 <<< ((18 : Int32) &&& 31))) ||| (sv1 <<< ((12 : Int32) &&& 31))) ||| (sv2 <<< ((6 : Int32) &&& 31))), oi 0, oi sv2, .unset] [(.int 3), (.ref sr)]))
  refine qlb (v := (.int ch3)) B X2 hZ e2 g5_V d28_103 (by decide) rfl ?_
  refine q_sipush B X2 d28_104 rfl ?_
  refine q_iand B X2 d28_107 rfl rfl ?_
  show G (T2.setTop (mkF m 108 #[oa dc, oa sr, oi 4, oi 4, oa o, oa tab, oi 0, oi ((((0 : Int32) ||| (sv0 <<< ((18 : Int32) &&& 31))) ||| (sv1 <<< ((12 : Int32) &&& 31))) ||| (sv2 <<< ((6 : Int32) &&& 31))), oi 0, oi sv2, .unset] [(.int (ch3 &&& (255 : Int32)))]))
  rw [own_m255 g14_hs3]
  show G (T2.setTop (mkF m 108 #[oa dc, oa sr, oi 4, oi 4, oa o, oa tab, oi 0, oi ((((0 : Int32) ||| (sv0 <<< ((18 : Int32) &&& 31))) ||| (sv1 <<< ((12 : Int32) &&& 31))) ||| (sv2 <<< ((6 : Int32) &&& 31))), oi 0, oi sv2, .unset] [(.int ch3)]))
  refine q_istore B X2 d28_108 rfl rfl rfl ?_
  refine q_aload B X2 d28_110 rfl rfl rfl ?_
  refine q_iload B X2 d28_112 rfl rfl ?_
  refine qli (v := (.int sv3)) B X2 hZ e2 g4_V d28_114 ⟨(own_look g14_hs3).1, (own_look g14_hs3).2.1⟩ (own_look g14_hs3).2.2 ?_
  refine q_dup B X2 d28_115 rfl rfl rfl ?_
  refine q_istore B X2 d28_116 rfl rfl rfl ?_
  refine q_ifYes 214 B X2 d28_118 rfl ((if0 _ _).trans (flt (own_Vnn (own_syV g14_hs3))).2.1) rfl rfl (by decide) ?_
  refine q_iload B X2 d28_214 rfl rfl ?_
  refine q_iload B X2 d28_216 rfl rfl ?_
  refine q_iload B X2 d28_218 rfl rfl ?_
  refine q_ishl B X2 d28_220 rfl rfl ?_
  refine q_ior B X2 d28_221 rfl rfl ?_
  refine q_istore B X2 d28_222 rfl rfl rfl ?_
  refine q_iinc B X2 d28_224 rfl rfl rfl ?_
  show G (T2.setTop (mkF m 227 #[oa dc, oa sr, oi 4, oi 4, oa o, oa tab, oi 0, oi (((((0 : Int32) ||| (sv0 <<< ((18 : Int32) &&& 31))) ||| (sv1 <<< ((12 : Int32) &&& 31))) ||| (sv2 <<< ((6 : Int32) &&& 31))) ||| (sv3 <<< ((0 : Int32) &&& 31))), oi ((0 : Int32) + (-6 : Int32)), oi sv3, .unset] []))
  rw [show ((0 : Int32) + (-6 : Int32)) = (-6 : Int32) from by decide]
  show G (T2.setTop (mkF m 227 #[oa dc, oa sr, oi 4, oi 4, oa o, oa tab, oi 0, oi (((((0 : Int32) ||| (sv0 <<< ((18 : Int32) &&& 31))) ||| (sv1 <<< ((12 : Int32) &&& 31))) ||| (sv2 <<< ((6 : Int32) &&& 31))) ||| (sv3 <<< ((0 : Int32) &&& 31))), oi (-6), oi sv3, .unset] []))
  refine q_iload B X2 d28_227 rfl rfl ?_
  refine q_ifNo B X2 d28_229 rfl ((if0 _ _).trans (tlt (by decide)).2.1) rfl ?_
  refine q_aload B X2 d28_232 rfl rfl rfl ?_
  refine q_iload B X2 d28_234 rfl rfl ?_
  refine q_iinc B X2 d28_236 rfl rfl rfl ?_
  show G (T2.setTop (mkF m 239 #[oa dc, oa sr, oi 4, oi 4, oa o, oa tab, oi ((0 : Int32) + (1 : Int32)), oi (((((0 : Int32) ||| (sv0 <<< ((18 : Int32) &&& 31))) ||| (sv1 <<< ((12 : Int32) &&& 31))) ||| (sv2 <<< ((6 : Int32) &&& 31))) ||| (sv3 <<< ((0 : Int32) &&& 31))), oi (-6), oi sv3, .unset] [(.int 0), (.ref o)]))
  rw [show ((0 : Int32) + (1 : Int32)) = (1 : Int32) from by decide]
  show G (T2.setTop (mkF m 239 #[oa dc, oa sr, oi 4, oi 4, oa o, oa tab, oi 1, oi (((((0 : Int32) ||| (sv0 <<< ((18 : Int32) &&& 31))) ||| (sv1 <<< ((12 : Int32) &&& 31))) ||| (sv2 <<< ((6 : Int32) &&& 31))) ||| (sv3 <<< ((0 : Int32) &&& 31))), oi (-6), oi sv3, .unset] [(.int 0), (.ref o)]))
  refine q_iload B X2 d28_239 rfl rfl ?_
  refine q_bipush B X2 d28_241 rfl ?_
  refine q_ishr B X2 d28_243 rfl rfl ?_
  refine q_i2b B X2 d28_244 rfl rfl ?_
  show G (T2.setTop (mkF m 245 #[oa dc, oa sr, oi 4, oi 4, oa o, oa tab, oi 1, oi (((((0 : Int32) ||| (sv0 <<< ((18 : Int32) &&& 31))) ||| (sv1 <<< ((12 : Int32) &&& 31))) ||| (sv2 <<< ((6 : Int32) &&& 31))) ||| (sv3 <<< ((0 : Int32) &&& 31))), oi (-6), oi sv3, .unset] [(.int (((((((0 : Int32) ||| (sv0 <<< ((18 : Int32) &&& 31))) ||| (sv1 <<< ((12 : Int32) &&& 31))) ||| (sv2 <<< ((6 : Int32) &&& 31))) ||| (sv3 <<< ((0 : Int32) &&& 31))) >>> ((16 : Int32) &&& 31)).toInt8.toInt32)), (.int 0), (.ref o)]))
  refine qsb 0 B X2 hZ e2 g6_V d28_245 (by decide) rfl (Nat.le_of_ble_eq_true rfl) fun T11 h11 X11 e11 W11 V11 => ?_
  have K11 := (Keep.refl h0 [o]).wr W11 (own_mi 0 rfl)
  have O11 := O0.wr W11 g7_G
  have N11 := Fr.snoc X11 N0 g7_G
  refine q_aload B X11 d28_246 rfl rfl rfl ?_
  refine q_iload B X11 d28_248 rfl rfl ?_
  refine q_iinc B X11 d28_250 rfl rfl rfl ?_
  show G (T11.setTop (mkF m 253 #[oa dc, oa sr, oi 4, oi 4, oa o, oa tab, oi ((1 : Int32) + (1 : Int32)), oi (((((0 : Int32) ||| (sv0 <<< ((18 : Int32) &&& 31))) ||| (sv1 <<< ((12 : Int32) &&& 31))) ||| (sv2 <<< ((6 : Int32) &&& 31))) ||| (sv3 <<< ((0 : Int32) &&& 31))), oi (-6), oi sv3, .unset] [(.int 1), (.ref o)]))
  rw [show ((1 : Int32) + (1 : Int32)) = (2 : Int32) from by decide]
  show G (T11.setTop (mkF m 253 #[oa dc, oa sr, oi 4, oi 4, oa o, oa tab, oi 2, oi (((((0 : Int32) ||| (sv0 <<< ((18 : Int32) &&& 31))) ||| (sv1 <<< ((12 : Int32) &&& 31))) ||| (sv2 <<< ((6 : Int32) &&& 31))) ||| (sv3 <<< ((0 : Int32) &&& 31))), oi (-6), oi sv3, .unset] [(.int 1), (.ref o)]))
  refine q_iload B X11 d28_253 rfl rfl ?_
  refine q_bipush B X11 d28_255 rfl ?_
  refine q_ishr B X11 d28_257 rfl rfl ?_
  refine q_i2b B X11 d28_258 rfl rfl ?_
  show G (T11.setTop (mkF m 259 #[oa dc, oa sr, oi 4, oi 4, oa o, oa tab, oi 2, oi (((((0 : Int32) ||| (sv0 <<< ((18 : Int32) &&& 31))) ||| (sv1 <<< ((12 : Int32) &&& 31))) ||| (sv2 <<< ((6 : Int32) &&& 31))) ||| (sv3 <<< ((0 : Int32) &&& 31))), oi (-6), oi sv3, .unset] [(.int (((((((0 : Int32) ||| (sv0 <<< ((18 : Int32) &&& 31))) ||| (sv1 <<< ((12 : Int32) &&& 31))) ||| (sv2 <<< ((6 : Int32) &&& 31))) ||| (sv3 <<< ((0 : Int32) &&& 31))) >>> ((8 : Int32) &&& 31)).toInt8.toInt32)), (.int 1), (.ref o)]))
  refine qsb 1 B X11 hZ e11 V11 d28_259 (by decide) rfl (Nat.le_of_ble_eq_true rfl) fun T12 h12 X12 e12 W12 V12 => ?_
  have K12 := K11.wr W12 (own_mi 0 rfl)
  have O12 := O11.wr W12 g7_G
  have N12 := Fr.snoc X12 N11 g7_G
  refine q_aload B X12 d28_260 rfl rfl rfl ?_
  refine q_iload B X12 d28_262 rfl rfl ?_
  refine q_iinc B X12 d28_264 rfl rfl rfl ?_
  show G (T12.setTop (mkF m 267 #[oa dc, oa sr, oi 4, oi 4, oa o, oa tab, oi ((2 : Int32) + (1 : Int32)), oi (((((0 : Int32) ||| (sv0 <<< ((18 : Int32) &&& 31))) ||| (sv1 <<< ((12 : Int32) &&& 31))) ||| (sv2 <<< ((6 : Int32) &&& 31))) ||| (sv3 <<< ((0 : Int32) &&& 31))), oi (-6), oi sv3, .unset] [(.int 2), (.ref o)]))
  rw [show ((2 : Int32) + (1 : Int32)) = (3 : Int32) from by decide]
  show G (T12.setTop (mkF m 267 #[oa dc, oa sr, oi 4, oi 4, oa o, oa tab, oi 3, oi (((((0 : Int32) ||| (sv0 <<< ((18 : Int32) &&& 31))) ||| (sv1 <<< ((12 : Int32) &&& 31))) ||| (sv2 <<< ((6 : Int32) &&& 31))) ||| (sv3 <<< ((0 : Int32) &&& 31))), oi (-6), oi sv3, .unset] [(.int 2), (.ref o)]))
  refine q_iload B X12 d28_267 rfl rfl ?_
  refine q_i2b B X12 d28_269 rfl rfl ?_
  show G (T12.setTop (mkF m 270 #[oa dc, oa sr, oi 4, oi 4, oa o, oa tab, oi 3, oi (((((0 : Int32) ||| (sv0 <<< ((18 : Int32) &&& 31))) ||| (sv1 <<< ((12 : Int32) &&& 31))) ||| (sv2 <<< ((6 : Int32) &&& 31))) ||| (sv3 <<< ((0 : Int32) &&& 31))), oi (-6), oi sv3, .unset] [(.int ((((((0 : Int32) ||| (sv0 <<< ((18 : Int32) &&& 31))) ||| (sv1 <<< ((12 : Int32) &&& 31))) ||| (sv2 <<< ((6 : Int32) &&& 31))) ||| (sv3 <<< ((0 : Int32) &&& 31))).toInt8.toInt32)), (.int 2), (.ref o)]))
  refine qsb 2 B X12 hZ e12 V12 d28_270 (by decide) rfl (Nat.le_of_ble_eq_true rfl) fun T13 h13 X13 e13 W13 V13 => ?_
  have K13 := K12.wr W13 (own_mi 0 rfl)
  have O13 := O12.wr W13 g7_G
  have N13 := Fr.snoc X13 N12 g7_G
  refine q_bipush B X13 d28_271 rfl ?_
  refine q_istore B X13 d28_273 rfl rfl rfl ?_
  refine q_iconst B X13 d28_275 rfl ?_
  refine q_istore B X13 d28_276 rfl rfl rfl ?_
  refine q_goto 28 B X13 d28_278 rfl rfl (by decide) ?_
  refine q_iloadN B X13 d28_28 rfl rfl ?_
  refine q_iloadN B X13 d28_29 rfl rfl ?_
  refine q_icmpYes 281 B X13 d28_30 rfl (flt (by decide)).2.1 rfl rfl (by decide) ?_
  refine q_iload B X13 d28_281 rfl rfl ?_
  refine q_bipush B X13 d28_283 rfl ?_
  refine q_icmpYes 305 B X13 d28_285 rfl (feq (by decide)).2 rfl rfl (by decide) ?_
  refine q_iload B X13 d28_305 rfl rfl ?_
  refine q_ifYes 341 B X13 d28_307 rfl ((if0 _ _).trans (feq (by decide)).2) rfl rfl (by decide) ?_
  refine q_iload B X13 d28_341 rfl rfl ?_
  refine q_bipush B X13 d28_343 rfl ?_
  refine q_icmpYes 358 B X13 d28_345 rfl (feq (by decide)).2 rfl rfl (by decide) ?_
  show G (T13.setTop (mkF m 358 #[oa dc, oa sr, oi 4, oi 4, oa o, oa tab, oi 3, oi 0, oi 18, oi sv3, .unset] []))
  refine q_iloadN B X13 d28_358 rfl rfl ?_
  refine q_iloadN B X13 d28_359 rfl rfl ?_
  refine q_icmpYes 416 B X13 d28_360 rfl (flt (by decide)).2.1 rfl rfl (by decide) ?_
  refine q_iload B X13 d28_416 rfl rfl ?_
  show G (T13.setTop (mkF m 418 #[oa dc, oa sr, oi 4, oi 4, oa o, oa tab, oi 3, oi 0, oi 18, oi sv3, .unset] [(.int 3)]))
  exact qRI B hR hret X13 d28_418 e13 ⟨rfl, N13, K13, V13⟩ (by decide)
theorem own_decb4 (hw : own_W Z a0) {dc tab : Addr} {ktab : ClassId} {sr : Addr} {ks : ClassId} {ch0 ch1 ch2 ch3 : Int32} (sv0 sv1 sv2 sv3 : Int32) (O0 : own_Old Z h0) (g0_S : Sta Z Z.heap "java/util/Base64$Decoder" "fromBase64URL" "[I" (.ref tab)) (g1_E : Exa Z h0 dc "java/util/Base64$Decoder") (g2_F : Fld Z h0 dc "java/util/Base64$Decoder" "isURL" "Z" (.int 1)) (g3_F : Fld Z h0 dc "java/util/Base64$Decoder" "isMIME" "Z" (.int 0)) (g4_V : Arv Z h0 tab ktab .int 256 (own_TAB.map Value.int) (.int 0)) (g5_V : Arv Z h0 sr ks .byte (4 : Int32) [(.int ch0), (.int ch1), (.int ch2), (.int ch3)] (.int 0)) (g6_hs0 : own_sy ch0 sv0) (g7_hs1 : own_sy ch1 sv1) (g8_hs2 : own_sy ch2 sv2) (g9_hs3 : own_sy ch3 sv3) : own_Con l Z ⟨"java/util/Base64$Decoder", "decode", "([B)[B"⟩ jdk_2450_method_2_code 4 (some (.array .byte)) [] ⟨1, 1, 3, 22⟩ #[(.ref dc), (.ref sr)] h0 (fun rv rh rL => ∃ (o : Addr) (ko : ClassId), rv = some (.ref o) ∧ own_Fr Z rL ∧ Keep h0 rh [] ∧ h0.size ≤ o ∧ (Arv Z rh o ko .byte (3 : Int32) [(.int (nar .byte (((((((0 : Int32) ||| (sv0 <<< ((18 : Int32) &&& 31))) ||| (sv1 <<< ((12 : Int32) &&& 31))) ||| (sv2 <<< ((6 : Int32) &&& 31))) ||| (sv3 <<< ((0 : Int32) &&& 31))) >>> ((16 : Int32) &&& 31)).toInt8.toInt32))), (.int (nar .byte (((((((0 : Int32) ||| (sv0 <<< ((18 : Int32) &&& 31))) ||| (sv1 <<< ((12 : Int32) &&& 31))) ||| (sv2 <<< ((6 : Int32) &&& 31))) ||| (sv3 <<< ((0 : Int32) &&& 31))) >>> ((8 : Int32) &&& 31)).toInt8.toInt32))), (.int (nar .byte ((((((0 : Int32) ||| (sv0 <<< ((18 : Int32) &&& 31))) ||| (sv1 <<< ((12 : Int32) &&& 31))) ||| (sv2 <<< ((6 : Int32) &&& 31))) ||| (sv3 <<< ((0 : Int32) &&& 31))).toInt8.toInt32)))] (.int 0))) := by
  refine own_st hw (plainFor_of_name (by decide +kernel)) #[oa dc, oa sr, .unset, .unset] (fun _ => rfl) fun p e s m below meth c s₁ G B hown hnm hret hZ X0 e0 N0 hR => ?_
  refine q_aloadN B X0 d26_0 rfl rfl rfl ?_
  refine q_aloadN B X0 d26_1 rfl rfl rfl ?_
  refine q_iconst B X0 d26_2 rfl ?_
  refine q_aloadN B X0 d26_3 rfl rfl rfl ?_
  refine qal B X0 hZ e0 g5_V d26_4 ?_
  show G (s₁.setTop (mkF m 5 #[oa dc, oa sr, .unset, .unset] [(.int 4), (.int 0), (.ref sr), (.ref dc)]))
  refine qP B X0 hZ hown 129 130 132 131 90 133 rfl rfl rfl rfl rfl rfl (own_dol4 hw (ch0 := ch0) (ch1 := ch1) (ch2 := ch2) (ch3 := ch3) sv0 sv1 sv2 sv3 O0 g0_S g1_E g2_F g3_F g5_V g6_hs0 g7_hs1 g8_hs2 g9_hs3) e0 g1_E own_pd17 rfl rfl d26_5 0 rfl rfl rfl (by decide) ?_
  rintro T2 h2 _ L2 X2 e2 ⟨rfl, M2, rfl⟩
  have N2 := Fr.app N0 M2
  refine qna 3 B X2 hZ 31 rfl e2 d26_8 (by decide) (by decide) (by decide) fun T3 h3 k3 b3 z3 X3 e3 E3 A3 => ?_
  have K3 := (Keep.refl h0 []).ext E3
  have O3 := O0.ext E3
  have V3 : Arv Z h3 b3 k3 .byte (3 : Int32) [(.int 0), (.int 0), (.int 0)] (.int 0) := (Arv.new A3 (by decide)).pad (pad_rep [] (.int 0) 3)
  refine q_astoreN B X3 d26_10 rfl rfl rfl rfl ?_
  refine q_aloadN B X3 d26_11 rfl rfl rfl ?_
  refine q_aloadN B X3 d26_12 rfl rfl rfl ?_
  refine q_iconst B X3 d26_13 rfl ?_
  refine q_aloadN B X3 d26_14 rfl rfl rfl ?_
  have f5 := (g5_V.ext E3)
  refine qal B X3 hZ e3 f5 d26_15 ?_
  refine q_aloadN B X3 d26_16 rfl rfl rfl ?_
  show G (T3.setTop (mkF m 17 #[oa dc, oa sr, oa b3, .unset] [(.ref b3), (.int 4), (.int 0), (.ref sr), (.ref dc)]))
  have f7 := (g1_E.ext E3)
  have f8 := (g2_F.ext E3)
  have f9 := (g3_F.ext E3)
  have f10 := (g4_V.ext E3)
  refine qP B X3 hZ hown 141 142 144 143 90 145 rfl rfl rfl rfl rfl rfl (own_dec04 hw (ch0 := ch0) (ch1 := ch1) (ch2 := ch2) (ch3 := ch3) sv0 sv1 sv2 sv3 O3 g0_S f7 f8 f9 f10 f5 V3 (own_ge O0 (Nat.le_of_eq z3.symm)) (own_ne g5_V.lt (Nat.le_of_eq z3.symm)) (own_ne g4_V.lt (Nat.le_of_eq z3.symm)) (own_ne g1_E.lt (Nat.le_of_eq z3.symm)) g6_hs0 g7_hs1 g8_hs2 g9_hs3) e3 f7 own_pd18 rfl rfl d26_17 0 rfl rfl rfl (by decide) ?_
  rintro T6 h6 _ L6 X6 e6 ⟨rfl, M6, J6, r6_0⟩
  have N6 := Fr.app N2 M6
  have K6 := K3.trans J6 (allS (Or.inr (Nat.le_trans (Keep.refl h0 []).1 (Nat.le_of_eq z3.symm))) all0)
  have O6 := O3.keep J6 (allS (own_ge O0 (Nat.le_of_eq z3.symm)) all0)
  refine q_istoreN B X6 d26_20 rfl rfl rfl ?_
  refine q_iloadN B X6 d26_21 rfl rfl ?_
  refine q_aloadN B X6 d26_22 rfl rfl rfl ?_
  refine qal B X6 hZ e6 r6_0 d26_23 ?_
  refine q_icmpYes 33 B X6 d26_24 rfl (teq (by decide)).1 rfl rfl (by decide) ?_
  refine q_aloadN B X6 d26_33 rfl rfl rfl ?_
  show G (T6.setTop (mkF m 34 #[oa dc, oa sr, oa b3, oi 3] [(.ref b3)]))
  exact qRA B hR hret rfl rfl X6 d26_34 e6 ⟨b3, k3, rfl, N6, K6, (Nat.le_trans (Keep.refl h0 []).1 (Nat.le_of_eq z3.symm)), r6_0⟩ (by decide)
theorem own_decs4 (hw : own_W Z a0) {dc iso u8 tab : Addr} {ktab : ClassId} {a : Addr} {cpt : Int32} {t : Addr} {kt : ClassId} {ch0 ch1 ch2 ch3 : Int32} (sv0 sv1 sv2 sv3 : Int32) (O0 : own_Old Z h0) (g0_S : Sta Z Z.heap "sun/nio/cs/ISO_8859_1" "INSTANCE" "Lsun/nio/cs/ISO_8859_1;" (.ref iso)) (g1_S : Sta Z Z.heap "sun/nio/cs/UTF_8" "INSTANCE" "Lsun/nio/cs/UTF_8;" (.ref u8)) (g2_S : Sta Z Z.heap "java/util/Base64$Decoder" "fromBase64URL" "[I" (.ref tab)) (g3_hiu : iso ≠ u8) (g4_E : Exa Z h0 dc "java/util/Base64$Decoder") (g5_F : Fld Z h0 dc "java/util/Base64$Decoder" "isURL" "Z" (.int 1)) (g6_F : Fld Z h0 dc "java/util/Base64$Decoder" "isMIME" "Z" (.int 0)) (g7_V : Arv Z h0 tab ktab .int 256 (own_TAB.map Value.int) (.int 0)) (g8_E : Exa Z h0 a "java/lang/String") (g9_F : Fld Z h0 a "java/lang/String" "coder" "B" (.int 0)) (g10_F : Fld Z h0 a "java/lang/String" "value" "[B" (.ref t)) (g11_E : Exa Z h0 t "[B") (g12_V : Arv Z h0 t kt .byte (4 : Int32) [(.int ch0), (.int ch1), (.int ch2), (.int ch3)] (.int 0)) (g13_S : Sta Z Z.heap "java/lang/String" "COMPACT_STRINGS" "Z" (.int cpt)) (g14_hcpt : ¬ (cpt = (0 : Int32))) (g15_hs0 : own_sy ch0 sv0) (g16_hs1 : own_sy ch1 sv1) (g17_hs2 : own_sy ch2 sv2) (g18_hs3 : own_sy ch3 sv3) : own_Con l Z ⟨"java/util/Base64$Decoder", "decode", "(Ljava/lang/String;)[B"⟩ jdk_2450_method_3_code 2 (some (.array .byte)) [] ⟨5, 2, 11, 76⟩ #[(.ref dc), (.ref a)] h0 (fun rv rh rL => ∃ (o : Addr) (ko : ClassId), rv = some (.ref o) ∧ own_Fr Z rL ∧ Keep h0 rh [] ∧ h0.size ≤ o ∧ (Arv Z rh o ko .byte (3 : Int32) [(.int (nar .byte (((((((0 : Int32) ||| (sv0 <<< ((18 : Int32) &&& 31))) ||| (sv1 <<< ((12 : Int32) &&& 31))) ||| (sv2 <<< ((6 : Int32) &&& 31))) ||| (sv3 <<< ((0 : Int32) &&& 31))) >>> ((16 : Int32) &&& 31)).toInt8.toInt32))), (.int (nar .byte (((((((0 : Int32) ||| (sv0 <<< ((18 : Int32) &&& 31))) ||| (sv1 <<< ((12 : Int32) &&& 31))) ||| (sv2 <<< ((6 : Int32) &&& 31))) ||| (sv3 <<< ((0 : Int32) &&& 31))) >>> ((8 : Int32) &&& 31)).toInt8.toInt32))), (.int (nar .byte ((((((0 : Int32) ||| (sv0 <<< ((18 : Int32) &&& 31))) ||| (sv1 <<< ((12 : Int32) &&& 31))) ||| (sv2 <<< ((6 : Int32) &&& 31))) ||| (sv3 <<< ((0 : Int32) &&& 31))).toInt8.toInt32)))] (.int 0))) := by
  refine own_st hw (plainFor_of_name (by decide +kernel)) #[oa dc, oa a] (fun _ => rfl) fun p e s m below meth c s₁ G B hown hnm hret hZ X0 e0 N0 hR => ?_
  refine q_aloadN B X0 d21_0 rfl rfl rfl ?_
  refine q_aloadN B X0 d21_1 rfl rfl rfl ?_
  refine qgs B X0 hZ hown 96 rfl Via.refl e0 g0_S O0 d21_2 fun T1 X1 e1 => ?_
  show G (T1.setTop (mkF m 5 #[oa dc, oa a] [(.ref iso), (.ref a), (.ref dc)]))
  refine qV B X1 hZ hown 98 99 101 100 15 102 rfl rfl rfl rfl rfl rfl (own_gby hw O0 g0_S g1_S g3_hiu g8_E g9_F g10_F g11_E g12_V (by decide) g13_S g14_hcpt) e1 g8_E own_pd16 rfl rfl d21_5 1 rfl rfl rfl (by decide) ?_
  rintro T2 h2 _ L2 X2 e2 ⟨u_2, ku_2, rfl, M2, J2, y2_0, r2_0⟩
  have N2 := Fr.app N0 M2
  have K2 := (Keep.refl h0 []).trans J2 all0
  have O2 := O0.keep J2 all0
  show G (T2.setTop (mkF m 8 #[oa dc, oa a] [(.ref u_2), (.ref dc)]))
  have f4 := (g4_E.keep J2)
  have f5 := (g5_F.keep J2 nin0)
  have f6 := (g6_F.keep J2 nin0)
  have f7 := (g7_V.keep J2 nin0)
  refine qV B X2 hZ hown 124 125 127 126 90 128 rfl rfl rfl rfl rfl rfl (own_decb4 hw (ch0 := ch0) (ch1 := ch1) (ch2 := ch2) (ch3 := ch3) sv0 sv1 sv2 sv3 O2 g2_S f4 f5 f6 f7 r2_0 g15_hs0 g16_hs1 g17_hs2 g18_hs3) e2 f4 own_pd19 rfl rfl d21_8 0 rfl rfl rfl (by decide) ?_
  rintro T3 h3 _ L3 X3 e3 ⟨o_3, ko_3, rfl, M3, J3, y3_0, r3_0⟩
  have N3 := Fr.app N2 M3
  have K3 := K2.trans J3 all0
  have O3 := O2.keep J3 all0
  show G (T3.setTop (mkF m 11 #[oa dc, oa a] [(.ref o_3)]))
  exact qRA B hR hret rfl rfl X3 d21_11 e3 ⟨o_3, ko_3, rfl, N3, K3, (Nat.le_trans K2.1 y3_0), r3_0⟩ (by decide)
theorem own_b64_4 (hw : own_W Z a0) {dc iso u8 tab : Addr} {ktab : ClassId} {a : Addr} {cpt : Int32} {t : Addr} {kt : ClassId} (ch0 ch1 ch2 ch3 sv0 sv1 sv2 sv3 : Int32) (O0 : own_Old Z h0) (g0_S : Sta Z Z.heap "java/util/Base64$Decoder" "RFC4648_URLSAFE" "Ljava/util/Base64$Decoder;" (.ref dc)) (g1_S : Sta Z Z.heap "sun/nio/cs/ISO_8859_1" "INSTANCE" "Lsun/nio/cs/ISO_8859_1;" (.ref iso)) (g2_S : Sta Z Z.heap "sun/nio/cs/UTF_8" "INSTANCE" "Lsun/nio/cs/UTF_8;" (.ref u8)) (g3_S : Sta Z Z.heap "java/util/Base64$Decoder" "fromBase64URL" "[I" (.ref tab)) (g4_hiu : iso ≠ u8) (g5_E : Exa Z h0 dc "java/util/Base64$Decoder") (g6_F : Fld Z h0 dc "java/util/Base64$Decoder" "isURL" "Z" (.int 1)) (g7_F : Fld Z h0 dc "java/util/Base64$Decoder" "isMIME" "Z" (.int 0)) (g8_V : Arv Z h0 tab ktab .int 256 (own_TAB.map Value.int) (.int 0)) (g9_E : Exa Z h0 a "java/lang/String") (g10_F : Fld Z h0 a "java/lang/String" "coder" "B" (.int 0)) (g11_F : Fld Z h0 a "java/lang/String" "value" "[B" (.ref t)) (g12_E : Exa Z h0 t "[B") (g13_V : Arv Z h0 t kt .byte (Int32.ofNat [ch0, ch1, ch2, ch3].length) ([ch0, ch1, ch2, ch3].map fun c => Value.int c.toInt8.toInt32) (.int 0)) (g14_S : Sta Z Z.heap "java/lang/String" "COMPACT_STRINGS" "Z" (.int cpt)) (g15_hcpt : ¬ (cpt = (0 : Int32))) (g16_hs0 : own_sy ch0 sv0) (g17_hs1 : own_sy ch1 sv1) (g18_hs2 : own_sy ch2 sv2) (g19_hs3 : own_sy ch3 sv3) : own_Con l Z ⟨"com/example/research_access_policy/researchaccesspolicy/token/Base64Url", "decode", "(Ljava/lang/String;)[B"⟩ prog_16_method_2_code 1 (some (.array .byte)) [] ⟨6, 2, 11, 89⟩ #[(.ref a)] h0 (fun rv rh rL => ∃ (o : Addr) (ko : ClassId), rv = some (.ref o) ∧ own_Fr Z rL ∧ Keep h0 rh [] ∧ h0.size ≤ o ∧ (Arv Z rh o ko .byte (3 : Int32) [(.int (nar .byte (((((((0 : Int32) ||| (sv0 <<< ((18 : Int32) &&& 31))) ||| (sv1 <<< ((12 : Int32) &&& 31))) ||| (sv2 <<< ((6 : Int32) &&& 31))) ||| (sv3 <<< ((0 : Int32) &&& 31))) >>> ((16 : Int32) &&& 31)).toInt8.toInt32))), (.int (nar .byte (((((((0 : Int32) ||| (sv0 <<< ((18 : Int32) &&& 31))) ||| (sv1 <<< ((12 : Int32) &&& 31))) ||| (sv2 <<< ((6 : Int32) &&& 31))) ||| (sv3 <<< ((0 : Int32) &&& 31))) >>> ((8 : Int32) &&& 31)).toInt8.toInt32))), (.int (nar .byte ((((((0 : Int32) ||| (sv0 <<< ((18 : Int32) &&& 31))) ||| (sv1 <<< ((12 : Int32) &&& 31))) ||| (sv2 <<< ((6 : Int32) &&& 31))) ||| (sv3 <<< ((0 : Int32) &&& 31))).toInt8.toInt32)))] (.int 0))) := by
  refine own_st hw (plainFor_of_name (by decide +kernel)) #[oa a] (fun _ => rfl) fun p e s m below meth c s₁ G B hown hnm hret hZ X0 e0 N0 hR => ?_
  refine q_aloadN B X0 d10_0 rfl rfl rfl ?_
  refine q_bipush B X0 d10_1 rfl ?_
  show G (s₁.setTop (mkF m 3 #[oa a] [(.int 61), (.ref a)]))
  refine qV B X0 hZ hown 46 47 49 48 15 50 rfl rfl rfl rfl rfl rfl (own_sio1 hw [ch0, ch1, ch2, ch3] O0 g9_E g10_F g11_F g13_V (Nat.le_of_ble_eq_true rfl) (own_allc (own_sy8 g16_hs0) (own_allc (own_sy8 g17_hs1) (own_allc (own_sy8 g18_hs2) (own_allc (own_sy8 g19_hs3) own_alln)))) g14_S g15_hcpt) e0 g9_E own_pd11 rfl rfl d10_3 0 rfl rfl rfl (by decide) ?_
  rintro T1 h1 _ L1 X1 e1 ⟨r_1, rfl, M1, rfl, r1_0⟩
  have N1 := Fr.app N0 M1
  refine q_ifYes 19 B X1 d10_6 rfl ((if0 _ _).trans (tlt (r1_0.mpr (own_allc (own_sy_e g16_hs0).2.2.1 (own_allc (own_sy_e g17_hs1).2.2.1 (own_allc (own_sy_e g18_hs2).2.2.1 (own_allc (own_sy_e g19_hs3).2.2.1 own_alln)))))).1) rfl rfl (by decide) ?_
  show G (T1.setTop (mkF m 19 #[oa a] []))
  have W2 : Arv Z h0 t kt .byte (4 : Int32) [(.int ch0), (.int ch1), (.int ch2), (.int ch3)] (.int 0) := by have q := g13_V; simp only [List.map_cons, List.map_nil, own_b7 g16_hs0, own_b7 g17_hs1, own_b7 g18_hs2, own_b7 g19_hs3] at q; exact q
  show G (T1.setTop (mkF m 19 #[oa a] []))
  refine qS B X1 hZ hown 85 86 87 88 rfl rfl rfl rfl (own_gud hw O0 g0_S) e1 own_pd12 rfl rfl d10_19 0 rfl rfl rfl (by decide) ?_
  rintro T3 h3 _ L3 X3 e3 ⟨rfl, M3, rfl⟩
  have N3 := Fr.app N1 M3
  refine q_aloadN B X3 d10_22 rfl rfl rfl ?_
  show G (T3.setTop (mkF m 23 #[oa a] [(.ref a), (.ref dc)]))
  refine qV B X3 hZ hown 91 92 94 93 90 95 rfl rfl rfl rfl rfl rfl (own_decs4 hw (ch0 := ch0) (ch1 := ch1) (ch2 := ch2) (ch3 := ch3) sv0 sv1 sv2 sv3 O0 g1_S g2_S g3_S g4_hiu g5_E g6_F g7_F g8_V g9_E g10_F g11_F g12_E W2 g14_S g15_hcpt g16_hs0 g17_hs1 g18_hs2 g19_hs3) e3 g5_E own_pd20 rfl rfl d10_23 0 rfl rfl rfl (by decide) ?_
  rintro T4 h4 _ L4 X4 e4 ⟨o_4, ko_4, rfl, M4, J4, y4_0, r4_0⟩
  have N4 := Fr.app N3 M4
  have K4 := (Keep.refl h0 []).trans J4 all0
  have O4 := O0.keep J4 all0
  show G (T4.setTop (mkF m 26 #[oa a] [(.ref o_4)]))
  exact qRA B hR hret rfl rfl X4 d10_26 e4 ⟨o_4, ko_4, rfl, N4, K4, (Nat.le_trans (Keep.refl h0 []).1 y4_0), r4_0⟩ (by decide)
theorem own_dol6 (hw : own_W Z a0) {dc tab sr : Addr} {ks : ClassId} {ch0 ch1 ch2 ch3 ch4 ch5 : Int32} (sv0 sv1 sv2 sv3 sv4 sv5 : Int32) (O0 : own_Old Z h0) (g0_S : Sta Z Z.heap "java/util/Base64$Decoder" "fromBase64URL" "[I" (.ref tab)) (g1_E : Exa Z h0 dc "java/util/Base64$Decoder") (g2_F : Fld Z h0 dc "java/util/Base64$Decoder" "isURL" "Z" (.int 1)) (g3_F : Fld Z h0 dc "java/util/Base64$Decoder" "isMIME" "Z" (.int 0)) (g4_V : Arv Z h0 sr ks .byte (6 : Int32) [(.int ch0), (.int ch1), (.int ch2), (.int ch3), (.int ch4), (.int ch5)] (.int 0)) (g5_hs0 : own_sy ch0 sv0) (g6_hs1 : own_sy ch1 sv1) (g7_hs2 : own_sy ch2 sv2) (g8_hs3 : own_sy ch3 sv3) (g9_hs4 : own_sy ch4 sv4) (g10_hs5 : own_sy ch5 sv5) : own_Con l Z ⟨"java/util/Base64$Decoder", "decodedOutLength", "([BII)I"⟩ jdk_2450_method_7_code 9 (some .int) [] ⟨0, 0, 0, 0⟩ #[(.ref dc), (.ref sr), (.int 0), (.int 6)] h0 (fun rv rh rL => rv = some (.int 4) ∧ own_Fr Z rL ∧ h0 = rh) := by
  refine own_st hw (plainFor_of_name (by decide +kernel)) #[oa dc, oa sr, oi 0, oi 6, .unset, .unset, .unset, .unset, .unset] (fun m => by first | (simp [entryFrame, mkF, argsToLocals, Value.category]; done) | rfl) fun p e s m below meth c s₁ G B hown hnm hret hZ X0 e0 N0 hR => ?_
  obtain ⟨hG, hx, hby, hml, -⟩ := id B
  refine q_aloadN B X0 d27_0 rfl rfl rfl ?_
  refine qgf B X0 hZ hown 134 rfl Via.refl e0 g2_F d27_1 fun T1 X1 e1 => ?_
  refine q_ifNo B X1 d27_4 rfl ((if0 _ _).trans (feq (by decide)).1) rfl ?_
  refine qgs B X1 hZ hown 136 rfl Via.refl e1 g0_S O0 d27_7 fun T2 X2 e2 => ?_
  refine q_goto 16 B X2 d27_10 rfl rfl (by decide) ?_
  refine q_astore B X2 d27_16 rfl rfl rfl rfl ?_
  refine q_iconst B X2 d27_18 rfl ?_
  refine q_istore B X2 d27_19 rfl rfl rfl ?_
  refine q_iloadN B X2 d27_21 rfl rfl ?_
  refine q_iloadN B X2 d27_22 rfl rfl ?_
  refine q_isub B X2 d27_23 rfl rfl ?_
  show G (T2.setTop (mkF m 24 #[oa dc, oa sr, oi 0, oi 6, oa tab, oi 0, .unset, .unset, .unset] [(.int ((6 : Int32) - (0 : Int32)))]))
  rw [show ((6 : Int32) - (0 : Int32)) = (6 : Int32) from by decide]
  show G (T2.setTop (mkF m 24 #[oa dc, oa sr, oi 0, oi 6, oa tab, oi 0, .unset, .unset, .unset] [(.int 6)]))
  refine q_istore B X2 d27_24 rfl rfl rfl ?_
  refine q_iload B X2 d27_26 rfl rfl ?_
  refine q_ifYes 33 B X2 d27_28 rfl ((if0 _ _).trans (feq (by decide)).2) rfl rfl (by decide) ?_
  refine q_iload B X2 d27_33 rfl rfl ?_
  refine q_iconst B X2 d27_35 rfl ?_
  refine q_icmpYes 66 B X2 d27_36 rfl (flt (by decide)).2.1 rfl rfl (by decide) ?_
  refine q_aloadN B X2 d27_66 rfl rfl rfl ?_
  refine qgf B X2 hZ hown 137 rfl Via.refl e2 g3_F d27_67 fun T3 X3 e3 => ?_
  refine q_ifYes 141 B X3 d27_70 rfl ((if0 _ _).trans (teq (by decide)).1) rfl rfl (by decide) ?_
  refine q_aloadN B X3 d27_141 rfl rfl rfl ?_
  refine q_iloadN B X3 d27_142 rfl rfl ?_
  refine q_iconst B X3 d27_143 rfl ?_
  refine q_isub B X3 d27_144 rfl rfl ?_
  show G (T3.setTop (mkF m 145 #[oa dc, oa sr, oi 0, oi 6, oa tab, oi 0, oi 6, .unset, .unset] [(.int ((6 : Int32) - (1 : Int32))), (.ref sr)]))
  rw [show ((6 : Int32) - (1 : Int32)) = (5 : Int32) from by decide]
  show G (T3.setTop (mkF m 145 #[oa dc, oa sr, oi 0, oi 6, oa tab, oi 0, oi 6, .unset, .unset] [(.int 5), (.ref sr)]))
  refine qlb (v := (.int ch5)) B X3 hZ e3 g4_V d27_145 (by decide) rfl ?_
  refine q_bipush B X3 d27_146 rfl ?_
  refine q_icmpYes 167 B X3 d27_148 rfl (feq (own_sy_e g10_hs5).2.2.1).2 rfl rfl (by decide) ?_
  refine q_iload B X3 d27_167 rfl rfl ?_
  refine q_ifNo B X3 d27_169 rfl ((if0 _ _).trans (teq (by decide)).2) rfl ?_
  refine q_iload B X3 d27_172 rfl rfl ?_
  refine q_iconst B X3 d27_174 rfl ?_
  refine q_iand B X3 d27_175 rfl rfl ?_
  show G (T3.setTop (mkF m 176 #[oa dc, oa sr, oi 0, oi 6, oa tab, oi 0, oi 6, .unset, .unset] [(.int ((6 : Int32) &&& (3 : Int32)))]))
  rw [show ((6 : Int32) &&& (3 : Int32)) = (2 : Int32) from by decide]
  show G (T3.setTop (mkF m 176 #[oa dc, oa sr, oi 0, oi 6, oa tab, oi 0, oi 6, .unset, .unset] [(.int 2)]))
  refine q_ifNo B X3 d27_176 rfl ((if0 _ _).trans (feq (by decide)).1) rfl ?_
  refine q_iconst B X3 d27_179 rfl ?_
  refine q_iload B X3 d27_180 rfl rfl ?_
  refine q_iconst B X3 d27_182 rfl ?_
  refine q_iand B X3 d27_183 rfl rfl ?_
  show G (T3.setTop (mkF m 184 #[oa dc, oa sr, oi 0, oi 6, oa tab, oi 0, oi 6, .unset, .unset] [(.int ((6 : Int32) &&& (3 : Int32))), (.int 4)]))
  rw [show ((6 : Int32) &&& (3 : Int32)) = (2 : Int32) from by decide]
  show G (T3.setTop (mkF m 184 #[oa dc, oa sr, oi 0, oi 6, oa tab, oi 0, oi 6, .unset, .unset] [(.int 2), (.int 4)]))
  refine q_isub B X3 d27_184 rfl rfl ?_
  show G (T3.setTop (mkF m 185 #[oa dc, oa sr, oi 0, oi 6, oa tab, oi 0, oi 6, .unset, .unset] [(.int ((4 : Int32) - (2 : Int32)))]))
  rw [show ((4 : Int32) - (2 : Int32)) = (2 : Int32) from by decide]
  show G (T3.setTop (mkF m 185 #[oa dc, oa sr, oi 0, oi 6, oa tab, oi 0, oi 6, .unset, .unset] [(.int 2)]))
  refine q_istore B X3 d27_185 rfl rfl rfl ?_
  refine q_iconst B X3 d27_187 rfl ?_
  refine q_iload B X3 d27_188 rfl rfl ?_
  refine q_i2l B X3 d27_190 rfl rfl ?_
  refine hG _ _ (X3.ldc2Long hx hown (mvT hZ (ow hw 139 rfl)) (g := (mkF m 191 #[oa dc, oa sr, oi 0, oi 6, oa tab, oi 2, oi 6, .unset, .unset] [(.long ((6 : Int32).toInt64)), (.int 3)])) rfl (hb hby d27_191)) ?_
  refine q_ladd B X3 d27_194 rfl rfl ?_
  refine hG _ _ (X3.ldc2Long hx hown (mvT hZ (ow hw 140 rfl)) (g := (mkF m 195 #[oa dc, oa sr, oi 0, oi 6, oa tab, oi 2, oi 6, .unset, .unset] [(.long (((6 : Int32).toInt64) + (3 : Int64))), (.int 3)])) rfl (hb hby d27_195)) ?_
  refine q_ldiv B X3 d27_198 rfl (by decide) rfl ?_
  refine q_l2i B X3 d27_199 rfl rfl ?_
  show G (T3.setTop (mkF m 200 #[oa dc, oa sr, oi 0, oi 6, oa tab, oi 2, oi 6, .unset, .unset] [(.int (((((6 : Int32).toInt64) + (3 : Int64)) / (4 : Int64)).toInt32)), (.int 3)]))
  rw [show (((((6 : Int32).toInt64) + (3 : Int64)) / (4 : Int64)).toInt32) = (2 : Int32) from by decide]
  show G (T3.setTop (mkF m 200 #[oa dc, oa sr, oi 0, oi 6, oa tab, oi 2, oi 6, .unset, .unset] [(.int 2), (.int 3)]))
  refine q_imul B X3 d27_200 rfl rfl ?_
  show G (T3.setTop (mkF m 201 #[oa dc, oa sr, oi 0, oi 6, oa tab, oi 2, oi 6, .unset, .unset] [(.int ((3 : Int32) * (2 : Int32)))]))
  rw [show ((3 : Int32) * (2 : Int32)) = (6 : Int32) from by decide]
  show G (T3.setTop (mkF m 201 #[oa dc, oa sr, oi 0, oi 6, oa tab, oi 2, oi 6, .unset, .unset] [(.int 6)]))
  refine q_iload B X3 d27_201 rfl rfl ?_
  refine q_isub B X3 d27_203 rfl rfl ?_
  show G (T3.setTop (mkF m 204 #[oa dc, oa sr, oi 0, oi 6, oa tab, oi 2, oi 6, .unset, .unset] [(.int ((6 : Int32) - (2 : Int32)))]))
  rw [show ((6 : Int32) - (2 : Int32)) = (4 : Int32) from by decide]
  show G (T3.setTop (mkF m 204 #[oa dc, oa sr, oi 0, oi 6, oa tab, oi 2, oi 6, .unset, .unset] [(.int 4)]))
  exact qRI B hR hret X3 d27_204 e3 ⟨rfl, N0, rfl⟩ (by decide)
theorem own_blk6 (hw : own_W Z a0) {dc tab : Addr} {ktab : ClassId} {sr : Addr} {ks : ClassId} {o : Addr} {ko : ClassId} {ch0 ch1 ch2 ch3 ch4 ch5 : Int32} (sv0 sv1 sv2 sv3 sv4 sv5 : Int32) (O0 : own_Old Z h0) (g0_S : Sta Z Z.heap "java/util/Base64$Decoder" "fromBase64URL" "[I" (.ref tab)) (g1_E : Exa Z h0 dc "java/util/Base64$Decoder") (g2_F : Fld Z h0 dc "java/util/Base64$Decoder" "isURL" "Z" (.int 1)) (g3_F : Fld Z h0 dc "java/util/Base64$Decoder" "isMIME" "Z" (.int 0)) (g4_V : Arv Z h0 tab ktab .int 256 (own_TAB.map Value.int) (.int 0)) (g5_V : Arv Z h0 sr ks .byte (6 : Int32) [(.int ch0), (.int ch1), (.int ch2), (.int ch3), (.int ch4), (.int ch5)] (.int 0)) (g6_V : Arv Z h0 o ko .byte (4 : Int32) [(.int 0), (.int 0), (.int 0), (.int 0)] (.int 0)) (g7_G : Z.heap.size ≤ o) (g8_ne_sr_o : sr ≠ o) (g9_ne_tab_o : tab ≠ o) (g10_ne_dc_o : dc ≠ o) (g11_hs0 : own_sy ch0 sv0) (g12_hs1 : own_sy ch1 sv1) (g13_hs2 : own_sy ch2 sv2) (g14_hs3 : own_sy ch3 sv3) (g15_hs4 : own_sy ch4 sv4) (g16_hs5 : own_sy ch5 sv5) : own_Con l Z ⟨"java/util/Base64$Decoder", "decodeBlock", "([BII[BIZZ)I"⟩ jdk_2450_method_8_code 16 (some .int) [] ⟨0, 0, 0, 0⟩ #[(.ref dc), (.ref sr), (.int 0), (.int 6), (.ref o), (.int 0), (.int 1), (.int 0)] h0 (fun rv rh rL => rv = some (.int 3) ∧ own_Fr Z rL ∧ Keep h0 rh [o] ∧ (Arv Z rh o ko .byte (4 : Int32) [(.int (nar .byte ((((((sv0 <<< ((18 : Int32) &&& 31)) ||| (sv1 <<< ((12 : Int32) &&& 31))) ||| (sv2 <<< ((6 : Int32) &&& 31))) ||| sv3) >>> ((16 : Int32) &&& 31)).toInt8.toInt32))), (.int (nar .byte ((((((sv0 <<< ((18 : Int32) &&& 31)) ||| (sv1 <<< ((12 : Int32) &&& 31))) ||| (sv2 <<< ((6 : Int32) &&& 31))) ||| sv3) >>> ((8 : Int32) &&& 31)).toInt8.toInt32))), (.int (nar .byte (((((sv0 <<< ((18 : Int32) &&& 31)) ||| (sv1 <<< ((12 : Int32) &&& 31))) ||| (sv2 <<< ((6 : Int32) &&& 31))) ||| sv3).toInt8.toInt32))), (.int 0)] (.int 0))) := by
  refine own_st hw (plainFor_of_name (by decide +kernel)) #[oa dc, oa sr, oi 0, oi 6, oa o, oi 0, oi 1, oi 0, .unset, .unset, .unset, .unset, .unset, .unset, .unset, .unset] (fun m => by first | (simp [entryFrame, mkF, argsToLocals, Value.category]; done) | rfl) fun p e s m below meth c s₁ G B hown hnm hret hZ X0 e0 N0 hR => ?_
  refine q_iload B X0 d30_0 rfl rfl ?_
  refine q_ifNo B X0 d30_2 rfl ((if0 _ _).trans (feq (by decide)).1) rfl ?_
  refine qgs B X0 hZ hown 136 rfl Via.refl e0 g0_S O0 d30_5 fun T1 X1 e1 => ?_
  refine q_goto 14 B X1 d30_8 rfl rfl (by decide) ?_
  refine q_astore B X1 d30_14 rfl rfl rfl rfl ?_
  refine q_iloadN B X1 d30_16 rfl rfl ?_
  refine q_iloadN B X1 d30_17 rfl rfl ?_
  refine q_iloadN B X1 d30_18 rfl rfl ?_
  refine q_isub B X1 d30_19 rfl rfl ?_
  show G (T1.setTop (mkF m 20 #[oa dc, oa sr, oi 0, oi 6, oa o, oi 0, oi 1, oi 0, oa tab, .unset, .unset, .unset, .unset, .unset, .unset, .unset] [(.int ((6 : Int32) - (0 : Int32))), (.int 0)]))
  rw [show ((6 : Int32) - (0 : Int32)) = (6 : Int32) from by decide]
  show G (T1.setTop (mkF m 20 #[oa dc, oa sr, oi 0, oi 6, oa o, oi 0, oi 1, oi 0, oa tab, .unset, .unset, .unset, .unset, .unset, .unset, .unset] [(.int 6), (.int 0)]))
  refine q_bipush B X1 d30_20 rfl ?_
  refine q_iand B X1 d30_22 rfl rfl ?_
  show G (T1.setTop (mkF m 23 #[oa dc, oa sr, oi 0, oi 6, oa o, oi 0, oi 1, oi 0, oa tab, .unset, .unset, .unset, .unset, .unset, .unset, .unset] [(.int ((6 : Int32) &&& (-4 : Int32))), (.int 0)]))
  rw [show ((6 : Int32) &&& (-4 : Int32)) = (4 : Int32) from by decide]
  show G (T1.setTop (mkF m 23 #[oa dc, oa sr, oi 0, oi 6, oa o, oi 0, oi 1, oi 0, oa tab, .unset, .unset, .unset, .unset, .unset, .unset, .unset] [(.int 4), (.int 0)]))
  refine q_iadd B X1 d30_23 rfl rfl ?_
  show G (T1.setTop (mkF m 24 #[oa dc, oa sr, oi 0, oi 6, oa o, oi 0, oi 1, oi 0, oa tab, .unset, .unset, .unset, .unset, .unset, .unset, .unset] [(.int ((0 : Int32) + (4 : Int32)))]))
  rw [show ((0 : Int32) + (4 : Int32)) = (4 : Int32) from by decide]
  show G (T1.setTop (mkF m 24 #[oa dc, oa sr, oi 0, oi 6, oa o, oi 0, oi 1, oi 0, oa tab, .unset, .unset, .unset, .unset, .unset, .unset, .unset] [(.int 4)]))
  refine q_istore B X1 d30_24 rfl rfl rfl ?_
  refine q_iload B X1 d30_26 rfl rfl ?_
  refine q_istore B X1 d30_28 rfl rfl rfl ?_
  refine q_iloadN B X1 d30_30 rfl rfl ?_
  refine q_iload B X1 d30_31 rfl rfl ?_
  refine q_icmpNo B X1 d30_33 rfl (tlt (by decide)).2.1 rfl ?_
  refine q_aload B X1 d30_36 rfl rfl rfl ?_
  refine q_aloadN B X1 d30_38 rfl rfl rfl ?_
  refine q_iloadN B X1 d30_39 rfl rfl ?_
  refine q_iinc B X1 d30_40 rfl rfl rfl ?_
  show G (T1.setTop (mkF m 43 #[oa dc, oa sr, oi ((0 : Int32) + (1 : Int32)), oi 6, oa o, oi 0, oi 1, oi 0, oa tab, oi 4, oi 0, .unset, .unset, .unset, .unset, .unset] [(.int 0), (.ref sr), (.ref tab)]))
  rw [show ((0 : Int32) + (1 : Int32)) = (1 : Int32) from by decide]
  show G (T1.setTop (mkF m 43 #[oa dc, oa sr, oi 1, oi 6, oa o, oi 0, oi 1, oi 0, oa tab, oi 4, oi 0, .unset, .unset, .unset, .unset, .unset] [(.int 0), (.ref sr), (.ref tab)]))
  refine qlb (v := (.int ch0)) B X1 hZ e1 g5_V d30_43 (by decide) rfl ?_
  refine q_sipush B X1 d30_44 rfl ?_
  refine q_iand B X1 d30_47 rfl rfl ?_
  show G (T1.setTop (mkF m 48 #[oa dc, oa sr, oi 1, oi 6, oa o, oi 0, oi 1, oi 0, oa tab, oi 4, oi 0, .unset, .unset, .unset, .unset, .unset] [(.int (ch0 &&& (255 : Int32))), (.ref tab)]))
  rw [own_m255 g11_hs0]
  show G (T1.setTop (mkF m 48 #[oa dc, oa sr, oi 1, oi 6, oa o, oi 0, oi 1, oi 0, oa tab, oi 4, oi 0, .unset, .unset, .unset, .unset, .unset] [(.int ch0), (.ref tab)]))
  refine qli (v := (.int sv0)) B X1 hZ e1 g4_V d30_48 ⟨(own_look g11_hs0).1, (own_look g11_hs0).2.1⟩ (own_look g11_hs0).2.2 ?_
  refine q_istore B X1 d30_49 rfl rfl rfl ?_
  refine q_aload B X1 d30_51 rfl rfl rfl ?_
  refine q_aloadN B X1 d30_53 rfl rfl rfl ?_
  refine q_iloadN B X1 d30_54 rfl rfl ?_
  refine q_iinc B X1 d30_55 rfl rfl rfl ?_
  show G (T1.setTop (mkF m 58 #[oa dc, oa sr, oi ((1 : Int32) + (1 : Int32)), oi 6, oa o, oi 0, oi 1, oi 0, oa tab, oi 4, oi 0, oi sv0, .unset, .unset, .unset, .unset] [(.int 1), (.ref sr), (.ref tab)]))
  rw [show ((1 : Int32) + (1 : Int32)) = (2 : Int32) from by decide]
  show G (T1.setTop (mkF m 58 #[oa dc, oa sr, oi 2, oi 6, oa o, oi 0, oi 1, oi 0, oa tab, oi 4, oi 0, oi sv0, .unset, .unset, .unset, .unset] [(.int 1), (.ref sr), (.ref tab)]))
  refine qlb (v := (.int ch1)) B X1 hZ e1 g5_V d30_58 (by decide) rfl ?_
  refine q_sipush B X1 d30_59 rfl ?_
  refine q_iand B X1 d30_62 rfl rfl ?_
  show G (T1.setTop (mkF m 63 #[oa dc, oa sr, oi 2, oi 6, oa o, oi 0, oi 1, oi 0, oa tab, oi 4, oi 0, oi sv0, .unset, .unset, .unset, .unset] [(.int (ch1 &&& (255 : Int32))), (.ref tab)]))
  rw [own_m255 g12_hs1]
  show G (T1.setTop (mkF m 63 #[oa dc, oa sr, oi 2, oi 6, oa o, oi 0, oi 1, oi 0, oa tab, oi 4, oi 0, oi sv0, .unset, .unset, .unset, .unset] [(.int ch1), (.ref tab)]))
  refine qli (v := (.int sv1)) B X1 hZ e1 g4_V d30_63 ⟨(own_look g12_hs1).1, (own_look g12_hs1).2.1⟩ (own_look g12_hs1).2.2 ?_
  refine q_istore B X1 d30_64 rfl rfl rfl ?_
  refine q_aload B X1 d30_66 rfl rfl rfl ?_
  refine q_aloadN B X1 d30_68 rfl rfl rfl ?_
  refine q_iloadN B X1 d30_69 rfl rfl ?_
  refine q_iinc B X1 d30_70 rfl rfl rfl ?_
  show G (T1.setTop (mkF m 73 #[oa dc, oa sr, oi ((2 : Int32) + (1 : Int32)), oi 6, oa o, oi 0, oi 1, oi 0, oa tab, oi 4, oi 0, oi sv0, oi sv1, .unset, .unset, .unset] [(.int 2), (.ref sr), (.ref tab)]))
  rw [show ((2 : Int32) + (1 : Int32)) = (3 : Int32) from by decide]
  show G (T1.setTop (mkF m 73 #[oa dc, oa sr, oi 3, oi 6, oa o, oi 0, oi 1, oi 0, oa tab, oi 4, oi 0, oi sv0, oi sv1, .unset, .unset, .unset] [(.int 2), (.ref sr), (.ref tab)]))
  refine qlb (v := (.int ch2)) B X1 hZ e1 g5_V d30_73 (by decide) rfl ?_
  refine q_sipush B X1 d30_74 rfl ?_
  refine q_iand B X1 d30_77 rfl rfl ?_
  show G (T1.setTop (mkF m 78 #[oa dc, oa sr, oi 3, oi 6, oa o, oi 0, oi 1, oi 0, oa tab, oi 4, oi 0, oi sv0, oi sv1, .unset, .unset, .unset] [(.int (ch2 &&& (255 : Int32))), (.ref tab)]))
  rw [own_m255 g13_hs2]
  show G (T1.setTop (mkF m 78 #[oa dc, oa sr, oi 3, oi 6, oa o, oi 0, oi 1, oi 0, oa tab, oi 4, oi 0, oi sv0, oi sv1, .unset, .unset, .unset] [(.int ch2), (.ref tab)]))
  refine qli (v := (.int sv2)) B X1 hZ e1 g4_V d30_78 ⟨(own_look g13_hs2).1, (own_look g13_hs2).2.1⟩ (own_look g13_hs2).2.2 ?_
  refine q_istore B X1 d30_79 rfl rfl rfl ?_
  refine q_aload B X1 d30_81 rfl rfl rfl ?_
  refine q_aloadN B X1 d30_83 rfl rfl rfl ?_
  refine q_iloadN B X1 d30_84 rfl rfl ?_
  refine q_iinc B X1 d30_85 rfl rfl rfl ?_
  show G (T1.setTop (mkF m 88 #[oa dc, oa sr, oi ((3 : Int32) + (1 : Int32)), oi 6, oa o, oi 0, oi 1, oi 0, oa tab, oi 4, oi 0, oi sv0, oi sv1, oi sv2, .unset, .unset] [(.int 3), (.ref sr), (.ref tab)]))
  rw [show ((3 : Int32) + (1 : Int32)) = (4 : Int32) from by decide]
  show G (T1.setTop (mkF m 88 #[oa dc, oa sr, oi 4, oi 6, oa o, oi 0, oi 1, oi 0, oa tab, oi 4, oi 0, oi sv0, oi sv1, oi sv2, .unset, .unset] [(.int 3), (.ref sr), (.ref tab)]))
  refine qlb (v := (.int ch3)) B X1 hZ e1 g5_V d30_88 (by decide) rfl ?_
  refine q_sipush B X1 d30_89 rfl ?_
  refine q_iand B X1 d30_92 rfl rfl ?_
  show G (T1.setTop (mkF m 93 #[oa dc, oa sr, oi 4, oi 6, oa o, oi 0, oi 1, oi 0, oa tab, oi 4, oi 0, oi sv0, oi sv1, oi sv2, .unset, .unset] [(.int (ch3 &&& (255 : Int32))), (.ref tab)]))
  rw [own_m255 g14_hs3]
  show G (T1.setTop (mkF m 93 #[oa dc, oa sr, oi 4, oi 6, oa o, oi 0, oi 1, oi 0, oa tab, oi 4, oi 0, oi sv0, oi sv1, oi sv2, .unset, .unset] [(.int ch3), (.ref tab)]))
  refine qli (v := (.int sv3)) B X1 hZ e1 g4_V d30_93 ⟨(own_look g14_hs3).1, (own_look g14_hs3).2.1⟩ (own_look g14_hs3).2.2 ?_
  refine q_istore B X1 d30_94 rfl rfl rfl ?_
  refine q_iload B X1 d30_96 rfl rfl ?_
  refine q_iload B X1 d30_98 rfl rfl ?_
  refine q_ior B X1 d30_100 rfl rfl ?_
  refine q_iload B X1 d30_101 rfl rfl ?_
  refine q_ior B X1 d30_103 rfl rfl ?_
  refine q_iload B X1 d30_104 rfl rfl ?_
  refine q_ior B X1 d30_106 rfl rfl ?_
  refine q_ifYes 116 B X1 d30_107 rfl ((if0 _ _).trans (flt (own_ornn (own_syV g11_hs0) (own_syV g12_hs1) (own_syV g13_hs2) (own_syV g14_hs3))).2.1) rfl rfl (by decide) ?_
  refine q_iload B X1 d30_116 rfl rfl ?_
  refine q_bipush B X1 d30_118 rfl ?_
  refine q_ishl B X1 d30_120 rfl rfl ?_
  refine q_iload B X1 d30_121 rfl rfl ?_
  refine q_bipush B X1 d30_123 rfl ?_
  refine q_ishl B X1 d30_125 rfl rfl ?_
  refine q_ior B X1 d30_126 rfl rfl ?_
  show G (T1.setTop (mkF m 127 #[oa dc, oa sr, oi 4, oi 6, oa o, oi 0, oi 1, oi 0, oa tab, oi 4, oi 0, oi sv0, oi sv1, oi sv2, oi sv3, .unset] [(.int ((sv0 <<< ((18 : Int32) &&& 31)) ||| (sv1 <<< ((12 : Int32) &&& 31))))]))
  refine q_iload B X1 d30_127 rfl rfl ?_
  refine q_bipush B X1 d30_129 rfl ?_
  refine q_ishl B X1 d30_131 rfl rfl ?_
  refine q_ior B X1 d30_132 rfl rfl ?_
  refine q_iload B X1 d30_133 rfl rfl ?_
  refine q_ior B X1 d30_135 rfl rfl ?_
  refine q_istore B X1 d30_136 rfl rfl rfl ?_
  refine q_aload B X1 d30_138 rfl rfl rfl ?_
  refine q_iload B X1 d30_140 rfl rfl ?_
  refine q_iinc B X1 d30_142 rfl rfl rfl ?_
  show G (T1.setTop (mkF m 145 #[oa dc, oa sr, oi 4, oi 6, oa o, oi 0, oi 1, oi 0, oa tab, oi 4, oi ((0 : Int32) + (1 : Int32)), oi sv0, oi sv1, oi sv2, oi sv3, oi ((((sv0 <<< ((18 : Int32) &&& 31)) ||| (sv1 <<< ((12 : Int32) &&& 31))) ||| (sv2 <<< ((6 : Int32) &&& 31))) ||| sv3)] [(.int 0), (.ref o)]))
  rw [show ((0 : Int32) + (1 : Int32)) = (1 : Int32) from by decide]
  show G (T1.setTop (mkF m 145 #[oa dc, oa sr, oi 4, oi 6, oa o, oi 0, oi 1, oi 0, oa tab, oi 4, oi 1, oi sv0, oi sv1, oi sv2, oi sv3, oi ((((sv0 <<< ((18 : Int32) &&& 31)) ||| (sv1 <<< ((12 : Int32) &&& 31))) ||| (sv2 <<< ((6 : Int32) &&& 31))) ||| sv3)] [(.int 0), (.ref o)]))
  refine q_iload B X1 d30_145 rfl rfl ?_
  refine q_bipush B X1 d30_147 rfl ?_
  refine q_ishr B X1 d30_149 rfl rfl ?_
  refine q_i2b B X1 d30_150 rfl rfl ?_
  show G (T1.setTop (mkF m 151 #[oa dc, oa sr, oi 4, oi 6, oa o, oi 0, oi 1, oi 0, oa tab, oi 4, oi 1, oi sv0, oi sv1, oi sv2, oi sv3, oi ((((sv0 <<< ((18 : Int32) &&& 31)) ||| (sv1 <<< ((12 : Int32) &&& 31))) ||| (sv2 <<< ((6 : Int32) &&& 31))) ||| sv3)] [(.int ((((((sv0 <<< ((18 : Int32) &&& 31)) ||| (sv1 <<< ((12 : Int32) &&& 31))) ||| (sv2 <<< ((6 : Int32) &&& 31))) ||| sv3) >>> ((16 : Int32) &&& 31)).toInt8.toInt32)), (.int 0), (.ref o)]))
  refine qsb 0 B X1 hZ e1 g6_V d30_151 (by decide) rfl (Nat.le_of_ble_eq_true rfl) fun T10 h10 X10 e10 W10 V10 => ?_
  have K10 := (Keep.refl h0 [o]).wr W10 (own_mi 0 rfl)
  have O10 := O0.wr W10 g7_G
  have N10 := Fr.snoc X10 N0 g7_G
  refine q_aload B X10 d30_152 rfl rfl rfl ?_
  refine q_iload B X10 d30_154 rfl rfl ?_
  refine q_iinc B X10 d30_156 rfl rfl rfl ?_
  show G (T10.setTop (mkF m 159 #[oa dc, oa sr, oi 4, oi 6, oa o, oi 0, oi 1, oi 0, oa tab, oi 4, oi ((1 : Int32) + (1 : Int32)), oi sv0, oi sv1, oi sv2, oi sv3, oi ((((sv0 <<< ((18 : Int32) &&& 31)) ||| (sv1 <<< ((12 : Int32) &&& 31))) ||| (sv2 <<< ((6 : Int32) &&& 31))) ||| sv3)] [(.int 1), (.ref o)]))
  rw [show ((1 : Int32) + (1 : Int32)) = (2 : Int32) from by decide]
  show G (T10.setTop (mkF m 159 #[oa dc, oa sr, oi 4, oi 6, oa o, oi 0, oi 1, oi 0, oa tab, oi 4, oi 2, oi sv0, oi sv1, oi sv2, oi sv3, oi ((((sv0 <<< ((18 : Int32) &&& 31)) ||| (sv1 <<< ((12 : Int32) &&& 31))) ||| (sv2 <<< ((6 : Int32) &&& 31))) ||| sv3)] [(.int 1), (.ref o)]))
  refine q_iload B X10 d30_159 rfl rfl ?_
  refine q_bipush B X10 d30_161 rfl ?_
  refine q_ishr B X10 d30_163 rfl rfl ?_
  refine q_i2b B X10 d30_164 rfl rfl ?_
  show G (T10.setTop (mkF m 165 #[oa dc, oa sr, oi 4, oi 6, oa o, oi 0, oi 1, oi 0, oa tab, oi 4, oi 2, oi sv0, oi sv1, oi sv2, oi sv3, oi ((((sv0 <<< ((18 : Int32) &&& 31)) ||| (sv1 <<< ((12 : Int32) &&& 31))) ||| (sv2 <<< ((6 : Int32) &&& 31))) ||| sv3)] [(.int ((((((sv0 <<< ((18 : Int32) &&& 31)) ||| (sv1 <<< ((12 : Int32) &&& 31))) ||| (sv2 <<< ((6 : Int32) &&& 31))) ||| sv3) >>> ((8 : Int32) &&& 31)).toInt8.toInt32)), (.int 1), (.ref o)]))
  refine qsb 1 B X10 hZ e10 V10 d30_165 (by decide) rfl (Nat.le_of_ble_eq_true rfl) fun T11 h11 X11 e11 W11 V11 => ?_
  have K11 := K10.wr W11 (own_mi 0 rfl)
  have O11 := O10.wr W11 g7_G
  have N11 := Fr.snoc X11 N10 g7_G
  refine q_aload B X11 d30_166 rfl rfl rfl ?_
  refine q_iload B X11 d30_168 rfl rfl ?_
  refine q_iinc B X11 d30_170 rfl rfl rfl ?_
  show G (T11.setTop (mkF m 173 #[oa dc, oa sr, oi 4, oi 6, oa o, oi 0, oi 1, oi 0, oa tab, oi 4, oi ((2 : Int32) + (1 : Int32)), oi sv0, oi sv1, oi sv2, oi sv3, oi ((((sv0 <<< ((18 : Int32) &&& 31)) ||| (sv1 <<< ((12 : Int32) &&& 31))) ||| (sv2 <<< ((6 : Int32) &&& 31))) ||| sv3)] [(.int 2), (.ref o)]))
  rw [show ((2 : Int32) + (1 : Int32)) = (3 : Int32) from by decide]
  show G (T11.setTop (mkF m 173 #[oa dc, oa sr, oi 4, oi 6, oa o, oi 0, oi 1, oi 0, oa tab, oi 4, oi 3, oi sv0, oi sv1, oi sv2, oi sv3, oi ((((sv0 <<< ((18 : Int32) &&& 31)) ||| (sv1 <<< ((12 : Int32) &&& 31))) ||| (sv2 <<< ((6 : Int32) &&& 31))) ||| sv3)] [(.int 2), (.ref o)]))
  refine q_iload B X11 d30_173 rfl rfl ?_
  refine q_i2b B X11 d30_175 rfl rfl ?_
  show G (T11.setTop (mkF m 176 #[oa dc, oa sr, oi 4, oi 6, oa o, oi 0, oi 1, oi 0, oa tab, oi 4, oi 3, oi sv0, oi sv1, oi sv2, oi sv3, oi ((((sv0 <<< ((18 : Int32) &&& 31)) ||| (sv1 <<< ((12 : Int32) &&& 31))) ||| (sv2 <<< ((6 : Int32) &&& 31))) ||| sv3)] [(.int (((((sv0 <<< ((18 : Int32) &&& 31)) ||| (sv1 <<< ((12 : Int32) &&& 31))) ||| (sv2 <<< ((6 : Int32) &&& 31))) ||| sv3).toInt8.toInt32)), (.int 2), (.ref o)]))
  refine qsb 2 B X11 hZ e11 V11 d30_176 (by decide) rfl (Nat.le_of_ble_eq_true rfl) fun T12 h12 X12 e12 W12 V12 => ?_
  have K12 := K11.wr W12 (own_mi 0 rfl)
  have O12 := O11.wr W12 g7_G
  have N12 := Fr.snoc X12 N11 g7_G
  refine q_goto 30 B X12 d30_177 rfl rfl (by decide) ?_
  refine q_iloadN B X12 d30_30 rfl rfl ?_
  refine q_iload B X12 d30_31 rfl rfl ?_
  refine q_icmpYes 180 B X12 d30_33 rfl (flt (by decide)).2.1 rfl rfl (by decide) ?_
  refine q_iload B X12 d30_180 rfl rfl ?_
  refine q_iload B X12 d30_182 rfl rfl ?_
  refine q_isub B X12 d30_184 rfl rfl ?_
  show G (T12.setTop (mkF m 185 #[oa dc, oa sr, oi 4, oi 6, oa o, oi 0, oi 1, oi 0, oa tab, oi 4, oi 3, oi sv0, oi sv1, oi sv2, oi sv3, oi ((((sv0 <<< ((18 : Int32) &&& 31)) ||| (sv1 <<< ((12 : Int32) &&& 31))) ||| (sv2 <<< ((6 : Int32) &&& 31))) ||| sv3)] [(.int ((3 : Int32) - (0 : Int32)))]))
  rw [show ((3 : Int32) - (0 : Int32)) = (3 : Int32) from by decide]
  show G (T12.setTop (mkF m 185 #[oa dc, oa sr, oi 4, oi 6, oa o, oi 0, oi 1, oi 0, oa tab, oi 4, oi 3, oi sv0, oi sv1, oi sv2, oi sv3, oi ((((sv0 <<< ((18 : Int32) &&& 31)) ||| (sv1 <<< ((12 : Int32) &&& 31))) ||| (sv2 <<< ((6 : Int32) &&& 31))) ||| sv3)] [(.int 3)]))
  exact qRI B hR hret X12 d30_185 e12 ⟨rfl, N12, K12, V12⟩ (by decide)
theorem own_dec06 (hw : own_W Z a0) {dc tab : Addr} {ktab : ClassId} {sr : Addr} {ks : ClassId} {o : Addr} {ko : ClassId} {ch0 ch1 ch2 ch3 ch4 ch5 : Int32} (sv0 sv1 sv2 sv3 sv4 sv5 : Int32) (O0 : own_Old Z h0) (g0_S : Sta Z Z.heap "java/util/Base64$Decoder" "fromBase64URL" "[I" (.ref tab)) (g1_E : Exa Z h0 dc "java/util/Base64$Decoder") (g2_F : Fld Z h0 dc "java/util/Base64$Decoder" "isURL" "Z" (.int 1)) (g3_F : Fld Z h0 dc "java/util/Base64$Decoder" "isMIME" "Z" (.int 0)) (g4_V : Arv Z h0 tab ktab .int 256 (own_TAB.map Value.int) (.int 0)) (g5_V : Arv Z h0 sr ks .byte (6 : Int32) [(.int ch0), (.int ch1), (.int ch2), (.int ch3), (.int ch4), (.int ch5)] (.int 0)) (g6_V : Arv Z h0 o ko .byte (4 : Int32) [(.int 0), (.int 0), (.int 0), (.int 0)] (.int 0)) (g7_G : Z.heap.size ≤ o) (g8_ne_sr_o : sr ≠ o) (g9_ne_tab_o : tab ≠ o) (g10_ne_dc_o : dc ≠ o) (g11_hs0 : own_sy ch0 sv0) (g12_hs1 : own_sy ch1 sv1) (g13_hs2 : own_sy ch2 sv2) (g14_hs3 : own_sy ch3 sv3) (g15_hs4 : own_sy ch4 sv4) (g16_hs5 : own_sy ch5 sv5) : own_Con l Z ⟨"java/util/Base64$Decoder", "decode0", "([BII[B)I"⟩ jdk_2450_method_9_code 11 (some .int) [] ⟨1, 0, 0, 27⟩ #[(.ref dc), (.ref sr), (.int 0), (.int 6), (.ref o)] h0 (fun rv rh rL => rv = some (.int 4) ∧ own_Fr Z rL ∧ Keep h0 rh [o] ∧ (Arv Z rh o ko .byte (4 : Int32) [(.int (nar .byte ((((((sv0 <<< ((18 : Int32) &&& 31)) ||| (sv1 <<< ((12 : Int32) &&& 31))) ||| (sv2 <<< ((6 : Int32) &&& 31))) ||| sv3) >>> ((16 : Int32) &&& 31)).toInt8.toInt32))), (.int (nar .byte ((((((sv0 <<< ((18 : Int32) &&& 31)) ||| (sv1 <<< ((12 : Int32) &&& 31))) ||| (sv2 <<< ((6 : Int32) &&& 31))) ||| sv3) >>> ((8 : Int32) &&& 31)).toInt8.toInt32))), (.int (nar .byte (((((sv0 <<< ((18 : Int32) &&& 31)) ||| (sv1 <<< ((12 : Int32) &&& 31))) ||| (sv2 <<< ((6 : Int32) &&& 31))) ||| sv3).toInt8.toInt32))), (.int (nar .byte (((((0 : Int32) ||| (sv4 <<< ((18 : Int32) &&& 31))) ||| (sv5 <<< ((12 : Int32) &&& 31))) >>> ((16 : Int32) &&& 31)).toInt8.toInt32)))] (.int 0))) := by
  refine own_st hw (plainFor_of_name (by decide +kernel)) #[oa dc, oa sr, oi 0, oi 6, oa o, .unset, .unset, .unset, .unset, .unset, .unset] (fun m => by first | (simp [entryFrame, mkF, argsToLocals, Value.category]; done) | rfl) fun p e s m below meth c s₁ G B hown hnm hret hZ X0 e0 N0 hR => ?_
  refine q_aloadN B X0 d28_0 rfl rfl rfl ?_
  refine qgf B X0 hZ hown 134 rfl Via.refl e0 g2_F d28_1 fun T1 X1 e1 => ?_
  refine q_ifNo B X1 d28_4 rfl ((if0 _ _).trans (feq (by decide)).1) rfl ?_
  refine qgs B X1 hZ hown 136 rfl Via.refl e1 g0_S O0 d28_7 fun T2 X2 e2 => ?_
  refine q_goto 16 B X2 d28_10 rfl rfl (by decide) ?_
  refine q_astore B X2 d28_16 rfl rfl rfl rfl ?_
  refine q_iconst B X2 d28_18 rfl ?_
  refine q_istore B X2 d28_19 rfl rfl rfl ?_
  refine q_iconst B X2 d28_21 rfl ?_
  refine q_istore B X2 d28_22 rfl rfl rfl ?_
  refine q_bipush B X2 d28_24 rfl ?_
  refine q_istore B X2 d28_26 rfl rfl rfl ?_
  refine q_iloadN B X2 d28_28 rfl rfl ?_
  refine q_iloadN B X2 d28_29 rfl rfl ?_
  refine q_icmpNo B X2 d28_30 rfl (tlt (by decide)).2.1 rfl ?_
  refine q_iload B X2 d28_33 rfl rfl ?_
  refine q_bipush B X2 d28_35 rfl ?_
  show G (T2.setTop (mkF m 37 #[oa dc, oa sr, oi 0, oi 6, oa o, oa tab, oi 0, oi 0, oi 18, .unset, .unset] [(.int 18), (.int 18)]))
  refine q_icmpNo B X2 d28_37 rfl (teq (by decide)).2 rfl ?_
  refine q_iloadN B X2 d28_40 rfl rfl ?_
  refine q_iloadN B X2 d28_41 rfl rfl ?_
  refine q_iconst B X2 d28_42 rfl ?_
  refine q_isub B X2 d28_43 rfl rfl ?_
  show G (T2.setTop (mkF m 44 #[oa dc, oa sr, oi 0, oi 6, oa o, oa tab, oi 0, oi 0, oi 18, .unset, .unset] [(.int ((6 : Int32) - (4 : Int32))), (.int 0)]))
  rw [show ((6 : Int32) - (4 : Int32)) = (2 : Int32) from by decide]
  show G (T2.setTop (mkF m 44 #[oa dc, oa sr, oi 0, oi 6, oa o, oa tab, oi 0, oi 0, oi 18, .unset, .unset] [(.int 2), (.int 0)]))
  refine q_icmpNo B X2 d28_44 rfl (tlt (by decide)).2.1 rfl ?_
  refine q_aloadN B X2 d28_47 rfl rfl rfl ?_
  refine q_aloadN B X2 d28_48 rfl rfl rfl ?_
  refine q_iloadN B X2 d28_49 rfl rfl ?_
  refine q_iloadN B X2 d28_50 rfl rfl ?_
  refine q_aload B X2 d28_51 rfl rfl rfl ?_
  refine q_iload B X2 d28_53 rfl rfl ?_
  refine q_aloadN B X2 d28_55 rfl rfl rfl ?_
  refine qgf B X2 hZ hown 134 rfl Via.refl e2 g2_F d28_56 fun T3 X3 e3 => ?_
  refine q_aloadN B X3 d28_59 rfl rfl rfl ?_
  refine qgf B X3 hZ hown 137 rfl Via.refl e3 g3_F d28_60 fun T4 X4 e4 => ?_
  show G (T4.setTop (mkF m 63 #[oa dc, oa sr, oi 0, oi 6, oa o, oa tab, oi 0, oi 0, oi 18, .unset, .unset] [(.int 0), (.int 1), (.int 0), (.ref o), (.int 6), (.int 0), (.ref sr), (.ref dc)]))
  refine qP B X4 hZ hown 149 150 152 151 90 153 rfl rfl rfl rfl rfl rfl (own_blk6 hw (ch0 := ch0) (ch1 := ch1) (ch2 := ch2) (ch3 := ch3) (ch4 := ch4) (ch5 := ch5) sv0 sv1 sv2 sv3 sv4 sv5 O0 g0_S g1_E g2_F g3_F g4_V g5_V g6_V g7_G g8_ne_sr_o g9_ne_tab_o g10_ne_dc_o g11_hs0 g12_hs1 g13_hs2 g14_hs3 g15_hs4 g16_hs5) e4 g1_E own_pd21 rfl rfl d28_63 0 rfl rfl rfl (by decide) ?_
  rintro T5 h5 _ L5 X5 e5 ⟨rfl, M5, J5, r5_0⟩
  have N5 := Fr.app N0 M5
  have K5 := (Keep.refl h0 [o]).trans J5 (allS (own_mi 0 rfl) all0)
  have O5 := O0.keep J5 (allS g7_G all0)
  refine q_istore B X5 d28_66 rfl rfl rfl ?_
  refine q_iload B X5 d28_68 rfl rfl ?_
  refine q_iconst B X5 d28_70 rfl ?_
  refine q_iadd B X5 d28_71 rfl rfl ?_
  show G (T5.setTop (mkF m 72 #[oa dc, oa sr, oi 0, oi 6, oa o, oa tab, oi 0, oi 0, oi 18, oi 3, .unset] [(.int ((3 : Int32) + (2 : Int32)))]))
  rw [show ((3 : Int32) + (2 : Int32)) = (5 : Int32) from by decide]
  show G (T5.setTop (mkF m 72 #[oa dc, oa sr, oi 0, oi 6, oa o, oa tab, oi 0, oi 0, oi 18, oi 3, .unset] [(.int 5)]))
  refine q_iconst B X5 d28_72 rfl ?_
  refine q_idiv B X5 d28_73 rfl (by decide) rfl ?_
  show G (T5.setTop (mkF m 74 #[oa dc, oa sr, oi 0, oi 6, oa o, oa tab, oi 0, oi 0, oi 18, oi 3, .unset] [(.int ((5 : Int32) / (3 : Int32)))]))
  rw [show ((5 : Int32) / (3 : Int32)) = (1 : Int32) from by decide]
  show G (T5.setTop (mkF m 74 #[oa dc, oa sr, oi 0, oi 6, oa o, oa tab, oi 0, oi 0, oi 18, oi 3, .unset] [(.int 1)]))
  refine q_iconst B X5 d28_74 rfl ?_
  refine q_imul B X5 d28_75 rfl rfl ?_
  show G (T5.setTop (mkF m 76 #[oa dc, oa sr, oi 0, oi 6, oa o, oa tab, oi 0, oi 0, oi 18, oi 3, .unset] [(.int ((1 : Int32) * (4 : Int32)))]))
  rw [show ((1 : Int32) * (4 : Int32)) = (4 : Int32) from by decide]
  show G (T5.setTop (mkF m 76 #[oa dc, oa sr, oi 0, oi 6, oa o, oa tab, oi 0, oi 0, oi 18, oi 3, .unset] [(.int 4)]))
  refine q_istore B X5 d28_76 rfl rfl rfl ?_
  refine q_iloadN B X5 d28_78 rfl rfl ?_
  refine q_iload B X5 d28_79 rfl rfl ?_
  refine q_iadd B X5 d28_81 rfl rfl ?_
  show G (T5.setTop (mkF m 82 #[oa dc, oa sr, oi 0, oi 6, oa o, oa tab, oi 0, oi 0, oi 18, oi 3, oi 4] [(.int ((0 : Int32) + (4 : Int32)))]))
  rw [show ((0 : Int32) + (4 : Int32)) = (4 : Int32) from by decide]
  show G (T5.setTop (mkF m 82 #[oa dc, oa sr, oi 0, oi 6, oa o, oa tab, oi 0, oi 0, oi 18, oi 3, oi 4] [(.int 4)]))
  refine q_istoreN B X5 d28_82 rfl rfl rfl ?_
  refine q_iload B X5 d28_83 rfl rfl ?_
  refine q_iload B X5 d28_85 rfl rfl ?_
  refine q_iadd B X5 d28_87 rfl rfl ?_
  show G (T5.setTop (mkF m 88 #[oa dc, oa sr, oi 4, oi 6, oa o, oa tab, oi 0, oi 0, oi 18, oi 3, oi 4] [(.int ((0 : Int32) + (3 : Int32)))]))
  rw [show ((0 : Int32) + (3 : Int32)) = (3 : Int32) from by decide]
  show G (T5.setTop (mkF m 88 #[oa dc, oa sr, oi 4, oi 6, oa o, oa tab, oi 0, oi 0, oi 18, oi 3, oi 4] [(.int 3)]))
  refine q_istore B X5 d28_88 rfl rfl rfl ?_
  refine q_iloadN B X5 d28_90 rfl rfl ?_
  refine q_iloadN B X5 d28_91 rfl rfl ?_
  refine q_icmpYes 98 B X5 d28_92 rfl (tlt (by decide)).1 rfl rfl (by decide) ?_
  refine q_aloadN B X5 d28_98 rfl rfl rfl ?_
  refine q_iloadN B X5 d28_99 rfl rfl ?_
  refine q_iinc B X5 d28_100 rfl rfl rfl ?_
  show G (T5.setTop (mkF m 103 #[oa dc, oa sr, oi ((4 : Int32) + (1 : Int32)), oi 6, oa o, oa tab, oi 3, oi 0, oi 18, oi 3, oi 4] [(.int 4), (.ref sr)]))
  rw [show ((4 : Int32) + (1 : Int32)) = (5 : Int32) from by decide]
  show G (T5.setTop (mkF m 103 #[oa dc, oa sr, oi 5, oi 6, oa o, oa tab, oi 3, oi 0, oi 18, oi 3, oi 4] [(.int 4), (.ref sr)]))
  have f7 := (g5_V.keep J5 (ninS g8_ne_sr_o nin0))
  refine qlb (v := (.int ch4)) B X5 hZ e5 f7 d28_103 (by decide) rfl ?_
  refine q_sipush B X5 d28_104 rfl ?_
  refine q_iand B X5 d28_107 rfl rfl ?_
  show G (T5.setTop (mkF m 108 #[oa dc, oa sr, oi 5, oi 6, oa o, oa tab, oi 3, oi 0, oi 18, oi 3, oi 4] [(.int (ch4 &&& (255 : Int32)))]))
  rw [own_m255 g15_hs4]
  show G (T5.setTop (mkF m 108 #[oa dc, oa sr, oi 5, oi 6, oa o, oa tab, oi 3, oi 0, oi 18, oi 3, oi 4] [(.int ch4)]))
  refine q_istore B X5 d28_108 rfl rfl rfl ?_
  refine q_aload B X5 d28_110 rfl rfl rfl ?_
  refine q_iload B X5 d28_112 rfl rfl ?_
  have f9 := (g4_V.keep J5 (ninS g9_ne_tab_o nin0))
  refine qli (v := (.int sv4)) B X5 hZ e5 f9 d28_114 ⟨(own_look g15_hs4).1, (own_look g15_hs4).2.1⟩ (own_look g15_hs4).2.2 ?_
  refine q_dup B X5 d28_115 rfl rfl rfl ?_
  refine q_istore B X5 d28_116 rfl rfl rfl ?_
  refine q_ifYes 214 B X5 d28_118 rfl ((if0 _ _).trans (flt (own_Vnn (own_syV g15_hs4))).2.1) rfl rfl (by decide) ?_
  refine q_iload B X5 d28_214 rfl rfl ?_
  refine q_iload B X5 d28_216 rfl rfl ?_
  refine q_iload B X5 d28_218 rfl rfl ?_
  refine q_ishl B X5 d28_220 rfl rfl ?_
  refine q_ior B X5 d28_221 rfl rfl ?_
  refine q_istore B X5 d28_222 rfl rfl rfl ?_
  refine q_iinc B X5 d28_224 rfl rfl rfl ?_
  show G (T5.setTop (mkF m 227 #[oa dc, oa sr, oi 5, oi 6, oa o, oa tab, oi 3, oi ((0 : Int32) ||| (sv4 <<< ((18 : Int32) &&& 31))), oi ((18 : Int32) + (-6 : Int32)), oi sv4, oi 4] []))
  rw [show ((18 : Int32) + (-6 : Int32)) = (12 : Int32) from by decide]
  show G (T5.setTop (mkF m 227 #[oa dc, oa sr, oi 5, oi 6, oa o, oa tab, oi 3, oi ((0 : Int32) ||| (sv4 <<< ((18 : Int32) &&& 31))), oi 12, oi sv4, oi 4] []))
  refine q_iload B X5 d28_227 rfl rfl ?_
  refine q_ifYes 278 B X5 d28_229 rfl ((if0 _ _).trans (flt (by decide)).2.1) rfl rfl (by decide) ?_
  refine q_goto 28 B X5 d28_278 rfl rfl (by decide) ?_
  refine q_iloadN B X5 d28_28 rfl rfl ?_
  refine q_iloadN B X5 d28_29 rfl rfl ?_
  refine q_icmpNo B X5 d28_30 rfl (tlt (by decide)).2.1 rfl ?_
  refine q_iload B X5 d28_33 rfl rfl ?_
  refine q_bipush B X5 d28_35 rfl ?_
  refine q_icmpYes 90 B X5 d28_37 rfl (feq (by decide)).2 rfl rfl (by decide) ?_
  refine q_iloadN B X5 d28_90 rfl rfl ?_
  refine q_iloadN B X5 d28_91 rfl rfl ?_
  refine q_icmpYes 98 B X5 d28_92 rfl (tlt (by decide)).1 rfl rfl (by decide) ?_
  refine q_aloadN B X5 d28_98 rfl rfl rfl ?_
  refine q_iloadN B X5 d28_99 rfl rfl ?_
  refine q_iinc B X5 d28_100 rfl rfl rfl ?_
  show G (T5.setTop (mkF m 103 #[oa dc, oa sr, oi ((5 : Int32) + (1 : Int32)), oi 6, oa o, oa tab, oi 3, oi ((0 : Int32) ||| (sv4 <<< ((18 : Int32) &&& 31))), oi 12, oi sv4, oi 4] [(.int 5), (.ref sr)]))
  rw [show ((5 : Int32) + (1 : Int32)) = (6 : Int32) from by decide]
  show G (T5.setTop (mkF m 103 #[oa dc, oa sr, oi 6, oi 6, oa o, oa tab, oi 3, oi ((0 : Int32) ||| (sv4 <<< ((18 : Int32) &&& 31))), oi 12, oi sv4, oi 4] [(.int 5), (.ref sr)]))
  refine qlb (v := (.int ch5)) B X5 hZ e5 f7 d28_103 (by decide) rfl ?_
  refine q_sipush B X5 d28_104 rfl ?_
  refine q_iand B X5 d28_107 rfl rfl ?_
  show G (T5.setTop (mkF m 108 #[oa dc, oa sr, oi 6, oi 6, oa o, oa tab, oi 3, oi ((0 : Int32) ||| (sv4 <<< ((18 : Int32) &&& 31))), oi 12, oi sv4, oi 4] [(.int (ch5 &&& (255 : Int32)))]))
  rw [own_m255 g16_hs5]
  show G (T5.setTop (mkF m 108 #[oa dc, oa sr, oi 6, oi 6, oa o, oa tab, oi 3, oi ((0 : Int32) ||| (sv4 <<< ((18 : Int32) &&& 31))), oi 12, oi sv4, oi 4] [(.int ch5)]))
  refine q_istore B X5 d28_108 rfl rfl rfl ?_
  refine q_aload B X5 d28_110 rfl rfl rfl ?_
  refine q_iload B X5 d28_112 rfl rfl ?_
  refine qli (v := (.int sv5)) B X5 hZ e5 f9 d28_114 ⟨(own_look g16_hs5).1, (own_look g16_hs5).2.1⟩ (own_look g16_hs5).2.2 ?_
  refine q_dup B X5 d28_115 rfl rfl rfl ?_
  refine q_istore B X5 d28_116 rfl rfl rfl ?_
  refine q_ifYes 214 B X5 d28_118 rfl ((if0 _ _).trans (flt (own_Vnn (own_syV g16_hs5))).2.1) rfl rfl (by decide) ?_
  refine q_iload B X5 d28_214 rfl rfl ?_
  refine q_iload B X5 d28_216 rfl rfl ?_
  refine q_iload B X5 d28_218 rfl rfl ?_
  refine q_ishl B X5 d28_220 rfl rfl ?_
  refine q_ior B X5 d28_221 rfl rfl ?_
  refine q_istore B X5 d28_222 rfl rfl rfl ?_
  refine q_iinc B X5 d28_224 rfl rfl rfl ?_
  show G (T5.setTop (mkF m 227 #[oa dc, oa sr, oi 6, oi 6, oa o, oa tab, oi 3, oi (((0 : Int32) ||| (sv4 <<< ((18 : Int32) &&& 31))) ||| (sv5 <<< ((12 : Int32) &&& 31))), oi ((12 : Int32) + (-6 : Int32)), oi sv5, oi 4] []))
  rw [show ((12 : Int32) + (-6 : Int32)) = (6 : Int32) from by decide]
  show G (T5.setTop (mkF m 227 #[oa dc, oa sr, oi 6, oi 6, oa o, oa tab, oi 3, oi (((0 : Int32) ||| (sv4 <<< ((18 : Int32) &&& 31))) ||| (sv5 <<< ((12 : Int32) &&& 31))), oi 6, oi sv5, oi 4] []))
  refine q_iload B X5 d28_227 rfl rfl ?_
  refine q_ifYes 278 B X5 d28_229 rfl ((if0 _ _).trans (flt (by decide)).2.1) rfl rfl (by decide) ?_
  refine q_goto 28 B X5 d28_278 rfl rfl (by decide) ?_
  refine q_iloadN B X5 d28_28 rfl rfl ?_
  refine q_iloadN B X5 d28_29 rfl rfl ?_
  refine q_icmpYes 281 B X5 d28_30 rfl (flt (by decide)).2.1 rfl rfl (by decide) ?_
  refine q_iload B X5 d28_281 rfl rfl ?_
  refine q_bipush B X5 d28_283 rfl ?_
  refine q_icmpNo B X5 d28_285 rfl (teq (by decide)).2 rfl ?_
  refine q_aload B X5 d28_288 rfl rfl rfl ?_
  refine q_iload B X5 d28_290 rfl rfl ?_
  refine q_iinc B X5 d28_292 rfl rfl rfl ?_
  show G (T5.setTop (mkF m 295 #[oa dc, oa sr, oi 6, oi 6, oa o, oa tab, oi ((3 : Int32) + (1 : Int32)), oi (((0 : Int32) ||| (sv4 <<< ((18 : Int32) &&& 31))) ||| (sv5 <<< ((12 : Int32) &&& 31))), oi 6, oi sv5, oi 4] [(.int 3), (.ref o)]))
  rw [show ((3 : Int32) + (1 : Int32)) = (4 : Int32) from by decide]
  show G (T5.setTop (mkF m 295 #[oa dc, oa sr, oi 6, oi 6, oa o, oa tab, oi 4, oi (((0 : Int32) ||| (sv4 <<< ((18 : Int32) &&& 31))) ||| (sv5 <<< ((12 : Int32) &&& 31))), oi 6, oi sv5, oi 4] [(.int 3), (.ref o)]))
  refine q_iload B X5 d28_295 rfl rfl ?_
  refine q_bipush B X5 d28_297 rfl ?_
  refine q_ishr B X5 d28_299 rfl rfl ?_
  refine q_i2b B X5 d28_300 rfl rfl ?_
  show G (T5.setTop (mkF m 301 #[oa dc, oa sr, oi 6, oi 6, oa o, oa tab, oi 4, oi (((0 : Int32) ||| (sv4 <<< ((18 : Int32) &&& 31))) ||| (sv5 <<< ((12 : Int32) &&& 31))), oi 6, oi sv5, oi 4] [(.int (((((0 : Int32) ||| (sv4 <<< ((18 : Int32) &&& 31))) ||| (sv5 <<< ((12 : Int32) &&& 31))) >>> ((16 : Int32) &&& 31)).toInt8.toInt32)), (.int 3), (.ref o)]))
  refine qsb 3 B X5 hZ e5 r5_0 d28_301 (by decide) rfl (Nat.le_of_ble_eq_true rfl) fun T12 h12 X12 e12 W12 V12 => ?_
  have K12 := K5.wr W12 (own_mi 0 rfl)
  have O12 := O5.wr W12 g7_G
  have N12 := Fr.snoc X12 N5 g7_G
  refine q_goto 358 B X12 d28_302 rfl rfl (by decide) ?_
  refine q_iloadN B X12 d28_358 rfl rfl ?_
  refine q_iloadN B X12 d28_359 rfl rfl ?_
  refine q_icmpYes 416 B X12 d28_360 rfl (flt (by decide)).2.1 rfl rfl (by decide) ?_
  refine q_iload B X12 d28_416 rfl rfl ?_
  show G (T12.setTop (mkF m 418 #[oa dc, oa sr, oi 6, oi 6, oa o, oa tab, oi 4, oi (((0 : Int32) ||| (sv4 <<< ((18 : Int32) &&& 31))) ||| (sv5 <<< ((12 : Int32) &&& 31))), oi 6, oi sv5, oi 4] [(.int 4)]))
  exact qRI B hR hret X12 d28_418 e12 ⟨rfl, N12, K12, V12⟩ (by decide)
theorem own_decb6 (hw : own_W Z a0) {dc tab : Addr} {ktab : ClassId} {sr : Addr} {ks : ClassId} {ch0 ch1 ch2 ch3 ch4 ch5 : Int32} (sv0 sv1 sv2 sv3 sv4 sv5 : Int32) (O0 : own_Old Z h0) (g0_S : Sta Z Z.heap "java/util/Base64$Decoder" "fromBase64URL" "[I" (.ref tab)) (g1_E : Exa Z h0 dc "java/util/Base64$Decoder") (g2_F : Fld Z h0 dc "java/util/Base64$Decoder" "isURL" "Z" (.int 1)) (g3_F : Fld Z h0 dc "java/util/Base64$Decoder" "isMIME" "Z" (.int 0)) (g4_V : Arv Z h0 tab ktab .int 256 (own_TAB.map Value.int) (.int 0)) (g5_V : Arv Z h0 sr ks .byte (6 : Int32) [(.int ch0), (.int ch1), (.int ch2), (.int ch3), (.int ch4), (.int ch5)] (.int 0)) (g6_hs0 : own_sy ch0 sv0) (g7_hs1 : own_sy ch1 sv1) (g8_hs2 : own_sy ch2 sv2) (g9_hs3 : own_sy ch3 sv3) (g10_hs4 : own_sy ch4 sv4) (g11_hs5 : own_sy ch5 sv5) : own_Con l Z ⟨"java/util/Base64$Decoder", "decode", "([B)[B"⟩ jdk_2450_method_2_code 4 (some (.array .byte)) [] ⟨2, 1, 4, 49⟩ #[(.ref dc), (.ref sr)] h0 (fun rv rh rL => ∃ (o : Addr) (ko : ClassId), rv = some (.ref o) ∧ own_Fr Z rL ∧ Keep h0 rh [] ∧ h0.size ≤ o ∧ (Arv Z rh o ko .byte (4 : Int32) [(.int (nar .byte ((((((sv0 <<< ((18 : Int32) &&& 31)) ||| (sv1 <<< ((12 : Int32) &&& 31))) ||| (sv2 <<< ((6 : Int32) &&& 31))) ||| sv3) >>> ((16 : Int32) &&& 31)).toInt8.toInt32))), (.int (nar .byte ((((((sv0 <<< ((18 : Int32) &&& 31)) ||| (sv1 <<< ((12 : Int32) &&& 31))) ||| (sv2 <<< ((6 : Int32) &&& 31))) ||| sv3) >>> ((8 : Int32) &&& 31)).toInt8.toInt32))), (.int (nar .byte (((((sv0 <<< ((18 : Int32) &&& 31)) ||| (sv1 <<< ((12 : Int32) &&& 31))) ||| (sv2 <<< ((6 : Int32) &&& 31))) ||| sv3).toInt8.toInt32))), (.int (nar .byte (((((0 : Int32) ||| (sv4 <<< ((18 : Int32) &&& 31))) ||| (sv5 <<< ((12 : Int32) &&& 31))) >>> ((16 : Int32) &&& 31)).toInt8.toInt32)))] (.int 0))) := by
  refine own_st hw (plainFor_of_name (by decide +kernel)) #[oa dc, oa sr, .unset, .unset] (fun _ => rfl) fun p e s m below meth c s₁ G B hown hnm hret hZ X0 e0 N0 hR => ?_
  refine q_aloadN B X0 d26_0 rfl rfl rfl ?_
  refine q_aloadN B X0 d26_1 rfl rfl rfl ?_
  refine q_iconst B X0 d26_2 rfl ?_
  refine q_aloadN B X0 d26_3 rfl rfl rfl ?_
  refine qal B X0 hZ e0 g5_V d26_4 ?_
  show G (s₁.setTop (mkF m 5 #[oa dc, oa sr, .unset, .unset] [(.int 6), (.int 0), (.ref sr), (.ref dc)]))
  refine qP B X0 hZ hown 129 130 132 131 90 133 rfl rfl rfl rfl rfl rfl (own_dol6 hw (ch0 := ch0) (ch1 := ch1) (ch2 := ch2) (ch3 := ch3) (ch4 := ch4) (ch5 := ch5) sv0 sv1 sv2 sv3 sv4 sv5 O0 g0_S g1_E g2_F g3_F g5_V g6_hs0 g7_hs1 g8_hs2 g9_hs3 g10_hs4 g11_hs5) e0 g1_E own_pd17 rfl rfl d26_5 0 rfl rfl rfl (by decide) ?_
  rintro T2 h2 _ L2 X2 e2 ⟨rfl, M2, rfl⟩
  have N2 := Fr.app N0 M2
  refine qna 4 B X2 hZ 31 rfl e2 d26_8 (by decide) (by decide) (by decide) fun T3 h3 k3 b3 z3 X3 e3 E3 A3 => ?_
  have K3 := (Keep.refl h0 []).ext E3
  have O3 := O0.ext E3
  have V3 : Arv Z h3 b3 k3 .byte (4 : Int32) [(.int 0), (.int 0), (.int 0), (.int 0)] (.int 0) := (Arv.new A3 (by decide)).pad (pad_rep [] (.int 0) 4)
  refine q_astoreN B X3 d26_10 rfl rfl rfl rfl ?_
  refine q_aloadN B X3 d26_11 rfl rfl rfl ?_
  refine q_aloadN B X3 d26_12 rfl rfl rfl ?_
  refine q_iconst B X3 d26_13 rfl ?_
  refine q_aloadN B X3 d26_14 rfl rfl rfl ?_
  have f5 := (g5_V.ext E3)
  refine qal B X3 hZ e3 f5 d26_15 ?_
  refine q_aloadN B X3 d26_16 rfl rfl rfl ?_
  show G (T3.setTop (mkF m 17 #[oa dc, oa sr, oa b3, .unset] [(.ref b3), (.int 6), (.int 0), (.ref sr), (.ref dc)]))
  have f7 := (g1_E.ext E3)
  have f8 := (g2_F.ext E3)
  have f9 := (g3_F.ext E3)
  have f10 := (g4_V.ext E3)
  refine qP B X3 hZ hown 141 142 144 143 90 145 rfl rfl rfl rfl rfl rfl (own_dec06 hw (ch0 := ch0) (ch1 := ch1) (ch2 := ch2) (ch3 := ch3) (ch4 := ch4) (ch5 := ch5) sv0 sv1 sv2 sv3 sv4 sv5 O3 g0_S f7 f8 f9 f10 f5 V3 (own_ge O0 (Nat.le_of_eq z3.symm)) (own_ne g5_V.lt (Nat.le_of_eq z3.symm)) (own_ne g4_V.lt (Nat.le_of_eq z3.symm)) (own_ne g1_E.lt (Nat.le_of_eq z3.symm)) g6_hs0 g7_hs1 g8_hs2 g9_hs3 g10_hs4 g11_hs5) e3 f7 own_pd18 rfl rfl d26_17 0 rfl rfl rfl (by decide) ?_
  rintro T6 h6 _ L6 X6 e6 ⟨rfl, M6, J6, r6_0⟩
  have N6 := Fr.app N2 M6
  have K6 := K3.trans J6 (allS (Or.inr (Nat.le_trans (Keep.refl h0 []).1 (Nat.le_of_eq z3.symm))) all0)
  have O6 := O3.keep J6 (allS (own_ge O0 (Nat.le_of_eq z3.symm)) all0)
  refine q_istoreN B X6 d26_20 rfl rfl rfl ?_
  refine q_iloadN B X6 d26_21 rfl rfl ?_
  refine q_aloadN B X6 d26_22 rfl rfl rfl ?_
  refine qal B X6 hZ e6 r6_0 d26_23 ?_
  refine q_icmpYes 33 B X6 d26_24 rfl (teq (by decide)).1 rfl rfl (by decide) ?_
  refine q_aloadN B X6 d26_33 rfl rfl rfl ?_
  show G (T6.setTop (mkF m 34 #[oa dc, oa sr, oa b3, oi 4] [(.ref b3)]))
  exact qRA B hR hret rfl rfl X6 d26_34 e6 ⟨b3, k3, rfl, N6, K6, (Nat.le_trans (Keep.refl h0 []).1 (Nat.le_of_eq z3.symm)), r6_0⟩ (by decide)
theorem own_decs6 (hw : own_W Z a0) {dc iso u8 tab : Addr} {ktab : ClassId} {a : Addr} {cpt : Int32} {t : Addr} {kt : ClassId} {ch0 ch1 ch2 ch3 ch4 ch5 : Int32} (sv0 sv1 sv2 sv3 sv4 sv5 : Int32) (O0 : own_Old Z h0) (g0_S : Sta Z Z.heap "sun/nio/cs/ISO_8859_1" "INSTANCE" "Lsun/nio/cs/ISO_8859_1;" (.ref iso)) (g1_S : Sta Z Z.heap "sun/nio/cs/UTF_8" "INSTANCE" "Lsun/nio/cs/UTF_8;" (.ref u8)) (g2_S : Sta Z Z.heap "java/util/Base64$Decoder" "fromBase64URL" "[I" (.ref tab)) (g3_hiu : iso ≠ u8) (g4_E : Exa Z h0 dc "java/util/Base64$Decoder") (g5_F : Fld Z h0 dc "java/util/Base64$Decoder" "isURL" "Z" (.int 1)) (g6_F : Fld Z h0 dc "java/util/Base64$Decoder" "isMIME" "Z" (.int 0)) (g7_V : Arv Z h0 tab ktab .int 256 (own_TAB.map Value.int) (.int 0)) (g8_E : Exa Z h0 a "java/lang/String") (g9_F : Fld Z h0 a "java/lang/String" "coder" "B" (.int 0)) (g10_F : Fld Z h0 a "java/lang/String" "value" "[B" (.ref t)) (g11_E : Exa Z h0 t "[B") (g12_V : Arv Z h0 t kt .byte (6 : Int32) [(.int ch0), (.int ch1), (.int ch2), (.int ch3), (.int ch4), (.int ch5)] (.int 0)) (g13_S : Sta Z Z.heap "java/lang/String" "COMPACT_STRINGS" "Z" (.int cpt)) (g14_hcpt : ¬ (cpt = (0 : Int32))) (g15_hs0 : own_sy ch0 sv0) (g16_hs1 : own_sy ch1 sv1) (g17_hs2 : own_sy ch2 sv2) (g18_hs3 : own_sy ch3 sv3) (g19_hs4 : own_sy ch4 sv4) (g20_hs5 : own_sy ch5 sv5) : own_Con l Z ⟨"java/util/Base64$Decoder", "decode", "(Ljava/lang/String;)[B"⟩ jdk_2450_method_3_code 2 (some (.array .byte)) [] ⟨5, 2, 12, 76⟩ #[(.ref dc), (.ref a)] h0 (fun rv rh rL => ∃ (o : Addr) (ko : ClassId), rv = some (.ref o) ∧ own_Fr Z rL ∧ Keep h0 rh [] ∧ h0.size ≤ o ∧ (Arv Z rh o ko .byte (4 : Int32) [(.int (nar .byte ((((((sv0 <<< ((18 : Int32) &&& 31)) ||| (sv1 <<< ((12 : Int32) &&& 31))) ||| (sv2 <<< ((6 : Int32) &&& 31))) ||| sv3) >>> ((16 : Int32) &&& 31)).toInt8.toInt32))), (.int (nar .byte ((((((sv0 <<< ((18 : Int32) &&& 31)) ||| (sv1 <<< ((12 : Int32) &&& 31))) ||| (sv2 <<< ((6 : Int32) &&& 31))) ||| sv3) >>> ((8 : Int32) &&& 31)).toInt8.toInt32))), (.int (nar .byte (((((sv0 <<< ((18 : Int32) &&& 31)) ||| (sv1 <<< ((12 : Int32) &&& 31))) ||| (sv2 <<< ((6 : Int32) &&& 31))) ||| sv3).toInt8.toInt32))), (.int (nar .byte (((((0 : Int32) ||| (sv4 <<< ((18 : Int32) &&& 31))) ||| (sv5 <<< ((12 : Int32) &&& 31))) >>> ((16 : Int32) &&& 31)).toInt8.toInt32)))] (.int 0))) := by
  refine own_st hw (plainFor_of_name (by decide +kernel)) #[oa dc, oa a] (fun _ => rfl) fun p e s m below meth c s₁ G B hown hnm hret hZ X0 e0 N0 hR => ?_
  refine q_aloadN B X0 d21_0 rfl rfl rfl ?_
  refine q_aloadN B X0 d21_1 rfl rfl rfl ?_
  refine qgs B X0 hZ hown 96 rfl Via.refl e0 g0_S O0 d21_2 fun T1 X1 e1 => ?_
  show G (T1.setTop (mkF m 5 #[oa dc, oa a] [(.ref iso), (.ref a), (.ref dc)]))
  refine qV B X1 hZ hown 98 99 101 100 15 102 rfl rfl rfl rfl rfl rfl (own_gby hw O0 g0_S g1_S g3_hiu g8_E g9_F g10_F g11_E g12_V (by decide) g13_S g14_hcpt) e1 g8_E own_pd16 rfl rfl d21_5 1 rfl rfl rfl (by decide) ?_
  rintro T2 h2 _ L2 X2 e2 ⟨u_2, ku_2, rfl, M2, J2, y2_0, r2_0⟩
  have N2 := Fr.app N0 M2
  have K2 := (Keep.refl h0 []).trans J2 all0
  have O2 := O0.keep J2 all0
  show G (T2.setTop (mkF m 8 #[oa dc, oa a] [(.ref u_2), (.ref dc)]))
  have f4 := (g4_E.keep J2)
  have f5 := (g5_F.keep J2 nin0)
  have f6 := (g6_F.keep J2 nin0)
  have f7 := (g7_V.keep J2 nin0)
  refine qV B X2 hZ hown 124 125 127 126 90 128 rfl rfl rfl rfl rfl rfl (own_decb6 hw (ch0 := ch0) (ch1 := ch1) (ch2 := ch2) (ch3 := ch3) (ch4 := ch4) (ch5 := ch5) sv0 sv1 sv2 sv3 sv4 sv5 O2 g2_S f4 f5 f6 f7 r2_0 g15_hs0 g16_hs1 g17_hs2 g18_hs3 g19_hs4 g20_hs5) e2 f4 own_pd19 rfl rfl d21_8 0 rfl rfl rfl (by decide) ?_
  rintro T3 h3 _ L3 X3 e3 ⟨o_3, ko_3, rfl, M3, J3, y3_0, r3_0⟩
  have N3 := Fr.app N2 M3
  have K3 := K2.trans J3 all0
  have O3 := O2.keep J3 all0
  show G (T3.setTop (mkF m 11 #[oa dc, oa a] [(.ref o_3)]))
  exact qRA B hR hret rfl rfl X3 d21_11 e3 ⟨o_3, ko_3, rfl, N3, K3, (Nat.le_trans K2.1 y3_0), r3_0⟩ (by decide)
theorem own_b64_6 (hw : own_W Z a0) {dc iso u8 tab : Addr} {ktab : ClassId} {a : Addr} {cpt : Int32} {t : Addr} {kt : ClassId} (ch0 ch1 ch2 ch3 ch4 ch5 sv0 sv1 sv2 sv3 sv4 sv5 : Int32) (O0 : own_Old Z h0) (g0_S : Sta Z Z.heap "java/util/Base64$Decoder" "RFC4648_URLSAFE" "Ljava/util/Base64$Decoder;" (.ref dc)) (g1_S : Sta Z Z.heap "sun/nio/cs/ISO_8859_1" "INSTANCE" "Lsun/nio/cs/ISO_8859_1;" (.ref iso)) (g2_S : Sta Z Z.heap "sun/nio/cs/UTF_8" "INSTANCE" "Lsun/nio/cs/UTF_8;" (.ref u8)) (g3_S : Sta Z Z.heap "java/util/Base64$Decoder" "fromBase64URL" "[I" (.ref tab)) (g4_hiu : iso ≠ u8) (g5_E : Exa Z h0 dc "java/util/Base64$Decoder") (g6_F : Fld Z h0 dc "java/util/Base64$Decoder" "isURL" "Z" (.int 1)) (g7_F : Fld Z h0 dc "java/util/Base64$Decoder" "isMIME" "Z" (.int 0)) (g8_V : Arv Z h0 tab ktab .int 256 (own_TAB.map Value.int) (.int 0)) (g9_E : Exa Z h0 a "java/lang/String") (g10_F : Fld Z h0 a "java/lang/String" "coder" "B" (.int 0)) (g11_F : Fld Z h0 a "java/lang/String" "value" "[B" (.ref t)) (g12_E : Exa Z h0 t "[B") (g13_V : Arv Z h0 t kt .byte (Int32.ofNat [ch0, ch1, ch2, ch3, ch4, ch5].length) ([ch0, ch1, ch2, ch3, ch4, ch5].map fun c => Value.int c.toInt8.toInt32) (.int 0)) (g14_S : Sta Z Z.heap "java/lang/String" "COMPACT_STRINGS" "Z" (.int cpt)) (g15_hcpt : ¬ (cpt = (0 : Int32))) (g16_hs0 : own_sy ch0 sv0) (g17_hs1 : own_sy ch1 sv1) (g18_hs2 : own_sy ch2 sv2) (g19_hs3 : own_sy ch3 sv3) (g20_hs4 : own_sy ch4 sv4) (g21_hs5 : own_sy ch5 sv5) : own_Con l Z ⟨"com/example/research_access_policy/researchaccesspolicy/token/Base64Url", "decode", "(Ljava/lang/String;)[B"⟩ prog_16_method_2_code 1 (some (.array .byte)) [] ⟨6, 2, 12, 89⟩ #[(.ref a)] h0 (fun rv rh rL => ∃ (o : Addr) (ko : ClassId), rv = some (.ref o) ∧ own_Fr Z rL ∧ Keep h0 rh [] ∧ h0.size ≤ o ∧ (Arv Z rh o ko .byte (4 : Int32) [(.int (nar .byte ((((((sv0 <<< ((18 : Int32) &&& 31)) ||| (sv1 <<< ((12 : Int32) &&& 31))) ||| (sv2 <<< ((6 : Int32) &&& 31))) ||| sv3) >>> ((16 : Int32) &&& 31)).toInt8.toInt32))), (.int (nar .byte ((((((sv0 <<< ((18 : Int32) &&& 31)) ||| (sv1 <<< ((12 : Int32) &&& 31))) ||| (sv2 <<< ((6 : Int32) &&& 31))) ||| sv3) >>> ((8 : Int32) &&& 31)).toInt8.toInt32))), (.int (nar .byte (((((sv0 <<< ((18 : Int32) &&& 31)) ||| (sv1 <<< ((12 : Int32) &&& 31))) ||| (sv2 <<< ((6 : Int32) &&& 31))) ||| sv3).toInt8.toInt32))), (.int (nar .byte (((((0 : Int32) ||| (sv4 <<< ((18 : Int32) &&& 31))) ||| (sv5 <<< ((12 : Int32) &&& 31))) >>> ((16 : Int32) &&& 31)).toInt8.toInt32)))] (.int 0))) := by
  refine own_st hw (plainFor_of_name (by decide +kernel)) #[oa a] (fun _ => rfl) fun p e s m below meth c s₁ G B hown hnm hret hZ X0 e0 N0 hR => ?_
  refine q_aloadN B X0 d10_0 rfl rfl rfl ?_
  refine q_bipush B X0 d10_1 rfl ?_
  show G (s₁.setTop (mkF m 3 #[oa a] [(.int 61), (.ref a)]))
  refine qV B X0 hZ hown 46 47 49 48 15 50 rfl rfl rfl rfl rfl rfl (own_sio1 hw [ch0, ch1, ch2, ch3, ch4, ch5] O0 g9_E g10_F g11_F g13_V (Nat.le_of_ble_eq_true rfl) (own_allc (own_sy8 g16_hs0) (own_allc (own_sy8 g17_hs1) (own_allc (own_sy8 g18_hs2) (own_allc (own_sy8 g19_hs3) (own_allc (own_sy8 g20_hs4) (own_allc (own_sy8 g21_hs5) own_alln)))))) g14_S g15_hcpt) e0 g9_E own_pd11 rfl rfl d10_3 0 rfl rfl rfl (by decide) ?_
  rintro T1 h1 _ L1 X1 e1 ⟨r_1, rfl, M1, rfl, r1_0⟩
  have N1 := Fr.app N0 M1
  refine q_ifYes 19 B X1 d10_6 rfl ((if0 _ _).trans (tlt (r1_0.mpr (own_allc (own_sy_e g16_hs0).2.2.1 (own_allc (own_sy_e g17_hs1).2.2.1 (own_allc (own_sy_e g18_hs2).2.2.1 (own_allc (own_sy_e g19_hs3).2.2.1 (own_allc (own_sy_e g20_hs4).2.2.1 (own_allc (own_sy_e g21_hs5).2.2.1 own_alln)))))))).1) rfl rfl (by decide) ?_
  show G (T1.setTop (mkF m 19 #[oa a] []))
  have W2 : Arv Z h0 t kt .byte (6 : Int32) [(.int ch0), (.int ch1), (.int ch2), (.int ch3), (.int ch4), (.int ch5)] (.int 0) := by have q := g13_V; simp only [List.map_cons, List.map_nil, own_b7 g16_hs0, own_b7 g17_hs1, own_b7 g18_hs2, own_b7 g19_hs3, own_b7 g20_hs4, own_b7 g21_hs5] at q; exact q
  show G (T1.setTop (mkF m 19 #[oa a] []))
  refine qS B X1 hZ hown 85 86 87 88 rfl rfl rfl rfl (own_gud hw O0 g0_S) e1 own_pd12 rfl rfl d10_19 0 rfl rfl rfl (by decide) ?_
  rintro T3 h3 _ L3 X3 e3 ⟨rfl, M3, rfl⟩
  have N3 := Fr.app N1 M3
  refine q_aloadN B X3 d10_22 rfl rfl rfl ?_
  show G (T3.setTop (mkF m 23 #[oa a] [(.ref a), (.ref dc)]))
  refine qV B X3 hZ hown 91 92 94 93 90 95 rfl rfl rfl rfl rfl rfl (own_decs6 hw (ch0 := ch0) (ch1 := ch1) (ch2 := ch2) (ch3 := ch3) (ch4 := ch4) (ch5 := ch5) sv0 sv1 sv2 sv3 sv4 sv5 O0 g1_S g2_S g3_S g4_hiu g5_E g6_F g7_F g8_V g9_E g10_F g11_F g12_E W2 g14_S g15_hcpt g16_hs0 g17_hs1 g18_hs2 g19_hs3 g20_hs4 g21_hs5) e3 g5_E own_pd20 rfl rfl d10_23 0 rfl rfl rfl (by decide) ?_
  rintro T4 h4 _ L4 X4 e4 ⟨o_4, ko_4, rfl, M4, J4, y4_0, r4_0⟩
  have N4 := Fr.app N3 M4
  have K4 := (Keep.refl h0 []).trans J4 all0
  have O4 := O0.keep J4 all0
  show G (T4.setTop (mkF m 26 #[oa a] [(.ref o_4)]))
  exact qRA B hR hret rfl rfl X4 d10_26 e4 ⟨o_4, ko_4, rfl, N4, K4, (Nat.le_trans (Keep.refl h0 []).1 y4_0), r4_0⟩ (by decide)
theorem own_dol7 (hw : own_W Z a0) {dc tab sr : Addr} {ks : ClassId} {ch0 ch1 ch2 ch3 ch4 ch5 ch6 : Int32} (sv0 sv1 sv2 sv3 sv4 sv5 sv6 : Int32) (O0 : own_Old Z h0) (g0_S : Sta Z Z.heap "java/util/Base64$Decoder" "fromBase64URL" "[I" (.ref tab)) (g1_E : Exa Z h0 dc "java/util/Base64$Decoder") (g2_F : Fld Z h0 dc "java/util/Base64$Decoder" "isURL" "Z" (.int 1)) (g3_F : Fld Z h0 dc "java/util/Base64$Decoder" "isMIME" "Z" (.int 0)) (g4_V : Arv Z h0 sr ks .byte (7 : Int32) [(.int ch0), (.int ch1), (.int ch2), (.int ch3), (.int ch4), (.int ch5), (.int ch6)] (.int 0)) (g5_hs0 : own_sy ch0 sv0) (g6_hs1 : own_sy ch1 sv1) (g7_hs2 : own_sy ch2 sv2) (g8_hs3 : own_sy ch3 sv3) (g9_hs4 : own_sy ch4 sv4) (g10_hs5 : own_sy ch5 sv5) (g11_hs6 : own_sy ch6 sv6) : own_Con l Z ⟨"java/util/Base64$Decoder", "decodedOutLength", "([BII)I"⟩ jdk_2450_method_7_code 9 (some .int) [] ⟨0, 0, 0, 0⟩ #[(.ref dc), (.ref sr), (.int 0), (.int 7)] h0 (fun rv rh rL => rv = some (.int 5) ∧ own_Fr Z rL ∧ h0 = rh) := by
  refine own_st hw (plainFor_of_name (by decide +kernel)) #[oa dc, oa sr, oi 0, oi 7, .unset, .unset, .unset, .unset, .unset] (fun m => by first | (simp [entryFrame, mkF, argsToLocals, Value.category]; done) | rfl) fun p e s m below meth c s₁ G B hown hnm hret hZ X0 e0 N0 hR => ?_
  obtain ⟨hG, hx, hby, hml, -⟩ := id B
  refine q_aloadN B X0 d27_0 rfl rfl rfl ?_
  refine qgf B X0 hZ hown 134 rfl Via.refl e0 g2_F d27_1 fun T1 X1 e1 => ?_
  refine q_ifNo B X1 d27_4 rfl ((if0 _ _).trans (feq (by decide)).1) rfl ?_
  refine qgs B X1 hZ hown 136 rfl Via.refl e1 g0_S O0 d27_7 fun T2 X2 e2 => ?_
  refine q_goto 16 B X2 d27_10 rfl rfl (by decide) ?_
  refine q_astore B X2 d27_16 rfl rfl rfl rfl ?_
  refine q_iconst B X2 d27_18 rfl ?_
  refine q_istore B X2 d27_19 rfl rfl rfl ?_
  refine q_iloadN B X2 d27_21 rfl rfl ?_
  refine q_iloadN B X2 d27_22 rfl rfl ?_
  refine q_isub B X2 d27_23 rfl rfl ?_
  show G (T2.setTop (mkF m 24 #[oa dc, oa sr, oi 0, oi 7, oa tab, oi 0, .unset, .unset, .unset] [(.int ((7 : Int32) - (0 : Int32)))]))
  rw [show ((7 : Int32) - (0 : Int32)) = (7 : Int32) from by decide]
  show G (T2.setTop (mkF m 24 #[oa dc, oa sr, oi 0, oi 7, oa tab, oi 0, .unset, .unset, .unset] [(.int 7)]))
  refine q_istore B X2 d27_24 rfl rfl rfl ?_
  refine q_iload B X2 d27_26 rfl rfl ?_
  refine q_ifYes 33 B X2 d27_28 rfl ((if0 _ _).trans (feq (by decide)).2) rfl rfl (by decide) ?_
  refine q_iload B X2 d27_33 rfl rfl ?_
  refine q_iconst B X2 d27_35 rfl ?_
  refine q_icmpYes 66 B X2 d27_36 rfl (flt (by decide)).2.1 rfl rfl (by decide) ?_
  refine q_aloadN B X2 d27_66 rfl rfl rfl ?_
  refine qgf B X2 hZ hown 137 rfl Via.refl e2 g3_F d27_67 fun T3 X3 e3 => ?_
  refine q_ifYes 141 B X3 d27_70 rfl ((if0 _ _).trans (teq (by decide)).1) rfl rfl (by decide) ?_
  refine q_aloadN B X3 d27_141 rfl rfl rfl ?_
  refine q_iloadN B X3 d27_142 rfl rfl ?_
  refine q_iconst B X3 d27_143 rfl ?_
  refine q_isub B X3 d27_144 rfl rfl ?_
  show G (T3.setTop (mkF m 145 #[oa dc, oa sr, oi 0, oi 7, oa tab, oi 0, oi 7, .unset, .unset] [(.int ((7 : Int32) - (1 : Int32))), (.ref sr)]))
  rw [show ((7 : Int32) - (1 : Int32)) = (6 : Int32) from by decide]
  show G (T3.setTop (mkF m 145 #[oa dc, oa sr, oi 0, oi 7, oa tab, oi 0, oi 7, .unset, .unset] [(.int 6), (.ref sr)]))
  refine qlb (v := (.int ch6)) B X3 hZ e3 g4_V d27_145 (by decide) rfl ?_
  refine q_bipush B X3 d27_146 rfl ?_
  refine q_icmpYes 167 B X3 d27_148 rfl (feq (own_sy_e g11_hs6).2.2.1).2 rfl rfl (by decide) ?_
  refine q_iload B X3 d27_167 rfl rfl ?_
  refine q_ifNo B X3 d27_169 rfl ((if0 _ _).trans (teq (by decide)).2) rfl ?_
  refine q_iload B X3 d27_172 rfl rfl ?_
  refine q_iconst B X3 d27_174 rfl ?_
  refine q_iand B X3 d27_175 rfl rfl ?_
  show G (T3.setTop (mkF m 176 #[oa dc, oa sr, oi 0, oi 7, oa tab, oi 0, oi 7, .unset, .unset] [(.int ((7 : Int32) &&& (3 : Int32)))]))
  rw [show ((7 : Int32) &&& (3 : Int32)) = (3 : Int32) from by decide]
  show G (T3.setTop (mkF m 176 #[oa dc, oa sr, oi 0, oi 7, oa tab, oi 0, oi 7, .unset, .unset] [(.int 3)]))
  refine q_ifNo B X3 d27_176 rfl ((if0 _ _).trans (feq (by decide)).1) rfl ?_
  refine q_iconst B X3 d27_179 rfl ?_
  refine q_iload B X3 d27_180 rfl rfl ?_
  refine q_iconst B X3 d27_182 rfl ?_
  refine q_iand B X3 d27_183 rfl rfl ?_
  show G (T3.setTop (mkF m 184 #[oa dc, oa sr, oi 0, oi 7, oa tab, oi 0, oi 7, .unset, .unset] [(.int ((7 : Int32) &&& (3 : Int32))), (.int 4)]))
  rw [show ((7 : Int32) &&& (3 : Int32)) = (3 : Int32) from by decide]
  show G (T3.setTop (mkF m 184 #[oa dc, oa sr, oi 0, oi 7, oa tab, oi 0, oi 7, .unset, .unset] [(.int 3), (.int 4)]))
  refine q_isub B X3 d27_184 rfl rfl ?_
  show G (T3.setTop (mkF m 185 #[oa dc, oa sr, oi 0, oi 7, oa tab, oi 0, oi 7, .unset, .unset] [(.int ((4 : Int32) - (3 : Int32)))]))
  rw [show ((4 : Int32) - (3 : Int32)) = (1 : Int32) from by decide]
  show G (T3.setTop (mkF m 185 #[oa dc, oa sr, oi 0, oi 7, oa tab, oi 0, oi 7, .unset, .unset] [(.int 1)]))
  refine q_istore B X3 d27_185 rfl rfl rfl ?_
  refine q_iconst B X3 d27_187 rfl ?_
  refine q_iload B X3 d27_188 rfl rfl ?_
  refine q_i2l B X3 d27_190 rfl rfl ?_
  refine hG _ _ (X3.ldc2Long hx hown (mvT hZ (ow hw 139 rfl)) (g := (mkF m 191 #[oa dc, oa sr, oi 0, oi 7, oa tab, oi 1, oi 7, .unset, .unset] [(.long ((7 : Int32).toInt64)), (.int 3)])) rfl (hb hby d27_191)) ?_
  refine q_ladd B X3 d27_194 rfl rfl ?_
  refine hG _ _ (X3.ldc2Long hx hown (mvT hZ (ow hw 140 rfl)) (g := (mkF m 195 #[oa dc, oa sr, oi 0, oi 7, oa tab, oi 1, oi 7, .unset, .unset] [(.long (((7 : Int32).toInt64) + (3 : Int64))), (.int 3)])) rfl (hb hby d27_195)) ?_
  refine q_ldiv B X3 d27_198 rfl (by decide) rfl ?_
  refine q_l2i B X3 d27_199 rfl rfl ?_
  show G (T3.setTop (mkF m 200 #[oa dc, oa sr, oi 0, oi 7, oa tab, oi 1, oi 7, .unset, .unset] [(.int (((((7 : Int32).toInt64) + (3 : Int64)) / (4 : Int64)).toInt32)), (.int 3)]))
  rw [show (((((7 : Int32).toInt64) + (3 : Int64)) / (4 : Int64)).toInt32) = (2 : Int32) from by decide]
  show G (T3.setTop (mkF m 200 #[oa dc, oa sr, oi 0, oi 7, oa tab, oi 1, oi 7, .unset, .unset] [(.int 2), (.int 3)]))
  refine q_imul B X3 d27_200 rfl rfl ?_
  show G (T3.setTop (mkF m 201 #[oa dc, oa sr, oi 0, oi 7, oa tab, oi 1, oi 7, .unset, .unset] [(.int ((3 : Int32) * (2 : Int32)))]))
  rw [show ((3 : Int32) * (2 : Int32)) = (6 : Int32) from by decide]
  show G (T3.setTop (mkF m 201 #[oa dc, oa sr, oi 0, oi 7, oa tab, oi 1, oi 7, .unset, .unset] [(.int 6)]))
  refine q_iload B X3 d27_201 rfl rfl ?_
  refine q_isub B X3 d27_203 rfl rfl ?_
  show G (T3.setTop (mkF m 204 #[oa dc, oa sr, oi 0, oi 7, oa tab, oi 1, oi 7, .unset, .unset] [(.int ((6 : Int32) - (1 : Int32)))]))
  rw [show ((6 : Int32) - (1 : Int32)) = (5 : Int32) from by decide]
  show G (T3.setTop (mkF m 204 #[oa dc, oa sr, oi 0, oi 7, oa tab, oi 1, oi 7, .unset, .unset] [(.int 5)]))
  exact qRI B hR hret X3 d27_204 e3 ⟨rfl, N0, rfl⟩ (by decide)
theorem own_blk7 (hw : own_W Z a0) {dc tab : Addr} {ktab : ClassId} {sr : Addr} {ks : ClassId} {o : Addr} {ko : ClassId} {ch0 ch1 ch2 ch3 ch4 ch5 ch6 : Int32} (sv0 sv1 sv2 sv3 sv4 sv5 sv6 : Int32) (O0 : own_Old Z h0) (g0_S : Sta Z Z.heap "java/util/Base64$Decoder" "fromBase64URL" "[I" (.ref tab)) (g1_E : Exa Z h0 dc "java/util/Base64$Decoder") (g2_F : Fld Z h0 dc "java/util/Base64$Decoder" "isURL" "Z" (.int 1)) (g3_F : Fld Z h0 dc "java/util/Base64$Decoder" "isMIME" "Z" (.int 0)) (g4_V : Arv Z h0 tab ktab .int 256 (own_TAB.map Value.int) (.int 0)) (g5_V : Arv Z h0 sr ks .byte (7 : Int32) [(.int ch0), (.int ch1), (.int ch2), (.int ch3), (.int ch4), (.int ch5), (.int ch6)] (.int 0)) (g6_V : Arv Z h0 o ko .byte (5 : Int32) [(.int 0), (.int 0), (.int 0), (.int 0), (.int 0)] (.int 0)) (g7_G : Z.heap.size ≤ o) (g8_ne_sr_o : sr ≠ o) (g9_ne_tab_o : tab ≠ o) (g10_ne_dc_o : dc ≠ o) (g11_hs0 : own_sy ch0 sv0) (g12_hs1 : own_sy ch1 sv1) (g13_hs2 : own_sy ch2 sv2) (g14_hs3 : own_sy ch3 sv3) (g15_hs4 : own_sy ch4 sv4) (g16_hs5 : own_sy ch5 sv5) (g17_hs6 : own_sy ch6 sv6) : own_Con l Z ⟨"java/util/Base64$Decoder", "decodeBlock", "([BII[BIZZ)I"⟩ jdk_2450_method_8_code 16 (some .int) [] ⟨0, 0, 0, 0⟩ #[(.ref dc), (.ref sr), (.int 0), (.int 7), (.ref o), (.int 0), (.int 1), (.int 0)] h0 (fun rv rh rL => rv = some (.int 3) ∧ own_Fr Z rL ∧ Keep h0 rh [o] ∧ (Arv Z rh o ko .byte (5 : Int32) [(.int (nar .byte ((((((sv0 <<< ((18 : Int32) &&& 31)) ||| (sv1 <<< ((12 : Int32) &&& 31))) ||| (sv2 <<< ((6 : Int32) &&& 31))) ||| sv3) >>> ((16 : Int32) &&& 31)).toInt8.toInt32))), (.int (nar .byte ((((((sv0 <<< ((18 : Int32) &&& 31)) ||| (sv1 <<< ((12 : Int32) &&& 31))) ||| (sv2 <<< ((6 : Int32) &&& 31))) ||| sv3) >>> ((8 : Int32) &&& 31)).toInt8.toInt32))), (.int (nar .byte (((((sv0 <<< ((18 : Int32) &&& 31)) ||| (sv1 <<< ((12 : Int32) &&& 31))) ||| (sv2 <<< ((6 : Int32) &&& 31))) ||| sv3).toInt8.toInt32))), (.int 0), (.int 0)] (.int 0))) := by
  refine own_st hw (plainFor_of_name (by decide +kernel)) #[oa dc, oa sr, oi 0, oi 7, oa o, oi 0, oi 1, oi 0, .unset, .unset, .unset, .unset, .unset, .unset, .unset, .unset] (fun m => by first | (simp [entryFrame, mkF, argsToLocals, Value.category]; done) | rfl) fun p e s m below meth c s₁ G B hown hnm hret hZ X0 e0 N0 hR => ?_
  refine q_iload B X0 d30_0 rfl rfl ?_
  refine q_ifNo B X0 d30_2 rfl ((if0 _ _).trans (feq (by decide)).1) rfl ?_
  refine qgs B X0 hZ hown 136 rfl Via.refl e0 g0_S O0 d30_5 fun T1 X1 e1 => ?_
  refine q_goto 14 B X1 d30_8 rfl rfl (by decide) ?_
  refine q_astore B X1 d30_14 rfl rfl rfl rfl ?_
  refine q_iloadN B X1 d30_16 rfl rfl ?_
  refine q_iloadN B X1 d30_17 rfl rfl ?_
  refine q_iloadN B X1 d30_18 rfl rfl ?_
  refine q_isub B X1 d30_19 rfl rfl ?_
  show G (T1.setTop (mkF m 20 #[oa dc, oa sr, oi 0, oi 7, oa o, oi 0, oi 1, oi 0, oa tab, .unset, .unset, .unset, .unset, .unset, .unset, .unset] [(.int ((7 : Int32) - (0 : Int32))), (.int 0)]))
  rw [show ((7 : Int32) - (0 : Int32)) = (7 : Int32) from by decide]
  show G (T1.setTop (mkF m 20 #[oa dc, oa sr, oi 0, oi 7, oa o, oi 0, oi 1, oi 0, oa tab, .unset, .unset, .unset, .unset, .unset, .unset, .unset] [(.int 7), (.int 0)]))
  refine q_bipush B X1 d30_20 rfl ?_
  refine q_iand B X1 d30_22 rfl rfl ?_
  show G (T1.setTop (mkF m 23 #[oa dc, oa sr, oi 0, oi 7, oa o, oi 0, oi 1, oi 0, oa tab, .unset, .unset, .unset, .unset, .unset, .unset, .unset] [(.int ((7 : Int32) &&& (-4 : Int32))), (.int 0)]))
  rw [show ((7 : Int32) &&& (-4 : Int32)) = (4 : Int32) from by decide]
  show G (T1.setTop (mkF m 23 #[oa dc, oa sr, oi 0, oi 7, oa o, oi 0, oi 1, oi 0, oa tab, .unset, .unset, .unset, .unset, .unset, .unset, .unset] [(.int 4), (.int 0)]))
  refine q_iadd B X1 d30_23 rfl rfl ?_
  show G (T1.setTop (mkF m 24 #[oa dc, oa sr, oi 0, oi 7, oa o, oi 0, oi 1, oi 0, oa tab, .unset, .unset, .unset, .unset, .unset, .unset, .unset] [(.int ((0 : Int32) + (4 : Int32)))]))
  rw [show ((0 : Int32) + (4 : Int32)) = (4 : Int32) from by decide]
  show G (T1.setTop (mkF m 24 #[oa dc, oa sr, oi 0, oi 7, oa o, oi 0, oi 1, oi 0, oa tab, .unset, .unset, .unset, .unset, .unset, .unset, .unset] [(.int 4)]))
  refine q_istore B X1 d30_24 rfl rfl rfl ?_
  refine q_iload B X1 d30_26 rfl rfl ?_
  refine q_istore B X1 d30_28 rfl rfl rfl ?_
  refine q_iloadN B X1 d30_30 rfl rfl ?_
  refine q_iload B X1 d30_31 rfl rfl ?_
  refine q_icmpNo B X1 d30_33 rfl (tlt (by decide)).2.1 rfl ?_
  refine q_aload B X1 d30_36 rfl rfl rfl ?_
  refine q_aloadN B X1 d30_38 rfl rfl rfl ?_
  refine q_iloadN B X1 d30_39 rfl rfl ?_
  refine q_iinc B X1 d30_40 rfl rfl rfl ?_
  show G (T1.setTop (mkF m 43 #[oa dc, oa sr, oi ((0 : Int32) + (1 : Int32)), oi 7, oa o, oi 0, oi 1, oi 0, oa tab, oi 4, oi 0, .unset, .unset, .unset, .unset, .unset] [(.int 0), (.ref sr), (.ref tab)]))
  rw [show ((0 : Int32) + (1 : Int32)) = (1 : Int32) from by decide]
  show G (T1.setTop (mkF m 43 #[oa dc, oa sr, oi 1, oi 7, oa o, oi 0, oi 1, oi 0, oa tab, oi 4, oi 0, .unset, .unset, .unset, .unset, .unset] [(.int 0), (.ref sr), (.ref tab)]))
  refine qlb (v := (.int ch0)) B X1 hZ e1 g5_V d30_43 (by decide) rfl ?_
  refine q_sipush B X1 d30_44 rfl ?_
  refine q_iand B X1 d30_47 rfl rfl ?_
  show G (T1.setTop (mkF m 48 #[oa dc, oa sr, oi 1, oi 7, oa o, oi 0, oi 1, oi 0, oa tab, oi 4, oi 0, .unset, .unset, .unset, .unset, .unset] [(.int (ch0 &&& (255 : Int32))), (.ref tab)]))
  rw [own_m255 g11_hs0]
  show G (T1.setTop (mkF m 48 #[oa dc, oa sr, oi 1, oi 7, oa o, oi 0, oi 1, oi 0, oa tab, oi 4, oi 0, .unset, .unset, .unset, .unset, .unset] [(.int ch0), (.ref tab)]))
  refine qli (v := (.int sv0)) B X1 hZ e1 g4_V d30_48 ⟨(own_look g11_hs0).1, (own_look g11_hs0).2.1⟩ (own_look g11_hs0).2.2 ?_
  refine q_istore B X1 d30_49 rfl rfl rfl ?_
  refine q_aload B X1 d30_51 rfl rfl rfl ?_
  refine q_aloadN B X1 d30_53 rfl rfl rfl ?_
  refine q_iloadN B X1 d30_54 rfl rfl ?_
  refine q_iinc B X1 d30_55 rfl rfl rfl ?_
  show G (T1.setTop (mkF m 58 #[oa dc, oa sr, oi ((1 : Int32) + (1 : Int32)), oi 7, oa o, oi 0, oi 1, oi 0, oa tab, oi 4, oi 0, oi sv0, .unset, .unset, .unset, .unset] [(.int 1), (.ref sr), (.ref tab)]))
  rw [show ((1 : Int32) + (1 : Int32)) = (2 : Int32) from by decide]
  show G (T1.setTop (mkF m 58 #[oa dc, oa sr, oi 2, oi 7, oa o, oi 0, oi 1, oi 0, oa tab, oi 4, oi 0, oi sv0, .unset, .unset, .unset, .unset] [(.int 1), (.ref sr), (.ref tab)]))
  refine qlb (v := (.int ch1)) B X1 hZ e1 g5_V d30_58 (by decide) rfl ?_
  refine q_sipush B X1 d30_59 rfl ?_
  refine q_iand B X1 d30_62 rfl rfl ?_
  show G (T1.setTop (mkF m 63 #[oa dc, oa sr, oi 2, oi 7, oa o, oi 0, oi 1, oi 0, oa tab, oi 4, oi 0, oi sv0, .unset, .unset, .unset, .unset] [(.int (ch1 &&& (255 : Int32))), (.ref tab)]))
  rw [own_m255 g12_hs1]
  show G (T1.setTop (mkF m 63 #[oa dc, oa sr, oi 2, oi 7, oa o, oi 0, oi 1, oi 0, oa tab, oi 4, oi 0, oi sv0, .unset, .unset, .unset, .unset] [(.int ch1), (.ref tab)]))
  refine qli (v := (.int sv1)) B X1 hZ e1 g4_V d30_63 ⟨(own_look g12_hs1).1, (own_look g12_hs1).2.1⟩ (own_look g12_hs1).2.2 ?_
  refine q_istore B X1 d30_64 rfl rfl rfl ?_
  refine q_aload B X1 d30_66 rfl rfl rfl ?_
  refine q_aloadN B X1 d30_68 rfl rfl rfl ?_
  refine q_iloadN B X1 d30_69 rfl rfl ?_
  refine q_iinc B X1 d30_70 rfl rfl rfl ?_
  show G (T1.setTop (mkF m 73 #[oa dc, oa sr, oi ((2 : Int32) + (1 : Int32)), oi 7, oa o, oi 0, oi 1, oi 0, oa tab, oi 4, oi 0, oi sv0, oi sv1, .unset, .unset, .unset] [(.int 2), (.ref sr), (.ref tab)]))
  rw [show ((2 : Int32) + (1 : Int32)) = (3 : Int32) from by decide]
  show G (T1.setTop (mkF m 73 #[oa dc, oa sr, oi 3, oi 7, oa o, oi 0, oi 1, oi 0, oa tab, oi 4, oi 0, oi sv0, oi sv1, .unset, .unset, .unset] [(.int 2), (.ref sr), (.ref tab)]))
  refine qlb (v := (.int ch2)) B X1 hZ e1 g5_V d30_73 (by decide) rfl ?_
  refine q_sipush B X1 d30_74 rfl ?_
  refine q_iand B X1 d30_77 rfl rfl ?_
  show G (T1.setTop (mkF m 78 #[oa dc, oa sr, oi 3, oi 7, oa o, oi 0, oi 1, oi 0, oa tab, oi 4, oi 0, oi sv0, oi sv1, .unset, .unset, .unset] [(.int (ch2 &&& (255 : Int32))), (.ref tab)]))
  rw [own_m255 g13_hs2]
  show G (T1.setTop (mkF m 78 #[oa dc, oa sr, oi 3, oi 7, oa o, oi 0, oi 1, oi 0, oa tab, oi 4, oi 0, oi sv0, oi sv1, .unset, .unset, .unset] [(.int ch2), (.ref tab)]))
  refine qli (v := (.int sv2)) B X1 hZ e1 g4_V d30_78 ⟨(own_look g13_hs2).1, (own_look g13_hs2).2.1⟩ (own_look g13_hs2).2.2 ?_
  refine q_istore B X1 d30_79 rfl rfl rfl ?_
  refine q_aload B X1 d30_81 rfl rfl rfl ?_
  refine q_aloadN B X1 d30_83 rfl rfl rfl ?_
  refine q_iloadN B X1 d30_84 rfl rfl ?_
  refine q_iinc B X1 d30_85 rfl rfl rfl ?_
  show G (T1.setTop (mkF m 88 #[oa dc, oa sr, oi ((3 : Int32) + (1 : Int32)), oi 7, oa o, oi 0, oi 1, oi 0, oa tab, oi 4, oi 0, oi sv0, oi sv1, oi sv2, .unset, .unset] [(.int 3), (.ref sr), (.ref tab)]))
  rw [show ((3 : Int32) + (1 : Int32)) = (4 : Int32) from by decide]
  show G (T1.setTop (mkF m 88 #[oa dc, oa sr, oi 4, oi 7, oa o, oi 0, oi 1, oi 0, oa tab, oi 4, oi 0, oi sv0, oi sv1, oi sv2, .unset, .unset] [(.int 3), (.ref sr), (.ref tab)]))
  refine qlb (v := (.int ch3)) B X1 hZ e1 g5_V d30_88 (by decide) rfl ?_
  refine q_sipush B X1 d30_89 rfl ?_
  refine q_iand B X1 d30_92 rfl rfl ?_
  show G (T1.setTop (mkF m 93 #[oa dc, oa sr, oi 4, oi 7, oa o, oi 0, oi 1, oi 0, oa tab, oi 4, oi 0, oi sv0, oi sv1, oi sv2, .unset, .unset] [(.int (ch3 &&& (255 : Int32))), (.ref tab)]))
  rw [own_m255 g14_hs3]
  show G (T1.setTop (mkF m 93 #[oa dc, oa sr, oi 4, oi 7, oa o, oi 0, oi 1, oi 0, oa tab, oi 4, oi 0, oi sv0, oi sv1, oi sv2, .unset, .unset] [(.int ch3), (.ref tab)]))
  refine qli (v := (.int sv3)) B X1 hZ e1 g4_V d30_93 ⟨(own_look g14_hs3).1, (own_look g14_hs3).2.1⟩ (own_look g14_hs3).2.2 ?_
  refine q_istore B X1 d30_94 rfl rfl rfl ?_
  refine q_iload B X1 d30_96 rfl rfl ?_
  refine q_iload B X1 d30_98 rfl rfl ?_
  refine q_ior B X1 d30_100 rfl rfl ?_
  refine q_iload B X1 d30_101 rfl rfl ?_
  refine q_ior B X1 d30_103 rfl rfl ?_
  refine q_iload B X1 d30_104 rfl rfl ?_
  refine q_ior B X1 d30_106 rfl rfl ?_
  refine q_ifYes 116 B X1 d30_107 rfl ((if0 _ _).trans (flt (own_ornn (own_syV g11_hs0) (own_syV g12_hs1) (own_syV g13_hs2) (own_syV g14_hs3))).2.1) rfl rfl (by decide) ?_
  refine q_iload B X1 d30_116 rfl rfl ?_
  refine q_bipush B X1 d30_118 rfl ?_
  refine q_ishl B X1 d30_120 rfl rfl ?_
  refine q_iload B X1 d30_121 rfl rfl ?_
  refine q_bipush B X1 d30_123 rfl ?_
  refine q_ishl B X1 d30_125 rfl rfl ?_
  refine q_ior B X1 d30_126 rfl rfl ?_
  show G (T1.setTop (mkF m 127 #[oa dc, oa sr, oi 4, oi 7, oa o, oi 0, oi 1, oi 0, oa tab, oi 4, oi 0, oi sv0, oi sv1, oi sv2, oi sv3, .unset] [(.int ((sv0 <<< ((18 : Int32) &&& 31)) ||| (sv1 <<< ((12 : Int32) &&& 31))))]))
  refine q_iload B X1 d30_127 rfl rfl ?_
  refine q_bipush B X1 d30_129 rfl ?_
  refine q_ishl B X1 d30_131 rfl rfl ?_
  refine q_ior B X1 d30_132 rfl rfl ?_
  refine q_iload B X1 d30_133 rfl rfl ?_
  refine q_ior B X1 d30_135 rfl rfl ?_
  refine q_istore B X1 d30_136 rfl rfl rfl ?_
  refine q_aload B X1 d30_138 rfl rfl rfl ?_
  refine q_iload B X1 d30_140 rfl rfl ?_
  refine q_iinc B X1 d30_142 rfl rfl rfl ?_
  show G (T1.setTop (mkF m 145 #[oa dc, oa sr, oi 4, oi 7, oa o, oi 0, oi 1, oi 0, oa tab, oi 4, oi ((0 : Int32) + (1 : Int32)), oi sv0, oi sv1, oi sv2, oi sv3, oi ((((sv0 <<< ((18 : Int32) &&& 31)) ||| (sv1 <<< ((12 : Int32) &&& 31))) ||| (sv2 <<< ((6 : Int32) &&& 31))) ||| sv3)] [(.int 0), (.ref o)]))
  rw [show ((0 : Int32) + (1 : Int32)) = (1 : Int32) from by decide]
  show G (T1.setTop (mkF m 145 #[oa dc, oa sr, oi 4, oi 7, oa o, oi 0, oi 1, oi 0, oa tab, oi 4, oi 1, oi sv0, oi sv1, oi sv2, oi sv3, oi ((((sv0 <<< ((18 : Int32) &&& 31)) ||| (sv1 <<< ((12 : Int32) &&& 31))) ||| (sv2 <<< ((6 : Int32) &&& 31))) ||| sv3)] [(.int 0), (.ref o)]))
  refine q_iload B X1 d30_145 rfl rfl ?_
  refine q_bipush B X1 d30_147 rfl ?_
  refine q_ishr B X1 d30_149 rfl rfl ?_
  refine q_i2b B X1 d30_150 rfl rfl ?_
  show G (T1.setTop (mkF m 151 #[oa dc, oa sr, oi 4, oi 7, oa o, oi 0, oi 1, oi 0, oa tab, oi 4, oi 1, oi sv0, oi sv1, oi sv2, oi sv3, oi ((((sv0 <<< ((18 : Int32) &&& 31)) ||| (sv1 <<< ((12 : Int32) &&& 31))) ||| (sv2 <<< ((6 : Int32) &&& 31))) ||| sv3)] [(.int ((((((sv0 <<< ((18 : Int32) &&& 31)) ||| (sv1 <<< ((12 : Int32) &&& 31))) ||| (sv2 <<< ((6 : Int32) &&& 31))) ||| sv3) >>> ((16 : Int32) &&& 31)).toInt8.toInt32)), (.int 0), (.ref o)]))
  refine qsb 0 B X1 hZ e1 g6_V d30_151 (by decide) rfl (Nat.le_of_ble_eq_true rfl) fun T10 h10 X10 e10 W10 V10 => ?_
  have K10 := (Keep.refl h0 [o]).wr W10 (own_mi 0 rfl)
  have O10 := O0.wr W10 g7_G
  have N10 := Fr.snoc X10 N0 g7_G
  refine q_aload B X10 d30_152 rfl rfl rfl ?_
  refine q_iload B X10 d30_154 rfl rfl ?_
  refine q_iinc B X10 d30_156 rfl rfl rfl ?_
  show G (T10.setTop (mkF m 159 #[oa dc, oa sr, oi 4, oi 7, oa o, oi 0, oi 1, oi 0, oa tab, oi 4, oi ((1 : Int32) + (1 : Int32)), oi sv0, oi sv1, oi sv2, oi sv3, oi ((((sv0 <<< ((18 : Int32) &&& 31)) ||| (sv1 <<< ((12 : Int32) &&& 31))) ||| (sv2 <<< ((6 : Int32) &&& 31))) ||| sv3)] [(.int 1), (.ref o)]))
  rw [show ((1 : Int32) + (1 : Int32)) = (2 : Int32) from by decide]
  show G (T10.setTop (mkF m 159 #[oa dc, oa sr, oi 4, oi 7, oa o, oi 0, oi 1, oi 0, oa tab, oi 4, oi 2, oi sv0, oi sv1, oi sv2, oi sv3, oi ((((sv0 <<< ((18 : Int32) &&& 31)) ||| (sv1 <<< ((12 : Int32) &&& 31))) ||| (sv2 <<< ((6 : Int32) &&& 31))) ||| sv3)] [(.int 1), (.ref o)]))
  refine q_iload B X10 d30_159 rfl rfl ?_
  refine q_bipush B X10 d30_161 rfl ?_
  refine q_ishr B X10 d30_163 rfl rfl ?_
  refine q_i2b B X10 d30_164 rfl rfl ?_
  show G (T10.setTop (mkF m 165 #[oa dc, oa sr, oi 4, oi 7, oa o, oi 0, oi 1, oi 0, oa tab, oi 4, oi 2, oi sv0, oi sv1, oi sv2, oi sv3, oi ((((sv0 <<< ((18 : Int32) &&& 31)) ||| (sv1 <<< ((12 : Int32) &&& 31))) ||| (sv2 <<< ((6 : Int32) &&& 31))) ||| sv3)] [(.int ((((((sv0 <<< ((18 : Int32) &&& 31)) ||| (sv1 <<< ((12 : Int32) &&& 31))) ||| (sv2 <<< ((6 : Int32) &&& 31))) ||| sv3) >>> ((8 : Int32) &&& 31)).toInt8.toInt32)), (.int 1), (.ref o)]))
  refine qsb 1 B X10 hZ e10 V10 d30_165 (by decide) rfl (Nat.le_of_ble_eq_true rfl) fun T11 h11 X11 e11 W11 V11 => ?_
  have K11 := K10.wr W11 (own_mi 0 rfl)
  have O11 := O10.wr W11 g7_G
  have N11 := Fr.snoc X11 N10 g7_G
  refine q_aload B X11 d30_166 rfl rfl rfl ?_
  refine q_iload B X11 d30_168 rfl rfl ?_
  refine q_iinc B X11 d30_170 rfl rfl rfl ?_
  show G (T11.setTop (mkF m 173 #[oa dc, oa sr, oi 4, oi 7, oa o, oi 0, oi 1, oi 0, oa tab, oi 4, oi ((2 : Int32) + (1 : Int32)), oi sv0, oi sv1, oi sv2, oi sv3, oi ((((sv0 <<< ((18 : Int32) &&& 31)) ||| (sv1 <<< ((12 : Int32) &&& 31))) ||| (sv2 <<< ((6 : Int32) &&& 31))) ||| sv3)] [(.int 2), (.ref o)]))
  rw [show ((2 : Int32) + (1 : Int32)) = (3 : Int32) from by decide]
  show G (T11.setTop (mkF m 173 #[oa dc, oa sr, oi 4, oi 7, oa o, oi 0, oi 1, oi 0, oa tab, oi 4, oi 3, oi sv0, oi sv1, oi sv2, oi sv3, oi ((((sv0 <<< ((18 : Int32) &&& 31)) ||| (sv1 <<< ((12 : Int32) &&& 31))) ||| (sv2 <<< ((6 : Int32) &&& 31))) ||| sv3)] [(.int 2), (.ref o)]))
  refine q_iload B X11 d30_173 rfl rfl ?_
  refine q_i2b B X11 d30_175 rfl rfl ?_
  show G (T11.setTop (mkF m 176 #[oa dc, oa sr, oi 4, oi 7, oa o, oi 0, oi 1, oi 0, oa tab, oi 4, oi 3, oi sv0, oi sv1, oi sv2, oi sv3, oi ((((sv0 <<< ((18 : Int32) &&& 31)) ||| (sv1 <<< ((12 : Int32) &&& 31))) ||| (sv2 <<< ((6 : Int32) &&& 31))) ||| sv3)] [(.int (((((sv0 <<< ((18 : Int32) &&& 31)) ||| (sv1 <<< ((12 : Int32) &&& 31))) ||| (sv2 <<< ((6 : Int32) &&& 31))) ||| sv3).toInt8.toInt32)), (.int 2), (.ref o)]))
  refine qsb 2 B X11 hZ e11 V11 d30_176 (by decide) rfl (Nat.le_of_ble_eq_true rfl) fun T12 h12 X12 e12 W12 V12 => ?_
  have K12 := K11.wr W12 (own_mi 0 rfl)
  have O12 := O11.wr W12 g7_G
  have N12 := Fr.snoc X12 N11 g7_G
  refine q_goto 30 B X12 d30_177 rfl rfl (by decide) ?_
  refine q_iloadN B X12 d30_30 rfl rfl ?_
  refine q_iload B X12 d30_31 rfl rfl ?_
  refine q_icmpYes 180 B X12 d30_33 rfl (flt (by decide)).2.1 rfl rfl (by decide) ?_
  refine q_iload B X12 d30_180 rfl rfl ?_
  refine q_iload B X12 d30_182 rfl rfl ?_
  refine q_isub B X12 d30_184 rfl rfl ?_
  show G (T12.setTop (mkF m 185 #[oa dc, oa sr, oi 4, oi 7, oa o, oi 0, oi 1, oi 0, oa tab, oi 4, oi 3, oi sv0, oi sv1, oi sv2, oi sv3, oi ((((sv0 <<< ((18 : Int32) &&& 31)) ||| (sv1 <<< ((12 : Int32) &&& 31))) ||| (sv2 <<< ((6 : Int32) &&& 31))) ||| sv3)] [(.int ((3 : Int32) - (0 : Int32)))]))
  rw [show ((3 : Int32) - (0 : Int32)) = (3 : Int32) from by decide]
  show G (T12.setTop (mkF m 185 #[oa dc, oa sr, oi 4, oi 7, oa o, oi 0, oi 1, oi 0, oa tab, oi 4, oi 3, oi sv0, oi sv1, oi sv2, oi sv3, oi ((((sv0 <<< ((18 : Int32) &&& 31)) ||| (sv1 <<< ((12 : Int32) &&& 31))) ||| (sv2 <<< ((6 : Int32) &&& 31))) ||| sv3)] [(.int 3)]))
  exact qRI B hR hret X12 d30_185 e12 ⟨rfl, N12, K12, V12⟩ (by decide)
theorem own_dec07 (hw : own_W Z a0) {dc tab : Addr} {ktab : ClassId} {sr : Addr} {ks : ClassId} {o : Addr} {ko : ClassId} {ch0 ch1 ch2 ch3 ch4 ch5 ch6 : Int32} (sv0 sv1 sv2 sv3 sv4 sv5 sv6 : Int32) (O0 : own_Old Z h0) (g0_S : Sta Z Z.heap "java/util/Base64$Decoder" "fromBase64URL" "[I" (.ref tab)) (g1_E : Exa Z h0 dc "java/util/Base64$Decoder") (g2_F : Fld Z h0 dc "java/util/Base64$Decoder" "isURL" "Z" (.int 1)) (g3_F : Fld Z h0 dc "java/util/Base64$Decoder" "isMIME" "Z" (.int 0)) (g4_V : Arv Z h0 tab ktab .int 256 (own_TAB.map Value.int) (.int 0)) (g5_V : Arv Z h0 sr ks .byte (7 : Int32) [(.int ch0), (.int ch1), (.int ch2), (.int ch3), (.int ch4), (.int ch5), (.int ch6)] (.int 0)) (g6_V : Arv Z h0 o ko .byte (5 : Int32) [(.int 0), (.int 0), (.int 0), (.int 0), (.int 0)] (.int 0)) (g7_G : Z.heap.size ≤ o) (g8_ne_sr_o : sr ≠ o) (g9_ne_tab_o : tab ≠ o) (g10_ne_dc_o : dc ≠ o) (g11_hs0 : own_sy ch0 sv0) (g12_hs1 : own_sy ch1 sv1) (g13_hs2 : own_sy ch2 sv2) (g14_hs3 : own_sy ch3 sv3) (g15_hs4 : own_sy ch4 sv4) (g16_hs5 : own_sy ch5 sv5) (g17_hs6 : own_sy ch6 sv6) : own_Con l Z ⟨"java/util/Base64$Decoder", "decode0", "([BII[B)I"⟩ jdk_2450_method_9_code 11 (some .int) [] ⟨1, 0, 0, 27⟩ #[(.ref dc), (.ref sr), (.int 0), (.int 7), (.ref o)] h0 (fun rv rh rL => rv = some (.int 5) ∧ own_Fr Z rL ∧ Keep h0 rh [o] ∧ (Arv Z rh o ko .byte (5 : Int32) [(.int (nar .byte ((((((sv0 <<< ((18 : Int32) &&& 31)) ||| (sv1 <<< ((12 : Int32) &&& 31))) ||| (sv2 <<< ((6 : Int32) &&& 31))) ||| sv3) >>> ((16 : Int32) &&& 31)).toInt8.toInt32))), (.int (nar .byte ((((((sv0 <<< ((18 : Int32) &&& 31)) ||| (sv1 <<< ((12 : Int32) &&& 31))) ||| (sv2 <<< ((6 : Int32) &&& 31))) ||| sv3) >>> ((8 : Int32) &&& 31)).toInt8.toInt32))), (.int (nar .byte (((((sv0 <<< ((18 : Int32) &&& 31)) ||| (sv1 <<< ((12 : Int32) &&& 31))) ||| (sv2 <<< ((6 : Int32) &&& 31))) ||| sv3).toInt8.toInt32))), (.int (nar .byte ((((((0 : Int32) ||| (sv4 <<< ((18 : Int32) &&& 31))) ||| (sv5 <<< ((12 : Int32) &&& 31))) ||| (sv6 <<< ((6 : Int32) &&& 31))) >>> ((16 : Int32) &&& 31)).toInt8.toInt32))), (.int (nar .byte ((((((0 : Int32) ||| (sv4 <<< ((18 : Int32) &&& 31))) ||| (sv5 <<< ((12 : Int32) &&& 31))) ||| (sv6 <<< ((6 : Int32) &&& 31))) >>> ((8 : Int32) &&& 31)).toInt8.toInt32)))] (.int 0))) := by
  refine own_st hw (plainFor_of_name (by decide +kernel)) #[oa dc, oa sr, oi 0, oi 7, oa o, .unset, .unset, .unset, .unset, .unset, .unset] (fun m => by first | (simp [entryFrame, mkF, argsToLocals, Value.category]; done) | rfl) fun p e s m below meth c s₁ G B hown hnm hret hZ X0 e0 N0 hR => ?_
  refine q_aloadN B X0 d28_0 rfl rfl rfl ?_
  refine qgf B X0 hZ hown 134 rfl Via.refl e0 g2_F d28_1 fun T1 X1 e1 => ?_
  refine q_ifNo B X1 d28_4 rfl ((if0 _ _).trans (feq (by decide)).1) rfl ?_
  refine qgs B X1 hZ hown 136 rfl Via.refl e1 g0_S O0 d28_7 fun T2 X2 e2 => ?_
  refine q_goto 16 B X2 d28_10 rfl rfl (by decide) ?_
  refine q_astore B X2 d28_16 rfl rfl rfl rfl ?_
  refine q_iconst B X2 d28_18 rfl ?_
  refine q_istore B X2 d28_19 rfl rfl rfl ?_
  refine q_iconst B X2 d28_21 rfl ?_
  refine q_istore B X2 d28_22 rfl rfl rfl ?_
  refine q_bipush B X2 d28_24 rfl ?_
  refine q_istore B X2 d28_26 rfl rfl rfl ?_
  refine q_iloadN B X2 d28_28 rfl rfl ?_
  refine q_iloadN B X2 d28_29 rfl rfl ?_
  refine q_icmpNo B X2 d28_30 rfl (tlt (by decide)).2.1 rfl ?_
  refine q_iload B X2 d28_33 rfl rfl ?_
  refine q_bipush B X2 d28_35 rfl ?_
  show G (T2.setTop (mkF m 37 #[oa dc, oa sr, oi 0, oi 7, oa o, oa tab, oi 0, oi 0, oi 18, .unset, .unset] [(.int 18), (.int 18)]))
  refine q_icmpNo B X2 d28_37 rfl (teq (by decide)).2 rfl ?_
  refine q_iloadN B X2 d28_40 rfl rfl ?_
  refine q_iloadN B X2 d28_41 rfl rfl ?_
  refine q_iconst B X2 d28_42 rfl ?_
  refine q_isub B X2 d28_43 rfl rfl ?_
  show G (T2.setTop (mkF m 44 #[oa dc, oa sr, oi 0, oi 7, oa o, oa tab, oi 0, oi 0, oi 18, .unset, .unset] [(.int ((7 : Int32) - (4 : Int32))), (.int 0)]))
  rw [show ((7 : Int32) - (4 : Int32)) = (3 : Int32) from by decide]
  show G (T2.setTop (mkF m 44 #[oa dc, oa sr, oi 0, oi 7, oa o, oa tab, oi 0, oi 0, oi 18, .unset, .unset] [(.int 3), (.int 0)]))
  refine q_icmpNo B X2 d28_44 rfl (tlt (by decide)).2.1 rfl ?_
  refine q_aloadN B X2 d28_47 rfl rfl rfl ?_
  refine q_aloadN B X2 d28_48 rfl rfl rfl ?_
  refine q_iloadN B X2 d28_49 rfl rfl ?_
  refine q_iloadN B X2 d28_50 rfl rfl ?_
  refine q_aload B X2 d28_51 rfl rfl rfl ?_
  refine q_iload B X2 d28_53 rfl rfl ?_
  refine q_aloadN B X2 d28_55 rfl rfl rfl ?_
  refine qgf B X2 hZ hown 134 rfl Via.refl e2 g2_F d28_56 fun T3 X3 e3 => ?_
  refine q_aloadN B X3 d28_59 rfl rfl rfl ?_
  refine qgf B X3 hZ hown 137 rfl Via.refl e3 g3_F d28_60 fun T4 X4 e4 => ?_
  show G (T4.setTop (mkF m 63 #[oa dc, oa sr, oi 0, oi 7, oa o, oa tab, oi 0, oi 0, oi 18, .unset, .unset] [(.int 0), (.int 1), (.int 0), (.ref o), (.int 7), (.int 0), (.ref sr), (.ref dc)]))
  refine qP B X4 hZ hown 149 150 152 151 90 153 rfl rfl rfl rfl rfl rfl (own_blk7 hw (ch0 := ch0) (ch1 := ch1) (ch2 := ch2) (ch3 := ch3) (ch4 := ch4) (ch5 := ch5) (ch6 := ch6) sv0 sv1 sv2 sv3 sv4 sv5 sv6 O0 g0_S g1_E g2_F g3_F g4_V g5_V g6_V g7_G g8_ne_sr_o g9_ne_tab_o g10_ne_dc_o g11_hs0 g12_hs1 g13_hs2 g14_hs3 g15_hs4 g16_hs5 g17_hs6) e4 g1_E own_pd21 rfl rfl d28_63 0 rfl rfl rfl (by decide) ?_
  rintro T5 h5 _ L5 X5 e5 ⟨rfl, M5, J5, r5_0⟩
  have N5 := Fr.app N0 M5
  have K5 := (Keep.refl h0 [o]).trans J5 (allS (own_mi 0 rfl) all0)
  have O5 := O0.keep J5 (allS g7_G all0)
  refine q_istore B X5 d28_66 rfl rfl rfl ?_
  refine q_iload B X5 d28_68 rfl rfl ?_
  refine q_iconst B X5 d28_70 rfl ?_
  refine q_iadd B X5 d28_71 rfl rfl ?_
  show G (T5.setTop (mkF m 72 #[oa dc, oa sr, oi 0, oi 7, oa o, oa tab, oi 0, oi 0, oi 18, oi 3, .unset] [(.int ((3 : Int32) + (2 : Int32)))]))
  rw [show ((3 : Int32) + (2 : Int32)) = (5 : Int32) from by decide]
  show G (T5.setTop (mkF m 72 #[oa dc, oa sr, oi 0, oi 7, oa o, oa tab, oi 0, oi 0, oi 18, oi 3, .unset] [(.int 5)]))
  refine q_iconst B X5 d28_72 rfl ?_
  refine q_idiv B X5 d28_73 rfl (by decide) rfl ?_
  show G (T5.setTop (mkF m 74 #[oa dc, oa sr, oi 0, oi 7, oa o, oa tab, oi 0, oi 0, oi 18, oi 3, .unset] [(.int ((5 : Int32) / (3 : Int32)))]))
  rw [show ((5 : Int32) / (3 : Int32)) = (1 : Int32) from by decide]
  show G (T5.setTop (mkF m 74 #[oa dc, oa sr, oi 0, oi 7, oa o, oa tab, oi 0, oi 0, oi 18, oi 3, .unset] [(.int 1)]))
  refine q_iconst B X5 d28_74 rfl ?_
  refine q_imul B X5 d28_75 rfl rfl ?_
  show G (T5.setTop (mkF m 76 #[oa dc, oa sr, oi 0, oi 7, oa o, oa tab, oi 0, oi 0, oi 18, oi 3, .unset] [(.int ((1 : Int32) * (4 : Int32)))]))
  rw [show ((1 : Int32) * (4 : Int32)) = (4 : Int32) from by decide]
  show G (T5.setTop (mkF m 76 #[oa dc, oa sr, oi 0, oi 7, oa o, oa tab, oi 0, oi 0, oi 18, oi 3, .unset] [(.int 4)]))
  refine q_istore B X5 d28_76 rfl rfl rfl ?_
  refine q_iloadN B X5 d28_78 rfl rfl ?_
  refine q_iload B X5 d28_79 rfl rfl ?_
  refine q_iadd B X5 d28_81 rfl rfl ?_
  show G (T5.setTop (mkF m 82 #[oa dc, oa sr, oi 0, oi 7, oa o, oa tab, oi 0, oi 0, oi 18, oi 3, oi 4] [(.int ((0 : Int32) + (4 : Int32)))]))
  rw [show ((0 : Int32) + (4 : Int32)) = (4 : Int32) from by decide]
  show G (T5.setTop (mkF m 82 #[oa dc, oa sr, oi 0, oi 7, oa o, oa tab, oi 0, oi 0, oi 18, oi 3, oi 4] [(.int 4)]))
  refine q_istoreN B X5 d28_82 rfl rfl rfl ?_
  refine q_iload B X5 d28_83 rfl rfl ?_
  refine q_iload B X5 d28_85 rfl rfl ?_
  refine q_iadd B X5 d28_87 rfl rfl ?_
  show G (T5.setTop (mkF m 88 #[oa dc, oa sr, oi 4, oi 7, oa o, oa tab, oi 0, oi 0, oi 18, oi 3, oi 4] [(.int ((0 : Int32) + (3 : Int32)))]))
  rw [show ((0 : Int32) + (3 : Int32)) = (3 : Int32) from by decide]
  show G (T5.setTop (mkF m 88 #[oa dc, oa sr, oi 4, oi 7, oa o, oa tab, oi 0, oi 0, oi 18, oi 3, oi 4] [(.int 3)]))
  refine q_istore B X5 d28_88 rfl rfl rfl ?_
  refine q_iloadN B X5 d28_90 rfl rfl ?_
  refine q_iloadN B X5 d28_91 rfl rfl ?_
  refine q_icmpYes 98 B X5 d28_92 rfl (tlt (by decide)).1 rfl rfl (by decide) ?_
  refine q_aloadN B X5 d28_98 rfl rfl rfl ?_
  refine q_iloadN B X5 d28_99 rfl rfl ?_
  refine q_iinc B X5 d28_100 rfl rfl rfl ?_
  show G (T5.setTop (mkF m 103 #[oa dc, oa sr, oi ((4 : Int32) + (1 : Int32)), oi 7, oa o, oa tab, oi 3, oi 0, oi 18, oi 3, oi 4] [(.int 4), (.ref sr)]))
  rw [show ((4 : Int32) + (1 : Int32)) = (5 : Int32) from by decide]
  show G (T5.setTop (mkF m 103 #[oa dc, oa sr, oi 5, oi 7, oa o, oa tab, oi 3, oi 0, oi 18, oi 3, oi 4] [(.int 4), (.ref sr)]))
  have f7 := (g5_V.keep J5 (ninS g8_ne_sr_o nin0))
  refine qlb (v := (.int ch4)) B X5 hZ e5 f7 d28_103 (by decide) rfl ?_
  refine q_sipush B X5 d28_104 rfl ?_
  refine q_iand B X5 d28_107 rfl rfl ?_
  show G (T5.setTop (mkF m 108 #[oa dc, oa sr, oi 5, oi 7, oa o, oa tab, oi 3, oi 0, oi 18, oi 3, oi 4] [(.int (ch4 &&& (255 : Int32)))]))
  rw [own_m255 g15_hs4]
  show G (T5.setTop (mkF m 108 #[oa dc, oa sr, oi 5, oi 7, oa o, oa tab, oi 3, oi 0, oi 18, oi 3, oi 4] [(.int ch4)]))
  refine q_istore B X5 d28_108 rfl rfl rfl ?_
  refine q_aload B X5 d28_110 rfl rfl rfl ?_
  refine q_iload B X5 d28_112 rfl rfl ?_
  have f9 := (g4_V.keep J5 (ninS g9_ne_tab_o nin0))
  refine qli (v := (.int sv4)) B X5 hZ e5 f9 d28_114 ⟨(own_look g15_hs4).1, (own_look g15_hs4).2.1⟩ (own_look g15_hs4).2.2 ?_
  refine q_dup B X5 d28_115 rfl rfl rfl ?_
  refine q_istore B X5 d28_116 rfl rfl rfl ?_
  refine q_ifYes 214 B X5 d28_118 rfl ((if0 _ _).trans (flt (own_Vnn (own_syV g15_hs4))).2.1) rfl rfl (by decide) ?_
  refine q_iload B X5 d28_214 rfl rfl ?_
  refine q_iload B X5 d28_216 rfl rfl ?_
  refine q_iload B X5 d28_218 rfl rfl ?_
  refine q_ishl B X5 d28_220 rfl rfl ?_
  refine q_ior B X5 d28_221 rfl rfl ?_
  refine q_istore B X5 d28_222 rfl rfl rfl ?_
  refine q_iinc B X5 d28_224 rfl rfl rfl ?_
  show G (T5.setTop (mkF m 227 #[oa dc, oa sr, oi 5, oi 7, oa o, oa tab, oi 3, oi ((0 : Int32) ||| (sv4 <<< ((18 : Int32) &&& 31))), oi ((18 : Int32) + (-6 : Int32)), oi sv4, oi 4] []))
  rw [show ((18 : Int32) + (-6 : Int32)) = (12 : Int32) from by decide]
  show G (T5.setTop (mkF m 227 #[oa dc, oa sr, oi 5, oi 7, oa o, oa tab, oi 3, oi ((0 : Int32) ||| (sv4 <<< ((18 : Int32) &&& 31))), oi 12, oi sv4, oi 4] []))
  refine q_iload B X5 d28_227 rfl rfl ?_
  refine q_ifYes 278 B X5 d28_229 rfl ((if0 _ _).trans (flt (by decide)).2.1) rfl rfl (by decide) ?_
  refine q_goto 28 B X5 d28_278 rfl rfl (by decide) ?_
  refine q_iloadN B X5 d28_28 rfl rfl ?_
  refine q_iloadN B X5 d28_29 rfl rfl ?_
  refine q_icmpNo B X5 d28_30 rfl (tlt (by decide)).2.1 rfl ?_
  refine q_iload B X5 d28_33 rfl rfl ?_
  refine q_bipush B X5 d28_35 rfl ?_
  refine q_icmpYes 90 B X5 d28_37 rfl (feq (by decide)).2 rfl rfl (by decide) ?_
  refine q_iloadN B X5 d28_90 rfl rfl ?_
  refine q_iloadN B X5 d28_91 rfl rfl ?_
  refine q_icmpYes 98 B X5 d28_92 rfl (tlt (by decide)).1 rfl rfl (by decide) ?_
  refine q_aloadN B X5 d28_98 rfl rfl rfl ?_
  refine q_iloadN B X5 d28_99 rfl rfl ?_
  refine q_iinc B X5 d28_100 rfl rfl rfl ?_
  show G (T5.setTop (mkF m 103 #[oa dc, oa sr, oi ((5 : Int32) + (1 : Int32)), oi 7, oa o, oa tab, oi 3, oi ((0 : Int32) ||| (sv4 <<< ((18 : Int32) &&& 31))), oi 12, oi sv4, oi 4] [(.int 5), (.ref sr)]))
  rw [show ((5 : Int32) + (1 : Int32)) = (6 : Int32) from by decide]
  show G (T5.setTop (mkF m 103 #[oa dc, oa sr, oi 6, oi 7, oa o, oa tab, oi 3, oi ((0 : Int32) ||| (sv4 <<< ((18 : Int32) &&& 31))), oi 12, oi sv4, oi 4] [(.int 5), (.ref sr)]))
  refine qlb (v := (.int ch5)) B X5 hZ e5 f7 d28_103 (by decide) rfl ?_
  refine q_sipush B X5 d28_104 rfl ?_
  refine q_iand B X5 d28_107 rfl rfl ?_
  show G (T5.setTop (mkF m 108 #[oa dc, oa sr, oi 6, oi 7, oa o, oa tab, oi 3, oi ((0 : Int32) ||| (sv4 <<< ((18 : Int32) &&& 31))), oi 12, oi sv4, oi 4] [(.int (ch5 &&& (255 : Int32)))]))
  rw [own_m255 g16_hs5]
  show G (T5.setTop (mkF m 108 #[oa dc, oa sr, oi 6, oi 7, oa o, oa tab, oi 3, oi ((0 : Int32) ||| (sv4 <<< ((18 : Int32) &&& 31))), oi 12, oi sv4, oi 4] [(.int ch5)]))
  refine q_istore B X5 d28_108 rfl rfl rfl ?_
  refine q_aload B X5 d28_110 rfl rfl rfl ?_
  refine q_iload B X5 d28_112 rfl rfl ?_
  refine qli (v := (.int sv5)) B X5 hZ e5 f9 d28_114 ⟨(own_look g16_hs5).1, (own_look g16_hs5).2.1⟩ (own_look g16_hs5).2.2 ?_
  refine q_dup B X5 d28_115 rfl rfl rfl ?_
  refine q_istore B X5 d28_116 rfl rfl rfl ?_
  refine q_ifYes 214 B X5 d28_118 rfl ((if0 _ _).trans (flt (own_Vnn (own_syV g16_hs5))).2.1) rfl rfl (by decide) ?_
  refine q_iload B X5 d28_214 rfl rfl ?_
  refine q_iload B X5 d28_216 rfl rfl ?_
  refine q_iload B X5 d28_218 rfl rfl ?_
  refine q_ishl B X5 d28_220 rfl rfl ?_
  refine q_ior B X5 d28_221 rfl rfl ?_
  refine q_istore B X5 d28_222 rfl rfl rfl ?_
  refine q_iinc B X5 d28_224 rfl rfl rfl ?_
  show G (T5.setTop (mkF m 227 #[oa dc, oa sr, oi 6, oi 7, oa o, oa tab, oi 3, oi (((0 : Int32) ||| (sv4 <<< ((18 : Int32) &&& 31))) ||| (sv5 <<< ((12 : Int32) &&& 31))), oi ((12 : Int32) + (-6 : Int32)), oi sv5, oi 4] []))
  rw [show ((12 : Int32) + (-6 : Int32)) = (6 : Int32) from by decide]
  show G (T5.setTop (mkF m 227 #[oa dc, oa sr, oi 6, oi 7, oa o, oa tab, oi 3, oi (((0 : Int32) ||| (sv4 <<< ((18 : Int32) &&& 31))) ||| (sv5 <<< ((12 : Int32) &&& 31))), oi 6, oi sv5, oi 4] []))
  refine q_iload B X5 d28_227 rfl rfl ?_
  refine q_ifYes 278 B X5 d28_229 rfl ((if0 _ _).trans (flt (by decide)).2.1) rfl rfl (by decide) ?_
  refine q_goto 28 B X5 d28_278 rfl rfl (by decide) ?_
  refine q_iloadN B X5 d28_28 rfl rfl ?_
  refine q_iloadN B X5 d28_29 rfl rfl ?_
  refine q_icmpNo B X5 d28_30 rfl (tlt (by decide)).2.1 rfl ?_
  refine q_iload B X5 d28_33 rfl rfl ?_
  refine q_bipush B X5 d28_35 rfl ?_
  refine q_icmpYes 90 B X5 d28_37 rfl (feq (by decide)).2 rfl rfl (by decide) ?_
  refine q_iloadN B X5 d28_90 rfl rfl ?_
  refine q_iloadN B X5 d28_91 rfl rfl ?_
  refine q_icmpYes 98 B X5 d28_92 rfl (tlt (by decide)).1 rfl rfl (by decide) ?_
  refine q_aloadN B X5 d28_98 rfl rfl rfl ?_
  refine q_iloadN B X5 d28_99 rfl rfl ?_
  refine q_iinc B X5 d28_100 rfl rfl rfl ?_
  show G (T5.setTop (mkF m 103 #[oa dc, oa sr, oi ((6 : Int32) + (1 : Int32)), oi 7, oa o, oa tab, oi 3, oi (((0 : Int32) ||| (sv4 <<< ((18 : Int32) &&& 31))) ||| (sv5 <<< ((12 : Int32) &&& 31))), oi 6, oi sv5, oi 4] [(.int 6), (.ref sr)]))
  rw [show ((6 : Int32) + (1 : Int32)) = (7 : Int32) from by decide]
  show G (T5.setTop (mkF m 103 #[oa dc, oa sr, oi 7, oi 7, oa o, oa tab, oi 3, oi (((0 : Int32) ||| (sv4 <<< ((18 : Int32) &&& 31))) ||| (sv5 <<< ((12 : Int32) &&& 31))), oi 6, oi sv5, oi 4] [(.int 6), (.ref sr)]))
  refine qlb (v := (.int ch6)) B X5 hZ e5 f7 d28_103 (by decide) rfl ?_
  refine q_sipush B X5 d28_104 rfl ?_
  refine q_iand B X5 d28_107 rfl rfl ?_
  show G (T5.setTop (mkF m 108 #[oa dc, oa sr, oi 7, oi 7, oa o, oa tab, oi 3, oi (((0 : Int32) ||| (sv4 <<< ((18 : Int32) &&& 31))) ||| (sv5 <<< ((12 : Int32) &&& 31))), oi 6, oi sv5, oi 4] [(.int (ch6 &&& (255 : Int32)))]))
  rw [own_m255 g17_hs6]
  show G (T5.setTop (mkF m 108 #[oa dc, oa sr, oi 7, oi 7, oa o, oa tab, oi 3, oi (((0 : Int32) ||| (sv4 <<< ((18 : Int32) &&& 31))) ||| (sv5 <<< ((12 : Int32) &&& 31))), oi 6, oi sv5, oi 4] [(.int ch6)]))
  refine q_istore B X5 d28_108 rfl rfl rfl ?_
  refine q_aload B X5 d28_110 rfl rfl rfl ?_
  refine q_iload B X5 d28_112 rfl rfl ?_
  refine qli (v := (.int sv6)) B X5 hZ e5 f9 d28_114 ⟨(own_look g17_hs6).1, (own_look g17_hs6).2.1⟩ (own_look g17_hs6).2.2 ?_
  refine q_dup B X5 d28_115 rfl rfl rfl ?_
  refine q_istore B X5 d28_116 rfl rfl rfl ?_
  refine q_ifYes 214 B X5 d28_118 rfl ((if0 _ _).trans (flt (own_Vnn (own_syV g17_hs6))).2.1) rfl rfl (by decide) ?_
  refine q_iload B X5 d28_214 rfl rfl ?_
  refine q_iload B X5 d28_216 rfl rfl ?_
  refine q_iload B X5 d28_218 rfl rfl ?_
  refine q_ishl B X5 d28_220 rfl rfl ?_
  refine q_ior B X5 d28_221 rfl rfl ?_
  refine q_istore B X5 d28_222 rfl rfl rfl ?_
  refine q_iinc B X5 d28_224 rfl rfl rfl ?_
  show G (T5.setTop (mkF m 227 #[oa dc, oa sr, oi 7, oi 7, oa o, oa tab, oi 3, oi ((((0 : Int32) ||| (sv4 <<< ((18 : Int32) &&& 31))) ||| (sv5 <<< ((12 : Int32) &&& 31))) ||| (sv6 <<< ((6 : Int32) &&& 31))), oi ((6 : Int32) + (-6 : Int32)), oi sv6, oi 4] []))
  rw [show ((6 : Int32) + (-6 : Int32)) = (0 : Int32) from by decide]
  show G (T5.setTop (mkF m 227 #[oa dc, oa sr, oi 7, oi 7, oa o, oa tab, oi 3, oi ((((0 : Int32) ||| (sv4 <<< ((18 : Int32) &&& 31))) ||| (sv5 <<< ((12 : Int32) &&& 31))) ||| (sv6 <<< ((6 : Int32) &&& 31))), oi 0, oi sv6, oi 4] []))
  refine q_iload B X5 d28_227 rfl rfl ?_
  refine q_ifYes 278 B X5 d28_229 rfl ((if0 _ _).trans (flt (by decide)).2.1) rfl rfl (by decide) ?_
  refine q_goto 28 B X5 d28_278 rfl rfl (by decide) ?_
  refine q_iloadN B X5 d28_28 rfl rfl ?_
  refine q_iloadN B X5 d28_29 rfl rfl ?_
  refine q_icmpYes 281 B X5 d28_30 rfl (flt (by decide)).2.1 rfl rfl (by decide) ?_
  refine q_iload B X5 d28_281 rfl rfl ?_
  refine q_bipush B X5 d28_283 rfl ?_
  refine q_icmpYes 305 B X5 d28_285 rfl (feq (by decide)).2 rfl rfl (by decide) ?_
  refine q_iload B X5 d28_305 rfl rfl ?_
  refine q_ifNo B X5 d28_307 rfl ((if0 _ _).trans (teq (by decide)).2) rfl ?_
  refine q_aload B X5 d28_310 rfl rfl rfl ?_
  refine q_iload B X5 d28_312 rfl rfl ?_
  refine q_iinc B X5 d28_314 rfl rfl rfl ?_
  show G (T5.setTop (mkF m 317 #[oa dc, oa sr, oi 7, oi 7, oa o, oa tab, oi ((3 : Int32) + (1 : Int32)), oi ((((0 : Int32) ||| (sv4 <<< ((18 : Int32) &&& 31))) ||| (sv5 <<< ((12 : Int32) &&& 31))) ||| (sv6 <<< ((6 : Int32) &&& 31))), oi 0, oi sv6, oi 4] [(.int 3), (.ref o)]))
  rw [show ((3 : Int32) + (1 : Int32)) = (4 : Int32) from by decide]
  show G (T5.setTop (mkF m 317 #[oa dc, oa sr, oi 7, oi 7, oa o, oa tab, oi 4, oi ((((0 : Int32) ||| (sv4 <<< ((18 : Int32) &&& 31))) ||| (sv5 <<< ((12 : Int32) &&& 31))) ||| (sv6 <<< ((6 : Int32) &&& 31))), oi 0, oi sv6, oi 4] [(.int 3), (.ref o)]))
  refine q_iload B X5 d28_317 rfl rfl ?_
  refine q_bipush B X5 d28_319 rfl ?_
  refine q_ishr B X5 d28_321 rfl rfl ?_
  refine q_i2b B X5 d28_322 rfl rfl ?_
  show G (T5.setTop (mkF m 323 #[oa dc, oa sr, oi 7, oi 7, oa o, oa tab, oi 4, oi ((((0 : Int32) ||| (sv4 <<< ((18 : Int32) &&& 31))) ||| (sv5 <<< ((12 : Int32) &&& 31))) ||| (sv6 <<< ((6 : Int32) &&& 31))), oi 0, oi sv6, oi 4] [(.int ((((((0 : Int32) ||| (sv4 <<< ((18 : Int32) &&& 31))) ||| (sv5 <<< ((12 : Int32) &&& 31))) ||| (sv6 <<< ((6 : Int32) &&& 31))) >>> ((16 : Int32) &&& 31)).toInt8.toInt32)), (.int 3), (.ref o)]))
  refine qsb 3 B X5 hZ e5 r5_0 d28_323 (by decide) rfl (Nat.le_of_ble_eq_true rfl) fun T14 h14 X14 e14 W14 V14 => ?_
  have K14 := K5.wr W14 (own_mi 0 rfl)
  have O14 := O5.wr W14 g7_G
  have N14 := Fr.snoc X14 N5 g7_G
  refine q_aload B X14 d28_324 rfl rfl rfl ?_
  refine q_iload B X14 d28_326 rfl rfl ?_
  refine q_iinc B X14 d28_328 rfl rfl rfl ?_
  show G (T14.setTop (mkF m 331 #[oa dc, oa sr, oi 7, oi 7, oa o, oa tab, oi ((4 : Int32) + (1 : Int32)), oi ((((0 : Int32) ||| (sv4 <<< ((18 : Int32) &&& 31))) ||| (sv5 <<< ((12 : Int32) &&& 31))) ||| (sv6 <<< ((6 : Int32) &&& 31))), oi 0, oi sv6, oi 4] [(.int 4), (.ref o)]))
  rw [show ((4 : Int32) + (1 : Int32)) = (5 : Int32) from by decide]
  show G (T14.setTop (mkF m 331 #[oa dc, oa sr, oi 7, oi 7, oa o, oa tab, oi 5, oi ((((0 : Int32) ||| (sv4 <<< ((18 : Int32) &&& 31))) ||| (sv5 <<< ((12 : Int32) &&& 31))) ||| (sv6 <<< ((6 : Int32) &&& 31))), oi 0, oi sv6, oi 4] [(.int 4), (.ref o)]))
  refine q_iload B X14 d28_331 rfl rfl ?_
  refine q_bipush B X14 d28_333 rfl ?_
  refine q_ishr B X14 d28_335 rfl rfl ?_
  refine q_i2b B X14 d28_336 rfl rfl ?_
  show G (T14.setTop (mkF m 337 #[oa dc, oa sr, oi 7, oi 7, oa o, oa tab, oi 5, oi ((((0 : Int32) ||| (sv4 <<< ((18 : Int32) &&& 31))) ||| (sv5 <<< ((12 : Int32) &&& 31))) ||| (sv6 <<< ((6 : Int32) &&& 31))), oi 0, oi sv6, oi 4] [(.int ((((((0 : Int32) ||| (sv4 <<< ((18 : Int32) &&& 31))) ||| (sv5 <<< ((12 : Int32) &&& 31))) ||| (sv6 <<< ((6 : Int32) &&& 31))) >>> ((8 : Int32) &&& 31)).toInt8.toInt32)), (.int 4), (.ref o)]))
  refine qsb 4 B X14 hZ e14 V14 d28_337 (by decide) rfl (Nat.le_of_ble_eq_true rfl) fun T15 h15 X15 e15 W15 V15 => ?_
  have K15 := K14.wr W15 (own_mi 0 rfl)
  have O15 := O14.wr W15 g7_G
  have N15 := Fr.snoc X15 N14 g7_G
  refine q_goto 358 B X15 d28_338 rfl rfl (by decide) ?_
  refine q_iloadN B X15 d28_358 rfl rfl ?_
  refine q_iloadN B X15 d28_359 rfl rfl ?_
  refine q_icmpYes 416 B X15 d28_360 rfl (flt (by decide)).2.1 rfl rfl (by decide) ?_
  refine q_iload B X15 d28_416 rfl rfl ?_
  show G (T15.setTop (mkF m 418 #[oa dc, oa sr, oi 7, oi 7, oa o, oa tab, oi 5, oi ((((0 : Int32) ||| (sv4 <<< ((18 : Int32) &&& 31))) ||| (sv5 <<< ((12 : Int32) &&& 31))) ||| (sv6 <<< ((6 : Int32) &&& 31))), oi 0, oi sv6, oi 4] [(.int 5)]))
  exact qRI B hR hret X15 d28_418 e15 ⟨rfl, N15, K15, V15⟩ (by decide)
theorem own_decb7 (hw : own_W Z a0) {dc tab : Addr} {ktab : ClassId} {sr : Addr} {ks : ClassId} {ch0 ch1 ch2 ch3 ch4 ch5 ch6 : Int32} (sv0 sv1 sv2 sv3 sv4 sv5 sv6 : Int32) (O0 : own_Old Z h0) (g0_S : Sta Z Z.heap "java/util/Base64$Decoder" "fromBase64URL" "[I" (.ref tab)) (g1_E : Exa Z h0 dc "java/util/Base64$Decoder") (g2_F : Fld Z h0 dc "java/util/Base64$Decoder" "isURL" "Z" (.int 1)) (g3_F : Fld Z h0 dc "java/util/Base64$Decoder" "isMIME" "Z" (.int 0)) (g4_V : Arv Z h0 tab ktab .int 256 (own_TAB.map Value.int) (.int 0)) (g5_V : Arv Z h0 sr ks .byte (7 : Int32) [(.int ch0), (.int ch1), (.int ch2), (.int ch3), (.int ch4), (.int ch5), (.int ch6)] (.int 0)) (g6_hs0 : own_sy ch0 sv0) (g7_hs1 : own_sy ch1 sv1) (g8_hs2 : own_sy ch2 sv2) (g9_hs3 : own_sy ch3 sv3) (g10_hs4 : own_sy ch4 sv4) (g11_hs5 : own_sy ch5 sv5) (g12_hs6 : own_sy ch6 sv6) : own_Con l Z ⟨"java/util/Base64$Decoder", "decode", "([B)[B"⟩ jdk_2450_method_2_code 4 (some (.array .byte)) [] ⟨2, 1, 5, 49⟩ #[(.ref dc), (.ref sr)] h0 (fun rv rh rL => ∃ (o : Addr) (ko : ClassId), rv = some (.ref o) ∧ own_Fr Z rL ∧ Keep h0 rh [] ∧ h0.size ≤ o ∧ (Arv Z rh o ko .byte (5 : Int32) [(.int (nar .byte ((((((sv0 <<< ((18 : Int32) &&& 31)) ||| (sv1 <<< ((12 : Int32) &&& 31))) ||| (sv2 <<< ((6 : Int32) &&& 31))) ||| sv3) >>> ((16 : Int32) &&& 31)).toInt8.toInt32))), (.int (nar .byte ((((((sv0 <<< ((18 : Int32) &&& 31)) ||| (sv1 <<< ((12 : Int32) &&& 31))) ||| (sv2 <<< ((6 : Int32) &&& 31))) ||| sv3) >>> ((8 : Int32) &&& 31)).toInt8.toInt32))), (.int (nar .byte (((((sv0 <<< ((18 : Int32) &&& 31)) ||| (sv1 <<< ((12 : Int32) &&& 31))) ||| (sv2 <<< ((6 : Int32) &&& 31))) ||| sv3).toInt8.toInt32))), (.int (nar .byte ((((((0 : Int32) ||| (sv4 <<< ((18 : Int32) &&& 31))) ||| (sv5 <<< ((12 : Int32) &&& 31))) ||| (sv6 <<< ((6 : Int32) &&& 31))) >>> ((16 : Int32) &&& 31)).toInt8.toInt32))), (.int (nar .byte ((((((0 : Int32) ||| (sv4 <<< ((18 : Int32) &&& 31))) ||| (sv5 <<< ((12 : Int32) &&& 31))) ||| (sv6 <<< ((6 : Int32) &&& 31))) >>> ((8 : Int32) &&& 31)).toInt8.toInt32)))] (.int 0))) := by
  refine own_st hw (plainFor_of_name (by decide +kernel)) #[oa dc, oa sr, .unset, .unset] (fun _ => rfl) fun p e s m below meth c s₁ G B hown hnm hret hZ X0 e0 N0 hR => ?_
  refine q_aloadN B X0 d26_0 rfl rfl rfl ?_
  refine q_aloadN B X0 d26_1 rfl rfl rfl ?_
  refine q_iconst B X0 d26_2 rfl ?_
  refine q_aloadN B X0 d26_3 rfl rfl rfl ?_
  refine qal B X0 hZ e0 g5_V d26_4 ?_
  show G (s₁.setTop (mkF m 5 #[oa dc, oa sr, .unset, .unset] [(.int 7), (.int 0), (.ref sr), (.ref dc)]))
  refine qP B X0 hZ hown 129 130 132 131 90 133 rfl rfl rfl rfl rfl rfl (own_dol7 hw (ch0 := ch0) (ch1 := ch1) (ch2 := ch2) (ch3 := ch3) (ch4 := ch4) (ch5 := ch5) (ch6 := ch6) sv0 sv1 sv2 sv3 sv4 sv5 sv6 O0 g0_S g1_E g2_F g3_F g5_V g6_hs0 g7_hs1 g8_hs2 g9_hs3 g10_hs4 g11_hs5 g12_hs6) e0 g1_E own_pd17 rfl rfl d26_5 0 rfl rfl rfl (by decide) ?_
  rintro T2 h2 _ L2 X2 e2 ⟨rfl, M2, rfl⟩
  have N2 := Fr.app N0 M2
  refine qna 5 B X2 hZ 31 rfl e2 d26_8 (by decide) (by decide) (by decide) fun T3 h3 k3 b3 z3 X3 e3 E3 A3 => ?_
  have K3 := (Keep.refl h0 []).ext E3
  have O3 := O0.ext E3
  have V3 : Arv Z h3 b3 k3 .byte (5 : Int32) [(.int 0), (.int 0), (.int 0), (.int 0), (.int 0)] (.int 0) := (Arv.new A3 (by decide)).pad (pad_rep [] (.int 0) 5)
  refine q_astoreN B X3 d26_10 rfl rfl rfl rfl ?_
  refine q_aloadN B X3 d26_11 rfl rfl rfl ?_
  refine q_aloadN B X3 d26_12 rfl rfl rfl ?_
  refine q_iconst B X3 d26_13 rfl ?_
  refine q_aloadN B X3 d26_14 rfl rfl rfl ?_
  have f5 := (g5_V.ext E3)
  refine qal B X3 hZ e3 f5 d26_15 ?_
  refine q_aloadN B X3 d26_16 rfl rfl rfl ?_
  show G (T3.setTop (mkF m 17 #[oa dc, oa sr, oa b3, .unset] [(.ref b3), (.int 7), (.int 0), (.ref sr), (.ref dc)]))
  have f7 := (g1_E.ext E3)
  have f8 := (g2_F.ext E3)
  have f9 := (g3_F.ext E3)
  have f10 := (g4_V.ext E3)
  refine qP B X3 hZ hown 141 142 144 143 90 145 rfl rfl rfl rfl rfl rfl (own_dec07 hw (ch0 := ch0) (ch1 := ch1) (ch2 := ch2) (ch3 := ch3) (ch4 := ch4) (ch5 := ch5) (ch6 := ch6) sv0 sv1 sv2 sv3 sv4 sv5 sv6 O3 g0_S f7 f8 f9 f10 f5 V3 (own_ge O0 (Nat.le_of_eq z3.symm)) (own_ne g5_V.lt (Nat.le_of_eq z3.symm)) (own_ne g4_V.lt (Nat.le_of_eq z3.symm)) (own_ne g1_E.lt (Nat.le_of_eq z3.symm)) g6_hs0 g7_hs1 g8_hs2 g9_hs3 g10_hs4 g11_hs5 g12_hs6) e3 f7 own_pd18 rfl rfl d26_17 0 rfl rfl rfl (by decide) ?_
  rintro T6 h6 _ L6 X6 e6 ⟨rfl, M6, J6, r6_0⟩
  have N6 := Fr.app N2 M6
  have K6 := K3.trans J6 (allS (Or.inr (Nat.le_trans (Keep.refl h0 []).1 (Nat.le_of_eq z3.symm))) all0)
  have O6 := O3.keep J6 (allS (own_ge O0 (Nat.le_of_eq z3.symm)) all0)
  refine q_istoreN B X6 d26_20 rfl rfl rfl ?_
  refine q_iloadN B X6 d26_21 rfl rfl ?_
  refine q_aloadN B X6 d26_22 rfl rfl rfl ?_
  refine qal B X6 hZ e6 r6_0 d26_23 ?_
  refine q_icmpYes 33 B X6 d26_24 rfl (teq (by decide)).1 rfl rfl (by decide) ?_
  refine q_aloadN B X6 d26_33 rfl rfl rfl ?_
  show G (T6.setTop (mkF m 34 #[oa dc, oa sr, oa b3, oi 5] [(.ref b3)]))
  exact qRA B hR hret rfl rfl X6 d26_34 e6 ⟨b3, k3, rfl, N6, K6, (Nat.le_trans (Keep.refl h0 []).1 (Nat.le_of_eq z3.symm)), r6_0⟩ (by decide)
theorem own_decs7 (hw : own_W Z a0) {dc iso u8 tab : Addr} {ktab : ClassId} {a : Addr} {cpt : Int32} {t : Addr} {kt : ClassId} {ch0 ch1 ch2 ch3 ch4 ch5 ch6 : Int32} (sv0 sv1 sv2 sv3 sv4 sv5 sv6 : Int32) (O0 : own_Old Z h0) (g0_S : Sta Z Z.heap "sun/nio/cs/ISO_8859_1" "INSTANCE" "Lsun/nio/cs/ISO_8859_1;" (.ref iso)) (g1_S : Sta Z Z.heap "sun/nio/cs/UTF_8" "INSTANCE" "Lsun/nio/cs/UTF_8;" (.ref u8)) (g2_S : Sta Z Z.heap "java/util/Base64$Decoder" "fromBase64URL" "[I" (.ref tab)) (g3_hiu : iso ≠ u8) (g4_E : Exa Z h0 dc "java/util/Base64$Decoder") (g5_F : Fld Z h0 dc "java/util/Base64$Decoder" "isURL" "Z" (.int 1)) (g6_F : Fld Z h0 dc "java/util/Base64$Decoder" "isMIME" "Z" (.int 0)) (g7_V : Arv Z h0 tab ktab .int 256 (own_TAB.map Value.int) (.int 0)) (g8_E : Exa Z h0 a "java/lang/String") (g9_F : Fld Z h0 a "java/lang/String" "coder" "B" (.int 0)) (g10_F : Fld Z h0 a "java/lang/String" "value" "[B" (.ref t)) (g11_E : Exa Z h0 t "[B") (g12_V : Arv Z h0 t kt .byte (7 : Int32) [(.int ch0), (.int ch1), (.int ch2), (.int ch3), (.int ch4), (.int ch5), (.int ch6)] (.int 0)) (g13_S : Sta Z Z.heap "java/lang/String" "COMPACT_STRINGS" "Z" (.int cpt)) (g14_hcpt : ¬ (cpt = (0 : Int32))) (g15_hs0 : own_sy ch0 sv0) (g16_hs1 : own_sy ch1 sv1) (g17_hs2 : own_sy ch2 sv2) (g18_hs3 : own_sy ch3 sv3) (g19_hs4 : own_sy ch4 sv4) (g20_hs5 : own_sy ch5 sv5) (g21_hs6 : own_sy ch6 sv6) : own_Con l Z ⟨"java/util/Base64$Decoder", "decode", "(Ljava/lang/String;)[B"⟩ jdk_2450_method_3_code 2 (some (.array .byte)) [] ⟨5, 2, 13, 76⟩ #[(.ref dc), (.ref a)] h0 (fun rv rh rL => ∃ (o : Addr) (ko : ClassId), rv = some (.ref o) ∧ own_Fr Z rL ∧ Keep h0 rh [] ∧ h0.size ≤ o ∧ (Arv Z rh o ko .byte (5 : Int32) [(.int (nar .byte ((((((sv0 <<< ((18 : Int32) &&& 31)) ||| (sv1 <<< ((12 : Int32) &&& 31))) ||| (sv2 <<< ((6 : Int32) &&& 31))) ||| sv3) >>> ((16 : Int32) &&& 31)).toInt8.toInt32))), (.int (nar .byte ((((((sv0 <<< ((18 : Int32) &&& 31)) ||| (sv1 <<< ((12 : Int32) &&& 31))) ||| (sv2 <<< ((6 : Int32) &&& 31))) ||| sv3) >>> ((8 : Int32) &&& 31)).toInt8.toInt32))), (.int (nar .byte (((((sv0 <<< ((18 : Int32) &&& 31)) ||| (sv1 <<< ((12 : Int32) &&& 31))) ||| (sv2 <<< ((6 : Int32) &&& 31))) ||| sv3).toInt8.toInt32))), (.int (nar .byte ((((((0 : Int32) ||| (sv4 <<< ((18 : Int32) &&& 31))) ||| (sv5 <<< ((12 : Int32) &&& 31))) ||| (sv6 <<< ((6 : Int32) &&& 31))) >>> ((16 : Int32) &&& 31)).toInt8.toInt32))), (.int (nar .byte ((((((0 : Int32) ||| (sv4 <<< ((18 : Int32) &&& 31))) ||| (sv5 <<< ((12 : Int32) &&& 31))) ||| (sv6 <<< ((6 : Int32) &&& 31))) >>> ((8 : Int32) &&& 31)).toInt8.toInt32)))] (.int 0))) := by
  refine own_st hw (plainFor_of_name (by decide +kernel)) #[oa dc, oa a] (fun _ => rfl) fun p e s m below meth c s₁ G B hown hnm hret hZ X0 e0 N0 hR => ?_
  refine q_aloadN B X0 d21_0 rfl rfl rfl ?_
  refine q_aloadN B X0 d21_1 rfl rfl rfl ?_
  refine qgs B X0 hZ hown 96 rfl Via.refl e0 g0_S O0 d21_2 fun T1 X1 e1 => ?_
  show G (T1.setTop (mkF m 5 #[oa dc, oa a] [(.ref iso), (.ref a), (.ref dc)]))
  refine qV B X1 hZ hown 98 99 101 100 15 102 rfl rfl rfl rfl rfl rfl (own_gby hw O0 g0_S g1_S g3_hiu g8_E g9_F g10_F g11_E g12_V (by decide) g13_S g14_hcpt) e1 g8_E own_pd16 rfl rfl d21_5 1 rfl rfl rfl (by decide) ?_
  rintro T2 h2 _ L2 X2 e2 ⟨u_2, ku_2, rfl, M2, J2, y2_0, r2_0⟩
  have N2 := Fr.app N0 M2
  have K2 := (Keep.refl h0 []).trans J2 all0
  have O2 := O0.keep J2 all0
  show G (T2.setTop (mkF m 8 #[oa dc, oa a] [(.ref u_2), (.ref dc)]))
  have f4 := (g4_E.keep J2)
  have f5 := (g5_F.keep J2 nin0)
  have f6 := (g6_F.keep J2 nin0)
  have f7 := (g7_V.keep J2 nin0)
  refine qV B X2 hZ hown 124 125 127 126 90 128 rfl rfl rfl rfl rfl rfl (own_decb7 hw (ch0 := ch0) (ch1 := ch1) (ch2 := ch2) (ch3 := ch3) (ch4 := ch4) (ch5 := ch5) (ch6 := ch6) sv0 sv1 sv2 sv3 sv4 sv5 sv6 O2 g2_S f4 f5 f6 f7 r2_0 g15_hs0 g16_hs1 g17_hs2 g18_hs3 g19_hs4 g20_hs5 g21_hs6) e2 f4 own_pd19 rfl rfl d21_8 0 rfl rfl rfl (by decide) ?_
  rintro T3 h3 _ L3 X3 e3 ⟨o_3, ko_3, rfl, M3, J3, y3_0, r3_0⟩
  have N3 := Fr.app N2 M3
  have K3 := K2.trans J3 all0
  have O3 := O2.keep J3 all0
  show G (T3.setTop (mkF m 11 #[oa dc, oa a] [(.ref o_3)]))
  exact qRA B hR hret rfl rfl X3 d21_11 e3 ⟨o_3, ko_3, rfl, N3, K3, (Nat.le_trans K2.1 y3_0), r3_0⟩ (by decide)
theorem own_b64_7 (hw : own_W Z a0) {dc iso u8 tab : Addr} {ktab : ClassId} {a : Addr} {cpt : Int32} {t : Addr} {kt : ClassId} (ch0 ch1 ch2 ch3 ch4 ch5 ch6 sv0 sv1 sv2 sv3 sv4 sv5 sv6 : Int32) (O0 : own_Old Z h0) (g0_S : Sta Z Z.heap "java/util/Base64$Decoder" "RFC4648_URLSAFE" "Ljava/util/Base64$Decoder;" (.ref dc)) (g1_S : Sta Z Z.heap "sun/nio/cs/ISO_8859_1" "INSTANCE" "Lsun/nio/cs/ISO_8859_1;" (.ref iso)) (g2_S : Sta Z Z.heap "sun/nio/cs/UTF_8" "INSTANCE" "Lsun/nio/cs/UTF_8;" (.ref u8)) (g3_S : Sta Z Z.heap "java/util/Base64$Decoder" "fromBase64URL" "[I" (.ref tab)) (g4_hiu : iso ≠ u8) (g5_E : Exa Z h0 dc "java/util/Base64$Decoder") (g6_F : Fld Z h0 dc "java/util/Base64$Decoder" "isURL" "Z" (.int 1)) (g7_F : Fld Z h0 dc "java/util/Base64$Decoder" "isMIME" "Z" (.int 0)) (g8_V : Arv Z h0 tab ktab .int 256 (own_TAB.map Value.int) (.int 0)) (g9_E : Exa Z h0 a "java/lang/String") (g10_F : Fld Z h0 a "java/lang/String" "coder" "B" (.int 0)) (g11_F : Fld Z h0 a "java/lang/String" "value" "[B" (.ref t)) (g12_E : Exa Z h0 t "[B") (g13_V : Arv Z h0 t kt .byte (Int32.ofNat [ch0, ch1, ch2, ch3, ch4, ch5, ch6].length) ([ch0, ch1, ch2, ch3, ch4, ch5, ch6].map fun c => Value.int c.toInt8.toInt32) (.int 0)) (g14_S : Sta Z Z.heap "java/lang/String" "COMPACT_STRINGS" "Z" (.int cpt)) (g15_hcpt : ¬ (cpt = (0 : Int32))) (g16_hs0 : own_sy ch0 sv0) (g17_hs1 : own_sy ch1 sv1) (g18_hs2 : own_sy ch2 sv2) (g19_hs3 : own_sy ch3 sv3) (g20_hs4 : own_sy ch4 sv4) (g21_hs5 : own_sy ch5 sv5) (g22_hs6 : own_sy ch6 sv6) : own_Con l Z ⟨"com/example/research_access_policy/researchaccesspolicy/token/Base64Url", "decode", "(Ljava/lang/String;)[B"⟩ prog_16_method_2_code 1 (some (.array .byte)) [] ⟨6, 2, 13, 89⟩ #[(.ref a)] h0 (fun rv rh rL => ∃ (o : Addr) (ko : ClassId), rv = some (.ref o) ∧ own_Fr Z rL ∧ Keep h0 rh [] ∧ h0.size ≤ o ∧ (Arv Z rh o ko .byte (5 : Int32) [(.int (nar .byte ((((((sv0 <<< ((18 : Int32) &&& 31)) ||| (sv1 <<< ((12 : Int32) &&& 31))) ||| (sv2 <<< ((6 : Int32) &&& 31))) ||| sv3) >>> ((16 : Int32) &&& 31)).toInt8.toInt32))), (.int (nar .byte ((((((sv0 <<< ((18 : Int32) &&& 31)) ||| (sv1 <<< ((12 : Int32) &&& 31))) ||| (sv2 <<< ((6 : Int32) &&& 31))) ||| sv3) >>> ((8 : Int32) &&& 31)).toInt8.toInt32))), (.int (nar .byte (((((sv0 <<< ((18 : Int32) &&& 31)) ||| (sv1 <<< ((12 : Int32) &&& 31))) ||| (sv2 <<< ((6 : Int32) &&& 31))) ||| sv3).toInt8.toInt32))), (.int (nar .byte ((((((0 : Int32) ||| (sv4 <<< ((18 : Int32) &&& 31))) ||| (sv5 <<< ((12 : Int32) &&& 31))) ||| (sv6 <<< ((6 : Int32) &&& 31))) >>> ((16 : Int32) &&& 31)).toInt8.toInt32))), (.int (nar .byte ((((((0 : Int32) ||| (sv4 <<< ((18 : Int32) &&& 31))) ||| (sv5 <<< ((12 : Int32) &&& 31))) ||| (sv6 <<< ((6 : Int32) &&& 31))) >>> ((8 : Int32) &&& 31)).toInt8.toInt32)))] (.int 0))) := by
  refine own_st hw (plainFor_of_name (by decide +kernel)) #[oa a] (fun _ => rfl) fun p e s m below meth c s₁ G B hown hnm hret hZ X0 e0 N0 hR => ?_
  refine q_aloadN B X0 d10_0 rfl rfl rfl ?_
  refine q_bipush B X0 d10_1 rfl ?_
  show G (s₁.setTop (mkF m 3 #[oa a] [(.int 61), (.ref a)]))
  refine qV B X0 hZ hown 46 47 49 48 15 50 rfl rfl rfl rfl rfl rfl (own_sio1 hw [ch0, ch1, ch2, ch3, ch4, ch5, ch6] O0 g9_E g10_F g11_F g13_V (Nat.le_of_ble_eq_true rfl) (own_allc (own_sy8 g16_hs0) (own_allc (own_sy8 g17_hs1) (own_allc (own_sy8 g18_hs2) (own_allc (own_sy8 g19_hs3) (own_allc (own_sy8 g20_hs4) (own_allc (own_sy8 g21_hs5) (own_allc (own_sy8 g22_hs6) own_alln))))))) g14_S g15_hcpt) e0 g9_E own_pd11 rfl rfl d10_3 0 rfl rfl rfl (by decide) ?_
  rintro T1 h1 _ L1 X1 e1 ⟨r_1, rfl, M1, rfl, r1_0⟩
  have N1 := Fr.app N0 M1
  refine q_ifYes 19 B X1 d10_6 rfl ((if0 _ _).trans (tlt (r1_0.mpr (own_allc (own_sy_e g16_hs0).2.2.1 (own_allc (own_sy_e g17_hs1).2.2.1 (own_allc (own_sy_e g18_hs2).2.2.1 (own_allc (own_sy_e g19_hs3).2.2.1 (own_allc (own_sy_e g20_hs4).2.2.1 (own_allc (own_sy_e g21_hs5).2.2.1 (own_allc (own_sy_e g22_hs6).2.2.1 own_alln))))))))).1) rfl rfl (by decide) ?_
  show G (T1.setTop (mkF m 19 #[oa a] []))
  have W2 : Arv Z h0 t kt .byte (7 : Int32) [(.int ch0), (.int ch1), (.int ch2), (.int ch3), (.int ch4), (.int ch5), (.int ch6)] (.int 0) := by have q := g13_V; simp only [List.map_cons, List.map_nil, own_b7 g16_hs0, own_b7 g17_hs1, own_b7 g18_hs2, own_b7 g19_hs3, own_b7 g20_hs4, own_b7 g21_hs5, own_b7 g22_hs6] at q; exact q
  show G (T1.setTop (mkF m 19 #[oa a] []))
  refine qS B X1 hZ hown 85 86 87 88 rfl rfl rfl rfl (own_gud hw O0 g0_S) e1 own_pd12 rfl rfl d10_19 0 rfl rfl rfl (by decide) ?_
  rintro T3 h3 _ L3 X3 e3 ⟨rfl, M3, rfl⟩
  have N3 := Fr.app N1 M3
  refine q_aloadN B X3 d10_22 rfl rfl rfl ?_
  show G (T3.setTop (mkF m 23 #[oa a] [(.ref a), (.ref dc)]))
  refine qV B X3 hZ hown 91 92 94 93 90 95 rfl rfl rfl rfl rfl rfl (own_decs7 hw (ch0 := ch0) (ch1 := ch1) (ch2 := ch2) (ch3 := ch3) (ch4 := ch4) (ch5 := ch5) (ch6 := ch6) sv0 sv1 sv2 sv3 sv4 sv5 sv6 O0 g1_S g2_S g3_S g4_hiu g5_E g6_F g7_F g8_V g9_E g10_F g11_F g12_E W2 g14_S g15_hcpt g16_hs0 g17_hs1 g18_hs2 g19_hs3 g20_hs4 g21_hs5 g22_hs6) e3 g5_E own_pd20 rfl rfl d10_23 0 rfl rfl rfl (by decide) ?_
  rintro T4 h4 _ L4 X4 e4 ⟨o_4, ko_4, rfl, M4, J4, y4_0, r4_0⟩
  have N4 := Fr.app N3 M4
  have K4 := (Keep.refl h0 []).trans J4 all0
  have O4 := O0.keep J4 all0
  show G (T4.setTop (mkF m 26 #[oa a] [(.ref o_4)]))
  exact qRA B hR hret rfl rfl X4 d10_26 e4 ⟨o_4, ko_4, rfl, N4, K4, (Nat.le_trans (Keep.refl h0 []).1 y4_0), r4_0⟩ (by decide)
theorem own_dol8 (hw : own_W Z a0) {dc tab sr : Addr} {ks : ClassId} {ch0 ch1 ch2 ch3 ch4 ch5 ch6 ch7 : Int32} (sv0 sv1 sv2 sv3 sv4 sv5 sv6 sv7 : Int32) (O0 : own_Old Z h0) (g0_S : Sta Z Z.heap "java/util/Base64$Decoder" "fromBase64URL" "[I" (.ref tab)) (g1_E : Exa Z h0 dc "java/util/Base64$Decoder") (g2_F : Fld Z h0 dc "java/util/Base64$Decoder" "isURL" "Z" (.int 1)) (g3_F : Fld Z h0 dc "java/util/Base64$Decoder" "isMIME" "Z" (.int 0)) (g4_V : Arv Z h0 sr ks .byte (8 : Int32) [(.int ch0), (.int ch1), (.int ch2), (.int ch3), (.int ch4), (.int ch5), (.int ch6), (.int ch7)] (.int 0)) (g5_hs0 : own_sy ch0 sv0) (g6_hs1 : own_sy ch1 sv1) (g7_hs2 : own_sy ch2 sv2) (g8_hs3 : own_sy ch3 sv3) (g9_hs4 : own_sy ch4 sv4) (g10_hs5 : own_sy ch5 sv5) (g11_hs6 : own_sy ch6 sv6) (g12_hs7 : own_sy ch7 sv7) : own_Con l Z ⟨"java/util/Base64$Decoder", "decodedOutLength", "([BII)I"⟩ jdk_2450_method_7_code 9 (some .int) [] ⟨0, 0, 0, 0⟩ #[(.ref dc), (.ref sr), (.int 0), (.int 8)] h0 (fun rv rh rL => rv = some (.int 6) ∧ own_Fr Z rL ∧ h0 = rh) := by
  refine own_st hw (plainFor_of_name (by decide +kernel)) #[oa dc, oa sr, oi 0, oi 8, .unset, .unset, .unset, .unset, .unset] (fun m => by first | (simp [entryFrame, mkF, argsToLocals, Value.category]; done) | rfl) fun p e s m below meth c s₁ G B hown hnm hret hZ X0 e0 N0 hR => ?_
  obtain ⟨hG, hx, hby, hml, -⟩ := id B
  refine q_aloadN B X0 d27_0 rfl rfl rfl ?_
  refine qgf B X0 hZ hown 134 rfl Via.refl e0 g2_F d27_1 fun T1 X1 e1 => ?_
  refine q_ifNo B X1 d27_4 rfl ((if0 _ _).trans (feq (by decide)).1) rfl ?_
  refine qgs B X1 hZ hown 136 rfl Via.refl e1 g0_S O0 d27_7 fun T2 X2 e2 => ?_
  refine q_goto 16 B X2 d27_10 rfl rfl (by decide) ?_
  refine q_astore B X2 d27_16 rfl rfl rfl rfl ?_
  refine q_iconst B X2 d27_18 rfl ?_
  refine q_istore B X2 d27_19 rfl rfl rfl ?_
  refine q_iloadN B X2 d27_21 rfl rfl ?_
  refine q_iloadN B X2 d27_22 rfl rfl ?_
  refine q_isub B X2 d27_23 rfl rfl ?_
  show G (T2.setTop (mkF m 24 #[oa dc, oa sr, oi 0, oi 8, oa tab, oi 0, .unset, .unset, .unset] [(.int ((8 : Int32) - (0 : Int32)))]))
  rw [show ((8 : Int32) - (0 : Int32)) = (8 : Int32) from by decide]
  show G (T2.setTop (mkF m 24 #[oa dc, oa sr, oi 0, oi 8, oa tab, oi 0, .unset, .unset, .unset] [(.int 8)]))
  refine q_istore B X2 d27_24 rfl rfl rfl ?_
  refine q_iload B X2 d27_26 rfl rfl ?_
  refine q_ifYes 33 B X2 d27_28 rfl ((if0 _ _).trans (feq (by decide)).2) rfl rfl (by decide) ?_
  refine q_iload B X2 d27_33 rfl rfl ?_
  refine q_iconst B X2 d27_35 rfl ?_
  refine q_icmpYes 66 B X2 d27_36 rfl (flt (by decide)).2.1 rfl rfl (by decide) ?_
  refine q_aloadN B X2 d27_66 rfl rfl rfl ?_
  refine qgf B X2 hZ hown 137 rfl Via.refl e2 g3_F d27_67 fun T3 X3 e3 => ?_
  refine q_ifYes 141 B X3 d27_70 rfl ((if0 _ _).trans (teq (by decide)).1) rfl rfl (by decide) ?_
  refine q_aloadN B X3 d27_141 rfl rfl rfl ?_
  refine q_iloadN B X3 d27_142 rfl rfl ?_
  refine q_iconst B X3 d27_143 rfl ?_
  refine q_isub B X3 d27_144 rfl rfl ?_
  show G (T3.setTop (mkF m 145 #[oa dc, oa sr, oi 0, oi 8, oa tab, oi 0, oi 8, .unset, .unset] [(.int ((8 : Int32) - (1 : Int32))), (.ref sr)]))
  rw [show ((8 : Int32) - (1 : Int32)) = (7 : Int32) from by decide]
  show G (T3.setTop (mkF m 145 #[oa dc, oa sr, oi 0, oi 8, oa tab, oi 0, oi 8, .unset, .unset] [(.int 7), (.ref sr)]))
  refine qlb (v := (.int ch7)) B X3 hZ e3 g4_V d27_145 (by decide) rfl ?_
  refine q_bipush B X3 d27_146 rfl ?_
  refine q_icmpYes 167 B X3 d27_148 rfl (feq (own_sy_e g12_hs7).2.2.1).2 rfl rfl (by decide) ?_
  refine q_iload B X3 d27_167 rfl rfl ?_
  refine q_ifNo B X3 d27_169 rfl ((if0 _ _).trans (teq (by decide)).2) rfl ?_
  refine q_iload B X3 d27_172 rfl rfl ?_
  refine q_iconst B X3 d27_174 rfl ?_
  refine q_iand B X3 d27_175 rfl rfl ?_
  show G (T3.setTop (mkF m 176 #[oa dc, oa sr, oi 0, oi 8, oa tab, oi 0, oi 8, .unset, .unset] [(.int ((8 : Int32) &&& (3 : Int32)))]))
  rw [show ((8 : Int32) &&& (3 : Int32)) = (0 : Int32) from by decide]
  show G (T3.setTop (mkF m 176 #[oa dc, oa sr, oi 0, oi 8, oa tab, oi 0, oi 8, .unset, .unset] [(.int 0)]))
  refine q_ifYes 187 B X3 d27_176 rfl ((if0 _ _).trans (teq (by decide)).1) rfl rfl (by decide) ?_
  refine q_iconst B X3 d27_187 rfl ?_
  refine q_iload B X3 d27_188 rfl rfl ?_
  refine q_i2l B X3 d27_190 rfl rfl ?_
  refine hG _ _ (X3.ldc2Long hx hown (mvT hZ (ow hw 139 rfl)) (g := (mkF m 191 #[oa dc, oa sr, oi 0, oi 8, oa tab, oi 0, oi 8, .unset, .unset] [(.long ((8 : Int32).toInt64)), (.int 3)])) rfl (hb hby d27_191)) ?_
  refine q_ladd B X3 d27_194 rfl rfl ?_
  refine hG _ _ (X3.ldc2Long hx hown (mvT hZ (ow hw 140 rfl)) (g := (mkF m 195 #[oa dc, oa sr, oi 0, oi 8, oa tab, oi 0, oi 8, .unset, .unset] [(.long (((8 : Int32).toInt64) + (3 : Int64))), (.int 3)])) rfl (hb hby d27_195)) ?_
  refine q_ldiv B X3 d27_198 rfl (by decide) rfl ?_
  refine q_l2i B X3 d27_199 rfl rfl ?_
  show G (T3.setTop (mkF m 200 #[oa dc, oa sr, oi 0, oi 8, oa tab, oi 0, oi 8, .unset, .unset] [(.int (((((8 : Int32).toInt64) + (3 : Int64)) / (4 : Int64)).toInt32)), (.int 3)]))
  rw [show (((((8 : Int32).toInt64) + (3 : Int64)) / (4 : Int64)).toInt32) = (2 : Int32) from by decide]
  show G (T3.setTop (mkF m 200 #[oa dc, oa sr, oi 0, oi 8, oa tab, oi 0, oi 8, .unset, .unset] [(.int 2), (.int 3)]))
  refine q_imul B X3 d27_200 rfl rfl ?_
  show G (T3.setTop (mkF m 201 #[oa dc, oa sr, oi 0, oi 8, oa tab, oi 0, oi 8, .unset, .unset] [(.int ((3 : Int32) * (2 : Int32)))]))
  rw [show ((3 : Int32) * (2 : Int32)) = (6 : Int32) from by decide]
  show G (T3.setTop (mkF m 201 #[oa dc, oa sr, oi 0, oi 8, oa tab, oi 0, oi 8, .unset, .unset] [(.int 6)]))
  refine q_iload B X3 d27_201 rfl rfl ?_
  refine q_isub B X3 d27_203 rfl rfl ?_
  show G (T3.setTop (mkF m 204 #[oa dc, oa sr, oi 0, oi 8, oa tab, oi 0, oi 8, .unset, .unset] [(.int ((6 : Int32) - (0 : Int32)))]))
  rw [show ((6 : Int32) - (0 : Int32)) = (6 : Int32) from by decide]
  show G (T3.setTop (mkF m 204 #[oa dc, oa sr, oi 0, oi 8, oa tab, oi 0, oi 8, .unset, .unset] [(.int 6)]))
  exact qRI B hR hret X3 d27_204 e3 ⟨rfl, N0, rfl⟩ (by decide)
theorem own_blk8 (hw : own_W Z a0) {dc tab : Addr} {ktab : ClassId} {sr : Addr} {ks : ClassId} {o : Addr} {ko : ClassId} {ch0 ch1 ch2 ch3 ch4 ch5 ch6 ch7 : Int32} (sv0 sv1 sv2 sv3 sv4 sv5 sv6 sv7 : Int32) (O0 : own_Old Z h0) (g0_S : Sta Z Z.heap "java/util/Base64$Decoder" "fromBase64URL" "[I" (.ref tab)) (g1_E : Exa Z h0 dc "java/util/Base64$Decoder") (g2_F : Fld Z h0 dc "java/util/Base64$Decoder" "isURL" "Z" (.int 1)) (g3_F : Fld Z h0 dc "java/util/Base64$Decoder" "isMIME" "Z" (.int 0)) (g4_V : Arv Z h0 tab ktab .int 256 (own_TAB.map Value.int) (.int 0)) (g5_V : Arv Z h0 sr ks .byte (8 : Int32) [(.int ch0), (.int ch1), (.int ch2), (.int ch3), (.int ch4), (.int ch5), (.int ch6), (.int ch7)] (.int 0)) (g6_V : Arv Z h0 o ko .byte (6 : Int32) [(.int 0), (.int 0), (.int 0), (.int 0), (.int 0), (.int 0)] (.int 0)) (g7_G : Z.heap.size ≤ o) (g8_ne_sr_o : sr ≠ o) (g9_ne_tab_o : tab ≠ o) (g10_ne_dc_o : dc ≠ o) (g11_hs0 : own_sy ch0 sv0) (g12_hs1 : own_sy ch1 sv1) (g13_hs2 : own_sy ch2 sv2) (g14_hs3 : own_sy ch3 sv3) (g15_hs4 : own_sy ch4 sv4) (g16_hs5 : own_sy ch5 sv5) (g17_hs6 : own_sy ch6 sv6) (g18_hs7 : own_sy ch7 sv7) : own_Con l Z ⟨"java/util/Base64$Decoder", "decodeBlock", "([BII[BIZZ)I"⟩ jdk_2450_method_8_code 16 (some .int) [] ⟨0, 0, 0, 0⟩ #[(.ref dc), (.ref sr), (.int 0), (.int 8), (.ref o), (.int 0), (.int 1), (.int 0)] h0 (fun rv rh rL => rv = some (.int 6) ∧ own_Fr Z rL ∧ Keep h0 rh [o] ∧ (Arv Z rh o ko .byte (6 : Int32) [(.int (nar .byte ((((((sv0 <<< ((18 : Int32) &&& 31)) ||| (sv1 <<< ((12 : Int32) &&& 31))) ||| (sv2 <<< ((6 : Int32) &&& 31))) ||| sv3) >>> ((16 : Int32) &&& 31)).toInt8.toInt32))), (.int (nar .byte ((((((sv0 <<< ((18 : Int32) &&& 31)) ||| (sv1 <<< ((12 : Int32) &&& 31))) ||| (sv2 <<< ((6 : Int32) &&& 31))) ||| sv3) >>> ((8 : Int32) &&& 31)).toInt8.toInt32))), (.int (nar .byte (((((sv0 <<< ((18 : Int32) &&& 31)) ||| (sv1 <<< ((12 : Int32) &&& 31))) ||| (sv2 <<< ((6 : Int32) &&& 31))) ||| sv3).toInt8.toInt32))), (.int (nar .byte ((((((sv4 <<< ((18 : Int32) &&& 31)) ||| (sv5 <<< ((12 : Int32) &&& 31))) ||| (sv6 <<< ((6 : Int32) &&& 31))) ||| sv7) >>> ((16 : Int32) &&& 31)).toInt8.toInt32))), (.int (nar .byte ((((((sv4 <<< ((18 : Int32) &&& 31)) ||| (sv5 <<< ((12 : Int32) &&& 31))) ||| (sv6 <<< ((6 : Int32) &&& 31))) ||| sv7) >>> ((8 : Int32) &&& 31)).toInt8.toInt32))), (.int (nar .byte (((((sv4 <<< ((18 : Int32) &&& 31)) ||| (sv5 <<< ((12 : Int32) &&& 31))) ||| (sv6 <<< ((6 : Int32) &&& 31))) ||| sv7).toInt8.toInt32)))] (.int 0))) := by
  refine own_st hw (plainFor_of_name (by decide +kernel)) #[oa dc, oa sr, oi 0, oi 8, oa o, oi 0, oi 1, oi 0, .unset, .unset, .unset, .unset, .unset, .unset, .unset, .unset] (fun m => by first | (simp [entryFrame, mkF, argsToLocals, Value.category]; done) | rfl) fun p e s m below meth c s₁ G B hown hnm hret hZ X0 e0 N0 hR => ?_
  refine q_iload B X0 d30_0 rfl rfl ?_
  refine q_ifNo B X0 d30_2 rfl ((if0 _ _).trans (feq (by decide)).1) rfl ?_
  refine qgs B X0 hZ hown 136 rfl Via.refl e0 g0_S O0 d30_5 fun T1 X1 e1 => ?_
  refine q_goto 14 B X1 d30_8 rfl rfl (by decide) ?_
  refine q_astore B X1 d30_14 rfl rfl rfl rfl ?_
  refine q_iloadN B X1 d30_16 rfl rfl ?_
  refine q_iloadN B X1 d30_17 rfl rfl ?_
  refine q_iloadN B X1 d30_18 rfl rfl ?_
  refine q_isub B X1 d30_19 rfl rfl ?_
  show G (T1.setTop (mkF m 20 #[oa dc, oa sr, oi 0, oi 8, oa o, oi 0, oi 1, oi 0, oa tab, .unset, .unset, .unset, .unset, .unset, .unset, .unset] [(.int ((8 : Int32) - (0 : Int32))), (.int 0)]))
  rw [show ((8 : Int32) - (0 : Int32)) = (8 : Int32) from by decide]
  show G (T1.setTop (mkF m 20 #[oa dc, oa sr, oi 0, oi 8, oa o, oi 0, oi 1, oi 0, oa tab, .unset, .unset, .unset, .unset, .unset, .unset, .unset] [(.int 8), (.int 0)]))
  refine q_bipush B X1 d30_20 rfl ?_
  refine q_iand B X1 d30_22 rfl rfl ?_
  show G (T1.setTop (mkF m 23 #[oa dc, oa sr, oi 0, oi 8, oa o, oi 0, oi 1, oi 0, oa tab, .unset, .unset, .unset, .unset, .unset, .unset, .unset] [(.int ((8 : Int32) &&& (-4 : Int32))), (.int 0)]))
  rw [show ((8 : Int32) &&& (-4 : Int32)) = (8 : Int32) from by decide]
  show G (T1.setTop (mkF m 23 #[oa dc, oa sr, oi 0, oi 8, oa o, oi 0, oi 1, oi 0, oa tab, .unset, .unset, .unset, .unset, .unset, .unset, .unset] [(.int 8), (.int 0)]))
  refine q_iadd B X1 d30_23 rfl rfl ?_
  show G (T1.setTop (mkF m 24 #[oa dc, oa sr, oi 0, oi 8, oa o, oi 0, oi 1, oi 0, oa tab, .unset, .unset, .unset, .unset, .unset, .unset, .unset] [(.int ((0 : Int32) + (8 : Int32)))]))
  rw [show ((0 : Int32) + (8 : Int32)) = (8 : Int32) from by decide]
  show G (T1.setTop (mkF m 24 #[oa dc, oa sr, oi 0, oi 8, oa o, oi 0, oi 1, oi 0, oa tab, .unset, .unset, .unset, .unset, .unset, .unset, .unset] [(.int 8)]))
  refine q_istore B X1 d30_24 rfl rfl rfl ?_
  refine q_iload B X1 d30_26 rfl rfl ?_
  refine q_istore B X1 d30_28 rfl rfl rfl ?_
  refine q_iloadN B X1 d30_30 rfl rfl ?_
  refine q_iload B X1 d30_31 rfl rfl ?_
  refine q_icmpNo B X1 d30_33 rfl (tlt (by decide)).2.1 rfl ?_
  refine q_aload B X1 d30_36 rfl rfl rfl ?_
  refine q_aloadN B X1 d30_38 rfl rfl rfl ?_
  refine q_iloadN B X1 d30_39 rfl rfl ?_
  refine q_iinc B X1 d30_40 rfl rfl rfl ?_
  show G (T1.setTop (mkF m 43 #[oa dc, oa sr, oi ((0 : Int32) + (1 : Int32)), oi 8, oa o, oi 0, oi 1, oi 0, oa tab, oi 8, oi 0, .unset, .unset, .unset, .unset, .unset] [(.int 0), (.ref sr), (.ref tab)]))
  rw [show ((0 : Int32) + (1 : Int32)) = (1 : Int32) from by decide]
  show G (T1.setTop (mkF m 43 #[oa dc, oa sr, oi 1, oi 8, oa o, oi 0, oi 1, oi 0, oa tab, oi 8, oi 0, .unset, .unset, .unset, .unset, .unset] [(.int 0), (.ref sr), (.ref tab)]))
  refine qlb (v := (.int ch0)) B X1 hZ e1 g5_V d30_43 (by decide) rfl ?_
  refine q_sipush B X1 d30_44 rfl ?_
  refine q_iand B X1 d30_47 rfl rfl ?_
  show G (T1.setTop (mkF m 48 #[oa dc, oa sr, oi 1, oi 8, oa o, oi 0, oi 1, oi 0, oa tab, oi 8, oi 0, .unset, .unset, .unset, .unset, .unset] [(.int (ch0 &&& (255 : Int32))), (.ref tab)]))
  rw [own_m255 g11_hs0]
  show G (T1.setTop (mkF m 48 #[oa dc, oa sr, oi 1, oi 8, oa o, oi 0, oi 1, oi 0, oa tab, oi 8, oi 0, .unset, .unset, .unset, .unset, .unset] [(.int ch0), (.ref tab)]))
  refine qli (v := (.int sv0)) B X1 hZ e1 g4_V d30_48 ⟨(own_look g11_hs0).1, (own_look g11_hs0).2.1⟩ (own_look g11_hs0).2.2 ?_
  refine q_istore B X1 d30_49 rfl rfl rfl ?_
  refine q_aload B X1 d30_51 rfl rfl rfl ?_
  refine q_aloadN B X1 d30_53 rfl rfl rfl ?_
  refine q_iloadN B X1 d30_54 rfl rfl ?_
  refine q_iinc B X1 d30_55 rfl rfl rfl ?_
  show G (T1.setTop (mkF m 58 #[oa dc, oa sr, oi ((1 : Int32) + (1 : Int32)), oi 8, oa o, oi 0, oi 1, oi 0, oa tab, oi 8, oi 0, oi sv0, .unset, .unset, .unset, .unset] [(.int 1), (.ref sr), (.ref tab)]))
  rw [show ((1 : Int32) + (1 : Int32)) = (2 : Int32) from by decide]
  show G (T1.setTop (mkF m 58 #[oa dc, oa sr, oi 2, oi 8, oa o, oi 0, oi 1, oi 0, oa tab, oi 8, oi 0, oi sv0, .unset, .unset, .unset, .unset] [(.int 1), (.ref sr), (.ref tab)]))
  refine qlb (v := (.int ch1)) B X1 hZ e1 g5_V d30_58 (by decide) rfl ?_
  refine q_sipush B X1 d30_59 rfl ?_
  refine q_iand B X1 d30_62 rfl rfl ?_
  show G (T1.setTop (mkF m 63 #[oa dc, oa sr, oi 2, oi 8, oa o, oi 0, oi 1, oi 0, oa tab, oi 8, oi 0, oi sv0, .unset, .unset, .unset, .unset] [(.int (ch1 &&& (255 : Int32))), (.ref tab)]))
  rw [own_m255 g12_hs1]
  show G (T1.setTop (mkF m 63 #[oa dc, oa sr, oi 2, oi 8, oa o, oi 0, oi 1, oi 0, oa tab, oi 8, oi 0, oi sv0, .unset, .unset, .unset, .unset] [(.int ch1), (.ref tab)]))
  refine qli (v := (.int sv1)) B X1 hZ e1 g4_V d30_63 ⟨(own_look g12_hs1).1, (own_look g12_hs1).2.1⟩ (own_look g12_hs1).2.2 ?_
  refine q_istore B X1 d30_64 rfl rfl rfl ?_
  refine q_aload B X1 d30_66 rfl rfl rfl ?_
  refine q_aloadN B X1 d30_68 rfl rfl rfl ?_
  refine q_iloadN B X1 d30_69 rfl rfl ?_
  refine q_iinc B X1 d30_70 rfl rfl rfl ?_
  show G (T1.setTop (mkF m 73 #[oa dc, oa sr, oi ((2 : Int32) + (1 : Int32)), oi 8, oa o, oi 0, oi 1, oi 0, oa tab, oi 8, oi 0, oi sv0, oi sv1, .unset, .unset, .unset] [(.int 2), (.ref sr), (.ref tab)]))
  rw [show ((2 : Int32) + (1 : Int32)) = (3 : Int32) from by decide]
  show G (T1.setTop (mkF m 73 #[oa dc, oa sr, oi 3, oi 8, oa o, oi 0, oi 1, oi 0, oa tab, oi 8, oi 0, oi sv0, oi sv1, .unset, .unset, .unset] [(.int 2), (.ref sr), (.ref tab)]))
  refine qlb (v := (.int ch2)) B X1 hZ e1 g5_V d30_73 (by decide) rfl ?_
  refine q_sipush B X1 d30_74 rfl ?_
  refine q_iand B X1 d30_77 rfl rfl ?_
  show G (T1.setTop (mkF m 78 #[oa dc, oa sr, oi 3, oi 8, oa o, oi 0, oi 1, oi 0, oa tab, oi 8, oi 0, oi sv0, oi sv1, .unset, .unset, .unset] [(.int (ch2 &&& (255 : Int32))), (.ref tab)]))
  rw [own_m255 g13_hs2]
  show G (T1.setTop (mkF m 78 #[oa dc, oa sr, oi 3, oi 8, oa o, oi 0, oi 1, oi 0, oa tab, oi 8, oi 0, oi sv0, oi sv1, .unset, .unset, .unset] [(.int ch2), (.ref tab)]))
  refine qli (v := (.int sv2)) B X1 hZ e1 g4_V d30_78 ⟨(own_look g13_hs2).1, (own_look g13_hs2).2.1⟩ (own_look g13_hs2).2.2 ?_
  refine q_istore B X1 d30_79 rfl rfl rfl ?_
  refine q_aload B X1 d30_81 rfl rfl rfl ?_
  refine q_aloadN B X1 d30_83 rfl rfl rfl ?_
  refine q_iloadN B X1 d30_84 rfl rfl ?_
  refine q_iinc B X1 d30_85 rfl rfl rfl ?_
  show G (T1.setTop (mkF m 88 #[oa dc, oa sr, oi ((3 : Int32) + (1 : Int32)), oi 8, oa o, oi 0, oi 1, oi 0, oa tab, oi 8, oi 0, oi sv0, oi sv1, oi sv2, .unset, .unset] [(.int 3), (.ref sr), (.ref tab)]))
  rw [show ((3 : Int32) + (1 : Int32)) = (4 : Int32) from by decide]
  show G (T1.setTop (mkF m 88 #[oa dc, oa sr, oi 4, oi 8, oa o, oi 0, oi 1, oi 0, oa tab, oi 8, oi 0, oi sv0, oi sv1, oi sv2, .unset, .unset] [(.int 3), (.ref sr), (.ref tab)]))
  refine qlb (v := (.int ch3)) B X1 hZ e1 g5_V d30_88 (by decide) rfl ?_
  refine q_sipush B X1 d30_89 rfl ?_
  refine q_iand B X1 d30_92 rfl rfl ?_
  show G (T1.setTop (mkF m 93 #[oa dc, oa sr, oi 4, oi 8, oa o, oi 0, oi 1, oi 0, oa tab, oi 8, oi 0, oi sv0, oi sv1, oi sv2, .unset, .unset] [(.int (ch3 &&& (255 : Int32))), (.ref tab)]))
  rw [own_m255 g14_hs3]
  show G (T1.setTop (mkF m 93 #[oa dc, oa sr, oi 4, oi 8, oa o, oi 0, oi 1, oi 0, oa tab, oi 8, oi 0, oi sv0, oi sv1, oi sv2, .unset, .unset] [(.int ch3), (.ref tab)]))
  refine qli (v := (.int sv3)) B X1 hZ e1 g4_V d30_93 ⟨(own_look g14_hs3).1, (own_look g14_hs3).2.1⟩ (own_look g14_hs3).2.2 ?_
  refine q_istore B X1 d30_94 rfl rfl rfl ?_
  refine q_iload B X1 d30_96 rfl rfl ?_
  refine q_iload B X1 d30_98 rfl rfl ?_
  refine q_ior B X1 d30_100 rfl rfl ?_
  refine q_iload B X1 d30_101 rfl rfl ?_
  refine q_ior B X1 d30_103 rfl rfl ?_
  refine q_iload B X1 d30_104 rfl rfl ?_
  refine q_ior B X1 d30_106 rfl rfl ?_
  refine q_ifYes 116 B X1 d30_107 rfl ((if0 _ _).trans (flt (own_ornn (own_syV g11_hs0) (own_syV g12_hs1) (own_syV g13_hs2) (own_syV g14_hs3))).2.1) rfl rfl (by decide) ?_
  refine q_iload B X1 d30_116 rfl rfl ?_
  refine q_bipush B X1 d30_118 rfl ?_
  refine q_ishl B X1 d30_120 rfl rfl ?_
  refine q_iload B X1 d30_121 rfl rfl ?_
  refine q_bipush B X1 d30_123 rfl ?_
  refine q_ishl B X1 d30_125 rfl rfl ?_
  refine q_ior B X1 d30_126 rfl rfl ?_
  show G (T1.setTop (mkF m 127 #[oa dc, oa sr, oi 4, oi 8, oa o, oi 0, oi 1, oi 0, oa tab, oi 8, oi 0, oi sv0, oi sv1, oi sv2, oi sv3, .unset] [(.int ((sv0 <<< ((18 : Int32) &&& 31)) ||| (sv1 <<< ((12 : Int32) &&& 31))))]))
  refine q_iload B X1 d30_127 rfl rfl ?_
  refine q_bipush B X1 d30_129 rfl ?_
  refine q_ishl B X1 d30_131 rfl rfl ?_
  refine q_ior B X1 d30_132 rfl rfl ?_
  refine q_iload B X1 d30_133 rfl rfl ?_
  refine q_ior B X1 d30_135 rfl rfl ?_
  refine q_istore B X1 d30_136 rfl rfl rfl ?_
  refine q_aload B X1 d30_138 rfl rfl rfl ?_
  refine q_iload B X1 d30_140 rfl rfl ?_
  refine q_iinc B X1 d30_142 rfl rfl rfl ?_
  show G (T1.setTop (mkF m 145 #[oa dc, oa sr, oi 4, oi 8, oa o, oi 0, oi 1, oi 0, oa tab, oi 8, oi ((0 : Int32) + (1 : Int32)), oi sv0, oi sv1, oi sv2, oi sv3, oi ((((sv0 <<< ((18 : Int32) &&& 31)) ||| (sv1 <<< ((12 : Int32) &&& 31))) ||| (sv2 <<< ((6 : Int32) &&& 31))) ||| sv3)] [(.int 0), (.ref o)]))
  rw [show ((0 : Int32) + (1 : Int32)) = (1 : Int32) from by decide]
  show G (T1.setTop (mkF m 145 #[oa dc, oa sr, oi 4, oi 8, oa o, oi 0, oi 1, oi 0, oa tab, oi 8, oi 1, oi sv0, oi sv1, oi sv2, oi sv3, oi ((((sv0 <<< ((18 : Int32) &&& 31)) ||| (sv1 <<< ((12 : Int32) &&& 31))) ||| (sv2 <<< ((6 : Int32) &&& 31))) ||| sv3)] [(.int 0), (.ref o)]))
  refine q_iload B X1 d30_145 rfl rfl ?_
  refine q_bipush B X1 d30_147 rfl ?_
  refine q_ishr B X1 d30_149 rfl rfl ?_
  refine q_i2b B X1 d30_150 rfl rfl ?_
  show G (T1.setTop (mkF m 151 #[oa dc, oa sr, oi 4, oi 8, oa o, oi 0, oi 1, oi 0, oa tab, oi 8, oi 1, oi sv0, oi sv1, oi sv2, oi sv3, oi ((((sv0 <<< ((18 : Int32) &&& 31)) ||| (sv1 <<< ((12 : Int32) &&& 31))) ||| (sv2 <<< ((6 : Int32) &&& 31))) ||| sv3)] [(.int ((((((sv0 <<< ((18 : Int32) &&& 31)) ||| (sv1 <<< ((12 : Int32) &&& 31))) ||| (sv2 <<< ((6 : Int32) &&& 31))) ||| sv3) >>> ((16 : Int32) &&& 31)).toInt8.toInt32)), (.int 0), (.ref o)]))
  refine qsb 0 B X1 hZ e1 g6_V d30_151 (by decide) rfl (Nat.le_of_ble_eq_true rfl) fun T10 h10 X10 e10 W10 V10 => ?_
  have K10 := (Keep.refl h0 [o]).wr W10 (own_mi 0 rfl)
  have O10 := O0.wr W10 g7_G
  have N10 := Fr.snoc X10 N0 g7_G
  refine q_aload B X10 d30_152 rfl rfl rfl ?_
  refine q_iload B X10 d30_154 rfl rfl ?_
  refine q_iinc B X10 d30_156 rfl rfl rfl ?_
  show G (T10.setTop (mkF m 159 #[oa dc, oa sr, oi 4, oi 8, oa o, oi 0, oi 1, oi 0, oa tab, oi 8, oi ((1 : Int32) + (1 : Int32)), oi sv0, oi sv1, oi sv2, oi sv3, oi ((((sv0 <<< ((18 : Int32) &&& 31)) ||| (sv1 <<< ((12 : Int32) &&& 31))) ||| (sv2 <<< ((6 : Int32) &&& 31))) ||| sv3)] [(.int 1), (.ref o)]))
  rw [show ((1 : Int32) + (1 : Int32)) = (2 : Int32) from by decide]
  show G (T10.setTop (mkF m 159 #[oa dc, oa sr, oi 4, oi 8, oa o, oi 0, oi 1, oi 0, oa tab, oi 8, oi 2, oi sv0, oi sv1, oi sv2, oi sv3, oi ((((sv0 <<< ((18 : Int32) &&& 31)) ||| (sv1 <<< ((12 : Int32) &&& 31))) ||| (sv2 <<< ((6 : Int32) &&& 31))) ||| sv3)] [(.int 1), (.ref o)]))
  refine q_iload B X10 d30_159 rfl rfl ?_
  refine q_bipush B X10 d30_161 rfl ?_
  refine q_ishr B X10 d30_163 rfl rfl ?_
  refine q_i2b B X10 d30_164 rfl rfl ?_
  show G (T10.setTop (mkF m 165 #[oa dc, oa sr, oi 4, oi 8, oa o, oi 0, oi 1, oi 0, oa tab, oi 8, oi 2, oi sv0, oi sv1, oi sv2, oi sv3, oi ((((sv0 <<< ((18 : Int32) &&& 31)) ||| (sv1 <<< ((12 : Int32) &&& 31))) ||| (sv2 <<< ((6 : Int32) &&& 31))) ||| sv3)] [(.int ((((((sv0 <<< ((18 : Int32) &&& 31)) ||| (sv1 <<< ((12 : Int32) &&& 31))) ||| (sv2 <<< ((6 : Int32) &&& 31))) ||| sv3) >>> ((8 : Int32) &&& 31)).toInt8.toInt32)), (.int 1), (.ref o)]))
  refine qsb 1 B X10 hZ e10 V10 d30_165 (by decide) rfl (Nat.le_of_ble_eq_true rfl) fun T11 h11 X11 e11 W11 V11 => ?_
  have K11 := K10.wr W11 (own_mi 0 rfl)
  have O11 := O10.wr W11 g7_G
  have N11 := Fr.snoc X11 N10 g7_G
  refine q_aload B X11 d30_166 rfl rfl rfl ?_
  refine q_iload B X11 d30_168 rfl rfl ?_
  refine q_iinc B X11 d30_170 rfl rfl rfl ?_
  show G (T11.setTop (mkF m 173 #[oa dc, oa sr, oi 4, oi 8, oa o, oi 0, oi 1, oi 0, oa tab, oi 8, oi ((2 : Int32) + (1 : Int32)), oi sv0, oi sv1, oi sv2, oi sv3, oi ((((sv0 <<< ((18 : Int32) &&& 31)) ||| (sv1 <<< ((12 : Int32) &&& 31))) ||| (sv2 <<< ((6 : Int32) &&& 31))) ||| sv3)] [(.int 2), (.ref o)]))
  rw [show ((2 : Int32) + (1 : Int32)) = (3 : Int32) from by decide]
  show G (T11.setTop (mkF m 173 #[oa dc, oa sr, oi 4, oi 8, oa o, oi 0, oi 1, oi 0, oa tab, oi 8, oi 3, oi sv0, oi sv1, oi sv2, oi sv3, oi ((((sv0 <<< ((18 : Int32) &&& 31)) ||| (sv1 <<< ((12 : Int32) &&& 31))) ||| (sv2 <<< ((6 : Int32) &&& 31))) ||| sv3)] [(.int 2), (.ref o)]))
  refine q_iload B X11 d30_173 rfl rfl ?_
  refine q_i2b B X11 d30_175 rfl rfl ?_
  show G (T11.setTop (mkF m 176 #[oa dc, oa sr, oi 4, oi 8, oa o, oi 0, oi 1, oi 0, oa tab, oi 8, oi 3, oi sv0, oi sv1, oi sv2, oi sv3, oi ((((sv0 <<< ((18 : Int32) &&& 31)) ||| (sv1 <<< ((12 : Int32) &&& 31))) ||| (sv2 <<< ((6 : Int32) &&& 31))) ||| sv3)] [(.int (((((sv0 <<< ((18 : Int32) &&& 31)) ||| (sv1 <<< ((12 : Int32) &&& 31))) ||| (sv2 <<< ((6 : Int32) &&& 31))) ||| sv3).toInt8.toInt32)), (.int 2), (.ref o)]))
  refine qsb 2 B X11 hZ e11 V11 d30_176 (by decide) rfl (Nat.le_of_ble_eq_true rfl) fun T12 h12 X12 e12 W12 V12 => ?_
  have K12 := K11.wr W12 (own_mi 0 rfl)
  have O12 := O11.wr W12 g7_G
  have N12 := Fr.snoc X12 N11 g7_G
  refine q_goto 30 B X12 d30_177 rfl rfl (by decide) ?_
  refine q_iloadN B X12 d30_30 rfl rfl ?_
  refine q_iload B X12 d30_31 rfl rfl ?_
  refine q_icmpNo B X12 d30_33 rfl (tlt (by decide)).2.1 rfl ?_
  refine q_aload B X12 d30_36 rfl rfl rfl ?_
  refine q_aloadN B X12 d30_38 rfl rfl rfl ?_
  refine q_iloadN B X12 d30_39 rfl rfl ?_
  refine q_iinc B X12 d30_40 rfl rfl rfl ?_
  show G (T12.setTop (mkF m 43 #[oa dc, oa sr, oi ((4 : Int32) + (1 : Int32)), oi 8, oa o, oi 0, oi 1, oi 0, oa tab, oi 8, oi 3, oi sv0, oi sv1, oi sv2, oi sv3, oi ((((sv0 <<< ((18 : Int32) &&& 31)) ||| (sv1 <<< ((12 : Int32) &&& 31))) ||| (sv2 <<< ((6 : Int32) &&& 31))) ||| sv3)] [(.int 4), (.ref sr), (.ref tab)]))
  rw [show ((4 : Int32) + (1 : Int32)) = (5 : Int32) from by decide]
  show G (T12.setTop (mkF m 43 #[oa dc, oa sr, oi 5, oi 8, oa o, oi 0, oi 1, oi 0, oa tab, oi 8, oi 3, oi sv0, oi sv1, oi sv2, oi sv3, oi ((((sv0 <<< ((18 : Int32) &&& 31)) ||| (sv1 <<< ((12 : Int32) &&& 31))) ||| (sv2 <<< ((6 : Int32) &&& 31))) ||| sv3)] [(.int 4), (.ref sr), (.ref tab)]))
  have f14 := (((g5_V.other W10 g8_ne_sr_o).other W11 g8_ne_sr_o).other W12 g8_ne_sr_o)
  refine qlb (v := (.int ch4)) B X12 hZ e12 f14 d30_43 (by decide) rfl ?_
  refine q_sipush B X12 d30_44 rfl ?_
  refine q_iand B X12 d30_47 rfl rfl ?_
  show G (T12.setTop (mkF m 48 #[oa dc, oa sr, oi 5, oi 8, oa o, oi 0, oi 1, oi 0, oa tab, oi 8, oi 3, oi sv0, oi sv1, oi sv2, oi sv3, oi ((((sv0 <<< ((18 : Int32) &&& 31)) ||| (sv1 <<< ((12 : Int32) &&& 31))) ||| (sv2 <<< ((6 : Int32) &&& 31))) ||| sv3)] [(.int (ch4 &&& (255 : Int32))), (.ref tab)]))
  rw [own_m255 g15_hs4]
  show G (T12.setTop (mkF m 48 #[oa dc, oa sr, oi 5, oi 8, oa o, oi 0, oi 1, oi 0, oa tab, oi 8, oi 3, oi sv0, oi sv1, oi sv2, oi sv3, oi ((((sv0 <<< ((18 : Int32) &&& 31)) ||| (sv1 <<< ((12 : Int32) &&& 31))) ||| (sv2 <<< ((6 : Int32) &&& 31))) ||| sv3)] [(.int ch4), (.ref tab)]))
  have f16 := (((g4_V.other W10 g9_ne_tab_o).other W11 g9_ne_tab_o).other W12 g9_ne_tab_o)
  refine qli (v := (.int sv4)) B X12 hZ e12 f16 d30_48 ⟨(own_look g15_hs4).1, (own_look g15_hs4).2.1⟩ (own_look g15_hs4).2.2 ?_
  refine q_istore B X12 d30_49 rfl rfl rfl ?_
  refine q_aload B X12 d30_51 rfl rfl rfl ?_
  refine q_aloadN B X12 d30_53 rfl rfl rfl ?_
  refine q_iloadN B X12 d30_54 rfl rfl ?_
  refine q_iinc B X12 d30_55 rfl rfl rfl ?_
  show G (T12.setTop (mkF m 58 #[oa dc, oa sr, oi ((5 : Int32) + (1 : Int32)), oi 8, oa o, oi 0, oi 1, oi 0, oa tab, oi 8, oi 3, oi sv4, oi sv1, oi sv2, oi sv3, oi ((((sv0 <<< ((18 : Int32) &&& 31)) ||| (sv1 <<< ((12 : Int32) &&& 31))) ||| (sv2 <<< ((6 : Int32) &&& 31))) ||| sv3)] [(.int 5), (.ref sr), (.ref tab)]))
  rw [show ((5 : Int32) + (1 : Int32)) = (6 : Int32) from by decide]
  show G (T12.setTop (mkF m 58 #[oa dc, oa sr, oi 6, oi 8, oa o, oi 0, oi 1, oi 0, oa tab, oi 8, oi 3, oi sv4, oi sv1, oi sv2, oi sv3, oi ((((sv0 <<< ((18 : Int32) &&& 31)) ||| (sv1 <<< ((12 : Int32) &&& 31))) ||| (sv2 <<< ((6 : Int32) &&& 31))) ||| sv3)] [(.int 5), (.ref sr), (.ref tab)]))
  refine qlb (v := (.int ch5)) B X12 hZ e12 f14 d30_58 (by decide) rfl ?_
  refine q_sipush B X12 d30_59 rfl ?_
  refine q_iand B X12 d30_62 rfl rfl ?_
  show G (T12.setTop (mkF m 63 #[oa dc, oa sr, oi 6, oi 8, oa o, oi 0, oi 1, oi 0, oa tab, oi 8, oi 3, oi sv4, oi sv1, oi sv2, oi sv3, oi ((((sv0 <<< ((18 : Int32) &&& 31)) ||| (sv1 <<< ((12 : Int32) &&& 31))) ||| (sv2 <<< ((6 : Int32) &&& 31))) ||| sv3)] [(.int (ch5 &&& (255 : Int32))), (.ref tab)]))
  rw [own_m255 g16_hs5]
  show G (T12.setTop (mkF m 63 #[oa dc, oa sr, oi 6, oi 8, oa o, oi 0, oi 1, oi 0, oa tab, oi 8, oi 3, oi sv4, oi sv1, oi sv2, oi sv3, oi ((((sv0 <<< ((18 : Int32) &&& 31)) ||| (sv1 <<< ((12 : Int32) &&& 31))) ||| (sv2 <<< ((6 : Int32) &&& 31))) ||| sv3)] [(.int ch5), (.ref tab)]))
  refine qli (v := (.int sv5)) B X12 hZ e12 f16 d30_63 ⟨(own_look g16_hs5).1, (own_look g16_hs5).2.1⟩ (own_look g16_hs5).2.2 ?_
  refine q_istore B X12 d30_64 rfl rfl rfl ?_
  refine q_aload B X12 d30_66 rfl rfl rfl ?_
  refine q_aloadN B X12 d30_68 rfl rfl rfl ?_
  refine q_iloadN B X12 d30_69 rfl rfl ?_
  refine q_iinc B X12 d30_70 rfl rfl rfl ?_
  show G (T12.setTop (mkF m 73 #[oa dc, oa sr, oi ((6 : Int32) + (1 : Int32)), oi 8, oa o, oi 0, oi 1, oi 0, oa tab, oi 8, oi 3, oi sv4, oi sv5, oi sv2, oi sv3, oi ((((sv0 <<< ((18 : Int32) &&& 31)) ||| (sv1 <<< ((12 : Int32) &&& 31))) ||| (sv2 <<< ((6 : Int32) &&& 31))) ||| sv3)] [(.int 6), (.ref sr), (.ref tab)]))
  rw [show ((6 : Int32) + (1 : Int32)) = (7 : Int32) from by decide]
  show G (T12.setTop (mkF m 73 #[oa dc, oa sr, oi 7, oi 8, oa o, oi 0, oi 1, oi 0, oa tab, oi 8, oi 3, oi sv4, oi sv5, oi sv2, oi sv3, oi ((((sv0 <<< ((18 : Int32) &&& 31)) ||| (sv1 <<< ((12 : Int32) &&& 31))) ||| (sv2 <<< ((6 : Int32) &&& 31))) ||| sv3)] [(.int 6), (.ref sr), (.ref tab)]))
  refine qlb (v := (.int ch6)) B X12 hZ e12 f14 d30_73 (by decide) rfl ?_
  refine q_sipush B X12 d30_74 rfl ?_
  refine q_iand B X12 d30_77 rfl rfl ?_
  show G (T12.setTop (mkF m 78 #[oa dc, oa sr, oi 7, oi 8, oa o, oi 0, oi 1, oi 0, oa tab, oi 8, oi 3, oi sv4, oi sv5, oi sv2, oi sv3, oi ((((sv0 <<< ((18 : Int32) &&& 31)) ||| (sv1 <<< ((12 : Int32) &&& 31))) ||| (sv2 <<< ((6 : Int32) &&& 31))) ||| sv3)] [(.int (ch6 &&& (255 : Int32))), (.ref tab)]))
  rw [own_m255 g17_hs6]
  show G (T12.setTop (mkF m 78 #[oa dc, oa sr, oi 7, oi 8, oa o, oi 0, oi 1, oi 0, oa tab, oi 8, oi 3, oi sv4, oi sv5, oi sv2, oi sv3, oi ((((sv0 <<< ((18 : Int32) &&& 31)) ||| (sv1 <<< ((12 : Int32) &&& 31))) ||| (sv2 <<< ((6 : Int32) &&& 31))) ||| sv3)] [(.int ch6), (.ref tab)]))
  refine qli (v := (.int sv6)) B X12 hZ e12 f16 d30_78 ⟨(own_look g17_hs6).1, (own_look g17_hs6).2.1⟩ (own_look g17_hs6).2.2 ?_
  refine q_istore B X12 d30_79 rfl rfl rfl ?_
  refine q_aload B X12 d30_81 rfl rfl rfl ?_
  refine q_aloadN B X12 d30_83 rfl rfl rfl ?_
  refine q_iloadN B X12 d30_84 rfl rfl ?_
  refine q_iinc B X12 d30_85 rfl rfl rfl ?_
  show G (T12.setTop (mkF m 88 #[oa dc, oa sr, oi ((7 : Int32) + (1 : Int32)), oi 8, oa o, oi 0, oi 1, oi 0, oa tab, oi 8, oi 3, oi sv4, oi sv5, oi sv6, oi sv3, oi ((((sv0 <<< ((18 : Int32) &&& 31)) ||| (sv1 <<< ((12 : Int32) &&& 31))) ||| (sv2 <<< ((6 : Int32) &&& 31))) ||| sv3)] [(.int 7), (.ref sr), (.ref tab)]))
  rw [show ((7 : Int32) + (1 : Int32)) = (8 : Int32) from by decide]
  show G (T12.setTop (mkF m 88 #[oa dc, oa sr, oi 8, oi 8, oa o, oi 0, oi 1, oi 0, oa tab, oi 8, oi 3, oi sv4, oi sv5, oi sv6, oi sv3, oi ((((sv0 <<< ((18 : Int32) &&& 31)) ||| (sv1 <<< ((12 : Int32) &&& 31))) ||| (sv2 <<< ((6 : Int32) &&& 31))) ||| sv3)] [(.int 7), (.ref sr), (.ref tab)]))
  refine qlb (v := (.int ch7)) B X12 hZ e12 f14 d30_88 (by decide) rfl ?_
  refine q_sipush B X12 d30_89 rfl ?_
  refine q_iand B X12 d30_92 rfl rfl ?_
  show G (T12.setTop (mkF m 93 #[oa dc, oa sr, oi 8, oi 8, oa o, oi 0, oi 1, oi 0, oa tab, oi 8, oi 3, oi sv4, oi sv5, oi sv6, oi sv3, oi ((((sv0 <<< ((18 : Int32) &&& 31)) ||| (sv1 <<< ((12 : Int32) &&& 31))) ||| (sv2 <<< ((6 : Int32) &&& 31))) ||| sv3)] [(.int (ch7 &&& (255 : Int32))), (.ref tab)]))
  rw [own_m255 g18_hs7]
  show G (T12.setTop (mkF m 93 #[oa dc, oa sr, oi 8, oi 8, oa o, oi 0, oi 1, oi 0, oa tab, oi 8, oi 3, oi sv4, oi sv5, oi sv6, oi sv3, oi ((((sv0 <<< ((18 : Int32) &&& 31)) ||| (sv1 <<< ((12 : Int32) &&& 31))) ||| (sv2 <<< ((6 : Int32) &&& 31))) ||| sv3)] [(.int ch7), (.ref tab)]))
  refine qli (v := (.int sv7)) B X12 hZ e12 f16 d30_93 ⟨(own_look g18_hs7).1, (own_look g18_hs7).2.1⟩ (own_look g18_hs7).2.2 ?_
  refine q_istore B X12 d30_94 rfl rfl rfl ?_
  refine q_iload B X12 d30_96 rfl rfl ?_
  refine q_iload B X12 d30_98 rfl rfl ?_
  refine q_ior B X12 d30_100 rfl rfl ?_
  refine q_iload B X12 d30_101 rfl rfl ?_
  refine q_ior B X12 d30_103 rfl rfl ?_
  refine q_iload B X12 d30_104 rfl rfl ?_
  refine q_ior B X12 d30_106 rfl rfl ?_
  refine q_ifYes 116 B X12 d30_107 rfl ((if0 _ _).trans (flt (own_ornn (own_syV g15_hs4) (own_syV g16_hs5) (own_syV g17_hs6) (own_syV g18_hs7))).2.1) rfl rfl (by decide) ?_
  refine q_iload B X12 d30_116 rfl rfl ?_
  refine q_bipush B X12 d30_118 rfl ?_
  refine q_ishl B X12 d30_120 rfl rfl ?_
  refine q_iload B X12 d30_121 rfl rfl ?_
  refine q_bipush B X12 d30_123 rfl ?_
  refine q_ishl B X12 d30_125 rfl rfl ?_
  refine q_ior B X12 d30_126 rfl rfl ?_
  show G (T12.setTop (mkF m 127 #[oa dc, oa sr, oi 8, oi 8, oa o, oi 0, oi 1, oi 0, oa tab, oi 8, oi 3, oi sv4, oi sv5, oi sv6, oi sv7, oi ((((sv0 <<< ((18 : Int32) &&& 31)) ||| (sv1 <<< ((12 : Int32) &&& 31))) ||| (sv2 <<< ((6 : Int32) &&& 31))) ||| sv3)] [(.int ((sv4 <<< ((18 : Int32) &&& 31)) ||| (sv5 <<< ((12 : Int32) &&& 31))))]))
  refine q_iload B X12 d30_127 rfl rfl ?_
  refine q_bipush B X12 d30_129 rfl ?_
  refine q_ishl B X12 d30_131 rfl rfl ?_
  refine q_ior B X12 d30_132 rfl rfl ?_
  refine q_iload B X12 d30_133 rfl rfl ?_
  refine q_ior B X12 d30_135 rfl rfl ?_
  refine q_istore B X12 d30_136 rfl rfl rfl ?_
  refine q_aload B X12 d30_138 rfl rfl rfl ?_
  refine q_iload B X12 d30_140 rfl rfl ?_
  refine q_iinc B X12 d30_142 rfl rfl rfl ?_
  show G (T12.setTop (mkF m 145 #[oa dc, oa sr, oi 8, oi 8, oa o, oi 0, oi 1, oi 0, oa tab, oi 8, oi ((3 : Int32) + (1 : Int32)), oi sv4, oi sv5, oi sv6, oi sv7, oi ((((sv4 <<< ((18 : Int32) &&& 31)) ||| (sv5 <<< ((12 : Int32) &&& 31))) ||| (sv6 <<< ((6 : Int32) &&& 31))) ||| sv7)] [(.int 3), (.ref o)]))
  rw [show ((3 : Int32) + (1 : Int32)) = (4 : Int32) from by decide]
  show G (T12.setTop (mkF m 145 #[oa dc, oa sr, oi 8, oi 8, oa o, oi 0, oi 1, oi 0, oa tab, oi 8, oi 4, oi sv4, oi sv5, oi sv6, oi sv7, oi ((((sv4 <<< ((18 : Int32) &&& 31)) ||| (sv5 <<< ((12 : Int32) &&& 31))) ||| (sv6 <<< ((6 : Int32) &&& 31))) ||| sv7)] [(.int 3), (.ref o)]))
  refine q_iload B X12 d30_145 rfl rfl ?_
  refine q_bipush B X12 d30_147 rfl ?_
  refine q_ishr B X12 d30_149 rfl rfl ?_
  refine q_i2b B X12 d30_150 rfl rfl ?_
  show G (T12.setTop (mkF m 151 #[oa dc, oa sr, oi 8, oi 8, oa o, oi 0, oi 1, oi 0, oa tab, oi 8, oi 4, oi sv4, oi sv5, oi sv6, oi sv7, oi ((((sv4 <<< ((18 : Int32) &&& 31)) ||| (sv5 <<< ((12 : Int32) &&& 31))) ||| (sv6 <<< ((6 : Int32) &&& 31))) ||| sv7)] [(.int ((((((sv4 <<< ((18 : Int32) &&& 31)) ||| (sv5 <<< ((12 : Int32) &&& 31))) ||| (sv6 <<< ((6 : Int32) &&& 31))) ||| sv7) >>> ((16 : Int32) &&& 31)).toInt8.toInt32)), (.int 3), (.ref o)]))
  refine qsb 3 B X12 hZ e12 V12 d30_151 (by decide) rfl (Nat.le_of_ble_eq_true rfl) fun T23 h23 X23 e23 W23 V23 => ?_
  have K23 := K12.wr W23 (own_mi 0 rfl)
  have O23 := O12.wr W23 g7_G
  have N23 := Fr.snoc X23 N12 g7_G
  refine q_aload B X23 d30_152 rfl rfl rfl ?_
  refine q_iload B X23 d30_154 rfl rfl ?_
  refine q_iinc B X23 d30_156 rfl rfl rfl ?_
  show G (T23.setTop (mkF m 159 #[oa dc, oa sr, oi 8, oi 8, oa o, oi 0, oi 1, oi 0, oa tab, oi 8, oi ((4 : Int32) + (1 : Int32)), oi sv4, oi sv5, oi sv6, oi sv7, oi ((((sv4 <<< ((18 : Int32) &&& 31)) ||| (sv5 <<< ((12 : Int32) &&& 31))) ||| (sv6 <<< ((6 : Int32) &&& 31))) ||| sv7)] [(.int 4), (.ref o)]))
  rw [show ((4 : Int32) + (1 : Int32)) = (5 : Int32) from by decide]
  show G (T23.setTop (mkF m 159 #[oa dc, oa sr, oi 8, oi 8, oa o, oi 0, oi 1, oi 0, oa tab, oi 8, oi 5, oi sv4, oi sv5, oi sv6, oi sv7, oi ((((sv4 <<< ((18 : Int32) &&& 31)) ||| (sv5 <<< ((12 : Int32) &&& 31))) ||| (sv6 <<< ((6 : Int32) &&& 31))) ||| sv7)] [(.int 4), (.ref o)]))
  refine q_iload B X23 d30_159 rfl rfl ?_
  refine q_bipush B X23 d30_161 rfl ?_
  refine q_ishr B X23 d30_163 rfl rfl ?_
  refine q_i2b B X23 d30_164 rfl rfl ?_
  show G (T23.setTop (mkF m 165 #[oa dc, oa sr, oi 8, oi 8, oa o, oi 0, oi 1, oi 0, oa tab, oi 8, oi 5, oi sv4, oi sv5, oi sv6, oi sv7, oi ((((sv4 <<< ((18 : Int32) &&& 31)) ||| (sv5 <<< ((12 : Int32) &&& 31))) ||| (sv6 <<< ((6 : Int32) &&& 31))) ||| sv7)] [(.int ((((((sv4 <<< ((18 : Int32) &&& 31)) ||| (sv5 <<< ((12 : Int32) &&& 31))) ||| (sv6 <<< ((6 : Int32) &&& 31))) ||| sv7) >>> ((8 : Int32) &&& 31)).toInt8.toInt32)), (.int 4), (.ref o)]))
  refine qsb 4 B X23 hZ e23 V23 d30_165 (by decide) rfl (Nat.le_of_ble_eq_true rfl) fun T24 h24 X24 e24 W24 V24 => ?_
  have K24 := K23.wr W24 (own_mi 0 rfl)
  have O24 := O23.wr W24 g7_G
  have N24 := Fr.snoc X24 N23 g7_G
  refine q_aload B X24 d30_166 rfl rfl rfl ?_
  refine q_iload B X24 d30_168 rfl rfl ?_
  refine q_iinc B X24 d30_170 rfl rfl rfl ?_
  show G (T24.setTop (mkF m 173 #[oa dc, oa sr, oi 8, oi 8, oa o, oi 0, oi 1, oi 0, oa tab, oi 8, oi ((5 : Int32) + (1 : Int32)), oi sv4, oi sv5, oi sv6, oi sv7, oi ((((sv4 <<< ((18 : Int32) &&& 31)) ||| (sv5 <<< ((12 : Int32) &&& 31))) ||| (sv6 <<< ((6 : Int32) &&& 31))) ||| sv7)] [(.int 5), (.ref o)]))
  rw [show ((5 : Int32) + (1 : Int32)) = (6 : Int32) from by decide]
  show G (T24.setTop (mkF m 173 #[oa dc, oa sr, oi 8, oi 8, oa o, oi 0, oi 1, oi 0, oa tab, oi 8, oi 6, oi sv4, oi sv5, oi sv6, oi sv7, oi ((((sv4 <<< ((18 : Int32) &&& 31)) ||| (sv5 <<< ((12 : Int32) &&& 31))) ||| (sv6 <<< ((6 : Int32) &&& 31))) ||| sv7)] [(.int 5), (.ref o)]))
  refine q_iload B X24 d30_173 rfl rfl ?_
  refine q_i2b B X24 d30_175 rfl rfl ?_
  show G (T24.setTop (mkF m 176 #[oa dc, oa sr, oi 8, oi 8, oa o, oi 0, oi 1, oi 0, oa tab, oi 8, oi 6, oi sv4, oi sv5, oi sv6, oi sv7, oi ((((sv4 <<< ((18 : Int32) &&& 31)) ||| (sv5 <<< ((12 : Int32) &&& 31))) ||| (sv6 <<< ((6 : Int32) &&& 31))) ||| sv7)] [(.int (((((sv4 <<< ((18 : Int32) &&& 31)) ||| (sv5 <<< ((12 : Int32) &&& 31))) ||| (sv6 <<< ((6 : Int32) &&& 31))) ||| sv7).toInt8.toInt32)), (.int 5), (.ref o)]))
  refine qsb 5 B X24 hZ e24 V24 d30_176 (by decide) rfl (Nat.le_of_ble_eq_true rfl) fun T25 h25 X25 e25 W25 V25 => ?_
  have K25 := K24.wr W25 (own_mi 0 rfl)
  have O25 := O24.wr W25 g7_G
  have N25 := Fr.snoc X25 N24 g7_G
  refine q_goto 30 B X25 d30_177 rfl rfl (by decide) ?_
  refine q_iloadN B X25 d30_30 rfl rfl ?_
  refine q_iload B X25 d30_31 rfl rfl ?_
  refine q_icmpYes 180 B X25 d30_33 rfl (flt (by decide)).2.1 rfl rfl (by decide) ?_
  refine q_iload B X25 d30_180 rfl rfl ?_
  refine q_iload B X25 d30_182 rfl rfl ?_
  refine q_isub B X25 d30_184 rfl rfl ?_
  show G (T25.setTop (mkF m 185 #[oa dc, oa sr, oi 8, oi 8, oa o, oi 0, oi 1, oi 0, oa tab, oi 8, oi 6, oi sv4, oi sv5, oi sv6, oi sv7, oi ((((sv4 <<< ((18 : Int32) &&& 31)) ||| (sv5 <<< ((12 : Int32) &&& 31))) ||| (sv6 <<< ((6 : Int32) &&& 31))) ||| sv7)] [(.int ((6 : Int32) - (0 : Int32)))]))
  rw [show ((6 : Int32) - (0 : Int32)) = (6 : Int32) from by decide]
  show G (T25.setTop (mkF m 185 #[oa dc, oa sr, oi 8, oi 8, oa o, oi 0, oi 1, oi 0, oa tab, oi 8, oi 6, oi sv4, oi sv5, oi sv6, oi sv7, oi ((((sv4 <<< ((18 : Int32) &&& 31)) ||| (sv5 <<< ((12 : Int32) &&& 31))) ||| (sv6 <<< ((6 : Int32) &&& 31))) ||| sv7)] [(.int 6)]))
  exact qRI B hR hret X25 d30_185 e25 ⟨rfl, N25, K25, V25⟩ (by decide)
theorem own_dec08 (hw : own_W Z a0) {dc tab : Addr} {ktab : ClassId} {sr : Addr} {ks : ClassId} {o : Addr} {ko : ClassId} {ch0 ch1 ch2 ch3 ch4 ch5 ch6 ch7 : Int32} (sv0 sv1 sv2 sv3 sv4 sv5 sv6 sv7 : Int32) (O0 : own_Old Z h0) (g0_S : Sta Z Z.heap "java/util/Base64$Decoder" "fromBase64URL" "[I" (.ref tab)) (g1_E : Exa Z h0 dc "java/util/Base64$Decoder") (g2_F : Fld Z h0 dc "java/util/Base64$Decoder" "isURL" "Z" (.int 1)) (g3_F : Fld Z h0 dc "java/util/Base64$Decoder" "isMIME" "Z" (.int 0)) (g4_V : Arv Z h0 tab ktab .int 256 (own_TAB.map Value.int) (.int 0)) (g5_V : Arv Z h0 sr ks .byte (8 : Int32) [(.int ch0), (.int ch1), (.int ch2), (.int ch3), (.int ch4), (.int ch5), (.int ch6), (.int ch7)] (.int 0)) (g6_V : Arv Z h0 o ko .byte (6 : Int32) [(.int 0), (.int 0), (.int 0), (.int 0), (.int 0), (.int 0)] (.int 0)) (g7_G : Z.heap.size ≤ o) (g8_ne_sr_o : sr ≠ o) (g9_ne_tab_o : tab ≠ o) (g10_ne_dc_o : dc ≠ o) (g11_hs0 : own_sy ch0 sv0) (g12_hs1 : own_sy ch1 sv1) (g13_hs2 : own_sy ch2 sv2) (g14_hs3 : own_sy ch3 sv3) (g15_hs4 : own_sy ch4 sv4) (g16_hs5 : own_sy ch5 sv5) (g17_hs6 : own_sy ch6 sv6) (g18_hs7 : own_sy ch7 sv7) : own_Con l Z ⟨"java/util/Base64$Decoder", "decode0", "([BII[B)I"⟩ jdk_2450_method_9_code 11 (some .int) [] ⟨1, 0, 0, 27⟩ #[(.ref dc), (.ref sr), (.int 0), (.int 8), (.ref o)] h0 (fun rv rh rL => rv = some (.int 6) ∧ own_Fr Z rL ∧ Keep h0 rh [o] ∧ (Arv Z rh o ko .byte (6 : Int32) [(.int (nar .byte ((((((sv0 <<< ((18 : Int32) &&& 31)) ||| (sv1 <<< ((12 : Int32) &&& 31))) ||| (sv2 <<< ((6 : Int32) &&& 31))) ||| sv3) >>> ((16 : Int32) &&& 31)).toInt8.toInt32))), (.int (nar .byte ((((((sv0 <<< ((18 : Int32) &&& 31)) ||| (sv1 <<< ((12 : Int32) &&& 31))) ||| (sv2 <<< ((6 : Int32) &&& 31))) ||| sv3) >>> ((8 : Int32) &&& 31)).toInt8.toInt32))), (.int (nar .byte (((((sv0 <<< ((18 : Int32) &&& 31)) ||| (sv1 <<< ((12 : Int32) &&& 31))) ||| (sv2 <<< ((6 : Int32) &&& 31))) ||| sv3).toInt8.toInt32))), (.int (nar .byte ((((((sv4 <<< ((18 : Int32) &&& 31)) ||| (sv5 <<< ((12 : Int32) &&& 31))) ||| (sv6 <<< ((6 : Int32) &&& 31))) ||| sv7) >>> ((16 : Int32) &&& 31)).toInt8.toInt32))), (.int (nar .byte ((((((sv4 <<< ((18 : Int32) &&& 31)) ||| (sv5 <<< ((12 : Int32) &&& 31))) ||| (sv6 <<< ((6 : Int32) &&& 31))) ||| sv7) >>> ((8 : Int32) &&& 31)).toInt8.toInt32))), (.int (nar .byte (((((sv4 <<< ((18 : Int32) &&& 31)) ||| (sv5 <<< ((12 : Int32) &&& 31))) ||| (sv6 <<< ((6 : Int32) &&& 31))) ||| sv7).toInt8.toInt32)))] (.int 0))) := by
  refine own_st hw (plainFor_of_name (by decide +kernel)) #[oa dc, oa sr, oi 0, oi 8, oa o, .unset, .unset, .unset, .unset, .unset, .unset] (fun m => by first | (simp [entryFrame, mkF, argsToLocals, Value.category]; done) | rfl) fun p e s m below meth c s₁ G B hown hnm hret hZ X0 e0 N0 hR => ?_
  refine q_aloadN B X0 d28_0 rfl rfl rfl ?_
  refine qgf B X0 hZ hown 134 rfl Via.refl e0 g2_F d28_1 fun T1 X1 e1 => ?_
  refine q_ifNo B X1 d28_4 rfl ((if0 _ _).trans (feq (by decide)).1) rfl ?_
  refine qgs B X1 hZ hown 136 rfl Via.refl e1 g0_S O0 d28_7 fun T2 X2 e2 => ?_
  refine q_goto 16 B X2 d28_10 rfl rfl (by decide) ?_
  refine q_astore B X2 d28_16 rfl rfl rfl rfl ?_
  refine q_iconst B X2 d28_18 rfl ?_
  refine q_istore B X2 d28_19 rfl rfl rfl ?_
  refine q_iconst B X2 d28_21 rfl ?_
  refine q_istore B X2 d28_22 rfl rfl rfl ?_
  refine q_bipush B X2 d28_24 rfl ?_
  refine q_istore B X2 d28_26 rfl rfl rfl ?_
  refine q_iloadN B X2 d28_28 rfl rfl ?_
  refine q_iloadN B X2 d28_29 rfl rfl ?_
  refine q_icmpNo B X2 d28_30 rfl (tlt (by decide)).2.1 rfl ?_
  refine q_iload B X2 d28_33 rfl rfl ?_
  refine q_bipush B X2 d28_35 rfl ?_
  show G (T2.setTop (mkF m 37 #[oa dc, oa sr, oi 0, oi 8, oa o, oa tab, oi 0, oi 0, oi 18, .unset, .unset] [(.int 18), (.int 18)]))
  refine q_icmpNo B X2 d28_37 rfl (teq (by decide)).2 rfl ?_
  refine q_iloadN B X2 d28_40 rfl rfl ?_
  refine q_iloadN B X2 d28_41 rfl rfl ?_
  refine q_iconst B X2 d28_42 rfl ?_
  refine q_isub B X2 d28_43 rfl rfl ?_
  show G (T2.setTop (mkF m 44 #[oa dc, oa sr, oi 0, oi 8, oa o, oa tab, oi 0, oi 0, oi 18, .unset, .unset] [(.int ((8 : Int32) - (4 : Int32))), (.int 0)]))
  rw [show ((8 : Int32) - (4 : Int32)) = (4 : Int32) from by decide]
  show G (T2.setTop (mkF m 44 #[oa dc, oa sr, oi 0, oi 8, oa o, oa tab, oi 0, oi 0, oi 18, .unset, .unset] [(.int 4), (.int 0)]))
  refine q_icmpNo B X2 d28_44 rfl (tlt (by decide)).2.1 rfl ?_
  refine q_aloadN B X2 d28_47 rfl rfl rfl ?_
  refine q_aloadN B X2 d28_48 rfl rfl rfl ?_
  refine q_iloadN B X2 d28_49 rfl rfl ?_
  refine q_iloadN B X2 d28_50 rfl rfl ?_
  refine q_aload B X2 d28_51 rfl rfl rfl ?_
  refine q_iload B X2 d28_53 rfl rfl ?_
  refine q_aloadN B X2 d28_55 rfl rfl rfl ?_
  refine qgf B X2 hZ hown 134 rfl Via.refl e2 g2_F d28_56 fun T3 X3 e3 => ?_
  refine q_aloadN B X3 d28_59 rfl rfl rfl ?_
  refine qgf B X3 hZ hown 137 rfl Via.refl e3 g3_F d28_60 fun T4 X4 e4 => ?_
  show G (T4.setTop (mkF m 63 #[oa dc, oa sr, oi 0, oi 8, oa o, oa tab, oi 0, oi 0, oi 18, .unset, .unset] [(.int 0), (.int 1), (.int 0), (.ref o), (.int 8), (.int 0), (.ref sr), (.ref dc)]))
  refine qP B X4 hZ hown 149 150 152 151 90 153 rfl rfl rfl rfl rfl rfl (own_blk8 hw (ch0 := ch0) (ch1 := ch1) (ch2 := ch2) (ch3 := ch3) (ch4 := ch4) (ch5 := ch5) (ch6 := ch6) (ch7 := ch7) sv0 sv1 sv2 sv3 sv4 sv5 sv6 sv7 O0 g0_S g1_E g2_F g3_F g4_V g5_V g6_V g7_G g8_ne_sr_o g9_ne_tab_o g10_ne_dc_o g11_hs0 g12_hs1 g13_hs2 g14_hs3 g15_hs4 g16_hs5 g17_hs6 g18_hs7) e4 g1_E own_pd21 rfl rfl d28_63 0 rfl rfl rfl (by decide) ?_
  rintro T5 h5 _ L5 X5 e5 ⟨rfl, M5, J5, r5_0⟩
  have N5 := Fr.app N0 M5
  have K5 := (Keep.refl h0 [o]).trans J5 (allS (own_mi 0 rfl) all0)
  have O5 := O0.keep J5 (allS g7_G all0)
  refine q_istore B X5 d28_66 rfl rfl rfl ?_
  refine q_iload B X5 d28_68 rfl rfl ?_
  refine q_iconst B X5 d28_70 rfl ?_
  refine q_iadd B X5 d28_71 rfl rfl ?_
  show G (T5.setTop (mkF m 72 #[oa dc, oa sr, oi 0, oi 8, oa o, oa tab, oi 0, oi 0, oi 18, oi 6, .unset] [(.int ((6 : Int32) + (2 : Int32)))]))
  rw [show ((6 : Int32) + (2 : Int32)) = (8 : Int32) from by decide]
  show G (T5.setTop (mkF m 72 #[oa dc, oa sr, oi 0, oi 8, oa o, oa tab, oi 0, oi 0, oi 18, oi 6, .unset] [(.int 8)]))
  refine q_iconst B X5 d28_72 rfl ?_
  refine q_idiv B X5 d28_73 rfl (by decide) rfl ?_
  show G (T5.setTop (mkF m 74 #[oa dc, oa sr, oi 0, oi 8, oa o, oa tab, oi 0, oi 0, oi 18, oi 6, .unset] [(.int ((8 : Int32) / (3 : Int32)))]))
  rw [show ((8 : Int32) / (3 : Int32)) = (2 : Int32) from by decide]
  show G (T5.setTop (mkF m 74 #[oa dc, oa sr, oi 0, oi 8, oa o, oa tab, oi 0, oi 0, oi 18, oi 6, .unset] [(.int 2)]))
  refine q_iconst B X5 d28_74 rfl ?_
  refine q_imul B X5 d28_75 rfl rfl ?_
  show G (T5.setTop (mkF m 76 #[oa dc, oa sr, oi 0, oi 8, oa o, oa tab, oi 0, oi 0, oi 18, oi 6, .unset] [(.int ((2 : Int32) * (4 : Int32)))]))
  rw [show ((2 : Int32) * (4 : Int32)) = (8 : Int32) from by decide]
  show G (T5.setTop (mkF m 76 #[oa dc, oa sr, oi 0, oi 8, oa o, oa tab, oi 0, oi 0, oi 18, oi 6, .unset] [(.int 8)]))
  refine q_istore B X5 d28_76 rfl rfl rfl ?_
  refine q_iloadN B X5 d28_78 rfl rfl ?_
  refine q_iload B X5 d28_79 rfl rfl ?_
  refine q_iadd B X5 d28_81 rfl rfl ?_
  show G (T5.setTop (mkF m 82 #[oa dc, oa sr, oi 0, oi 8, oa o, oa tab, oi 0, oi 0, oi 18, oi 6, oi 8] [(.int ((0 : Int32) + (8 : Int32)))]))
  rw [show ((0 : Int32) + (8 : Int32)) = (8 : Int32) from by decide]
  show G (T5.setTop (mkF m 82 #[oa dc, oa sr, oi 0, oi 8, oa o, oa tab, oi 0, oi 0, oi 18, oi 6, oi 8] [(.int 8)]))
  refine q_istoreN B X5 d28_82 rfl rfl rfl ?_
  refine q_iload B X5 d28_83 rfl rfl ?_
  refine q_iload B X5 d28_85 rfl rfl ?_
  refine q_iadd B X5 d28_87 rfl rfl ?_
  show G (T5.setTop (mkF m 88 #[oa dc, oa sr, oi 8, oi 8, oa o, oa tab, oi 0, oi 0, oi 18, oi 6, oi 8] [(.int ((0 : Int32) + (6 : Int32)))]))
  rw [show ((0 : Int32) + (6 : Int32)) = (6 : Int32) from by decide]
  show G (T5.setTop (mkF m 88 #[oa dc, oa sr, oi 8, oi 8, oa o, oa tab, oi 0, oi 0, oi 18, oi 6, oi 8] [(.int 6)]))
  refine q_istore B X5 d28_88 rfl rfl rfl ?_
  refine q_iloadN B X5 d28_90 rfl rfl ?_
  refine q_iloadN B X5 d28_91 rfl rfl ?_
  refine q_icmpNo B X5 d28_92 rfl (flt (by decide)).1 rfl ?_
  refine q_goto 281 B X5 d28_95 rfl rfl (by decide) ?_
  refine q_iload B X5 d28_281 rfl rfl ?_
  refine q_bipush B X5 d28_283 rfl ?_
  refine q_icmpYes 305 B X5 d28_285 rfl (feq (by decide)).2 rfl rfl (by decide) ?_
  refine q_iload B X5 d28_305 rfl rfl ?_
  refine q_ifYes 341 B X5 d28_307 rfl ((if0 _ _).trans (feq (by decide)).2) rfl rfl (by decide) ?_
  refine q_iload B X5 d28_341 rfl rfl ?_
  refine q_bipush B X5 d28_343 rfl ?_
  refine q_icmpYes 358 B X5 d28_345 rfl (feq (by decide)).2 rfl rfl (by decide) ?_
  refine q_iloadN B X5 d28_358 rfl rfl ?_
  refine q_iloadN B X5 d28_359 rfl rfl ?_
  refine q_icmpYes 416 B X5 d28_360 rfl (flt (by decide)).2.1 rfl rfl (by decide) ?_
  refine q_iload B X5 d28_416 rfl rfl ?_
  show G (T5.setTop (mkF m 418 #[oa dc, oa sr, oi 8, oi 8, oa o, oa tab, oi 6, oi 0, oi 18, oi 6, oi 8] [(.int 6)]))
  exact qRI B hR hret X5 d28_418 e5 ⟨rfl, N5, K5, r5_0⟩ (by decide)
theorem own_decb8 (hw : own_W Z a0) {dc tab : Addr} {ktab : ClassId} {sr : Addr} {ks : ClassId} {ch0 ch1 ch2 ch3 ch4 ch5 ch6 ch7 : Int32} (sv0 sv1 sv2 sv3 sv4 sv5 sv6 sv7 : Int32) (O0 : own_Old Z h0) (g0_S : Sta Z Z.heap "java/util/Base64$Decoder" "fromBase64URL" "[I" (.ref tab)) (g1_E : Exa Z h0 dc "java/util/Base64$Decoder") (g2_F : Fld Z h0 dc "java/util/Base64$Decoder" "isURL" "Z" (.int 1)) (g3_F : Fld Z h0 dc "java/util/Base64$Decoder" "isMIME" "Z" (.int 0)) (g4_V : Arv Z h0 tab ktab .int 256 (own_TAB.map Value.int) (.int 0)) (g5_V : Arv Z h0 sr ks .byte (8 : Int32) [(.int ch0), (.int ch1), (.int ch2), (.int ch3), (.int ch4), (.int ch5), (.int ch6), (.int ch7)] (.int 0)) (g6_hs0 : own_sy ch0 sv0) (g7_hs1 : own_sy ch1 sv1) (g8_hs2 : own_sy ch2 sv2) (g9_hs3 : own_sy ch3 sv3) (g10_hs4 : own_sy ch4 sv4) (g11_hs5 : own_sy ch5 sv5) (g12_hs6 : own_sy ch6 sv6) (g13_hs7 : own_sy ch7 sv7) : own_Con l Z ⟨"java/util/Base64$Decoder", "decode", "([B)[B"⟩ jdk_2450_method_2_code 4 (some (.array .byte)) [] ⟨2, 1, 6, 49⟩ #[(.ref dc), (.ref sr)] h0 (fun rv rh rL => ∃ (o : Addr) (ko : ClassId), rv = some (.ref o) ∧ own_Fr Z rL ∧ Keep h0 rh [] ∧ h0.size ≤ o ∧ (Arv Z rh o ko .byte (6 : Int32) [(.int (nar .byte ((((((sv0 <<< ((18 : Int32) &&& 31)) ||| (sv1 <<< ((12 : Int32) &&& 31))) ||| (sv2 <<< ((6 : Int32) &&& 31))) ||| sv3) >>> ((16 : Int32) &&& 31)).toInt8.toInt32))), (.int (nar .byte ((((((sv0 <<< ((18 : Int32) &&& 31)) ||| (sv1 <<< ((12 : Int32) &&& 31))) ||| (sv2 <<< ((6 : Int32) &&& 31))) ||| sv3) >>> ((8 : Int32) &&& 31)).toInt8.toInt32))), (.int (nar .byte (((((sv0 <<< ((18 : Int32) &&& 31)) ||| (sv1 <<< ((12 : Int32) &&& 31))) ||| (sv2 <<< ((6 : Int32) &&& 31))) ||| sv3).toInt8.toInt32))), (.int (nar .byte ((((((sv4 <<< ((18 : Int32) &&& 31)) ||| (sv5 <<< ((12 : Int32) &&& 31))) ||| (sv6 <<< ((6 : Int32) &&& 31))) ||| sv7) >>> ((16 : Int32) &&& 31)).toInt8.toInt32))), (.int (nar .byte ((((((sv4 <<< ((18 : Int32) &&& 31)) ||| (sv5 <<< ((12 : Int32) &&& 31))) ||| (sv6 <<< ((6 : Int32) &&& 31))) ||| sv7) >>> ((8 : Int32) &&& 31)).toInt8.toInt32))), (.int (nar .byte (((((sv4 <<< ((18 : Int32) &&& 31)) ||| (sv5 <<< ((12 : Int32) &&& 31))) ||| (sv6 <<< ((6 : Int32) &&& 31))) ||| sv7).toInt8.toInt32)))] (.int 0))) := by
  refine own_st hw (plainFor_of_name (by decide +kernel)) #[oa dc, oa sr, .unset, .unset] (fun _ => rfl) fun p e s m below meth c s₁ G B hown hnm hret hZ X0 e0 N0 hR => ?_
  refine q_aloadN B X0 d26_0 rfl rfl rfl ?_
  refine q_aloadN B X0 d26_1 rfl rfl rfl ?_
  refine q_iconst B X0 d26_2 rfl ?_
  refine q_aloadN B X0 d26_3 rfl rfl rfl ?_
  refine qal B X0 hZ e0 g5_V d26_4 ?_
  show G (s₁.setTop (mkF m 5 #[oa dc, oa sr, .unset, .unset] [(.int 8), (.int 0), (.ref sr), (.ref dc)]))
  refine qP B X0 hZ hown 129 130 132 131 90 133 rfl rfl rfl rfl rfl rfl (own_dol8 hw (ch0 := ch0) (ch1 := ch1) (ch2 := ch2) (ch3 := ch3) (ch4 := ch4) (ch5 := ch5) (ch6 := ch6) (ch7 := ch7) sv0 sv1 sv2 sv3 sv4 sv5 sv6 sv7 O0 g0_S g1_E g2_F g3_F g5_V g6_hs0 g7_hs1 g8_hs2 g9_hs3 g10_hs4 g11_hs5 g12_hs6 g13_hs7) e0 g1_E own_pd17 rfl rfl d26_5 0 rfl rfl rfl (by decide) ?_
  rintro T2 h2 _ L2 X2 e2 ⟨rfl, M2, rfl⟩
  have N2 := Fr.app N0 M2
  refine qna 6 B X2 hZ 31 rfl e2 d26_8 (by decide) (by decide) (by decide) fun T3 h3 k3 b3 z3 X3 e3 E3 A3 => ?_
  have K3 := (Keep.refl h0 []).ext E3
  have O3 := O0.ext E3
  have V3 : Arv Z h3 b3 k3 .byte (6 : Int32) [(.int 0), (.int 0), (.int 0), (.int 0), (.int 0), (.int 0)] (.int 0) := (Arv.new A3 (by decide)).pad (pad_rep [] (.int 0) 6)
  refine q_astoreN B X3 d26_10 rfl rfl rfl rfl ?_
  refine q_aloadN B X3 d26_11 rfl rfl rfl ?_
  refine q_aloadN B X3 d26_12 rfl rfl rfl ?_
  refine q_iconst B X3 d26_13 rfl ?_
  refine q_aloadN B X3 d26_14 rfl rfl rfl ?_
  have f5 := (g5_V.ext E3)
  refine qal B X3 hZ e3 f5 d26_15 ?_
  refine q_aloadN B X3 d26_16 rfl rfl rfl ?_
  show G (T3.setTop (mkF m 17 #[oa dc, oa sr, oa b3, .unset] [(.ref b3), (.int 8), (.int 0), (.ref sr), (.ref dc)]))
  have f7 := (g1_E.ext E3)
  have f8 := (g2_F.ext E3)
  have f9 := (g3_F.ext E3)
  have f10 := (g4_V.ext E3)
  refine qP B X3 hZ hown 141 142 144 143 90 145 rfl rfl rfl rfl rfl rfl (own_dec08 hw (ch0 := ch0) (ch1 := ch1) (ch2 := ch2) (ch3 := ch3) (ch4 := ch4) (ch5 := ch5) (ch6 := ch6) (ch7 := ch7) sv0 sv1 sv2 sv3 sv4 sv5 sv6 sv7 O3 g0_S f7 f8 f9 f10 f5 V3 (own_ge O0 (Nat.le_of_eq z3.symm)) (own_ne g5_V.lt (Nat.le_of_eq z3.symm)) (own_ne g4_V.lt (Nat.le_of_eq z3.symm)) (own_ne g1_E.lt (Nat.le_of_eq z3.symm)) g6_hs0 g7_hs1 g8_hs2 g9_hs3 g10_hs4 g11_hs5 g12_hs6 g13_hs7) e3 f7 own_pd18 rfl rfl d26_17 0 rfl rfl rfl (by decide) ?_
  rintro T6 h6 _ L6 X6 e6 ⟨rfl, M6, J6, r6_0⟩
  have N6 := Fr.app N2 M6
  have K6 := K3.trans J6 (allS (Or.inr (Nat.le_trans (Keep.refl h0 []).1 (Nat.le_of_eq z3.symm))) all0)
  have O6 := O3.keep J6 (allS (own_ge O0 (Nat.le_of_eq z3.symm)) all0)
  refine q_istoreN B X6 d26_20 rfl rfl rfl ?_
  refine q_iloadN B X6 d26_21 rfl rfl ?_
  refine q_aloadN B X6 d26_22 rfl rfl rfl ?_
  refine qal B X6 hZ e6 r6_0 d26_23 ?_
  refine q_icmpYes 33 B X6 d26_24 rfl (teq (by decide)).1 rfl rfl (by decide) ?_
  refine q_aloadN B X6 d26_33 rfl rfl rfl ?_
  show G (T6.setTop (mkF m 34 #[oa dc, oa sr, oa b3, oi 6] [(.ref b3)]))
  exact qRA B hR hret rfl rfl X6 d26_34 e6 ⟨b3, k3, rfl, N6, K6, (Nat.le_trans (Keep.refl h0 []).1 (Nat.le_of_eq z3.symm)), r6_0⟩ (by decide)
theorem own_decs8 (hw : own_W Z a0) {dc iso u8 tab : Addr} {ktab : ClassId} {a : Addr} {cpt : Int32} {t : Addr} {kt : ClassId} {ch0 ch1 ch2 ch3 ch4 ch5 ch6 ch7 : Int32} (sv0 sv1 sv2 sv3 sv4 sv5 sv6 sv7 : Int32) (O0 : own_Old Z h0) (g0_S : Sta Z Z.heap "sun/nio/cs/ISO_8859_1" "INSTANCE" "Lsun/nio/cs/ISO_8859_1;" (.ref iso)) (g1_S : Sta Z Z.heap "sun/nio/cs/UTF_8" "INSTANCE" "Lsun/nio/cs/UTF_8;" (.ref u8)) (g2_S : Sta Z Z.heap "java/util/Base64$Decoder" "fromBase64URL" "[I" (.ref tab)) (g3_hiu : iso ≠ u8) (g4_E : Exa Z h0 dc "java/util/Base64$Decoder") (g5_F : Fld Z h0 dc "java/util/Base64$Decoder" "isURL" "Z" (.int 1)) (g6_F : Fld Z h0 dc "java/util/Base64$Decoder" "isMIME" "Z" (.int 0)) (g7_V : Arv Z h0 tab ktab .int 256 (own_TAB.map Value.int) (.int 0)) (g8_E : Exa Z h0 a "java/lang/String") (g9_F : Fld Z h0 a "java/lang/String" "coder" "B" (.int 0)) (g10_F : Fld Z h0 a "java/lang/String" "value" "[B" (.ref t)) (g11_E : Exa Z h0 t "[B") (g12_V : Arv Z h0 t kt .byte (8 : Int32) [(.int ch0), (.int ch1), (.int ch2), (.int ch3), (.int ch4), (.int ch5), (.int ch6), (.int ch7)] (.int 0)) (g13_S : Sta Z Z.heap "java/lang/String" "COMPACT_STRINGS" "Z" (.int cpt)) (g14_hcpt : ¬ (cpt = (0 : Int32))) (g15_hs0 : own_sy ch0 sv0) (g16_hs1 : own_sy ch1 sv1) (g17_hs2 : own_sy ch2 sv2) (g18_hs3 : own_sy ch3 sv3) (g19_hs4 : own_sy ch4 sv4) (g20_hs5 : own_sy ch5 sv5) (g21_hs6 : own_sy ch6 sv6) (g22_hs7 : own_sy ch7 sv7) : own_Con l Z ⟨"java/util/Base64$Decoder", "decode", "(Ljava/lang/String;)[B"⟩ jdk_2450_method_3_code 2 (some (.array .byte)) [] ⟨5, 2, 14, 76⟩ #[(.ref dc), (.ref a)] h0 (fun rv rh rL => ∃ (o : Addr) (ko : ClassId), rv = some (.ref o) ∧ own_Fr Z rL ∧ Keep h0 rh [] ∧ h0.size ≤ o ∧ (Arv Z rh o ko .byte (6 : Int32) [(.int (nar .byte ((((((sv0 <<< ((18 : Int32) &&& 31)) ||| (sv1 <<< ((12 : Int32) &&& 31))) ||| (sv2 <<< ((6 : Int32) &&& 31))) ||| sv3) >>> ((16 : Int32) &&& 31)).toInt8.toInt32))), (.int (nar .byte ((((((sv0 <<< ((18 : Int32) &&& 31)) ||| (sv1 <<< ((12 : Int32) &&& 31))) ||| (sv2 <<< ((6 : Int32) &&& 31))) ||| sv3) >>> ((8 : Int32) &&& 31)).toInt8.toInt32))), (.int (nar .byte (((((sv0 <<< ((18 : Int32) &&& 31)) ||| (sv1 <<< ((12 : Int32) &&& 31))) ||| (sv2 <<< ((6 : Int32) &&& 31))) ||| sv3).toInt8.toInt32))), (.int (nar .byte ((((((sv4 <<< ((18 : Int32) &&& 31)) ||| (sv5 <<< ((12 : Int32) &&& 31))) ||| (sv6 <<< ((6 : Int32) &&& 31))) ||| sv7) >>> ((16 : Int32) &&& 31)).toInt8.toInt32))), (.int (nar .byte ((((((sv4 <<< ((18 : Int32) &&& 31)) ||| (sv5 <<< ((12 : Int32) &&& 31))) ||| (sv6 <<< ((6 : Int32) &&& 31))) ||| sv7) >>> ((8 : Int32) &&& 31)).toInt8.toInt32))), (.int (nar .byte (((((sv4 <<< ((18 : Int32) &&& 31)) ||| (sv5 <<< ((12 : Int32) &&& 31))) ||| (sv6 <<< ((6 : Int32) &&& 31))) ||| sv7).toInt8.toInt32)))] (.int 0))) := by
  refine own_st hw (plainFor_of_name (by decide +kernel)) #[oa dc, oa a] (fun _ => rfl) fun p e s m below meth c s₁ G B hown hnm hret hZ X0 e0 N0 hR => ?_
  refine q_aloadN B X0 d21_0 rfl rfl rfl ?_
  refine q_aloadN B X0 d21_1 rfl rfl rfl ?_
  refine qgs B X0 hZ hown 96 rfl Via.refl e0 g0_S O0 d21_2 fun T1 X1 e1 => ?_
  show G (T1.setTop (mkF m 5 #[oa dc, oa a] [(.ref iso), (.ref a), (.ref dc)]))
  refine qV B X1 hZ hown 98 99 101 100 15 102 rfl rfl rfl rfl rfl rfl (own_gby hw O0 g0_S g1_S g3_hiu g8_E g9_F g10_F g11_E g12_V (by decide) g13_S g14_hcpt) e1 g8_E own_pd16 rfl rfl d21_5 1 rfl rfl rfl (by decide) ?_
  rintro T2 h2 _ L2 X2 e2 ⟨u_2, ku_2, rfl, M2, J2, y2_0, r2_0⟩
  have N2 := Fr.app N0 M2
  have K2 := (Keep.refl h0 []).trans J2 all0
  have O2 := O0.keep J2 all0
  show G (T2.setTop (mkF m 8 #[oa dc, oa a] [(.ref u_2), (.ref dc)]))
  have f4 := (g4_E.keep J2)
  have f5 := (g5_F.keep J2 nin0)
  have f6 := (g6_F.keep J2 nin0)
  have f7 := (g7_V.keep J2 nin0)
  refine qV B X2 hZ hown 124 125 127 126 90 128 rfl rfl rfl rfl rfl rfl (own_decb8 hw (ch0 := ch0) (ch1 := ch1) (ch2 := ch2) (ch3 := ch3) (ch4 := ch4) (ch5 := ch5) (ch6 := ch6) (ch7 := ch7) sv0 sv1 sv2 sv3 sv4 sv5 sv6 sv7 O2 g2_S f4 f5 f6 f7 r2_0 g15_hs0 g16_hs1 g17_hs2 g18_hs3 g19_hs4 g20_hs5 g21_hs6 g22_hs7) e2 f4 own_pd19 rfl rfl d21_8 0 rfl rfl rfl (by decide) ?_
  rintro T3 h3 _ L3 X3 e3 ⟨o_3, ko_3, rfl, M3, J3, y3_0, r3_0⟩
  have N3 := Fr.app N2 M3
  have K3 := K2.trans J3 all0
  have O3 := O2.keep J3 all0
  show G (T3.setTop (mkF m 11 #[oa dc, oa a] [(.ref o_3)]))
  exact qRA B hR hret rfl rfl X3 d21_11 e3 ⟨o_3, ko_3, rfl, N3, K3, (Nat.le_trans K2.1 y3_0), r3_0⟩ (by decide)
theorem own_b64_8 (hw : own_W Z a0) {dc iso u8 tab : Addr} {ktab : ClassId} {a : Addr} {cpt : Int32} {t : Addr} {kt : ClassId} (ch0 ch1 ch2 ch3 ch4 ch5 ch6 ch7 sv0 sv1 sv2 sv3 sv4 sv5 sv6 sv7 : Int32) (O0 : own_Old Z h0) (g0_S : Sta Z Z.heap "java/util/Base64$Decoder" "RFC4648_URLSAFE" "Ljava/util/Base64$Decoder;" (.ref dc)) (g1_S : Sta Z Z.heap "sun/nio/cs/ISO_8859_1" "INSTANCE" "Lsun/nio/cs/ISO_8859_1;" (.ref iso)) (g2_S : Sta Z Z.heap "sun/nio/cs/UTF_8" "INSTANCE" "Lsun/nio/cs/UTF_8;" (.ref u8)) (g3_S : Sta Z Z.heap "java/util/Base64$Decoder" "fromBase64URL" "[I" (.ref tab)) (g4_hiu : iso ≠ u8) (g5_E : Exa Z h0 dc "java/util/Base64$Decoder") (g6_F : Fld Z h0 dc "java/util/Base64$Decoder" "isURL" "Z" (.int 1)) (g7_F : Fld Z h0 dc "java/util/Base64$Decoder" "isMIME" "Z" (.int 0)) (g8_V : Arv Z h0 tab ktab .int 256 (own_TAB.map Value.int) (.int 0)) (g9_E : Exa Z h0 a "java/lang/String") (g10_F : Fld Z h0 a "java/lang/String" "coder" "B" (.int 0)) (g11_F : Fld Z h0 a "java/lang/String" "value" "[B" (.ref t)) (g12_E : Exa Z h0 t "[B") (g13_V : Arv Z h0 t kt .byte (Int32.ofNat [ch0, ch1, ch2, ch3, ch4, ch5, ch6, ch7].length) ([ch0, ch1, ch2, ch3, ch4, ch5, ch6, ch7].map fun c => Value.int c.toInt8.toInt32) (.int 0)) (g14_S : Sta Z Z.heap "java/lang/String" "COMPACT_STRINGS" "Z" (.int cpt)) (g15_hcpt : ¬ (cpt = (0 : Int32))) (g16_hs0 : own_sy ch0 sv0) (g17_hs1 : own_sy ch1 sv1) (g18_hs2 : own_sy ch2 sv2) (g19_hs3 : own_sy ch3 sv3) (g20_hs4 : own_sy ch4 sv4) (g21_hs5 : own_sy ch5 sv5) (g22_hs6 : own_sy ch6 sv6) (g23_hs7 : own_sy ch7 sv7) : own_Con l Z ⟨"com/example/research_access_policy/researchaccesspolicy/token/Base64Url", "decode", "(Ljava/lang/String;)[B"⟩ prog_16_method_2_code 1 (some (.array .byte)) [] ⟨6, 2, 14, 89⟩ #[(.ref a)] h0 (fun rv rh rL => ∃ (o : Addr) (ko : ClassId), rv = some (.ref o) ∧ own_Fr Z rL ∧ Keep h0 rh [] ∧ h0.size ≤ o ∧ (Arv Z rh o ko .byte (6 : Int32) [(.int (nar .byte ((((((sv0 <<< ((18 : Int32) &&& 31)) ||| (sv1 <<< ((12 : Int32) &&& 31))) ||| (sv2 <<< ((6 : Int32) &&& 31))) ||| sv3) >>> ((16 : Int32) &&& 31)).toInt8.toInt32))), (.int (nar .byte ((((((sv0 <<< ((18 : Int32) &&& 31)) ||| (sv1 <<< ((12 : Int32) &&& 31))) ||| (sv2 <<< ((6 : Int32) &&& 31))) ||| sv3) >>> ((8 : Int32) &&& 31)).toInt8.toInt32))), (.int (nar .byte (((((sv0 <<< ((18 : Int32) &&& 31)) ||| (sv1 <<< ((12 : Int32) &&& 31))) ||| (sv2 <<< ((6 : Int32) &&& 31))) ||| sv3).toInt8.toInt32))), (.int (nar .byte ((((((sv4 <<< ((18 : Int32) &&& 31)) ||| (sv5 <<< ((12 : Int32) &&& 31))) ||| (sv6 <<< ((6 : Int32) &&& 31))) ||| sv7) >>> ((16 : Int32) &&& 31)).toInt8.toInt32))), (.int (nar .byte ((((((sv4 <<< ((18 : Int32) &&& 31)) ||| (sv5 <<< ((12 : Int32) &&& 31))) ||| (sv6 <<< ((6 : Int32) &&& 31))) ||| sv7) >>> ((8 : Int32) &&& 31)).toInt8.toInt32))), (.int (nar .byte (((((sv4 <<< ((18 : Int32) &&& 31)) ||| (sv5 <<< ((12 : Int32) &&& 31))) ||| (sv6 <<< ((6 : Int32) &&& 31))) ||| sv7).toInt8.toInt32)))] (.int 0))) := by
  refine own_st hw (plainFor_of_name (by decide +kernel)) #[oa a] (fun _ => rfl) fun p e s m below meth c s₁ G B hown hnm hret hZ X0 e0 N0 hR => ?_
  refine q_aloadN B X0 d10_0 rfl rfl rfl ?_
  refine q_bipush B X0 d10_1 rfl ?_
  show G (s₁.setTop (mkF m 3 #[oa a] [(.int 61), (.ref a)]))
  refine qV B X0 hZ hown 46 47 49 48 15 50 rfl rfl rfl rfl rfl rfl (own_sio1 hw [ch0, ch1, ch2, ch3, ch4, ch5, ch6, ch7] O0 g9_E g10_F g11_F g13_V (Nat.le_of_ble_eq_true rfl) (own_allc (own_sy8 g16_hs0) (own_allc (own_sy8 g17_hs1) (own_allc (own_sy8 g18_hs2) (own_allc (own_sy8 g19_hs3) (own_allc (own_sy8 g20_hs4) (own_allc (own_sy8 g21_hs5) (own_allc (own_sy8 g22_hs6) (own_allc (own_sy8 g23_hs7) own_alln)))))))) g14_S g15_hcpt) e0 g9_E own_pd11 rfl rfl d10_3 0 rfl rfl rfl (by decide) ?_
  rintro T1 h1 _ L1 X1 e1 ⟨r_1, rfl, M1, rfl, r1_0⟩
  have N1 := Fr.app N0 M1
  refine q_ifYes 19 B X1 d10_6 rfl ((if0 _ _).trans (tlt (r1_0.mpr (own_allc (own_sy_e g16_hs0).2.2.1 (own_allc (own_sy_e g17_hs1).2.2.1 (own_allc (own_sy_e g18_hs2).2.2.1 (own_allc (own_sy_e g19_hs3).2.2.1 (own_allc (own_sy_e g20_hs4).2.2.1 (own_allc (own_sy_e g21_hs5).2.2.1 (own_allc (own_sy_e g22_hs6).2.2.1 (own_allc (own_sy_e g23_hs7).2.2.1 own_alln)))))))))).1) rfl rfl (by decide) ?_
  show G (T1.setTop (mkF m 19 #[oa a] []))
  have W2 : Arv Z h0 t kt .byte (8 : Int32) [(.int ch0), (.int ch1), (.int ch2), (.int ch3), (.int ch4), (.int ch5), (.int ch6), (.int ch7)] (.int 0) := by have q := g13_V; simp only [List.map_cons, List.map_nil, own_b7 g16_hs0, own_b7 g17_hs1, own_b7 g18_hs2, own_b7 g19_hs3, own_b7 g20_hs4, own_b7 g21_hs5, own_b7 g22_hs6, own_b7 g23_hs7] at q; exact q
  show G (T1.setTop (mkF m 19 #[oa a] []))
  refine qS B X1 hZ hown 85 86 87 88 rfl rfl rfl rfl (own_gud hw O0 g0_S) e1 own_pd12 rfl rfl d10_19 0 rfl rfl rfl (by decide) ?_
  rintro T3 h3 _ L3 X3 e3 ⟨rfl, M3, rfl⟩
  have N3 := Fr.app N1 M3
  refine q_aloadN B X3 d10_22 rfl rfl rfl ?_
  show G (T3.setTop (mkF m 23 #[oa a] [(.ref a), (.ref dc)]))
  refine qV B X3 hZ hown 91 92 94 93 90 95 rfl rfl rfl rfl rfl rfl (own_decs8 hw (ch0 := ch0) (ch1 := ch1) (ch2 := ch2) (ch3 := ch3) (ch4 := ch4) (ch5 := ch5) (ch6 := ch6) (ch7 := ch7) sv0 sv1 sv2 sv3 sv4 sv5 sv6 sv7 O0 g1_S g2_S g3_S g4_hiu g5_E g6_F g7_F g8_V g9_E g10_F g11_F g12_E W2 g14_S g15_hcpt g16_hs0 g17_hs1 g18_hs2 g19_hs3 g20_hs4 g21_hs5 g22_hs6 g23_hs7) e3 g5_E own_pd20 rfl rfl d10_23 0 rfl rfl rfl (by decide) ?_
  rintro T4 h4 _ L4 X4 e4 ⟨o_4, ko_4, rfl, M4, J4, y4_0, r4_0⟩
  have N4 := Fr.app N3 M4
  have K4 := (Keep.refl h0 []).trans J4 all0
  have O4 := O0.keep J4 all0
  show G (T4.setTop (mkF m 26 #[oa a] [(.ref o_4)]))
  exact qRA B hR hret rfl rfl X4 d10_26 e4 ⟨o_4, ko_4, rfl, N4, K4, (Nat.le_trans (Keep.refl h0 []).1 y4_0), r4_0⟩ (by decide)
theorem own_symc (hw : own_W Z a0) (v : Int32) (O0 : own_Old Z h0) (g0_hv : 0 ≤ v.toInt ∧ v.toInt ≤ 63) : own_Con l Z ⟨"com/example/research_access_policy/researchaccesspolicy/token/Base64UrlDecodePinLaw", "sym", "(I)C"⟩ method_2_code 1 (some .char) [] ⟨0, 0, 0, 0⟩ #[(.int v)] h0 (fun rv rh rL => ∃ (r : Int32), rv = some (.int r) ∧ own_Fr Z rL ∧ h0 = rh ∧ (own_sy r v)) := by
  refine own_st hw (plainFor_of_name (by decide +kernel)) #[oi v] (fun _ => rfl) fun p e s m below meth c s₁ G B hown hnm hret hZ X0 e0 N0 hR => ?_
  refine q_iloadN B X0 d3_0 rfl rfl ?_
  refine q_bipush B X0 d3_1 rfl ?_
  by_cases hc3_1 : v < (26 : Int32)
  · skip
    refine q_icmpNo B X0 d3_3 rfl (tlt hc3_1).2.1 rfl ?_
    refine q_bipush B X0 d3_6 rfl ?_
    refine q_iloadN B X0 d3_8 rfl rfl ?_
    refine q_iadd B X0 d3_9 rfl rfl ?_
    refine q_i2c B X0 d3_10 rfl rfl ?_
    show G (s₁.setTop (mkF m 11 #[oi v] [(.int (((65 : Int32) + v).toUInt32.toUInt16.toUInt32.toInt32))]))
    exact qRN B hR hret (by simp) X0 d3_11 e0 ⟨(nar .char (((65 : Int32) + v).toUInt32.toUInt16.toUInt32.toInt32)), rfl, N0, rfl, (own_syA g0_hv hc3_1)⟩ (by decide)
  · skip
    refine q_icmpYes 12 B X0 d3_3 rfl (flt hc3_1).2.1 rfl rfl (by decide) ?_
    refine q_iloadN B X0 d3_12 rfl rfl ?_
    refine q_bipush B X0 d3_13 rfl ?_
    by_cases hc15_2 : v < (52 : Int32)
    · skip
      refine q_icmpNo B X0 d3_15 rfl (tlt hc15_2).2.1 rfl ?_
      refine q_bipush B X0 d3_18 rfl ?_
      refine q_iloadN B X0 d3_20 rfl rfl ?_
      refine q_bipush B X0 d3_21 rfl ?_
      refine q_isub B X0 d3_23 rfl rfl ?_
      refine q_iadd B X0 d3_24 rfl rfl ?_
      refine q_i2c B X0 d3_25 rfl rfl ?_
      show G (s₁.setTop (mkF m 26 #[oi v] [(.int (((97 : Int32) + (v - (26 : Int32))).toUInt32.toUInt16.toUInt32.toInt32))]))
      exact qRN B hR hret (by simp) X0 d3_26 e0 ⟨(nar .char (((97 : Int32) + (v - (26 : Int32))).toUInt32.toUInt16.toUInt32.toInt32)), rfl, N0, rfl, (own_syB hc3_1 hc15_2)⟩ (by decide)
    · skip
      refine q_icmpYes 27 B X0 d3_15 rfl (flt hc15_2).2.1 rfl rfl (by decide) ?_
      refine q_iloadN B X0 d3_27 rfl rfl ?_
      refine q_bipush B X0 d3_28 rfl ?_
      by_cases hc30_3 : v < (62 : Int32)
      · skip
        refine q_icmpNo B X0 d3_30 rfl (tlt hc30_3).2.1 rfl ?_
        refine q_bipush B X0 d3_33 rfl ?_
        refine q_iloadN B X0 d3_35 rfl rfl ?_
        refine q_bipush B X0 d3_36 rfl ?_
        refine q_isub B X0 d3_38 rfl rfl ?_
        refine q_iadd B X0 d3_39 rfl rfl ?_
        refine q_i2c B X0 d3_40 rfl rfl ?_
        show G (s₁.setTop (mkF m 41 #[oi v] [(.int (((48 : Int32) + (v - (52 : Int32))).toUInt32.toUInt16.toUInt32.toInt32))]))
        exact qRN B hR hret (by simp) X0 d3_41 e0 ⟨(nar .char (((48 : Int32) + (v - (52 : Int32))).toUInt32.toUInt16.toUInt32.toInt32)), rfl, N0, rfl, (own_syC hc15_2 hc30_3)⟩ (by decide)
      · skip
        refine q_icmpYes 42 B X0 d3_30 rfl (flt hc30_3).2.1 rfl rfl (by decide) ?_
        refine q_iloadN B X0 d3_42 rfl rfl ?_
        refine q_bipush B X0 d3_43 rfl ?_
        by_cases hc45_4 : v = (62 : Int32)
        · skip
          refine q_icmpNo B X0 d3_45 rfl (teq hc45_4).2 rfl ?_
          refine q_bipush B X0 d3_48 rfl ?_
          show G (s₁.setTop (mkF m 50 #[oi v] [(.int 45)]))
          exact qRN B hR hret (by simp) X0 d3_50 e0 ⟨(nar .char (45 : Int32)), rfl, N0, rfl, (by rw [hc45_4]; exact own_syD)⟩ (by decide)
        · skip
          refine q_icmpYes 51 B X0 d3_45 rfl (feq hc45_4).2 rfl rfl (by decide) ?_
          refine q_bipush B X0 d3_51 rfl ?_
          show G (s₁.setTop (mkF m 53 #[oi v] [(.int 95)]))
          exact qRN B hR hret (by simp) X0 d3_53 e0 ⟨(nar .char (95 : Int32)), rfl, N0, rfl, (own_syE g0_hv hc30_3 hc45_4)⟩ (by decide)
theorem own_put2_0_1 (hw : own_W Z a0) {u : Addr} {ku : ClassId} (b0 b1 b2 : Int32) {ce0 ce1 : Int32} (O0 : own_Old Z h0) (g0_V : Arv Z h0 u ku .char (2 : Int32) [(.int ce0), (.int ce1)] (.int 0)) (g1_G : Z.heap.size ≤ u) : own_Con l Z ⟨"com/example/research_access_policy/researchaccesspolicy/token/Base64UrlDecodePinLaw", "put", "([CIIIII)V"⟩ method_3_code 7 none [] ⟨1, 0, 0, 14⟩ #[(.ref u), (.int 0), (.int b0), (.int b1), (.int b2), (.int 1)] h0 (fun rv rh rL => ∃ (z0 : Int32) (z1 : Int32), rv = none ∧ own_Fr Z rL ∧ Keep h0 rh [u] ∧ (Arv Z rh u ku .char (2 : Int32) [(.int z0), (.int z1)] (.int 0)) ∧ (own_sy z0 (own_s18 (own_w b0 b1 b2))) ∧ (own_sy z1 (own_s12 (own_w b0 b1 b2)))) := by
  refine own_st hw (plainFor_of_name (by decide +kernel)) #[oa u, oi 0, oi b0, oi b1, oi b2, oi 1, .unset] (fun m => by first | (simp [entryFrame, mkF, argsToLocals, Value.category]; done) | rfl) fun p e s m below meth c s₁ G B hown hnm hret hZ X0 e0 N0 hR => ?_
  refine q_iloadN B X0 d2_0 rfl rfl ?_
  refine q_bipush B X0 d2_1 rfl ?_
  refine q_ishl B X0 d2_3 rfl rfl ?_
  refine q_iloadN B X0 d2_4 rfl rfl ?_
  refine q_bipush B X0 d2_5 rfl ?_
  refine q_ishl B X0 d2_7 rfl rfl ?_
  refine q_ior B X0 d2_8 rfl rfl ?_
  refine q_iload B X0 d2_9 rfl rfl ?_
  refine q_ior B X0 d2_11 rfl rfl ?_
  refine q_istore B X0 d2_12 rfl rfl rfl ?_
  refine q_aloadN B X0 d2_14 rfl rfl rfl ?_
  refine q_iloadN B X0 d2_15 rfl rfl ?_
  refine q_iload B X0 d2_16 rfl rfl ?_
  refine q_bipush B X0 d2_18 rfl ?_
  refine q_iushr B X0 d2_20 rfl rfl ?_
  refine q_bipush B X0 d2_21 rfl ?_
  refine q_iand B X0 d2_23 rfl rfl ?_
  show G (s₁.setTop (mkF m 24 #[oa u, oi 0, oi b0, oi b1, oi b2, oi 1, oi (((b0 <<< ((16 : Int32) &&& 31)) ||| (b1 <<< ((8 : Int32) &&& 31))) ||| b2)] [(.int ((((((b0 <<< ((16 : Int32) &&& 31)) ||| (b1 <<< ((8 : Int32) &&& 31))) ||| b2).toUInt32 >>> ((18 : Int32) &&& 31).toUInt32).toInt32) &&& (63 : Int32))), (.int 0), (.ref u)]))
  refine qS B X0 hZ hown 10 11 8 12 rfl rfl rfl rfl (own_symc hw ((((((b0 <<< ((16 : Int32) &&& 31)) ||| (b1 <<< ((8 : Int32) &&& 31))) ||| b2).toUInt32 >>> ((18 : Int32) &&& 31).toUInt32).toInt32) &&& (63 : Int32)) O0 (own_sxr _)) e0 own_pd22 rfl rfl d2_24 2 rfl rfl rfl (by decide) ?_
  rintro T1 h1 _ L1 X1 e1 ⟨r_1, rfl, M1, rfl, r1_0⟩
  have N1 := Fr.app N0 M1
  show G (T1.setTop (mkF m 27 #[oa u, oi 0, oi b0, oi b1, oi b2, oi 1, oi (((b0 <<< ((16 : Int32) &&& 31)) ||| (b1 <<< ((8 : Int32) &&& 31))) ||| b2)] [(.int r_1), (.int 0), (.ref u)]))
  refine qsc 0 B X1 hZ e1 g0_V d2_27 (by decide) rfl (Nat.le_of_ble_eq_true rfl) fun T2 h2 X2 e2 W2 V2 => ?_
  have K2 := (Keep.refl h0 [u]).wr W2 (own_mi 0 rfl)
  have O2 := O0.wr W2 g1_G
  rw [own_narC (own_syr r1_0)] at V2
  have N2 := Fr.snoc X2 N1 g1_G
  refine q_aloadN B X2 d2_28 rfl rfl rfl ?_
  refine q_iloadN B X2 d2_29 rfl rfl ?_
  refine q_iconst B X2 d2_30 rfl ?_
  refine q_iadd B X2 d2_31 rfl rfl ?_
  show G (T2.setTop (mkF m 32 #[oa u, oi 0, oi b0, oi b1, oi b2, oi 1, oi (((b0 <<< ((16 : Int32) &&& 31)) ||| (b1 <<< ((8 : Int32) &&& 31))) ||| b2)] [(.int ((0 : Int32) + (1 : Int32))), (.ref u)]))
  rw [show ((0 : Int32) + (1 : Int32)) = (1 : Int32) from by decide]
  show G (T2.setTop (mkF m 32 #[oa u, oi 0, oi b0, oi b1, oi b2, oi 1, oi (((b0 <<< ((16 : Int32) &&& 31)) ||| (b1 <<< ((8 : Int32) &&& 31))) ||| b2)] [(.int 1), (.ref u)]))
  refine q_iload B X2 d2_32 rfl rfl ?_
  refine q_bipush B X2 d2_34 rfl ?_
  refine q_iushr B X2 d2_36 rfl rfl ?_
  refine q_bipush B X2 d2_37 rfl ?_
  refine q_iand B X2 d2_39 rfl rfl ?_
  show G (T2.setTop (mkF m 40 #[oa u, oi 0, oi b0, oi b1, oi b2, oi 1, oi (((b0 <<< ((16 : Int32) &&& 31)) ||| (b1 <<< ((8 : Int32) &&& 31))) ||| b2)] [(.int ((((((b0 <<< ((16 : Int32) &&& 31)) ||| (b1 <<< ((8 : Int32) &&& 31))) ||| b2).toUInt32 >>> ((12 : Int32) &&& 31).toUInt32).toInt32) &&& (63 : Int32))), (.int 1), (.ref u)]))
  refine qS B X2 hZ hown 10 11 8 12 rfl rfl rfl rfl (own_symc hw ((((((b0 <<< ((16 : Int32) &&& 31)) ||| (b1 <<< ((8 : Int32) &&& 31))) ||| b2).toUInt32 >>> ((12 : Int32) &&& 31).toUInt32).toInt32) &&& (63 : Int32)) O2 (own_sxr _)) e2 own_pd22 rfl rfl d2_40 2 rfl rfl rfl (by decide) ?_
  rintro T3 h3 _ L3 X3 e3 ⟨r_3, rfl, M3, rfl, r3_0⟩
  have N3 := Fr.app N2 M3
  show G (T3.setTop (mkF m 43 #[oa u, oi 0, oi b0, oi b1, oi b2, oi 1, oi (((b0 <<< ((16 : Int32) &&& 31)) ||| (b1 <<< ((8 : Int32) &&& 31))) ||| b2)] [(.int r_3), (.int 1), (.ref u)]))
  refine qsc 1 B X3 hZ e3 V2 d2_43 (by decide) rfl (Nat.le_of_ble_eq_true rfl) fun T4 h4 X4 e4 W4 V4 => ?_
  have K4 := K2.wr W4 (own_mi 0 rfl)
  have O4 := O2.wr W4 g1_G
  rw [own_narC (own_syr r3_0)] at V4
  have N4 := Fr.snoc X4 N3 g1_G
  refine q_iload B X4 d2_44 rfl rfl ?_
  refine q_iconst B X4 d2_46 rfl ?_
  refine q_icmpYes 66 B X4 d2_47 rfl (tlt (by decide)).1 rfl rfl (by decide) ?_
  refine q_iload B X4 d2_66 rfl rfl ?_
  refine q_iconst B X4 d2_68 rfl ?_
  refine q_icmpYes 85 B X4 d2_69 rfl (tlt (by decide)).1 rfl rfl (by decide) ?_
  show G (T4.setTop (mkF m 85 #[oa u, oi 0, oi b0, oi b1, oi b2, oi 1, oi (((b0 <<< ((16 : Int32) &&& 31)) ||| (b1 <<< ((8 : Int32) &&& 31))) ||| b2)] []))
  exact qRV B hR hret X4 d2_85 e4 ⟨r_1, r_3, rfl, N4, K4, V4, r1_0, r3_0⟩ (by decide)
theorem own_min_1_3 (hw : own_W Z a0) (O0 : own_Old Z h0) : own_Con l Z ⟨"java/lang/Math", "min", "(II)I"⟩ jdk_29_method_69_code 2 (some .int) [] ⟨0, 0, 0, 0⟩ #[(.int 1), (.int 3)] h0 (fun rv rh rL => rv = some (.int 1) ∧ own_Fr Z rL ∧ h0 = rh) := by
  refine own_st hw (Jvm.Free.JP.mathPlain rfl (by decide +kernel)) #[oi 1, oi 3] (fun _ => rfl) fun p e s m below meth c s₁ G B hown hnm hret hZ X0 e0 N0 hR => ?_
  refine q_iloadN B X0 d1_0 rfl rfl ?_
  refine q_iloadN B X0 d1_1 rfl rfl ?_
  refine q_icmpNo B X0 d1_2 rfl (flt (by decide)).2.2.1 rfl ?_
  refine q_iloadN B X0 d1_5 rfl rfl ?_
  refine q_goto 10 B X0 d1_6 rfl rfl (by decide) ?_
  show G (s₁.setTop (mkF m 10 #[oi 1, oi 3] [(.int 1)]))
  exact qRI B hR hret X0 d1_10 e0 ⟨rfl, N0, rfl⟩ (by decide)
theorem own_put3_0_2 (hw : own_W Z a0) {u : Addr} {ku : ClassId} (b0 b1 b2 : Int32) {ce0 ce1 ce2 : Int32} (O0 : own_Old Z h0) (g0_V : Arv Z h0 u ku .char (3 : Int32) [(.int ce0), (.int ce1), (.int ce2)] (.int 0)) (g1_G : Z.heap.size ≤ u) : own_Con l Z ⟨"com/example/research_access_policy/researchaccesspolicy/token/Base64UrlDecodePinLaw", "put", "([CIIIII)V"⟩ method_3_code 7 none [] ⟨1, 0, 0, 14⟩ #[(.ref u), (.int 0), (.int b0), (.int b1), (.int b2), (.int 2)] h0 (fun rv rh rL => ∃ (z0 : Int32) (z1 : Int32) (z2 : Int32), rv = none ∧ own_Fr Z rL ∧ Keep h0 rh [u] ∧ (Arv Z rh u ku .char (3 : Int32) [(.int z0), (.int z1), (.int z2)] (.int 0)) ∧ (own_sy z0 (own_s18 (own_w b0 b1 b2))) ∧ (own_sy z1 (own_s12 (own_w b0 b1 b2))) ∧ (own_sy z2 (own_s6 (own_w b0 b1 b2)))) := by
  refine own_st hw (plainFor_of_name (by decide +kernel)) #[oa u, oi 0, oi b0, oi b1, oi b2, oi 2, .unset] (fun m => by first | (simp [entryFrame, mkF, argsToLocals, Value.category]; done) | rfl) fun p e s m below meth c s₁ G B hown hnm hret hZ X0 e0 N0 hR => ?_
  refine q_iloadN B X0 d2_0 rfl rfl ?_
  refine q_bipush B X0 d2_1 rfl ?_
  refine q_ishl B X0 d2_3 rfl rfl ?_
  refine q_iloadN B X0 d2_4 rfl rfl ?_
  refine q_bipush B X0 d2_5 rfl ?_
  refine q_ishl B X0 d2_7 rfl rfl ?_
  refine q_ior B X0 d2_8 rfl rfl ?_
  refine q_iload B X0 d2_9 rfl rfl ?_
  refine q_ior B X0 d2_11 rfl rfl ?_
  refine q_istore B X0 d2_12 rfl rfl rfl ?_
  refine q_aloadN B X0 d2_14 rfl rfl rfl ?_
  refine q_iloadN B X0 d2_15 rfl rfl ?_
  refine q_iload B X0 d2_16 rfl rfl ?_
  refine q_bipush B X0 d2_18 rfl ?_
  refine q_iushr B X0 d2_20 rfl rfl ?_
  refine q_bipush B X0 d2_21 rfl ?_
  refine q_iand B X0 d2_23 rfl rfl ?_
  show G (s₁.setTop (mkF m 24 #[oa u, oi 0, oi b0, oi b1, oi b2, oi 2, oi (((b0 <<< ((16 : Int32) &&& 31)) ||| (b1 <<< ((8 : Int32) &&& 31))) ||| b2)] [(.int ((((((b0 <<< ((16 : Int32) &&& 31)) ||| (b1 <<< ((8 : Int32) &&& 31))) ||| b2).toUInt32 >>> ((18 : Int32) &&& 31).toUInt32).toInt32) &&& (63 : Int32))), (.int 0), (.ref u)]))
  refine qS B X0 hZ hown 10 11 8 12 rfl rfl rfl rfl (own_symc hw ((((((b0 <<< ((16 : Int32) &&& 31)) ||| (b1 <<< ((8 : Int32) &&& 31))) ||| b2).toUInt32 >>> ((18 : Int32) &&& 31).toUInt32).toInt32) &&& (63 : Int32)) O0 (own_sxr _)) e0 own_pd22 rfl rfl d2_24 2 rfl rfl rfl (by decide) ?_
  rintro T1 h1 _ L1 X1 e1 ⟨r_1, rfl, M1, rfl, r1_0⟩
  have N1 := Fr.app N0 M1
  show G (T1.setTop (mkF m 27 #[oa u, oi 0, oi b0, oi b1, oi b2, oi 2, oi (((b0 <<< ((16 : Int32) &&& 31)) ||| (b1 <<< ((8 : Int32) &&& 31))) ||| b2)] [(.int r_1), (.int 0), (.ref u)]))
  refine qsc 0 B X1 hZ e1 g0_V d2_27 (by decide) rfl (Nat.le_of_ble_eq_true rfl) fun T2 h2 X2 e2 W2 V2 => ?_
  have K2 := (Keep.refl h0 [u]).wr W2 (own_mi 0 rfl)
  have O2 := O0.wr W2 g1_G
  rw [own_narC (own_syr r1_0)] at V2
  have N2 := Fr.snoc X2 N1 g1_G
  refine q_aloadN B X2 d2_28 rfl rfl rfl ?_
  refine q_iloadN B X2 d2_29 rfl rfl ?_
  refine q_iconst B X2 d2_30 rfl ?_
  refine q_iadd B X2 d2_31 rfl rfl ?_
  show G (T2.setTop (mkF m 32 #[oa u, oi 0, oi b0, oi b1, oi b2, oi 2, oi (((b0 <<< ((16 : Int32) &&& 31)) ||| (b1 <<< ((8 : Int32) &&& 31))) ||| b2)] [(.int ((0 : Int32) + (1 : Int32))), (.ref u)]))
  rw [show ((0 : Int32) + (1 : Int32)) = (1 : Int32) from by decide]
  show G (T2.setTop (mkF m 32 #[oa u, oi 0, oi b0, oi b1, oi b2, oi 2, oi (((b0 <<< ((16 : Int32) &&& 31)) ||| (b1 <<< ((8 : Int32) &&& 31))) ||| b2)] [(.int 1), (.ref u)]))
  refine q_iload B X2 d2_32 rfl rfl ?_
  refine q_bipush B X2 d2_34 rfl ?_
  refine q_iushr B X2 d2_36 rfl rfl ?_
  refine q_bipush B X2 d2_37 rfl ?_
  refine q_iand B X2 d2_39 rfl rfl ?_
  show G (T2.setTop (mkF m 40 #[oa u, oi 0, oi b0, oi b1, oi b2, oi 2, oi (((b0 <<< ((16 : Int32) &&& 31)) ||| (b1 <<< ((8 : Int32) &&& 31))) ||| b2)] [(.int ((((((b0 <<< ((16 : Int32) &&& 31)) ||| (b1 <<< ((8 : Int32) &&& 31))) ||| b2).toUInt32 >>> ((12 : Int32) &&& 31).toUInt32).toInt32) &&& (63 : Int32))), (.int 1), (.ref u)]))
  refine qS B X2 hZ hown 10 11 8 12 rfl rfl rfl rfl (own_symc hw ((((((b0 <<< ((16 : Int32) &&& 31)) ||| (b1 <<< ((8 : Int32) &&& 31))) ||| b2).toUInt32 >>> ((12 : Int32) &&& 31).toUInt32).toInt32) &&& (63 : Int32)) O2 (own_sxr _)) e2 own_pd22 rfl rfl d2_40 2 rfl rfl rfl (by decide) ?_
  rintro T3 h3 _ L3 X3 e3 ⟨r_3, rfl, M3, rfl, r3_0⟩
  have N3 := Fr.app N2 M3
  show G (T3.setTop (mkF m 43 #[oa u, oi 0, oi b0, oi b1, oi b2, oi 2, oi (((b0 <<< ((16 : Int32) &&& 31)) ||| (b1 <<< ((8 : Int32) &&& 31))) ||| b2)] [(.int r_3), (.int 1), (.ref u)]))
  refine qsc 1 B X3 hZ e3 V2 d2_43 (by decide) rfl (Nat.le_of_ble_eq_true rfl) fun T4 h4 X4 e4 W4 V4 => ?_
  have K4 := K2.wr W4 (own_mi 0 rfl)
  have O4 := O2.wr W4 g1_G
  rw [own_narC (own_syr r3_0)] at V4
  have N4 := Fr.snoc X4 N3 g1_G
  refine q_iload B X4 d2_44 rfl rfl ?_
  refine q_iconst B X4 d2_46 rfl ?_
  refine q_icmpNo B X4 d2_47 rfl (flt (by decide)).1 rfl ?_
  refine q_aloadN B X4 d2_50 rfl rfl rfl ?_
  refine q_iloadN B X4 d2_51 rfl rfl ?_
  refine q_iconst B X4 d2_52 rfl ?_
  refine q_iadd B X4 d2_53 rfl rfl ?_
  show G (T4.setTop (mkF m 54 #[oa u, oi 0, oi b0, oi b1, oi b2, oi 2, oi (((b0 <<< ((16 : Int32) &&& 31)) ||| (b1 <<< ((8 : Int32) &&& 31))) ||| b2)] [(.int ((0 : Int32) + (2 : Int32))), (.ref u)]))
  rw [show ((0 : Int32) + (2 : Int32)) = (2 : Int32) from by decide]
  show G (T4.setTop (mkF m 54 #[oa u, oi 0, oi b0, oi b1, oi b2, oi 2, oi (((b0 <<< ((16 : Int32) &&& 31)) ||| (b1 <<< ((8 : Int32) &&& 31))) ||| b2)] [(.int 2), (.ref u)]))
  refine q_iload B X4 d2_54 rfl rfl ?_
  refine q_bipush B X4 d2_56 rfl ?_
  refine q_iushr B X4 d2_58 rfl rfl ?_
  refine q_bipush B X4 d2_59 rfl ?_
  refine q_iand B X4 d2_61 rfl rfl ?_
  show G (T4.setTop (mkF m 62 #[oa u, oi 0, oi b0, oi b1, oi b2, oi 2, oi (((b0 <<< ((16 : Int32) &&& 31)) ||| (b1 <<< ((8 : Int32) &&& 31))) ||| b2)] [(.int ((((((b0 <<< ((16 : Int32) &&& 31)) ||| (b1 <<< ((8 : Int32) &&& 31))) ||| b2).toUInt32 >>> ((6 : Int32) &&& 31).toUInt32).toInt32) &&& (63 : Int32))), (.int 2), (.ref u)]))
  refine qS B X4 hZ hown 10 11 8 12 rfl rfl rfl rfl (own_symc hw ((((((b0 <<< ((16 : Int32) &&& 31)) ||| (b1 <<< ((8 : Int32) &&& 31))) ||| b2).toUInt32 >>> ((6 : Int32) &&& 31).toUInt32).toInt32) &&& (63 : Int32)) O4 (own_sxr _)) e4 own_pd22 rfl rfl d2_62 2 rfl rfl rfl (by decide) ?_
  rintro T5 h5 _ L5 X5 e5 ⟨r_5, rfl, M5, rfl, r5_0⟩
  have N5 := Fr.app N4 M5
  show G (T5.setTop (mkF m 65 #[oa u, oi 0, oi b0, oi b1, oi b2, oi 2, oi (((b0 <<< ((16 : Int32) &&& 31)) ||| (b1 <<< ((8 : Int32) &&& 31))) ||| b2)] [(.int r_5), (.int 2), (.ref u)]))
  refine qsc 2 B X5 hZ e5 V4 d2_65 (by decide) rfl (Nat.le_of_ble_eq_true rfl) fun T6 h6 X6 e6 W6 V6 => ?_
  have K6 := K4.wr W6 (own_mi 0 rfl)
  have O6 := O4.wr W6 g1_G
  rw [own_narC (own_syr r5_0)] at V6
  have N6 := Fr.snoc X6 N5 g1_G
  refine q_iload B X6 d2_66 rfl rfl ?_
  refine q_iconst B X6 d2_68 rfl ?_
  refine q_icmpYes 85 B X6 d2_69 rfl (tlt (by decide)).1 rfl rfl (by decide) ?_
  show G (T6.setTop (mkF m 85 #[oa u, oi 0, oi b0, oi b1, oi b2, oi 2, oi (((b0 <<< ((16 : Int32) &&& 31)) ||| (b1 <<< ((8 : Int32) &&& 31))) ||| b2)] []))
  exact qRV B hR hret X6 d2_85 e6 ⟨r_1, r_3, r_5, rfl, N6, K6, V6, r1_0, r3_0, r5_0⟩ (by decide)
theorem own_min_2_3 (hw : own_W Z a0) (O0 : own_Old Z h0) : own_Con l Z ⟨"java/lang/Math", "min", "(II)I"⟩ jdk_29_method_69_code 2 (some .int) [] ⟨0, 0, 0, 0⟩ #[(.int 2), (.int 3)] h0 (fun rv rh rL => rv = some (.int 2) ∧ own_Fr Z rL ∧ h0 = rh) := by
  refine own_st hw (Jvm.Free.JP.mathPlain rfl (by decide +kernel)) #[oi 2, oi 3] (fun _ => rfl) fun p e s m below meth c s₁ G B hown hnm hret hZ X0 e0 N0 hR => ?_
  refine q_iloadN B X0 d1_0 rfl rfl ?_
  refine q_iloadN B X0 d1_1 rfl rfl ?_
  refine q_icmpNo B X0 d1_2 rfl (flt (by decide)).2.2.1 rfl ?_
  refine q_iloadN B X0 d1_5 rfl rfl ?_
  refine q_goto 10 B X0 d1_6 rfl rfl (by decide) ?_
  show G (s₁.setTop (mkF m 10 #[oi 2, oi 3] [(.int 2)]))
  exact qRI B hR hret X0 d1_10 e0 ⟨rfl, N0, rfl⟩ (by decide)
theorem own_put4_0_3 (hw : own_W Z a0) {u : Addr} {ku : ClassId} (b0 b1 b2 : Int32) {ce0 ce1 ce2 ce3 : Int32} (O0 : own_Old Z h0) (g0_V : Arv Z h0 u ku .char (4 : Int32) [(.int ce0), (.int ce1), (.int ce2), (.int ce3)] (.int 0)) (g1_G : Z.heap.size ≤ u) : own_Con l Z ⟨"com/example/research_access_policy/researchaccesspolicy/token/Base64UrlDecodePinLaw", "put", "([CIIIII)V"⟩ method_3_code 7 none [] ⟨1, 0, 0, 14⟩ #[(.ref u), (.int 0), (.int b0), (.int b1), (.int b2), (.int 3)] h0 (fun rv rh rL => ∃ (z0 : Int32) (z1 : Int32) (z2 : Int32) (z3 : Int32), rv = none ∧ own_Fr Z rL ∧ Keep h0 rh [u] ∧ (Arv Z rh u ku .char (4 : Int32) [(.int z0), (.int z1), (.int z2), (.int z3)] (.int 0)) ∧ (own_sy z0 (own_s18 (own_w b0 b1 b2))) ∧ (own_sy z1 (own_s12 (own_w b0 b1 b2))) ∧ (own_sy z2 (own_s6 (own_w b0 b1 b2))) ∧ (own_sy z3 (own_s0 (own_w b0 b1 b2)))) := by
  refine own_st hw (plainFor_of_name (by decide +kernel)) #[oa u, oi 0, oi b0, oi b1, oi b2, oi 3, .unset] (fun m => by first | (simp [entryFrame, mkF, argsToLocals, Value.category]; done) | rfl) fun p e s m below meth c s₁ G B hown hnm hret hZ X0 e0 N0 hR => ?_
  refine q_iloadN B X0 d2_0 rfl rfl ?_
  refine q_bipush B X0 d2_1 rfl ?_
  refine q_ishl B X0 d2_3 rfl rfl ?_
  refine q_iloadN B X0 d2_4 rfl rfl ?_
  refine q_bipush B X0 d2_5 rfl ?_
  refine q_ishl B X0 d2_7 rfl rfl ?_
  refine q_ior B X0 d2_8 rfl rfl ?_
  refine q_iload B X0 d2_9 rfl rfl ?_
  refine q_ior B X0 d2_11 rfl rfl ?_
  refine q_istore B X0 d2_12 rfl rfl rfl ?_
  refine q_aloadN B X0 d2_14 rfl rfl rfl ?_
  refine q_iloadN B X0 d2_15 rfl rfl ?_
  refine q_iload B X0 d2_16 rfl rfl ?_
  refine q_bipush B X0 d2_18 rfl ?_
  refine q_iushr B X0 d2_20 rfl rfl ?_
  refine q_bipush B X0 d2_21 rfl ?_
  refine q_iand B X0 d2_23 rfl rfl ?_
  show G (s₁.setTop (mkF m 24 #[oa u, oi 0, oi b0, oi b1, oi b2, oi 3, oi (((b0 <<< ((16 : Int32) &&& 31)) ||| (b1 <<< ((8 : Int32) &&& 31))) ||| b2)] [(.int ((((((b0 <<< ((16 : Int32) &&& 31)) ||| (b1 <<< ((8 : Int32) &&& 31))) ||| b2).toUInt32 >>> ((18 : Int32) &&& 31).toUInt32).toInt32) &&& (63 : Int32))), (.int 0), (.ref u)]))
  refine qS B X0 hZ hown 10 11 8 12 rfl rfl rfl rfl (own_symc hw ((((((b0 <<< ((16 : Int32) &&& 31)) ||| (b1 <<< ((8 : Int32) &&& 31))) ||| b2).toUInt32 >>> ((18 : Int32) &&& 31).toUInt32).toInt32) &&& (63 : Int32)) O0 (own_sxr _)) e0 own_pd22 rfl rfl d2_24 2 rfl rfl rfl (by decide) ?_
  rintro T1 h1 _ L1 X1 e1 ⟨r_1, rfl, M1, rfl, r1_0⟩
  have N1 := Fr.app N0 M1
  show G (T1.setTop (mkF m 27 #[oa u, oi 0, oi b0, oi b1, oi b2, oi 3, oi (((b0 <<< ((16 : Int32) &&& 31)) ||| (b1 <<< ((8 : Int32) &&& 31))) ||| b2)] [(.int r_1), (.int 0), (.ref u)]))
  refine qsc 0 B X1 hZ e1 g0_V d2_27 (by decide) rfl (Nat.le_of_ble_eq_true rfl) fun T2 h2 X2 e2 W2 V2 => ?_
  have K2 := (Keep.refl h0 [u]).wr W2 (own_mi 0 rfl)
  have O2 := O0.wr W2 g1_G
  rw [own_narC (own_syr r1_0)] at V2
  have N2 := Fr.snoc X2 N1 g1_G
  refine q_aloadN B X2 d2_28 rfl rfl rfl ?_
  refine q_iloadN B X2 d2_29 rfl rfl ?_
  refine q_iconst B X2 d2_30 rfl ?_
  refine q_iadd B X2 d2_31 rfl rfl ?_
  show G (T2.setTop (mkF m 32 #[oa u, oi 0, oi b0, oi b1, oi b2, oi 3, oi (((b0 <<< ((16 : Int32) &&& 31)) ||| (b1 <<< ((8 : Int32) &&& 31))) ||| b2)] [(.int ((0 : Int32) + (1 : Int32))), (.ref u)]))
  rw [show ((0 : Int32) + (1 : Int32)) = (1 : Int32) from by decide]
  show G (T2.setTop (mkF m 32 #[oa u, oi 0, oi b0, oi b1, oi b2, oi 3, oi (((b0 <<< ((16 : Int32) &&& 31)) ||| (b1 <<< ((8 : Int32) &&& 31))) ||| b2)] [(.int 1), (.ref u)]))
  refine q_iload B X2 d2_32 rfl rfl ?_
  refine q_bipush B X2 d2_34 rfl ?_
  refine q_iushr B X2 d2_36 rfl rfl ?_
  refine q_bipush B X2 d2_37 rfl ?_
  refine q_iand B X2 d2_39 rfl rfl ?_
  show G (T2.setTop (mkF m 40 #[oa u, oi 0, oi b0, oi b1, oi b2, oi 3, oi (((b0 <<< ((16 : Int32) &&& 31)) ||| (b1 <<< ((8 : Int32) &&& 31))) ||| b2)] [(.int ((((((b0 <<< ((16 : Int32) &&& 31)) ||| (b1 <<< ((8 : Int32) &&& 31))) ||| b2).toUInt32 >>> ((12 : Int32) &&& 31).toUInt32).toInt32) &&& (63 : Int32))), (.int 1), (.ref u)]))
  refine qS B X2 hZ hown 10 11 8 12 rfl rfl rfl rfl (own_symc hw ((((((b0 <<< ((16 : Int32) &&& 31)) ||| (b1 <<< ((8 : Int32) &&& 31))) ||| b2).toUInt32 >>> ((12 : Int32) &&& 31).toUInt32).toInt32) &&& (63 : Int32)) O2 (own_sxr _)) e2 own_pd22 rfl rfl d2_40 2 rfl rfl rfl (by decide) ?_
  rintro T3 h3 _ L3 X3 e3 ⟨r_3, rfl, M3, rfl, r3_0⟩
  have N3 := Fr.app N2 M3
  show G (T3.setTop (mkF m 43 #[oa u, oi 0, oi b0, oi b1, oi b2, oi 3, oi (((b0 <<< ((16 : Int32) &&& 31)) ||| (b1 <<< ((8 : Int32) &&& 31))) ||| b2)] [(.int r_3), (.int 1), (.ref u)]))
  refine qsc 1 B X3 hZ e3 V2 d2_43 (by decide) rfl (Nat.le_of_ble_eq_true rfl) fun T4 h4 X4 e4 W4 V4 => ?_
  have K4 := K2.wr W4 (own_mi 0 rfl)
  have O4 := O2.wr W4 g1_G
  rw [own_narC (own_syr r3_0)] at V4
  have N4 := Fr.snoc X4 N3 g1_G
  refine q_iload B X4 d2_44 rfl rfl ?_
  refine q_iconst B X4 d2_46 rfl ?_
  refine q_icmpNo B X4 d2_47 rfl (flt (by decide)).1 rfl ?_
  refine q_aloadN B X4 d2_50 rfl rfl rfl ?_
  refine q_iloadN B X4 d2_51 rfl rfl ?_
  refine q_iconst B X4 d2_52 rfl ?_
  refine q_iadd B X4 d2_53 rfl rfl ?_
  show G (T4.setTop (mkF m 54 #[oa u, oi 0, oi b0, oi b1, oi b2, oi 3, oi (((b0 <<< ((16 : Int32) &&& 31)) ||| (b1 <<< ((8 : Int32) &&& 31))) ||| b2)] [(.int ((0 : Int32) + (2 : Int32))), (.ref u)]))
  rw [show ((0 : Int32) + (2 : Int32)) = (2 : Int32) from by decide]
  show G (T4.setTop (mkF m 54 #[oa u, oi 0, oi b0, oi b1, oi b2, oi 3, oi (((b0 <<< ((16 : Int32) &&& 31)) ||| (b1 <<< ((8 : Int32) &&& 31))) ||| b2)] [(.int 2), (.ref u)]))
  refine q_iload B X4 d2_54 rfl rfl ?_
  refine q_bipush B X4 d2_56 rfl ?_
  refine q_iushr B X4 d2_58 rfl rfl ?_
  refine q_bipush B X4 d2_59 rfl ?_
  refine q_iand B X4 d2_61 rfl rfl ?_
  show G (T4.setTop (mkF m 62 #[oa u, oi 0, oi b0, oi b1, oi b2, oi 3, oi (((b0 <<< ((16 : Int32) &&& 31)) ||| (b1 <<< ((8 : Int32) &&& 31))) ||| b2)] [(.int ((((((b0 <<< ((16 : Int32) &&& 31)) ||| (b1 <<< ((8 : Int32) &&& 31))) ||| b2).toUInt32 >>> ((6 : Int32) &&& 31).toUInt32).toInt32) &&& (63 : Int32))), (.int 2), (.ref u)]))
  refine qS B X4 hZ hown 10 11 8 12 rfl rfl rfl rfl (own_symc hw ((((((b0 <<< ((16 : Int32) &&& 31)) ||| (b1 <<< ((8 : Int32) &&& 31))) ||| b2).toUInt32 >>> ((6 : Int32) &&& 31).toUInt32).toInt32) &&& (63 : Int32)) O4 (own_sxr _)) e4 own_pd22 rfl rfl d2_62 2 rfl rfl rfl (by decide) ?_
  rintro T5 h5 _ L5 X5 e5 ⟨r_5, rfl, M5, rfl, r5_0⟩
  have N5 := Fr.app N4 M5
  show G (T5.setTop (mkF m 65 #[oa u, oi 0, oi b0, oi b1, oi b2, oi 3, oi (((b0 <<< ((16 : Int32) &&& 31)) ||| (b1 <<< ((8 : Int32) &&& 31))) ||| b2)] [(.int r_5), (.int 2), (.ref u)]))
  refine qsc 2 B X5 hZ e5 V4 d2_65 (by decide) rfl (Nat.le_of_ble_eq_true rfl) fun T6 h6 X6 e6 W6 V6 => ?_
  have K6 := K4.wr W6 (own_mi 0 rfl)
  have O6 := O4.wr W6 g1_G
  rw [own_narC (own_syr r5_0)] at V6
  have N6 := Fr.snoc X6 N5 g1_G
  refine q_iload B X6 d2_66 rfl rfl ?_
  refine q_iconst B X6 d2_68 rfl ?_
  refine q_icmpNo B X6 d2_69 rfl (flt (by decide)).1 rfl ?_
  refine q_aloadN B X6 d2_72 rfl rfl rfl ?_
  refine q_iloadN B X6 d2_73 rfl rfl ?_
  refine q_iconst B X6 d2_74 rfl ?_
  refine q_iadd B X6 d2_75 rfl rfl ?_
  show G (T6.setTop (mkF m 76 #[oa u, oi 0, oi b0, oi b1, oi b2, oi 3, oi (((b0 <<< ((16 : Int32) &&& 31)) ||| (b1 <<< ((8 : Int32) &&& 31))) ||| b2)] [(.int ((0 : Int32) + (3 : Int32))), (.ref u)]))
  rw [show ((0 : Int32) + (3 : Int32)) = (3 : Int32) from by decide]
  show G (T6.setTop (mkF m 76 #[oa u, oi 0, oi b0, oi b1, oi b2, oi 3, oi (((b0 <<< ((16 : Int32) &&& 31)) ||| (b1 <<< ((8 : Int32) &&& 31))) ||| b2)] [(.int 3), (.ref u)]))
  refine q_iload B X6 d2_76 rfl rfl ?_
  refine q_bipush B X6 d2_78 rfl ?_
  refine q_iand B X6 d2_80 rfl rfl ?_
  show G (T6.setTop (mkF m 81 #[oa u, oi 0, oi b0, oi b1, oi b2, oi 3, oi (((b0 <<< ((16 : Int32) &&& 31)) ||| (b1 <<< ((8 : Int32) &&& 31))) ||| b2)] [(.int ((((b0 <<< ((16 : Int32) &&& 31)) ||| (b1 <<< ((8 : Int32) &&& 31))) ||| b2) &&& (63 : Int32))), (.int 3), (.ref u)]))
  refine qS B X6 hZ hown 10 11 8 12 rfl rfl rfl rfl (own_symc hw ((((b0 <<< ((16 : Int32) &&& 31)) ||| (b1 <<< ((8 : Int32) &&& 31))) ||| b2) &&& (63 : Int32)) O6 (own_sxr _)) e6 own_pd22 rfl rfl d2_81 2 rfl rfl rfl (by decide) ?_
  rintro T7 h7 _ L7 X7 e7 ⟨r_7, rfl, M7, rfl, r7_0⟩
  have N7 := Fr.app N6 M7
  show G (T7.setTop (mkF m 84 #[oa u, oi 0, oi b0, oi b1, oi b2, oi 3, oi (((b0 <<< ((16 : Int32) &&& 31)) ||| (b1 <<< ((8 : Int32) &&& 31))) ||| b2)] [(.int r_7), (.int 3), (.ref u)]))
  refine qsc 3 B X7 hZ e7 V6 d2_84 (by decide) rfl (Nat.le_of_ble_eq_true rfl) fun T8 h8 X8 e8 W8 V8 => ?_
  have K8 := K6.wr W8 (own_mi 0 rfl)
  have O8 := O6.wr W8 g1_G
  rw [own_narC (own_syr r7_0)] at V8
  have N8 := Fr.snoc X8 N7 g1_G
  show G (T8.setTop (mkF m 85 #[oa u, oi 0, oi b0, oi b1, oi b2, oi 3, oi (((b0 <<< ((16 : Int32) &&& 31)) ||| (b1 <<< ((8 : Int32) &&& 31))) ||| b2)] []))
  exact qRV B hR hret X8 d2_85 e8 ⟨r_1, r_3, r_5, r_7, rfl, N8, K8, V8, r1_0, r3_0, r5_0, r7_0⟩ (by decide)
theorem own_min_3_3 (hw : own_W Z a0) (O0 : own_Old Z h0) : own_Con l Z ⟨"java/lang/Math", "min", "(II)I"⟩ jdk_29_method_69_code 2 (some .int) [] ⟨0, 0, 0, 0⟩ #[(.int 3), (.int 3)] h0 (fun rv rh rL => rv = some (.int 3) ∧ own_Fr Z rL ∧ h0 = rh) := by
  refine own_st hw (Jvm.Free.JP.mathPlain rfl (by decide +kernel)) #[oi 3, oi 3] (fun _ => rfl) fun p e s m below meth c s₁ G B hown hnm hret hZ X0 e0 N0 hR => ?_
  refine q_iloadN B X0 d1_0 rfl rfl ?_
  refine q_iloadN B X0 d1_1 rfl rfl ?_
  refine q_icmpNo B X0 d1_2 rfl (flt (by decide)).2.2.1 rfl ?_
  refine q_iloadN B X0 d1_5 rfl rfl ?_
  refine q_goto 10 B X0 d1_6 rfl rfl (by decide) ?_
  show G (s₁.setTop (mkF m 10 #[oi 3, oi 3] [(.int 3)]))
  exact qRI B hR hret X0 d1_10 e0 ⟨rfl, N0, rfl⟩ (by decide)
theorem own_put6_0_3 (hw : own_W Z a0) {u : Addr} {ku : ClassId} (b0 b1 b2 : Int32) {ce0 ce1 ce2 ce3 ce4 ce5 : Int32} (O0 : own_Old Z h0) (g0_V : Arv Z h0 u ku .char (6 : Int32) [(.int ce0), (.int ce1), (.int ce2), (.int ce3), (.int ce4), (.int ce5)] (.int 0)) (g1_G : Z.heap.size ≤ u) : own_Con l Z ⟨"com/example/research_access_policy/researchaccesspolicy/token/Base64UrlDecodePinLaw", "put", "([CIIIII)V"⟩ method_3_code 7 none [] ⟨1, 0, 0, 14⟩ #[(.ref u), (.int 0), (.int b0), (.int b1), (.int b2), (.int 3)] h0 (fun rv rh rL => ∃ (z0 : Int32) (z1 : Int32) (z2 : Int32) (z3 : Int32), rv = none ∧ own_Fr Z rL ∧ Keep h0 rh [u] ∧ (Arv Z rh u ku .char (6 : Int32) [(.int z0), (.int z1), (.int z2), (.int z3), (.int ce4), (.int ce5)] (.int 0)) ∧ (own_sy z0 (own_s18 (own_w b0 b1 b2))) ∧ (own_sy z1 (own_s12 (own_w b0 b1 b2))) ∧ (own_sy z2 (own_s6 (own_w b0 b1 b2))) ∧ (own_sy z3 (own_s0 (own_w b0 b1 b2)))) := by
  refine own_st hw (plainFor_of_name (by decide +kernel)) #[oa u, oi 0, oi b0, oi b1, oi b2, oi 3, .unset] (fun m => by first | (simp [entryFrame, mkF, argsToLocals, Value.category]; done) | rfl) fun p e s m below meth c s₁ G B hown hnm hret hZ X0 e0 N0 hR => ?_
  refine q_iloadN B X0 d2_0 rfl rfl ?_
  refine q_bipush B X0 d2_1 rfl ?_
  refine q_ishl B X0 d2_3 rfl rfl ?_
  refine q_iloadN B X0 d2_4 rfl rfl ?_
  refine q_bipush B X0 d2_5 rfl ?_
  refine q_ishl B X0 d2_7 rfl rfl ?_
  refine q_ior B X0 d2_8 rfl rfl ?_
  refine q_iload B X0 d2_9 rfl rfl ?_
  refine q_ior B X0 d2_11 rfl rfl ?_
  refine q_istore B X0 d2_12 rfl rfl rfl ?_
  refine q_aloadN B X0 d2_14 rfl rfl rfl ?_
  refine q_iloadN B X0 d2_15 rfl rfl ?_
  refine q_iload B X0 d2_16 rfl rfl ?_
  refine q_bipush B X0 d2_18 rfl ?_
  refine q_iushr B X0 d2_20 rfl rfl ?_
  refine q_bipush B X0 d2_21 rfl ?_
  refine q_iand B X0 d2_23 rfl rfl ?_
  show G (s₁.setTop (mkF m 24 #[oa u, oi 0, oi b0, oi b1, oi b2, oi 3, oi (((b0 <<< ((16 : Int32) &&& 31)) ||| (b1 <<< ((8 : Int32) &&& 31))) ||| b2)] [(.int ((((((b0 <<< ((16 : Int32) &&& 31)) ||| (b1 <<< ((8 : Int32) &&& 31))) ||| b2).toUInt32 >>> ((18 : Int32) &&& 31).toUInt32).toInt32) &&& (63 : Int32))), (.int 0), (.ref u)]))
  refine qS B X0 hZ hown 10 11 8 12 rfl rfl rfl rfl (own_symc hw ((((((b0 <<< ((16 : Int32) &&& 31)) ||| (b1 <<< ((8 : Int32) &&& 31))) ||| b2).toUInt32 >>> ((18 : Int32) &&& 31).toUInt32).toInt32) &&& (63 : Int32)) O0 (own_sxr _)) e0 own_pd22 rfl rfl d2_24 2 rfl rfl rfl (by decide) ?_
  rintro T1 h1 _ L1 X1 e1 ⟨r_1, rfl, M1, rfl, r1_0⟩
  have N1 := Fr.app N0 M1
  show G (T1.setTop (mkF m 27 #[oa u, oi 0, oi b0, oi b1, oi b2, oi 3, oi (((b0 <<< ((16 : Int32) &&& 31)) ||| (b1 <<< ((8 : Int32) &&& 31))) ||| b2)] [(.int r_1), (.int 0), (.ref u)]))
  refine qsc 0 B X1 hZ e1 g0_V d2_27 (by decide) rfl (Nat.le_of_ble_eq_true rfl) fun T2 h2 X2 e2 W2 V2 => ?_
  have K2 := (Keep.refl h0 [u]).wr W2 (own_mi 0 rfl)
  have O2 := O0.wr W2 g1_G
  rw [own_narC (own_syr r1_0)] at V2
  have N2 := Fr.snoc X2 N1 g1_G
  refine q_aloadN B X2 d2_28 rfl rfl rfl ?_
  refine q_iloadN B X2 d2_29 rfl rfl ?_
  refine q_iconst B X2 d2_30 rfl ?_
  refine q_iadd B X2 d2_31 rfl rfl ?_
  show G (T2.setTop (mkF m 32 #[oa u, oi 0, oi b0, oi b1, oi b2, oi 3, oi (((b0 <<< ((16 : Int32) &&& 31)) ||| (b1 <<< ((8 : Int32) &&& 31))) ||| b2)] [(.int ((0 : Int32) + (1 : Int32))), (.ref u)]))
  rw [show ((0 : Int32) + (1 : Int32)) = (1 : Int32) from by decide]
  show G (T2.setTop (mkF m 32 #[oa u, oi 0, oi b0, oi b1, oi b2, oi 3, oi (((b0 <<< ((16 : Int32) &&& 31)) ||| (b1 <<< ((8 : Int32) &&& 31))) ||| b2)] [(.int 1), (.ref u)]))
  refine q_iload B X2 d2_32 rfl rfl ?_
  refine q_bipush B X2 d2_34 rfl ?_
  refine q_iushr B X2 d2_36 rfl rfl ?_
  refine q_bipush B X2 d2_37 rfl ?_
  refine q_iand B X2 d2_39 rfl rfl ?_
  show G (T2.setTop (mkF m 40 #[oa u, oi 0, oi b0, oi b1, oi b2, oi 3, oi (((b0 <<< ((16 : Int32) &&& 31)) ||| (b1 <<< ((8 : Int32) &&& 31))) ||| b2)] [(.int ((((((b0 <<< ((16 : Int32) &&& 31)) ||| (b1 <<< ((8 : Int32) &&& 31))) ||| b2).toUInt32 >>> ((12 : Int32) &&& 31).toUInt32).toInt32) &&& (63 : Int32))), (.int 1), (.ref u)]))
  refine qS B X2 hZ hown 10 11 8 12 rfl rfl rfl rfl (own_symc hw ((((((b0 <<< ((16 : Int32) &&& 31)) ||| (b1 <<< ((8 : Int32) &&& 31))) ||| b2).toUInt32 >>> ((12 : Int32) &&& 31).toUInt32).toInt32) &&& (63 : Int32)) O2 (own_sxr _)) e2 own_pd22 rfl rfl d2_40 2 rfl rfl rfl (by decide) ?_
  rintro T3 h3 _ L3 X3 e3 ⟨r_3, rfl, M3, rfl, r3_0⟩
  have N3 := Fr.app N2 M3
  show G (T3.setTop (mkF m 43 #[oa u, oi 0, oi b0, oi b1, oi b2, oi 3, oi (((b0 <<< ((16 : Int32) &&& 31)) ||| (b1 <<< ((8 : Int32) &&& 31))) ||| b2)] [(.int r_3), (.int 1), (.ref u)]))
  refine qsc 1 B X3 hZ e3 V2 d2_43 (by decide) rfl (Nat.le_of_ble_eq_true rfl) fun T4 h4 X4 e4 W4 V4 => ?_
  have K4 := K2.wr W4 (own_mi 0 rfl)
  have O4 := O2.wr W4 g1_G
  rw [own_narC (own_syr r3_0)] at V4
  have N4 := Fr.snoc X4 N3 g1_G
  refine q_iload B X4 d2_44 rfl rfl ?_
  refine q_iconst B X4 d2_46 rfl ?_
  refine q_icmpNo B X4 d2_47 rfl (flt (by decide)).1 rfl ?_
  refine q_aloadN B X4 d2_50 rfl rfl rfl ?_
  refine q_iloadN B X4 d2_51 rfl rfl ?_
  refine q_iconst B X4 d2_52 rfl ?_
  refine q_iadd B X4 d2_53 rfl rfl ?_
  show G (T4.setTop (mkF m 54 #[oa u, oi 0, oi b0, oi b1, oi b2, oi 3, oi (((b0 <<< ((16 : Int32) &&& 31)) ||| (b1 <<< ((8 : Int32) &&& 31))) ||| b2)] [(.int ((0 : Int32) + (2 : Int32))), (.ref u)]))
  rw [show ((0 : Int32) + (2 : Int32)) = (2 : Int32) from by decide]
  show G (T4.setTop (mkF m 54 #[oa u, oi 0, oi b0, oi b1, oi b2, oi 3, oi (((b0 <<< ((16 : Int32) &&& 31)) ||| (b1 <<< ((8 : Int32) &&& 31))) ||| b2)] [(.int 2), (.ref u)]))
  refine q_iload B X4 d2_54 rfl rfl ?_
  refine q_bipush B X4 d2_56 rfl ?_
  refine q_iushr B X4 d2_58 rfl rfl ?_
  refine q_bipush B X4 d2_59 rfl ?_
  refine q_iand B X4 d2_61 rfl rfl ?_
  show G (T4.setTop (mkF m 62 #[oa u, oi 0, oi b0, oi b1, oi b2, oi 3, oi (((b0 <<< ((16 : Int32) &&& 31)) ||| (b1 <<< ((8 : Int32) &&& 31))) ||| b2)] [(.int ((((((b0 <<< ((16 : Int32) &&& 31)) ||| (b1 <<< ((8 : Int32) &&& 31))) ||| b2).toUInt32 >>> ((6 : Int32) &&& 31).toUInt32).toInt32) &&& (63 : Int32))), (.int 2), (.ref u)]))
  refine qS B X4 hZ hown 10 11 8 12 rfl rfl rfl rfl (own_symc hw ((((((b0 <<< ((16 : Int32) &&& 31)) ||| (b1 <<< ((8 : Int32) &&& 31))) ||| b2).toUInt32 >>> ((6 : Int32) &&& 31).toUInt32).toInt32) &&& (63 : Int32)) O4 (own_sxr _)) e4 own_pd22 rfl rfl d2_62 2 rfl rfl rfl (by decide) ?_
  rintro T5 h5 _ L5 X5 e5 ⟨r_5, rfl, M5, rfl, r5_0⟩
  have N5 := Fr.app N4 M5
  show G (T5.setTop (mkF m 65 #[oa u, oi 0, oi b0, oi b1, oi b2, oi 3, oi (((b0 <<< ((16 : Int32) &&& 31)) ||| (b1 <<< ((8 : Int32) &&& 31))) ||| b2)] [(.int r_5), (.int 2), (.ref u)]))
  refine qsc 2 B X5 hZ e5 V4 d2_65 (by decide) rfl (Nat.le_of_ble_eq_true rfl) fun T6 h6 X6 e6 W6 V6 => ?_
  have K6 := K4.wr W6 (own_mi 0 rfl)
  have O6 := O4.wr W6 g1_G
  rw [own_narC (own_syr r5_0)] at V6
  have N6 := Fr.snoc X6 N5 g1_G
  refine q_iload B X6 d2_66 rfl rfl ?_
  refine q_iconst B X6 d2_68 rfl ?_
  refine q_icmpNo B X6 d2_69 rfl (flt (by decide)).1 rfl ?_
  refine q_aloadN B X6 d2_72 rfl rfl rfl ?_
  refine q_iloadN B X6 d2_73 rfl rfl ?_
  refine q_iconst B X6 d2_74 rfl ?_
  refine q_iadd B X6 d2_75 rfl rfl ?_
  show G (T6.setTop (mkF m 76 #[oa u, oi 0, oi b0, oi b1, oi b2, oi 3, oi (((b0 <<< ((16 : Int32) &&& 31)) ||| (b1 <<< ((8 : Int32) &&& 31))) ||| b2)] [(.int ((0 : Int32) + (3 : Int32))), (.ref u)]))
  rw [show ((0 : Int32) + (3 : Int32)) = (3 : Int32) from by decide]
  show G (T6.setTop (mkF m 76 #[oa u, oi 0, oi b0, oi b1, oi b2, oi 3, oi (((b0 <<< ((16 : Int32) &&& 31)) ||| (b1 <<< ((8 : Int32) &&& 31))) ||| b2)] [(.int 3), (.ref u)]))
  refine q_iload B X6 d2_76 rfl rfl ?_
  refine q_bipush B X6 d2_78 rfl ?_
  refine q_iand B X6 d2_80 rfl rfl ?_
  show G (T6.setTop (mkF m 81 #[oa u, oi 0, oi b0, oi b1, oi b2, oi 3, oi (((b0 <<< ((16 : Int32) &&& 31)) ||| (b1 <<< ((8 : Int32) &&& 31))) ||| b2)] [(.int ((((b0 <<< ((16 : Int32) &&& 31)) ||| (b1 <<< ((8 : Int32) &&& 31))) ||| b2) &&& (63 : Int32))), (.int 3), (.ref u)]))
  refine qS B X6 hZ hown 10 11 8 12 rfl rfl rfl rfl (own_symc hw ((((b0 <<< ((16 : Int32) &&& 31)) ||| (b1 <<< ((8 : Int32) &&& 31))) ||| b2) &&& (63 : Int32)) O6 (own_sxr _)) e6 own_pd22 rfl rfl d2_81 2 rfl rfl rfl (by decide) ?_
  rintro T7 h7 _ L7 X7 e7 ⟨r_7, rfl, M7, rfl, r7_0⟩
  have N7 := Fr.app N6 M7
  show G (T7.setTop (mkF m 84 #[oa u, oi 0, oi b0, oi b1, oi b2, oi 3, oi (((b0 <<< ((16 : Int32) &&& 31)) ||| (b1 <<< ((8 : Int32) &&& 31))) ||| b2)] [(.int r_7), (.int 3), (.ref u)]))
  refine qsc 3 B X7 hZ e7 V6 d2_84 (by decide) rfl (Nat.le_of_ble_eq_true rfl) fun T8 h8 X8 e8 W8 V8 => ?_
  have K8 := K6.wr W8 (own_mi 0 rfl)
  have O8 := O6.wr W8 g1_G
  rw [own_narC (own_syr r7_0)] at V8
  have N8 := Fr.snoc X8 N7 g1_G
  show G (T8.setTop (mkF m 85 #[oa u, oi 0, oi b0, oi b1, oi b2, oi 3, oi (((b0 <<< ((16 : Int32) &&& 31)) ||| (b1 <<< ((8 : Int32) &&& 31))) ||| b2)] []))
  exact qRV B hR hret X8 d2_85 e8 ⟨r_1, r_3, r_5, r_7, rfl, N8, K8, V8, r1_0, r3_0, r5_0, r7_0⟩ (by decide)
theorem own_min_4_3 (hw : own_W Z a0) (O0 : own_Old Z h0) : own_Con l Z ⟨"java/lang/Math", "min", "(II)I"⟩ jdk_29_method_69_code 2 (some .int) [] ⟨0, 0, 0, 0⟩ #[(.int 4), (.int 3)] h0 (fun rv rh rL => rv = some (.int 3) ∧ own_Fr Z rL ∧ h0 = rh) := by
  refine own_st hw (Jvm.Free.JP.mathPlain rfl (by decide +kernel)) #[oi 4, oi 3] (fun _ => rfl) fun p e s m below meth c s₁ G B hown hnm hret hZ X0 e0 N0 hR => ?_
  refine q_iloadN B X0 d1_0 rfl rfl ?_
  refine q_iloadN B X0 d1_1 rfl rfl ?_
  refine q_icmpYes 9 B X0 d1_2 rfl (tlt (by decide)).2.2.1 rfl rfl (by decide) ?_
  refine q_iloadN B X0 d1_9 rfl rfl ?_
  show G (s₁.setTop (mkF m 10 #[oi 4, oi 3] [(.int 3)]))
  exact qRI B hR hret X0 d1_10 e0 ⟨rfl, N0, rfl⟩ (by decide)
theorem own_put6_4_1 (hw : own_W Z a0) {u : Addr} {ku : ClassId} (b0 b1 b2 : Int32) {ce0 ce1 ce2 ce3 ce4 ce5 : Int32} (O0 : own_Old Z h0) (g0_V : Arv Z h0 u ku .char (6 : Int32) [(.int ce0), (.int ce1), (.int ce2), (.int ce3), (.int ce4), (.int ce5)] (.int 0)) (g1_G : Z.heap.size ≤ u) : own_Con l Z ⟨"com/example/research_access_policy/researchaccesspolicy/token/Base64UrlDecodePinLaw", "put", "([CIIIII)V"⟩ method_3_code 7 none [] ⟨1, 0, 0, 14⟩ #[(.ref u), (.int 4), (.int b0), (.int b1), (.int b2), (.int 1)] h0 (fun rv rh rL => ∃ (z0 : Int32) (z1 : Int32), rv = none ∧ own_Fr Z rL ∧ Keep h0 rh [u] ∧ (Arv Z rh u ku .char (6 : Int32) [(.int ce0), (.int ce1), (.int ce2), (.int ce3), (.int z0), (.int z1)] (.int 0)) ∧ (own_sy z0 (own_s18 (own_w b0 b1 b2))) ∧ (own_sy z1 (own_s12 (own_w b0 b1 b2)))) := by
  refine own_st hw (plainFor_of_name (by decide +kernel)) #[oa u, oi 4, oi b0, oi b1, oi b2, oi 1, .unset] (fun m => by first | (simp [entryFrame, mkF, argsToLocals, Value.category]; done) | rfl) fun p e s m below meth c s₁ G B hown hnm hret hZ X0 e0 N0 hR => ?_
  refine q_iloadN B X0 d2_0 rfl rfl ?_
  refine q_bipush B X0 d2_1 rfl ?_
  refine q_ishl B X0 d2_3 rfl rfl ?_
  refine q_iloadN B X0 d2_4 rfl rfl ?_
  refine q_bipush B X0 d2_5 rfl ?_
  refine q_ishl B X0 d2_7 rfl rfl ?_
  refine q_ior B X0 d2_8 rfl rfl ?_
  refine q_iload B X0 d2_9 rfl rfl ?_
  refine q_ior B X0 d2_11 rfl rfl ?_
  refine q_istore B X0 d2_12 rfl rfl rfl ?_
  refine q_aloadN B X0 d2_14 rfl rfl rfl ?_
  refine q_iloadN B X0 d2_15 rfl rfl ?_
  refine q_iload B X0 d2_16 rfl rfl ?_
  refine q_bipush B X0 d2_18 rfl ?_
  refine q_iushr B X0 d2_20 rfl rfl ?_
  refine q_bipush B X0 d2_21 rfl ?_
  refine q_iand B X0 d2_23 rfl rfl ?_
  show G (s₁.setTop (mkF m 24 #[oa u, oi 4, oi b0, oi b1, oi b2, oi 1, oi (((b0 <<< ((16 : Int32) &&& 31)) ||| (b1 <<< ((8 : Int32) &&& 31))) ||| b2)] [(.int ((((((b0 <<< ((16 : Int32) &&& 31)) ||| (b1 <<< ((8 : Int32) &&& 31))) ||| b2).toUInt32 >>> ((18 : Int32) &&& 31).toUInt32).toInt32) &&& (63 : Int32))), (.int 4), (.ref u)]))
  refine qS B X0 hZ hown 10 11 8 12 rfl rfl rfl rfl (own_symc hw ((((((b0 <<< ((16 : Int32) &&& 31)) ||| (b1 <<< ((8 : Int32) &&& 31))) ||| b2).toUInt32 >>> ((18 : Int32) &&& 31).toUInt32).toInt32) &&& (63 : Int32)) O0 (own_sxr _)) e0 own_pd22 rfl rfl d2_24 2 rfl rfl rfl (by decide) ?_
  rintro T1 h1 _ L1 X1 e1 ⟨r_1, rfl, M1, rfl, r1_0⟩
  have N1 := Fr.app N0 M1
  show G (T1.setTop (mkF m 27 #[oa u, oi 4, oi b0, oi b1, oi b2, oi 1, oi (((b0 <<< ((16 : Int32) &&& 31)) ||| (b1 <<< ((8 : Int32) &&& 31))) ||| b2)] [(.int r_1), (.int 4), (.ref u)]))
  refine qsc 4 B X1 hZ e1 g0_V d2_27 (by decide) rfl (Nat.le_of_ble_eq_true rfl) fun T2 h2 X2 e2 W2 V2 => ?_
  have K2 := (Keep.refl h0 [u]).wr W2 (own_mi 0 rfl)
  have O2 := O0.wr W2 g1_G
  rw [own_narC (own_syr r1_0)] at V2
  have N2 := Fr.snoc X2 N1 g1_G
  refine q_aloadN B X2 d2_28 rfl rfl rfl ?_
  refine q_iloadN B X2 d2_29 rfl rfl ?_
  refine q_iconst B X2 d2_30 rfl ?_
  refine q_iadd B X2 d2_31 rfl rfl ?_
  show G (T2.setTop (mkF m 32 #[oa u, oi 4, oi b0, oi b1, oi b2, oi 1, oi (((b0 <<< ((16 : Int32) &&& 31)) ||| (b1 <<< ((8 : Int32) &&& 31))) ||| b2)] [(.int ((4 : Int32) + (1 : Int32))), (.ref u)]))
  rw [show ((4 : Int32) + (1 : Int32)) = (5 : Int32) from by decide]
  show G (T2.setTop (mkF m 32 #[oa u, oi 4, oi b0, oi b1, oi b2, oi 1, oi (((b0 <<< ((16 : Int32) &&& 31)) ||| (b1 <<< ((8 : Int32) &&& 31))) ||| b2)] [(.int 5), (.ref u)]))
  refine q_iload B X2 d2_32 rfl rfl ?_
  refine q_bipush B X2 d2_34 rfl ?_
  refine q_iushr B X2 d2_36 rfl rfl ?_
  refine q_bipush B X2 d2_37 rfl ?_
  refine q_iand B X2 d2_39 rfl rfl ?_
  show G (T2.setTop (mkF m 40 #[oa u, oi 4, oi b0, oi b1, oi b2, oi 1, oi (((b0 <<< ((16 : Int32) &&& 31)) ||| (b1 <<< ((8 : Int32) &&& 31))) ||| b2)] [(.int ((((((b0 <<< ((16 : Int32) &&& 31)) ||| (b1 <<< ((8 : Int32) &&& 31))) ||| b2).toUInt32 >>> ((12 : Int32) &&& 31).toUInt32).toInt32) &&& (63 : Int32))), (.int 5), (.ref u)]))
  refine qS B X2 hZ hown 10 11 8 12 rfl rfl rfl rfl (own_symc hw ((((((b0 <<< ((16 : Int32) &&& 31)) ||| (b1 <<< ((8 : Int32) &&& 31))) ||| b2).toUInt32 >>> ((12 : Int32) &&& 31).toUInt32).toInt32) &&& (63 : Int32)) O2 (own_sxr _)) e2 own_pd22 rfl rfl d2_40 2 rfl rfl rfl (by decide) ?_
  rintro T3 h3 _ L3 X3 e3 ⟨r_3, rfl, M3, rfl, r3_0⟩
  have N3 := Fr.app N2 M3
  show G (T3.setTop (mkF m 43 #[oa u, oi 4, oi b0, oi b1, oi b2, oi 1, oi (((b0 <<< ((16 : Int32) &&& 31)) ||| (b1 <<< ((8 : Int32) &&& 31))) ||| b2)] [(.int r_3), (.int 5), (.ref u)]))
  refine qsc 5 B X3 hZ e3 V2 d2_43 (by decide) rfl (Nat.le_of_ble_eq_true rfl) fun T4 h4 X4 e4 W4 V4 => ?_
  have K4 := K2.wr W4 (own_mi 0 rfl)
  have O4 := O2.wr W4 g1_G
  rw [own_narC (own_syr r3_0)] at V4
  have N4 := Fr.snoc X4 N3 g1_G
  refine q_iload B X4 d2_44 rfl rfl ?_
  refine q_iconst B X4 d2_46 rfl ?_
  refine q_icmpYes 66 B X4 d2_47 rfl (tlt (by decide)).1 rfl rfl (by decide) ?_
  refine q_iload B X4 d2_66 rfl rfl ?_
  refine q_iconst B X4 d2_68 rfl ?_
  refine q_icmpYes 85 B X4 d2_69 rfl (tlt (by decide)).1 rfl rfl (by decide) ?_
  show G (T4.setTop (mkF m 85 #[oa u, oi 4, oi b0, oi b1, oi b2, oi 1, oi (((b0 <<< ((16 : Int32) &&& 31)) ||| (b1 <<< ((8 : Int32) &&& 31))) ||| b2)] []))
  exact qRV B hR hret X4 d2_85 e4 ⟨r_1, r_3, rfl, N4, K4, V4, r1_0, r3_0⟩ (by decide)
theorem own_put7_0_3 (hw : own_W Z a0) {u : Addr} {ku : ClassId} (b0 b1 b2 : Int32) {ce0 ce1 ce2 ce3 ce4 ce5 ce6 : Int32} (O0 : own_Old Z h0) (g0_V : Arv Z h0 u ku .char (7 : Int32) [(.int ce0), (.int ce1), (.int ce2), (.int ce3), (.int ce4), (.int ce5), (.int ce6)] (.int 0)) (g1_G : Z.heap.size ≤ u) : own_Con l Z ⟨"com/example/research_access_policy/researchaccesspolicy/token/Base64UrlDecodePinLaw", "put", "([CIIIII)V"⟩ method_3_code 7 none [] ⟨1, 0, 0, 14⟩ #[(.ref u), (.int 0), (.int b0), (.int b1), (.int b2), (.int 3)] h0 (fun rv rh rL => ∃ (z0 : Int32) (z1 : Int32) (z2 : Int32) (z3 : Int32), rv = none ∧ own_Fr Z rL ∧ Keep h0 rh [u] ∧ (Arv Z rh u ku .char (7 : Int32) [(.int z0), (.int z1), (.int z2), (.int z3), (.int ce4), (.int ce5), (.int ce6)] (.int 0)) ∧ (own_sy z0 (own_s18 (own_w b0 b1 b2))) ∧ (own_sy z1 (own_s12 (own_w b0 b1 b2))) ∧ (own_sy z2 (own_s6 (own_w b0 b1 b2))) ∧ (own_sy z3 (own_s0 (own_w b0 b1 b2)))) := by
  refine own_st hw (plainFor_of_name (by decide +kernel)) #[oa u, oi 0, oi b0, oi b1, oi b2, oi 3, .unset] (fun m => by first | (simp [entryFrame, mkF, argsToLocals, Value.category]; done) | rfl) fun p e s m below meth c s₁ G B hown hnm hret hZ X0 e0 N0 hR => ?_
  refine q_iloadN B X0 d2_0 rfl rfl ?_
  refine q_bipush B X0 d2_1 rfl ?_
  refine q_ishl B X0 d2_3 rfl rfl ?_
  refine q_iloadN B X0 d2_4 rfl rfl ?_
  refine q_bipush B X0 d2_5 rfl ?_
  refine q_ishl B X0 d2_7 rfl rfl ?_
  refine q_ior B X0 d2_8 rfl rfl ?_
  refine q_iload B X0 d2_9 rfl rfl ?_
  refine q_ior B X0 d2_11 rfl rfl ?_
  refine q_istore B X0 d2_12 rfl rfl rfl ?_
  refine q_aloadN B X0 d2_14 rfl rfl rfl ?_
  refine q_iloadN B X0 d2_15 rfl rfl ?_
  refine q_iload B X0 d2_16 rfl rfl ?_
  refine q_bipush B X0 d2_18 rfl ?_
  refine q_iushr B X0 d2_20 rfl rfl ?_
  refine q_bipush B X0 d2_21 rfl ?_
  refine q_iand B X0 d2_23 rfl rfl ?_
  show G (s₁.setTop (mkF m 24 #[oa u, oi 0, oi b0, oi b1, oi b2, oi 3, oi (((b0 <<< ((16 : Int32) &&& 31)) ||| (b1 <<< ((8 : Int32) &&& 31))) ||| b2)] [(.int ((((((b0 <<< ((16 : Int32) &&& 31)) ||| (b1 <<< ((8 : Int32) &&& 31))) ||| b2).toUInt32 >>> ((18 : Int32) &&& 31).toUInt32).toInt32) &&& (63 : Int32))), (.int 0), (.ref u)]))
  refine qS B X0 hZ hown 10 11 8 12 rfl rfl rfl rfl (own_symc hw ((((((b0 <<< ((16 : Int32) &&& 31)) ||| (b1 <<< ((8 : Int32) &&& 31))) ||| b2).toUInt32 >>> ((18 : Int32) &&& 31).toUInt32).toInt32) &&& (63 : Int32)) O0 (own_sxr _)) e0 own_pd22 rfl rfl d2_24 2 rfl rfl rfl (by decide) ?_
  rintro T1 h1 _ L1 X1 e1 ⟨r_1, rfl, M1, rfl, r1_0⟩
  have N1 := Fr.app N0 M1
  show G (T1.setTop (mkF m 27 #[oa u, oi 0, oi b0, oi b1, oi b2, oi 3, oi (((b0 <<< ((16 : Int32) &&& 31)) ||| (b1 <<< ((8 : Int32) &&& 31))) ||| b2)] [(.int r_1), (.int 0), (.ref u)]))
  refine qsc 0 B X1 hZ e1 g0_V d2_27 (by decide) rfl (Nat.le_of_ble_eq_true rfl) fun T2 h2 X2 e2 W2 V2 => ?_
  have K2 := (Keep.refl h0 [u]).wr W2 (own_mi 0 rfl)
  have O2 := O0.wr W2 g1_G
  rw [own_narC (own_syr r1_0)] at V2
  have N2 := Fr.snoc X2 N1 g1_G
  refine q_aloadN B X2 d2_28 rfl rfl rfl ?_
  refine q_iloadN B X2 d2_29 rfl rfl ?_
  refine q_iconst B X2 d2_30 rfl ?_
  refine q_iadd B X2 d2_31 rfl rfl ?_
  show G (T2.setTop (mkF m 32 #[oa u, oi 0, oi b0, oi b1, oi b2, oi 3, oi (((b0 <<< ((16 : Int32) &&& 31)) ||| (b1 <<< ((8 : Int32) &&& 31))) ||| b2)] [(.int ((0 : Int32) + (1 : Int32))), (.ref u)]))
  rw [show ((0 : Int32) + (1 : Int32)) = (1 : Int32) from by decide]
  show G (T2.setTop (mkF m 32 #[oa u, oi 0, oi b0, oi b1, oi b2, oi 3, oi (((b0 <<< ((16 : Int32) &&& 31)) ||| (b1 <<< ((8 : Int32) &&& 31))) ||| b2)] [(.int 1), (.ref u)]))
  refine q_iload B X2 d2_32 rfl rfl ?_
  refine q_bipush B X2 d2_34 rfl ?_
  refine q_iushr B X2 d2_36 rfl rfl ?_
  refine q_bipush B X2 d2_37 rfl ?_
  refine q_iand B X2 d2_39 rfl rfl ?_
  show G (T2.setTop (mkF m 40 #[oa u, oi 0, oi b0, oi b1, oi b2, oi 3, oi (((b0 <<< ((16 : Int32) &&& 31)) ||| (b1 <<< ((8 : Int32) &&& 31))) ||| b2)] [(.int ((((((b0 <<< ((16 : Int32) &&& 31)) ||| (b1 <<< ((8 : Int32) &&& 31))) ||| b2).toUInt32 >>> ((12 : Int32) &&& 31).toUInt32).toInt32) &&& (63 : Int32))), (.int 1), (.ref u)]))
  refine qS B X2 hZ hown 10 11 8 12 rfl rfl rfl rfl (own_symc hw ((((((b0 <<< ((16 : Int32) &&& 31)) ||| (b1 <<< ((8 : Int32) &&& 31))) ||| b2).toUInt32 >>> ((12 : Int32) &&& 31).toUInt32).toInt32) &&& (63 : Int32)) O2 (own_sxr _)) e2 own_pd22 rfl rfl d2_40 2 rfl rfl rfl (by decide) ?_
  rintro T3 h3 _ L3 X3 e3 ⟨r_3, rfl, M3, rfl, r3_0⟩
  have N3 := Fr.app N2 M3
  show G (T3.setTop (mkF m 43 #[oa u, oi 0, oi b0, oi b1, oi b2, oi 3, oi (((b0 <<< ((16 : Int32) &&& 31)) ||| (b1 <<< ((8 : Int32) &&& 31))) ||| b2)] [(.int r_3), (.int 1), (.ref u)]))
  refine qsc 1 B X3 hZ e3 V2 d2_43 (by decide) rfl (Nat.le_of_ble_eq_true rfl) fun T4 h4 X4 e4 W4 V4 => ?_
  have K4 := K2.wr W4 (own_mi 0 rfl)
  have O4 := O2.wr W4 g1_G
  rw [own_narC (own_syr r3_0)] at V4
  have N4 := Fr.snoc X4 N3 g1_G
  refine q_iload B X4 d2_44 rfl rfl ?_
  refine q_iconst B X4 d2_46 rfl ?_
  refine q_icmpNo B X4 d2_47 rfl (flt (by decide)).1 rfl ?_
  refine q_aloadN B X4 d2_50 rfl rfl rfl ?_
  refine q_iloadN B X4 d2_51 rfl rfl ?_
  refine q_iconst B X4 d2_52 rfl ?_
  refine q_iadd B X4 d2_53 rfl rfl ?_
  show G (T4.setTop (mkF m 54 #[oa u, oi 0, oi b0, oi b1, oi b2, oi 3, oi (((b0 <<< ((16 : Int32) &&& 31)) ||| (b1 <<< ((8 : Int32) &&& 31))) ||| b2)] [(.int ((0 : Int32) + (2 : Int32))), (.ref u)]))
  rw [show ((0 : Int32) + (2 : Int32)) = (2 : Int32) from by decide]
  show G (T4.setTop (mkF m 54 #[oa u, oi 0, oi b0, oi b1, oi b2, oi 3, oi (((b0 <<< ((16 : Int32) &&& 31)) ||| (b1 <<< ((8 : Int32) &&& 31))) ||| b2)] [(.int 2), (.ref u)]))
  refine q_iload B X4 d2_54 rfl rfl ?_
  refine q_bipush B X4 d2_56 rfl ?_
  refine q_iushr B X4 d2_58 rfl rfl ?_
  refine q_bipush B X4 d2_59 rfl ?_
  refine q_iand B X4 d2_61 rfl rfl ?_
  show G (T4.setTop (mkF m 62 #[oa u, oi 0, oi b0, oi b1, oi b2, oi 3, oi (((b0 <<< ((16 : Int32) &&& 31)) ||| (b1 <<< ((8 : Int32) &&& 31))) ||| b2)] [(.int ((((((b0 <<< ((16 : Int32) &&& 31)) ||| (b1 <<< ((8 : Int32) &&& 31))) ||| b2).toUInt32 >>> ((6 : Int32) &&& 31).toUInt32).toInt32) &&& (63 : Int32))), (.int 2), (.ref u)]))
  refine qS B X4 hZ hown 10 11 8 12 rfl rfl rfl rfl (own_symc hw ((((((b0 <<< ((16 : Int32) &&& 31)) ||| (b1 <<< ((8 : Int32) &&& 31))) ||| b2).toUInt32 >>> ((6 : Int32) &&& 31).toUInt32).toInt32) &&& (63 : Int32)) O4 (own_sxr _)) e4 own_pd22 rfl rfl d2_62 2 rfl rfl rfl (by decide) ?_
  rintro T5 h5 _ L5 X5 e5 ⟨r_5, rfl, M5, rfl, r5_0⟩
  have N5 := Fr.app N4 M5
  show G (T5.setTop (mkF m 65 #[oa u, oi 0, oi b0, oi b1, oi b2, oi 3, oi (((b0 <<< ((16 : Int32) &&& 31)) ||| (b1 <<< ((8 : Int32) &&& 31))) ||| b2)] [(.int r_5), (.int 2), (.ref u)]))
  refine qsc 2 B X5 hZ e5 V4 d2_65 (by decide) rfl (Nat.le_of_ble_eq_true rfl) fun T6 h6 X6 e6 W6 V6 => ?_
  have K6 := K4.wr W6 (own_mi 0 rfl)
  have O6 := O4.wr W6 g1_G
  rw [own_narC (own_syr r5_0)] at V6
  have N6 := Fr.snoc X6 N5 g1_G
  refine q_iload B X6 d2_66 rfl rfl ?_
  refine q_iconst B X6 d2_68 rfl ?_
  refine q_icmpNo B X6 d2_69 rfl (flt (by decide)).1 rfl ?_
  refine q_aloadN B X6 d2_72 rfl rfl rfl ?_
  refine q_iloadN B X6 d2_73 rfl rfl ?_
  refine q_iconst B X6 d2_74 rfl ?_
  refine q_iadd B X6 d2_75 rfl rfl ?_
  show G (T6.setTop (mkF m 76 #[oa u, oi 0, oi b0, oi b1, oi b2, oi 3, oi (((b0 <<< ((16 : Int32) &&& 31)) ||| (b1 <<< ((8 : Int32) &&& 31))) ||| b2)] [(.int ((0 : Int32) + (3 : Int32))), (.ref u)]))
  rw [show ((0 : Int32) + (3 : Int32)) = (3 : Int32) from by decide]
  show G (T6.setTop (mkF m 76 #[oa u, oi 0, oi b0, oi b1, oi b2, oi 3, oi (((b0 <<< ((16 : Int32) &&& 31)) ||| (b1 <<< ((8 : Int32) &&& 31))) ||| b2)] [(.int 3), (.ref u)]))
  refine q_iload B X6 d2_76 rfl rfl ?_
  refine q_bipush B X6 d2_78 rfl ?_
  refine q_iand B X6 d2_80 rfl rfl ?_
  show G (T6.setTop (mkF m 81 #[oa u, oi 0, oi b0, oi b1, oi b2, oi 3, oi (((b0 <<< ((16 : Int32) &&& 31)) ||| (b1 <<< ((8 : Int32) &&& 31))) ||| b2)] [(.int ((((b0 <<< ((16 : Int32) &&& 31)) ||| (b1 <<< ((8 : Int32) &&& 31))) ||| b2) &&& (63 : Int32))), (.int 3), (.ref u)]))
  refine qS B X6 hZ hown 10 11 8 12 rfl rfl rfl rfl (own_symc hw ((((b0 <<< ((16 : Int32) &&& 31)) ||| (b1 <<< ((8 : Int32) &&& 31))) ||| b2) &&& (63 : Int32)) O6 (own_sxr _)) e6 own_pd22 rfl rfl d2_81 2 rfl rfl rfl (by decide) ?_
  rintro T7 h7 _ L7 X7 e7 ⟨r_7, rfl, M7, rfl, r7_0⟩
  have N7 := Fr.app N6 M7
  show G (T7.setTop (mkF m 84 #[oa u, oi 0, oi b0, oi b1, oi b2, oi 3, oi (((b0 <<< ((16 : Int32) &&& 31)) ||| (b1 <<< ((8 : Int32) &&& 31))) ||| b2)] [(.int r_7), (.int 3), (.ref u)]))
  refine qsc 3 B X7 hZ e7 V6 d2_84 (by decide) rfl (Nat.le_of_ble_eq_true rfl) fun T8 h8 X8 e8 W8 V8 => ?_
  have K8 := K6.wr W8 (own_mi 0 rfl)
  have O8 := O6.wr W8 g1_G
  rw [own_narC (own_syr r7_0)] at V8
  have N8 := Fr.snoc X8 N7 g1_G
  show G (T8.setTop (mkF m 85 #[oa u, oi 0, oi b0, oi b1, oi b2, oi 3, oi (((b0 <<< ((16 : Int32) &&& 31)) ||| (b1 <<< ((8 : Int32) &&& 31))) ||| b2)] []))
  exact qRV B hR hret X8 d2_85 e8 ⟨r_1, r_3, r_5, r_7, rfl, N8, K8, V8, r1_0, r3_0, r5_0, r7_0⟩ (by decide)
theorem own_min_5_3 (hw : own_W Z a0) (O0 : own_Old Z h0) : own_Con l Z ⟨"java/lang/Math", "min", "(II)I"⟩ jdk_29_method_69_code 2 (some .int) [] ⟨0, 0, 0, 0⟩ #[(.int 5), (.int 3)] h0 (fun rv rh rL => rv = some (.int 3) ∧ own_Fr Z rL ∧ h0 = rh) := by
  refine own_st hw (Jvm.Free.JP.mathPlain rfl (by decide +kernel)) #[oi 5, oi 3] (fun _ => rfl) fun p e s m below meth c s₁ G B hown hnm hret hZ X0 e0 N0 hR => ?_
  refine q_iloadN B X0 d1_0 rfl rfl ?_
  refine q_iloadN B X0 d1_1 rfl rfl ?_
  refine q_icmpYes 9 B X0 d1_2 rfl (tlt (by decide)).2.2.1 rfl rfl (by decide) ?_
  refine q_iloadN B X0 d1_9 rfl rfl ?_
  show G (s₁.setTop (mkF m 10 #[oi 5, oi 3] [(.int 3)]))
  exact qRI B hR hret X0 d1_10 e0 ⟨rfl, N0, rfl⟩ (by decide)
theorem own_put7_4_2 (hw : own_W Z a0) {u : Addr} {ku : ClassId} (b0 b1 b2 : Int32) {ce0 ce1 ce2 ce3 ce4 ce5 ce6 : Int32} (O0 : own_Old Z h0) (g0_V : Arv Z h0 u ku .char (7 : Int32) [(.int ce0), (.int ce1), (.int ce2), (.int ce3), (.int ce4), (.int ce5), (.int ce6)] (.int 0)) (g1_G : Z.heap.size ≤ u) : own_Con l Z ⟨"com/example/research_access_policy/researchaccesspolicy/token/Base64UrlDecodePinLaw", "put", "([CIIIII)V"⟩ method_3_code 7 none [] ⟨1, 0, 0, 14⟩ #[(.ref u), (.int 4), (.int b0), (.int b1), (.int b2), (.int 2)] h0 (fun rv rh rL => ∃ (z0 : Int32) (z1 : Int32) (z2 : Int32), rv = none ∧ own_Fr Z rL ∧ Keep h0 rh [u] ∧ (Arv Z rh u ku .char (7 : Int32) [(.int ce0), (.int ce1), (.int ce2), (.int ce3), (.int z0), (.int z1), (.int z2)] (.int 0)) ∧ (own_sy z0 (own_s18 (own_w b0 b1 b2))) ∧ (own_sy z1 (own_s12 (own_w b0 b1 b2))) ∧ (own_sy z2 (own_s6 (own_w b0 b1 b2)))) := by
  refine own_st hw (plainFor_of_name (by decide +kernel)) #[oa u, oi 4, oi b0, oi b1, oi b2, oi 2, .unset] (fun m => by first | (simp [entryFrame, mkF, argsToLocals, Value.category]; done) | rfl) fun p e s m below meth c s₁ G B hown hnm hret hZ X0 e0 N0 hR => ?_
  refine q_iloadN B X0 d2_0 rfl rfl ?_
  refine q_bipush B X0 d2_1 rfl ?_
  refine q_ishl B X0 d2_3 rfl rfl ?_
  refine q_iloadN B X0 d2_4 rfl rfl ?_
  refine q_bipush B X0 d2_5 rfl ?_
  refine q_ishl B X0 d2_7 rfl rfl ?_
  refine q_ior B X0 d2_8 rfl rfl ?_
  refine q_iload B X0 d2_9 rfl rfl ?_
  refine q_ior B X0 d2_11 rfl rfl ?_
  refine q_istore B X0 d2_12 rfl rfl rfl ?_
  refine q_aloadN B X0 d2_14 rfl rfl rfl ?_
  refine q_iloadN B X0 d2_15 rfl rfl ?_
  refine q_iload B X0 d2_16 rfl rfl ?_
  refine q_bipush B X0 d2_18 rfl ?_
  refine q_iushr B X0 d2_20 rfl rfl ?_
  refine q_bipush B X0 d2_21 rfl ?_
  refine q_iand B X0 d2_23 rfl rfl ?_
  show G (s₁.setTop (mkF m 24 #[oa u, oi 4, oi b0, oi b1, oi b2, oi 2, oi (((b0 <<< ((16 : Int32) &&& 31)) ||| (b1 <<< ((8 : Int32) &&& 31))) ||| b2)] [(.int ((((((b0 <<< ((16 : Int32) &&& 31)) ||| (b1 <<< ((8 : Int32) &&& 31))) ||| b2).toUInt32 >>> ((18 : Int32) &&& 31).toUInt32).toInt32) &&& (63 : Int32))), (.int 4), (.ref u)]))
  refine qS B X0 hZ hown 10 11 8 12 rfl rfl rfl rfl (own_symc hw ((((((b0 <<< ((16 : Int32) &&& 31)) ||| (b1 <<< ((8 : Int32) &&& 31))) ||| b2).toUInt32 >>> ((18 : Int32) &&& 31).toUInt32).toInt32) &&& (63 : Int32)) O0 (own_sxr _)) e0 own_pd22 rfl rfl d2_24 2 rfl rfl rfl (by decide) ?_
  rintro T1 h1 _ L1 X1 e1 ⟨r_1, rfl, M1, rfl, r1_0⟩
  have N1 := Fr.app N0 M1
  show G (T1.setTop (mkF m 27 #[oa u, oi 4, oi b0, oi b1, oi b2, oi 2, oi (((b0 <<< ((16 : Int32) &&& 31)) ||| (b1 <<< ((8 : Int32) &&& 31))) ||| b2)] [(.int r_1), (.int 4), (.ref u)]))
  refine qsc 4 B X1 hZ e1 g0_V d2_27 (by decide) rfl (Nat.le_of_ble_eq_true rfl) fun T2 h2 X2 e2 W2 V2 => ?_
  have K2 := (Keep.refl h0 [u]).wr W2 (own_mi 0 rfl)
  have O2 := O0.wr W2 g1_G
  rw [own_narC (own_syr r1_0)] at V2
  have N2 := Fr.snoc X2 N1 g1_G
  refine q_aloadN B X2 d2_28 rfl rfl rfl ?_
  refine q_iloadN B X2 d2_29 rfl rfl ?_
  refine q_iconst B X2 d2_30 rfl ?_
  refine q_iadd B X2 d2_31 rfl rfl ?_
  show G (T2.setTop (mkF m 32 #[oa u, oi 4, oi b0, oi b1, oi b2, oi 2, oi (((b0 <<< ((16 : Int32) &&& 31)) ||| (b1 <<< ((8 : Int32) &&& 31))) ||| b2)] [(.int ((4 : Int32) + (1 : Int32))), (.ref u)]))
  rw [show ((4 : Int32) + (1 : Int32)) = (5 : Int32) from by decide]
  show G (T2.setTop (mkF m 32 #[oa u, oi 4, oi b0, oi b1, oi b2, oi 2, oi (((b0 <<< ((16 : Int32) &&& 31)) ||| (b1 <<< ((8 : Int32) &&& 31))) ||| b2)] [(.int 5), (.ref u)]))
  refine q_iload B X2 d2_32 rfl rfl ?_
  refine q_bipush B X2 d2_34 rfl ?_
  refine q_iushr B X2 d2_36 rfl rfl ?_
  refine q_bipush B X2 d2_37 rfl ?_
  refine q_iand B X2 d2_39 rfl rfl ?_
  show G (T2.setTop (mkF m 40 #[oa u, oi 4, oi b0, oi b1, oi b2, oi 2, oi (((b0 <<< ((16 : Int32) &&& 31)) ||| (b1 <<< ((8 : Int32) &&& 31))) ||| b2)] [(.int ((((((b0 <<< ((16 : Int32) &&& 31)) ||| (b1 <<< ((8 : Int32) &&& 31))) ||| b2).toUInt32 >>> ((12 : Int32) &&& 31).toUInt32).toInt32) &&& (63 : Int32))), (.int 5), (.ref u)]))
  refine qS B X2 hZ hown 10 11 8 12 rfl rfl rfl rfl (own_symc hw ((((((b0 <<< ((16 : Int32) &&& 31)) ||| (b1 <<< ((8 : Int32) &&& 31))) ||| b2).toUInt32 >>> ((12 : Int32) &&& 31).toUInt32).toInt32) &&& (63 : Int32)) O2 (own_sxr _)) e2 own_pd22 rfl rfl d2_40 2 rfl rfl rfl (by decide) ?_
  rintro T3 h3 _ L3 X3 e3 ⟨r_3, rfl, M3, rfl, r3_0⟩
  have N3 := Fr.app N2 M3
  show G (T3.setTop (mkF m 43 #[oa u, oi 4, oi b0, oi b1, oi b2, oi 2, oi (((b0 <<< ((16 : Int32) &&& 31)) ||| (b1 <<< ((8 : Int32) &&& 31))) ||| b2)] [(.int r_3), (.int 5), (.ref u)]))
  refine qsc 5 B X3 hZ e3 V2 d2_43 (by decide) rfl (Nat.le_of_ble_eq_true rfl) fun T4 h4 X4 e4 W4 V4 => ?_
  have K4 := K2.wr W4 (own_mi 0 rfl)
  have O4 := O2.wr W4 g1_G
  rw [own_narC (own_syr r3_0)] at V4
  have N4 := Fr.snoc X4 N3 g1_G
  refine q_iload B X4 d2_44 rfl rfl ?_
  refine q_iconst B X4 d2_46 rfl ?_
  refine q_icmpNo B X4 d2_47 rfl (flt (by decide)).1 rfl ?_
  refine q_aloadN B X4 d2_50 rfl rfl rfl ?_
  refine q_iloadN B X4 d2_51 rfl rfl ?_
  refine q_iconst B X4 d2_52 rfl ?_
  refine q_iadd B X4 d2_53 rfl rfl ?_
  show G (T4.setTop (mkF m 54 #[oa u, oi 4, oi b0, oi b1, oi b2, oi 2, oi (((b0 <<< ((16 : Int32) &&& 31)) ||| (b1 <<< ((8 : Int32) &&& 31))) ||| b2)] [(.int ((4 : Int32) + (2 : Int32))), (.ref u)]))
  rw [show ((4 : Int32) + (2 : Int32)) = (6 : Int32) from by decide]
  show G (T4.setTop (mkF m 54 #[oa u, oi 4, oi b0, oi b1, oi b2, oi 2, oi (((b0 <<< ((16 : Int32) &&& 31)) ||| (b1 <<< ((8 : Int32) &&& 31))) ||| b2)] [(.int 6), (.ref u)]))
  refine q_iload B X4 d2_54 rfl rfl ?_
  refine q_bipush B X4 d2_56 rfl ?_
  refine q_iushr B X4 d2_58 rfl rfl ?_
  refine q_bipush B X4 d2_59 rfl ?_
  refine q_iand B X4 d2_61 rfl rfl ?_
  show G (T4.setTop (mkF m 62 #[oa u, oi 4, oi b0, oi b1, oi b2, oi 2, oi (((b0 <<< ((16 : Int32) &&& 31)) ||| (b1 <<< ((8 : Int32) &&& 31))) ||| b2)] [(.int ((((((b0 <<< ((16 : Int32) &&& 31)) ||| (b1 <<< ((8 : Int32) &&& 31))) ||| b2).toUInt32 >>> ((6 : Int32) &&& 31).toUInt32).toInt32) &&& (63 : Int32))), (.int 6), (.ref u)]))
  refine qS B X4 hZ hown 10 11 8 12 rfl rfl rfl rfl (own_symc hw ((((((b0 <<< ((16 : Int32) &&& 31)) ||| (b1 <<< ((8 : Int32) &&& 31))) ||| b2).toUInt32 >>> ((6 : Int32) &&& 31).toUInt32).toInt32) &&& (63 : Int32)) O4 (own_sxr _)) e4 own_pd22 rfl rfl d2_62 2 rfl rfl rfl (by decide) ?_
  rintro T5 h5 _ L5 X5 e5 ⟨r_5, rfl, M5, rfl, r5_0⟩
  have N5 := Fr.app N4 M5
  show G (T5.setTop (mkF m 65 #[oa u, oi 4, oi b0, oi b1, oi b2, oi 2, oi (((b0 <<< ((16 : Int32) &&& 31)) ||| (b1 <<< ((8 : Int32) &&& 31))) ||| b2)] [(.int r_5), (.int 6), (.ref u)]))
  refine qsc 6 B X5 hZ e5 V4 d2_65 (by decide) rfl (Nat.le_of_ble_eq_true rfl) fun T6 h6 X6 e6 W6 V6 => ?_
  have K6 := K4.wr W6 (own_mi 0 rfl)
  have O6 := O4.wr W6 g1_G
  rw [own_narC (own_syr r5_0)] at V6
  have N6 := Fr.snoc X6 N5 g1_G
  refine q_iload B X6 d2_66 rfl rfl ?_
  refine q_iconst B X6 d2_68 rfl ?_
  refine q_icmpYes 85 B X6 d2_69 rfl (tlt (by decide)).1 rfl rfl (by decide) ?_
  show G (T6.setTop (mkF m 85 #[oa u, oi 4, oi b0, oi b1, oi b2, oi 2, oi (((b0 <<< ((16 : Int32) &&& 31)) ||| (b1 <<< ((8 : Int32) &&& 31))) ||| b2)] []))
  exact qRV B hR hret X6 d2_85 e6 ⟨r_1, r_3, r_5, rfl, N6, K6, V6, r1_0, r3_0, r5_0⟩ (by decide)
theorem own_put8_0_3 (hw : own_W Z a0) {u : Addr} {ku : ClassId} (b0 b1 b2 : Int32) {ce0 ce1 ce2 ce3 ce4 ce5 ce6 ce7 : Int32} (O0 : own_Old Z h0) (g0_V : Arv Z h0 u ku .char (8 : Int32) [(.int ce0), (.int ce1), (.int ce2), (.int ce3), (.int ce4), (.int ce5), (.int ce6), (.int ce7)] (.int 0)) (g1_G : Z.heap.size ≤ u) : own_Con l Z ⟨"com/example/research_access_policy/researchaccesspolicy/token/Base64UrlDecodePinLaw", "put", "([CIIIII)V"⟩ method_3_code 7 none [] ⟨1, 0, 0, 14⟩ #[(.ref u), (.int 0), (.int b0), (.int b1), (.int b2), (.int 3)] h0 (fun rv rh rL => ∃ (z0 : Int32) (z1 : Int32) (z2 : Int32) (z3 : Int32), rv = none ∧ own_Fr Z rL ∧ Keep h0 rh [u] ∧ (Arv Z rh u ku .char (8 : Int32) [(.int z0), (.int z1), (.int z2), (.int z3), (.int ce4), (.int ce5), (.int ce6), (.int ce7)] (.int 0)) ∧ (own_sy z0 (own_s18 (own_w b0 b1 b2))) ∧ (own_sy z1 (own_s12 (own_w b0 b1 b2))) ∧ (own_sy z2 (own_s6 (own_w b0 b1 b2))) ∧ (own_sy z3 (own_s0 (own_w b0 b1 b2)))) := by
  refine own_st hw (plainFor_of_name (by decide +kernel)) #[oa u, oi 0, oi b0, oi b1, oi b2, oi 3, .unset] (fun m => by first | (simp [entryFrame, mkF, argsToLocals, Value.category]; done) | rfl) fun p e s m below meth c s₁ G B hown hnm hret hZ X0 e0 N0 hR => ?_
  refine q_iloadN B X0 d2_0 rfl rfl ?_
  refine q_bipush B X0 d2_1 rfl ?_
  refine q_ishl B X0 d2_3 rfl rfl ?_
  refine q_iloadN B X0 d2_4 rfl rfl ?_
  refine q_bipush B X0 d2_5 rfl ?_
  refine q_ishl B X0 d2_7 rfl rfl ?_
  refine q_ior B X0 d2_8 rfl rfl ?_
  refine q_iload B X0 d2_9 rfl rfl ?_
  refine q_ior B X0 d2_11 rfl rfl ?_
  refine q_istore B X0 d2_12 rfl rfl rfl ?_
  refine q_aloadN B X0 d2_14 rfl rfl rfl ?_
  refine q_iloadN B X0 d2_15 rfl rfl ?_
  refine q_iload B X0 d2_16 rfl rfl ?_
  refine q_bipush B X0 d2_18 rfl ?_
  refine q_iushr B X0 d2_20 rfl rfl ?_
  refine q_bipush B X0 d2_21 rfl ?_
  refine q_iand B X0 d2_23 rfl rfl ?_
  show G (s₁.setTop (mkF m 24 #[oa u, oi 0, oi b0, oi b1, oi b2, oi 3, oi (((b0 <<< ((16 : Int32) &&& 31)) ||| (b1 <<< ((8 : Int32) &&& 31))) ||| b2)] [(.int ((((((b0 <<< ((16 : Int32) &&& 31)) ||| (b1 <<< ((8 : Int32) &&& 31))) ||| b2).toUInt32 >>> ((18 : Int32) &&& 31).toUInt32).toInt32) &&& (63 : Int32))), (.int 0), (.ref u)]))
  refine qS B X0 hZ hown 10 11 8 12 rfl rfl rfl rfl (own_symc hw ((((((b0 <<< ((16 : Int32) &&& 31)) ||| (b1 <<< ((8 : Int32) &&& 31))) ||| b2).toUInt32 >>> ((18 : Int32) &&& 31).toUInt32).toInt32) &&& (63 : Int32)) O0 (own_sxr _)) e0 own_pd22 rfl rfl d2_24 2 rfl rfl rfl (by decide) ?_
  rintro T1 h1 _ L1 X1 e1 ⟨r_1, rfl, M1, rfl, r1_0⟩
  have N1 := Fr.app N0 M1
  show G (T1.setTop (mkF m 27 #[oa u, oi 0, oi b0, oi b1, oi b2, oi 3, oi (((b0 <<< ((16 : Int32) &&& 31)) ||| (b1 <<< ((8 : Int32) &&& 31))) ||| b2)] [(.int r_1), (.int 0), (.ref u)]))
  refine qsc 0 B X1 hZ e1 g0_V d2_27 (by decide) rfl (Nat.le_of_ble_eq_true rfl) fun T2 h2 X2 e2 W2 V2 => ?_
  have K2 := (Keep.refl h0 [u]).wr W2 (own_mi 0 rfl)
  have O2 := O0.wr W2 g1_G
  rw [own_narC (own_syr r1_0)] at V2
  have N2 := Fr.snoc X2 N1 g1_G
  refine q_aloadN B X2 d2_28 rfl rfl rfl ?_
  refine q_iloadN B X2 d2_29 rfl rfl ?_
  refine q_iconst B X2 d2_30 rfl ?_
  refine q_iadd B X2 d2_31 rfl rfl ?_
  show G (T2.setTop (mkF m 32 #[oa u, oi 0, oi b0, oi b1, oi b2, oi 3, oi (((b0 <<< ((16 : Int32) &&& 31)) ||| (b1 <<< ((8 : Int32) &&& 31))) ||| b2)] [(.int ((0 : Int32) + (1 : Int32))), (.ref u)]))
  rw [show ((0 : Int32) + (1 : Int32)) = (1 : Int32) from by decide]
  show G (T2.setTop (mkF m 32 #[oa u, oi 0, oi b0, oi b1, oi b2, oi 3, oi (((b0 <<< ((16 : Int32) &&& 31)) ||| (b1 <<< ((8 : Int32) &&& 31))) ||| b2)] [(.int 1), (.ref u)]))
  refine q_iload B X2 d2_32 rfl rfl ?_
  refine q_bipush B X2 d2_34 rfl ?_
  refine q_iushr B X2 d2_36 rfl rfl ?_
  refine q_bipush B X2 d2_37 rfl ?_
  refine q_iand B X2 d2_39 rfl rfl ?_
  show G (T2.setTop (mkF m 40 #[oa u, oi 0, oi b0, oi b1, oi b2, oi 3, oi (((b0 <<< ((16 : Int32) &&& 31)) ||| (b1 <<< ((8 : Int32) &&& 31))) ||| b2)] [(.int ((((((b0 <<< ((16 : Int32) &&& 31)) ||| (b1 <<< ((8 : Int32) &&& 31))) ||| b2).toUInt32 >>> ((12 : Int32) &&& 31).toUInt32).toInt32) &&& (63 : Int32))), (.int 1), (.ref u)]))
  refine qS B X2 hZ hown 10 11 8 12 rfl rfl rfl rfl (own_symc hw ((((((b0 <<< ((16 : Int32) &&& 31)) ||| (b1 <<< ((8 : Int32) &&& 31))) ||| b2).toUInt32 >>> ((12 : Int32) &&& 31).toUInt32).toInt32) &&& (63 : Int32)) O2 (own_sxr _)) e2 own_pd22 rfl rfl d2_40 2 rfl rfl rfl (by decide) ?_
  rintro T3 h3 _ L3 X3 e3 ⟨r_3, rfl, M3, rfl, r3_0⟩
  have N3 := Fr.app N2 M3
  show G (T3.setTop (mkF m 43 #[oa u, oi 0, oi b0, oi b1, oi b2, oi 3, oi (((b0 <<< ((16 : Int32) &&& 31)) ||| (b1 <<< ((8 : Int32) &&& 31))) ||| b2)] [(.int r_3), (.int 1), (.ref u)]))
  refine qsc 1 B X3 hZ e3 V2 d2_43 (by decide) rfl (Nat.le_of_ble_eq_true rfl) fun T4 h4 X4 e4 W4 V4 => ?_
  have K4 := K2.wr W4 (own_mi 0 rfl)
  have O4 := O2.wr W4 g1_G
  rw [own_narC (own_syr r3_0)] at V4
  have N4 := Fr.snoc X4 N3 g1_G
  refine q_iload B X4 d2_44 rfl rfl ?_
  refine q_iconst B X4 d2_46 rfl ?_
  refine q_icmpNo B X4 d2_47 rfl (flt (by decide)).1 rfl ?_
  refine q_aloadN B X4 d2_50 rfl rfl rfl ?_
  refine q_iloadN B X4 d2_51 rfl rfl ?_
  refine q_iconst B X4 d2_52 rfl ?_
  refine q_iadd B X4 d2_53 rfl rfl ?_
  show G (T4.setTop (mkF m 54 #[oa u, oi 0, oi b0, oi b1, oi b2, oi 3, oi (((b0 <<< ((16 : Int32) &&& 31)) ||| (b1 <<< ((8 : Int32) &&& 31))) ||| b2)] [(.int ((0 : Int32) + (2 : Int32))), (.ref u)]))
  rw [show ((0 : Int32) + (2 : Int32)) = (2 : Int32) from by decide]
  show G (T4.setTop (mkF m 54 #[oa u, oi 0, oi b0, oi b1, oi b2, oi 3, oi (((b0 <<< ((16 : Int32) &&& 31)) ||| (b1 <<< ((8 : Int32) &&& 31))) ||| b2)] [(.int 2), (.ref u)]))
  refine q_iload B X4 d2_54 rfl rfl ?_
  refine q_bipush B X4 d2_56 rfl ?_
  refine q_iushr B X4 d2_58 rfl rfl ?_
  refine q_bipush B X4 d2_59 rfl ?_
  refine q_iand B X4 d2_61 rfl rfl ?_
  show G (T4.setTop (mkF m 62 #[oa u, oi 0, oi b0, oi b1, oi b2, oi 3, oi (((b0 <<< ((16 : Int32) &&& 31)) ||| (b1 <<< ((8 : Int32) &&& 31))) ||| b2)] [(.int ((((((b0 <<< ((16 : Int32) &&& 31)) ||| (b1 <<< ((8 : Int32) &&& 31))) ||| b2).toUInt32 >>> ((6 : Int32) &&& 31).toUInt32).toInt32) &&& (63 : Int32))), (.int 2), (.ref u)]))
  refine qS B X4 hZ hown 10 11 8 12 rfl rfl rfl rfl (own_symc hw ((((((b0 <<< ((16 : Int32) &&& 31)) ||| (b1 <<< ((8 : Int32) &&& 31))) ||| b2).toUInt32 >>> ((6 : Int32) &&& 31).toUInt32).toInt32) &&& (63 : Int32)) O4 (own_sxr _)) e4 own_pd22 rfl rfl d2_62 2 rfl rfl rfl (by decide) ?_
  rintro T5 h5 _ L5 X5 e5 ⟨r_5, rfl, M5, rfl, r5_0⟩
  have N5 := Fr.app N4 M5
  show G (T5.setTop (mkF m 65 #[oa u, oi 0, oi b0, oi b1, oi b2, oi 3, oi (((b0 <<< ((16 : Int32) &&& 31)) ||| (b1 <<< ((8 : Int32) &&& 31))) ||| b2)] [(.int r_5), (.int 2), (.ref u)]))
  refine qsc 2 B X5 hZ e5 V4 d2_65 (by decide) rfl (Nat.le_of_ble_eq_true rfl) fun T6 h6 X6 e6 W6 V6 => ?_
  have K6 := K4.wr W6 (own_mi 0 rfl)
  have O6 := O4.wr W6 g1_G
  rw [own_narC (own_syr r5_0)] at V6
  have N6 := Fr.snoc X6 N5 g1_G
  refine q_iload B X6 d2_66 rfl rfl ?_
  refine q_iconst B X6 d2_68 rfl ?_
  refine q_icmpNo B X6 d2_69 rfl (flt (by decide)).1 rfl ?_
  refine q_aloadN B X6 d2_72 rfl rfl rfl ?_
  refine q_iloadN B X6 d2_73 rfl rfl ?_
  refine q_iconst B X6 d2_74 rfl ?_
  refine q_iadd B X6 d2_75 rfl rfl ?_
  show G (T6.setTop (mkF m 76 #[oa u, oi 0, oi b0, oi b1, oi b2, oi 3, oi (((b0 <<< ((16 : Int32) &&& 31)) ||| (b1 <<< ((8 : Int32) &&& 31))) ||| b2)] [(.int ((0 : Int32) + (3 : Int32))), (.ref u)]))
  rw [show ((0 : Int32) + (3 : Int32)) = (3 : Int32) from by decide]
  show G (T6.setTop (mkF m 76 #[oa u, oi 0, oi b0, oi b1, oi b2, oi 3, oi (((b0 <<< ((16 : Int32) &&& 31)) ||| (b1 <<< ((8 : Int32) &&& 31))) ||| b2)] [(.int 3), (.ref u)]))
  refine q_iload B X6 d2_76 rfl rfl ?_
  refine q_bipush B X6 d2_78 rfl ?_
  refine q_iand B X6 d2_80 rfl rfl ?_
  show G (T6.setTop (mkF m 81 #[oa u, oi 0, oi b0, oi b1, oi b2, oi 3, oi (((b0 <<< ((16 : Int32) &&& 31)) ||| (b1 <<< ((8 : Int32) &&& 31))) ||| b2)] [(.int ((((b0 <<< ((16 : Int32) &&& 31)) ||| (b1 <<< ((8 : Int32) &&& 31))) ||| b2) &&& (63 : Int32))), (.int 3), (.ref u)]))
  refine qS B X6 hZ hown 10 11 8 12 rfl rfl rfl rfl (own_symc hw ((((b0 <<< ((16 : Int32) &&& 31)) ||| (b1 <<< ((8 : Int32) &&& 31))) ||| b2) &&& (63 : Int32)) O6 (own_sxr _)) e6 own_pd22 rfl rfl d2_81 2 rfl rfl rfl (by decide) ?_
  rintro T7 h7 _ L7 X7 e7 ⟨r_7, rfl, M7, rfl, r7_0⟩
  have N7 := Fr.app N6 M7
  show G (T7.setTop (mkF m 84 #[oa u, oi 0, oi b0, oi b1, oi b2, oi 3, oi (((b0 <<< ((16 : Int32) &&& 31)) ||| (b1 <<< ((8 : Int32) &&& 31))) ||| b2)] [(.int r_7), (.int 3), (.ref u)]))
  refine qsc 3 B X7 hZ e7 V6 d2_84 (by decide) rfl (Nat.le_of_ble_eq_true rfl) fun T8 h8 X8 e8 W8 V8 => ?_
  have K8 := K6.wr W8 (own_mi 0 rfl)
  have O8 := O6.wr W8 g1_G
  rw [own_narC (own_syr r7_0)] at V8
  have N8 := Fr.snoc X8 N7 g1_G
  show G (T8.setTop (mkF m 85 #[oa u, oi 0, oi b0, oi b1, oi b2, oi 3, oi (((b0 <<< ((16 : Int32) &&& 31)) ||| (b1 <<< ((8 : Int32) &&& 31))) ||| b2)] []))
  exact qRV B hR hret X8 d2_85 e8 ⟨r_1, r_3, r_5, r_7, rfl, N8, K8, V8, r1_0, r3_0, r5_0, r7_0⟩ (by decide)
theorem own_min_6_3 (hw : own_W Z a0) (O0 : own_Old Z h0) : own_Con l Z ⟨"java/lang/Math", "min", "(II)I"⟩ jdk_29_method_69_code 2 (some .int) [] ⟨0, 0, 0, 0⟩ #[(.int 6), (.int 3)] h0 (fun rv rh rL => rv = some (.int 3) ∧ own_Fr Z rL ∧ h0 = rh) := by
  refine own_st hw (Jvm.Free.JP.mathPlain rfl (by decide +kernel)) #[oi 6, oi 3] (fun _ => rfl) fun p e s m below meth c s₁ G B hown hnm hret hZ X0 e0 N0 hR => ?_
  refine q_iloadN B X0 d1_0 rfl rfl ?_
  refine q_iloadN B X0 d1_1 rfl rfl ?_
  refine q_icmpYes 9 B X0 d1_2 rfl (tlt (by decide)).2.2.1 rfl rfl (by decide) ?_
  refine q_iloadN B X0 d1_9 rfl rfl ?_
  show G (s₁.setTop (mkF m 10 #[oi 6, oi 3] [(.int 3)]))
  exact qRI B hR hret X0 d1_10 e0 ⟨rfl, N0, rfl⟩ (by decide)
theorem own_put8_4_3 (hw : own_W Z a0) {u : Addr} {ku : ClassId} (b0 b1 b2 : Int32) {ce0 ce1 ce2 ce3 ce4 ce5 ce6 ce7 : Int32} (O0 : own_Old Z h0) (g0_V : Arv Z h0 u ku .char (8 : Int32) [(.int ce0), (.int ce1), (.int ce2), (.int ce3), (.int ce4), (.int ce5), (.int ce6), (.int ce7)] (.int 0)) (g1_G : Z.heap.size ≤ u) : own_Con l Z ⟨"com/example/research_access_policy/researchaccesspolicy/token/Base64UrlDecodePinLaw", "put", "([CIIIII)V"⟩ method_3_code 7 none [] ⟨1, 0, 0, 14⟩ #[(.ref u), (.int 4), (.int b0), (.int b1), (.int b2), (.int 3)] h0 (fun rv rh rL => ∃ (z0 : Int32) (z1 : Int32) (z2 : Int32) (z3 : Int32), rv = none ∧ own_Fr Z rL ∧ Keep h0 rh [u] ∧ (Arv Z rh u ku .char (8 : Int32) [(.int ce0), (.int ce1), (.int ce2), (.int ce3), (.int z0), (.int z1), (.int z2), (.int z3)] (.int 0)) ∧ (own_sy z0 (own_s18 (own_w b0 b1 b2))) ∧ (own_sy z1 (own_s12 (own_w b0 b1 b2))) ∧ (own_sy z2 (own_s6 (own_w b0 b1 b2))) ∧ (own_sy z3 (own_s0 (own_w b0 b1 b2)))) := by
  refine own_st hw (plainFor_of_name (by decide +kernel)) #[oa u, oi 4, oi b0, oi b1, oi b2, oi 3, .unset] (fun m => by first | (simp [entryFrame, mkF, argsToLocals, Value.category]; done) | rfl) fun p e s m below meth c s₁ G B hown hnm hret hZ X0 e0 N0 hR => ?_
  refine q_iloadN B X0 d2_0 rfl rfl ?_
  refine q_bipush B X0 d2_1 rfl ?_
  refine q_ishl B X0 d2_3 rfl rfl ?_
  refine q_iloadN B X0 d2_4 rfl rfl ?_
  refine q_bipush B X0 d2_5 rfl ?_
  refine q_ishl B X0 d2_7 rfl rfl ?_
  refine q_ior B X0 d2_8 rfl rfl ?_
  refine q_iload B X0 d2_9 rfl rfl ?_
  refine q_ior B X0 d2_11 rfl rfl ?_
  refine q_istore B X0 d2_12 rfl rfl rfl ?_
  refine q_aloadN B X0 d2_14 rfl rfl rfl ?_
  refine q_iloadN B X0 d2_15 rfl rfl ?_
  refine q_iload B X0 d2_16 rfl rfl ?_
  refine q_bipush B X0 d2_18 rfl ?_
  refine q_iushr B X0 d2_20 rfl rfl ?_
  refine q_bipush B X0 d2_21 rfl ?_
  refine q_iand B X0 d2_23 rfl rfl ?_
  show G (s₁.setTop (mkF m 24 #[oa u, oi 4, oi b0, oi b1, oi b2, oi 3, oi (((b0 <<< ((16 : Int32) &&& 31)) ||| (b1 <<< ((8 : Int32) &&& 31))) ||| b2)] [(.int ((((((b0 <<< ((16 : Int32) &&& 31)) ||| (b1 <<< ((8 : Int32) &&& 31))) ||| b2).toUInt32 >>> ((18 : Int32) &&& 31).toUInt32).toInt32) &&& (63 : Int32))), (.int 4), (.ref u)]))
  refine qS B X0 hZ hown 10 11 8 12 rfl rfl rfl rfl (own_symc hw ((((((b0 <<< ((16 : Int32) &&& 31)) ||| (b1 <<< ((8 : Int32) &&& 31))) ||| b2).toUInt32 >>> ((18 : Int32) &&& 31).toUInt32).toInt32) &&& (63 : Int32)) O0 (own_sxr _)) e0 own_pd22 rfl rfl d2_24 2 rfl rfl rfl (by decide) ?_
  rintro T1 h1 _ L1 X1 e1 ⟨r_1, rfl, M1, rfl, r1_0⟩
  have N1 := Fr.app N0 M1
  show G (T1.setTop (mkF m 27 #[oa u, oi 4, oi b0, oi b1, oi b2, oi 3, oi (((b0 <<< ((16 : Int32) &&& 31)) ||| (b1 <<< ((8 : Int32) &&& 31))) ||| b2)] [(.int r_1), (.int 4), (.ref u)]))
  refine qsc 4 B X1 hZ e1 g0_V d2_27 (by decide) rfl (Nat.le_of_ble_eq_true rfl) fun T2 h2 X2 e2 W2 V2 => ?_
  have K2 := (Keep.refl h0 [u]).wr W2 (own_mi 0 rfl)
  have O2 := O0.wr W2 g1_G
  rw [own_narC (own_syr r1_0)] at V2
  have N2 := Fr.snoc X2 N1 g1_G
  refine q_aloadN B X2 d2_28 rfl rfl rfl ?_
  refine q_iloadN B X2 d2_29 rfl rfl ?_
  refine q_iconst B X2 d2_30 rfl ?_
  refine q_iadd B X2 d2_31 rfl rfl ?_
  show G (T2.setTop (mkF m 32 #[oa u, oi 4, oi b0, oi b1, oi b2, oi 3, oi (((b0 <<< ((16 : Int32) &&& 31)) ||| (b1 <<< ((8 : Int32) &&& 31))) ||| b2)] [(.int ((4 : Int32) + (1 : Int32))), (.ref u)]))
  rw [show ((4 : Int32) + (1 : Int32)) = (5 : Int32) from by decide]
  show G (T2.setTop (mkF m 32 #[oa u, oi 4, oi b0, oi b1, oi b2, oi 3, oi (((b0 <<< ((16 : Int32) &&& 31)) ||| (b1 <<< ((8 : Int32) &&& 31))) ||| b2)] [(.int 5), (.ref u)]))
  refine q_iload B X2 d2_32 rfl rfl ?_
  refine q_bipush B X2 d2_34 rfl ?_
  refine q_iushr B X2 d2_36 rfl rfl ?_
  refine q_bipush B X2 d2_37 rfl ?_
  refine q_iand B X2 d2_39 rfl rfl ?_
  show G (T2.setTop (mkF m 40 #[oa u, oi 4, oi b0, oi b1, oi b2, oi 3, oi (((b0 <<< ((16 : Int32) &&& 31)) ||| (b1 <<< ((8 : Int32) &&& 31))) ||| b2)] [(.int ((((((b0 <<< ((16 : Int32) &&& 31)) ||| (b1 <<< ((8 : Int32) &&& 31))) ||| b2).toUInt32 >>> ((12 : Int32) &&& 31).toUInt32).toInt32) &&& (63 : Int32))), (.int 5), (.ref u)]))
  refine qS B X2 hZ hown 10 11 8 12 rfl rfl rfl rfl (own_symc hw ((((((b0 <<< ((16 : Int32) &&& 31)) ||| (b1 <<< ((8 : Int32) &&& 31))) ||| b2).toUInt32 >>> ((12 : Int32) &&& 31).toUInt32).toInt32) &&& (63 : Int32)) O2 (own_sxr _)) e2 own_pd22 rfl rfl d2_40 2 rfl rfl rfl (by decide) ?_
  rintro T3 h3 _ L3 X3 e3 ⟨r_3, rfl, M3, rfl, r3_0⟩
  have N3 := Fr.app N2 M3
  show G (T3.setTop (mkF m 43 #[oa u, oi 4, oi b0, oi b1, oi b2, oi 3, oi (((b0 <<< ((16 : Int32) &&& 31)) ||| (b1 <<< ((8 : Int32) &&& 31))) ||| b2)] [(.int r_3), (.int 5), (.ref u)]))
  refine qsc 5 B X3 hZ e3 V2 d2_43 (by decide) rfl (Nat.le_of_ble_eq_true rfl) fun T4 h4 X4 e4 W4 V4 => ?_
  have K4 := K2.wr W4 (own_mi 0 rfl)
  have O4 := O2.wr W4 g1_G
  rw [own_narC (own_syr r3_0)] at V4
  have N4 := Fr.snoc X4 N3 g1_G
  refine q_iload B X4 d2_44 rfl rfl ?_
  refine q_iconst B X4 d2_46 rfl ?_
  refine q_icmpNo B X4 d2_47 rfl (flt (by decide)).1 rfl ?_
  refine q_aloadN B X4 d2_50 rfl rfl rfl ?_
  refine q_iloadN B X4 d2_51 rfl rfl ?_
  refine q_iconst B X4 d2_52 rfl ?_
  refine q_iadd B X4 d2_53 rfl rfl ?_
  show G (T4.setTop (mkF m 54 #[oa u, oi 4, oi b0, oi b1, oi b2, oi 3, oi (((b0 <<< ((16 : Int32) &&& 31)) ||| (b1 <<< ((8 : Int32) &&& 31))) ||| b2)] [(.int ((4 : Int32) + (2 : Int32))), (.ref u)]))
  rw [show ((4 : Int32) + (2 : Int32)) = (6 : Int32) from by decide]
  show G (T4.setTop (mkF m 54 #[oa u, oi 4, oi b0, oi b1, oi b2, oi 3, oi (((b0 <<< ((16 : Int32) &&& 31)) ||| (b1 <<< ((8 : Int32) &&& 31))) ||| b2)] [(.int 6), (.ref u)]))
  refine q_iload B X4 d2_54 rfl rfl ?_
  refine q_bipush B X4 d2_56 rfl ?_
  refine q_iushr B X4 d2_58 rfl rfl ?_
  refine q_bipush B X4 d2_59 rfl ?_
  refine q_iand B X4 d2_61 rfl rfl ?_
  show G (T4.setTop (mkF m 62 #[oa u, oi 4, oi b0, oi b1, oi b2, oi 3, oi (((b0 <<< ((16 : Int32) &&& 31)) ||| (b1 <<< ((8 : Int32) &&& 31))) ||| b2)] [(.int ((((((b0 <<< ((16 : Int32) &&& 31)) ||| (b1 <<< ((8 : Int32) &&& 31))) ||| b2).toUInt32 >>> ((6 : Int32) &&& 31).toUInt32).toInt32) &&& (63 : Int32))), (.int 6), (.ref u)]))
  refine qS B X4 hZ hown 10 11 8 12 rfl rfl rfl rfl (own_symc hw ((((((b0 <<< ((16 : Int32) &&& 31)) ||| (b1 <<< ((8 : Int32) &&& 31))) ||| b2).toUInt32 >>> ((6 : Int32) &&& 31).toUInt32).toInt32) &&& (63 : Int32)) O4 (own_sxr _)) e4 own_pd22 rfl rfl d2_62 2 rfl rfl rfl (by decide) ?_
  rintro T5 h5 _ L5 X5 e5 ⟨r_5, rfl, M5, rfl, r5_0⟩
  have N5 := Fr.app N4 M5
  show G (T5.setTop (mkF m 65 #[oa u, oi 4, oi b0, oi b1, oi b2, oi 3, oi (((b0 <<< ((16 : Int32) &&& 31)) ||| (b1 <<< ((8 : Int32) &&& 31))) ||| b2)] [(.int r_5), (.int 6), (.ref u)]))
  refine qsc 6 B X5 hZ e5 V4 d2_65 (by decide) rfl (Nat.le_of_ble_eq_true rfl) fun T6 h6 X6 e6 W6 V6 => ?_
  have K6 := K4.wr W6 (own_mi 0 rfl)
  have O6 := O4.wr W6 g1_G
  rw [own_narC (own_syr r5_0)] at V6
  have N6 := Fr.snoc X6 N5 g1_G
  refine q_iload B X6 d2_66 rfl rfl ?_
  refine q_iconst B X6 d2_68 rfl ?_
  refine q_icmpNo B X6 d2_69 rfl (flt (by decide)).1 rfl ?_
  refine q_aloadN B X6 d2_72 rfl rfl rfl ?_
  refine q_iloadN B X6 d2_73 rfl rfl ?_
  refine q_iconst B X6 d2_74 rfl ?_
  refine q_iadd B X6 d2_75 rfl rfl ?_
  show G (T6.setTop (mkF m 76 #[oa u, oi 4, oi b0, oi b1, oi b2, oi 3, oi (((b0 <<< ((16 : Int32) &&& 31)) ||| (b1 <<< ((8 : Int32) &&& 31))) ||| b2)] [(.int ((4 : Int32) + (3 : Int32))), (.ref u)]))
  rw [show ((4 : Int32) + (3 : Int32)) = (7 : Int32) from by decide]
  show G (T6.setTop (mkF m 76 #[oa u, oi 4, oi b0, oi b1, oi b2, oi 3, oi (((b0 <<< ((16 : Int32) &&& 31)) ||| (b1 <<< ((8 : Int32) &&& 31))) ||| b2)] [(.int 7), (.ref u)]))
  refine q_iload B X6 d2_76 rfl rfl ?_
  refine q_bipush B X6 d2_78 rfl ?_
  refine q_iand B X6 d2_80 rfl rfl ?_
  show G (T6.setTop (mkF m 81 #[oa u, oi 4, oi b0, oi b1, oi b2, oi 3, oi (((b0 <<< ((16 : Int32) &&& 31)) ||| (b1 <<< ((8 : Int32) &&& 31))) ||| b2)] [(.int ((((b0 <<< ((16 : Int32) &&& 31)) ||| (b1 <<< ((8 : Int32) &&& 31))) ||| b2) &&& (63 : Int32))), (.int 7), (.ref u)]))
  refine qS B X6 hZ hown 10 11 8 12 rfl rfl rfl rfl (own_symc hw ((((b0 <<< ((16 : Int32) &&& 31)) ||| (b1 <<< ((8 : Int32) &&& 31))) ||| b2) &&& (63 : Int32)) O6 (own_sxr _)) e6 own_pd22 rfl rfl d2_81 2 rfl rfl rfl (by decide) ?_
  rintro T7 h7 _ L7 X7 e7 ⟨r_7, rfl, M7, rfl, r7_0⟩
  have N7 := Fr.app N6 M7
  show G (T7.setTop (mkF m 84 #[oa u, oi 4, oi b0, oi b1, oi b2, oi 3, oi (((b0 <<< ((16 : Int32) &&& 31)) ||| (b1 <<< ((8 : Int32) &&& 31))) ||| b2)] [(.int r_7), (.int 7), (.ref u)]))
  refine qsc 7 B X7 hZ e7 V6 d2_84 (by decide) rfl (Nat.le_of_ble_eq_true rfl) fun T8 h8 X8 e8 W8 V8 => ?_
  have K8 := K6.wr W8 (own_mi 0 rfl)
  have O8 := O6.wr W8 g1_G
  rw [own_narC (own_syr r7_0)] at V8
  have N8 := Fr.snoc X8 N7 g1_G
  show G (T8.setTop (mkF m 85 #[oa u, oi 4, oi b0, oi b1, oi b2, oi 3, oi (((b0 <<< ((16 : Int32) &&& 31)) ||| (b1 <<< ((8 : Int32) &&& 31))) ||| b2)] []))
  exact qRV B hR hret X8 d2_85 e8 ⟨r_1, r_3, r_5, r_7, rfl, N8, K8, V8, r1_0, r3_0, r5_0, r7_0⟩ (by decide)
theorem own_atN (hw : own_W Z a0) (o : Addr) (ix n bb : Int32) (O0 : own_Old Z h0) (g0_hge : ¬ (ix < n)) : own_Con l Z ⟨"com/example/research_access_policy/researchaccesspolicy/token/Base64UrlDecodePinLaw", "at", "([BIII)Z"⟩ method_4_code 4 (some .boolean) [] ⟨0, 0, 0, 0⟩ #[(.ref o), (.int ix), (.int n), (.int bb)] h0 (fun rv rh rL => rv = some (.int 1) ∧ own_Fr Z rL ∧ h0 = rh) := by
  refine own_st hw (plainFor_of_name (by decide +kernel)) #[oa o, oi ix, oi n, oi bb] (fun m => by first | (simp [entryFrame, mkF, argsToLocals, Value.category]; done) | rfl) fun p e s m below meth c s₁ G B hown hnm hret hZ X0 e0 N0 hR => ?_
  refine q_iloadN B X0 d29_0 rfl rfl ?_
  refine q_iloadN B X0 d29_1 rfl rfl ?_
  refine q_icmpNo B X0 d29_2 rfl (flt g0_hge).1 rfl ?_
  refine q_iconst B X0 d29_5 rfl ?_
  show G (s₁.setTop (mkF m 6 #[oa o, oi ix, oi n, oi bb] [(.int 1)]))
  exact qRN B hR hret (by simp) X0 d29_6 e0 ⟨rfl, N0, rfl⟩ (by decide)
theorem own_atY (hw : own_W Z a0) {o : Addr} (ix : Int32) {n : Int32} (bb : Int32) {ko : ClassId} {vs : List Value} (xx : Int32) (O0 : own_Old Z h0) (g0_h0 : ¬ (ix < (0 : Int32))) (g1_h1 : ix < n) (g2_V : Arv Z h0 o ko .byte n vs (.int 0)) (g3_hat : vs.getD ix.toNatClampNeg (.int 0) = .int xx) (g4_heq : xx &&& (255 : Int32) = bb) : own_Con l Z ⟨"com/example/research_access_policy/researchaccesspolicy/token/Base64UrlDecodePinLaw", "at", "([BIII)Z"⟩ method_4_code 4 (some .boolean) [] ⟨0, 0, 0, 0⟩ #[(.ref o), (.int ix), (.int n), (.int bb)] h0 (fun rv rh rL => rv = some (.int 1) ∧ own_Fr Z rL ∧ h0 = rh) := by
  refine own_st hw (plainFor_of_name (by decide +kernel)) #[oa o, oi ix, oi n, oi bb] (fun m => by first | (simp [entryFrame, mkF, argsToLocals, Value.category]; done) | rfl) fun p e s m below meth c s₁ G B hown hnm hret hZ X0 e0 N0 hR => ?_
  refine q_iloadN B X0 d29_0 rfl rfl ?_
  refine q_iloadN B X0 d29_1 rfl rfl ?_
  refine q_icmpYes 7 B X0 d29_2 rfl (tlt g1_h1).1 rfl rfl (by decide) ?_
  refine q_aloadN B X0 d29_7 rfl rfl rfl ?_
  refine q_iloadN B X0 d29_8 rfl rfl ?_
  refine qlb (v := (.int xx)) B X0 hZ e0 g2_V d29_9 ⟨g0_h0, g1_h1⟩ g3_hat ?_
  refine q_sipush B X0 d29_10 rfl ?_
  refine q_iand B X0 d29_13 rfl rfl ?_
  refine q_iloadN B X0 d29_14 rfl rfl ?_
  refine q_icmpNo B X0 d29_15 rfl (teq g4_heq).2 rfl ?_
  refine q_iconst B X0 d29_18 rfl ?_
  refine q_goto 23 B X0 d29_19 rfl rfl (by decide) ?_
  show G (s₁.setTop (mkF m 23 #[oa o, oi ix, oi n, oi bb] [(.int 1)]))
  exact qRN B hR hret (by simp) X0 d29_23 e0 ⟨rfl, N0, rfl⟩ (by decide)
end OwnC
theorem own_law (l : Launch) (Z : State) (a0 : Array Value) (hw : ∀ d ∈ tables_1, d.before a0 Z = true) (ws : List Jvm.Cond) (hEL : EW Z a0 consts_1) (i0 : Int32) (i1 : Int32) (i2 : Int32) (cpt : Int32) (dc : Addr) (iso : Addr) (u8 : Addr) (tab : Addr) (ktab : ClassId) (h0 : Heap) (O0 : own_Old Z h0) (g0_S : Sta Z Z.heap "java/lang/String" "COMPACT_STRINGS" "Z" (.int cpt)) (g1_hcpt : ¬ (cpt = (0 : Int32))) (g2_S : Sta Z Z.heap "java/util/Base64$Decoder" "RFC4648_URLSAFE" "Ljava/util/Base64$Decoder;" (.ref dc)) (g3_S : Sta Z Z.heap "sun/nio/cs/ISO_8859_1" "INSTANCE" "Lsun/nio/cs/ISO_8859_1;" (.ref iso)) (g4_S : Sta Z Z.heap "sun/nio/cs/UTF_8" "INSTANCE" "Lsun/nio/cs/UTF_8;" (.ref u8)) (g5_S : Sta Z Z.heap "java/util/Base64$Decoder" "fromBase64URL" "[I" (.ref tab)) (g6_hiu : iso ≠ u8) (g7_E : Exa Z h0 dc "java/util/Base64$Decoder") (g8_F : Fld Z h0 dc "java/util/Base64$Decoder" "isURL" "Z" (.int 1)) (g9_F : Fld Z h0 dc "java/util/Base64$Decoder" "isMIME" "Z" (.int 0)) (g10_V : Arv Z h0 tab ktab .int 256 (own_TAB.map Value.int) (.int 0)) :
    own_ConW l Z consts_1 x code maxLocals ret ws room_1 #[(.int i0), (.int i1), (.int i2)] h0 (fun rv rh rL => rv = some (.int 1) ∧ own_Fr Z rL ∧ Keep h0 rh []) := by
  refine own_stW hw hEL (plainFor_of_name (by decide +kernel)) #[oi i0, oi i1, oi i2, .unset, .unset, .unset, .unset, .unset, .unset, .unset, .unset, .unset, .unset, .unset] (fun m => by first | (simp [entryFrame, mkF, argsToLocals, Value.category, maxLocals]; done) | rfl) fun p e s m below meth c s₁ G B hown hnm hret hZ X0 e0 H0 SI0 N0 hR => ?_
  obtain ⟨hG, hx, hby, hml, -⟩ := id B
  refine q_iloadN B X0 at_0 rfl rfl ?_
  refine hG _ _ (X0.ldcInt hx hown (mvT hZ (ow hw 0 rfl)) (g := (mkF m 1 #[oi i0, oi i1, oi i2, .unset, .unset, .unset, .unset, .unset, .unset, .unset, .unset, .unset, .unset, .unset] [(.int i2)])) rfl (hb hby at_1)) ?_
  refine q_iand B X0 at_3 rfl rfl ?_
  refine q_bipush B X0 at_4 rfl ?_
  refine hG _ _ (fun t_ k_ => iremM X0 hx rfl (hb hby at_6) rfl (by decide) k_) ?_
  refine q_istoreN B X0 at_7 rfl rfl rfl ?_
  show G (s₁.setTop (mkF m 8 #[oi i0, oi i1, oi i2, oi ((i2 &&& (2147483647 : Int32)) % (7 : Int32)), .unset, .unset, .unset, .unset, .unset, .unset, .unset, .unset, .unset, .unset] []))
  generalize hn_q1 : ((i2 &&& (2147483647 : Int32)) % (7 : Int32)) = q1
  show G (s₁.setTop (mkF m 8 #[oi i0, oi i1, oi i2, oi q1, .unset, .unset, .unset, .unset, .unset, .unset, .unset, .unset, .unset, .unset] []))
  refine q_iloadN B X0 at_8 rfl rfl ?_
  refine q_sipush B X0 at_9 rfl ?_
  refine q_iand B X0 at_12 rfl rfl ?_
  refine q_istore B X0 at_13 rfl rfl rfl ?_
  show G (s₁.setTop (mkF m 15 #[oi i0, oi i1, oi i2, oi q1, oi (i0 &&& (255 : Int32)), .unset, .unset, .unset, .unset, .unset, .unset, .unset, .unset, .unset] []))
  generalize hn_b2 : (i0 &&& (255 : Int32)) = b2
  have hB_b2 : own_B b2 := hn_b2 ▸ own_and255 _
  show G (s₁.setTop (mkF m 15 #[oi i0, oi i1, oi i2, oi q1, oi b2, .unset, .unset, .unset, .unset, .unset, .unset, .unset, .unset, .unset] []))
  refine q_iloadN B X0 at_15 rfl rfl ?_
  refine q_bipush B X0 at_16 rfl ?_
  refine q_iushr B X0 at_18 rfl rfl ?_
  refine q_sipush B X0 at_19 rfl ?_
  refine q_iand B X0 at_22 rfl rfl ?_
  refine q_istore B X0 at_23 rfl rfl rfl ?_
  show G (s₁.setTop (mkF m 25 #[oi i0, oi i1, oi i2, oi q1, oi b2, oi (((i0.toUInt32 >>> ((8 : Int32) &&& 31).toUInt32).toInt32) &&& (255 : Int32)), .unset, .unset, .unset, .unset, .unset, .unset, .unset, .unset] []))
  generalize hn_b3 : (((i0.toUInt32 >>> ((8 : Int32) &&& 31).toUInt32).toInt32) &&& (255 : Int32)) = b3
  have hB_b3 : own_B b3 := hn_b3 ▸ own_and255 _
  show G (s₁.setTop (mkF m 25 #[oi i0, oi i1, oi i2, oi q1, oi b2, oi b3, .unset, .unset, .unset, .unset, .unset, .unset, .unset, .unset] []))
  refine q_iloadN B X0 at_25 rfl rfl ?_
  refine q_bipush B X0 at_26 rfl ?_
  refine q_iushr B X0 at_28 rfl rfl ?_
  refine q_sipush B X0 at_29 rfl ?_
  refine q_iand B X0 at_32 rfl rfl ?_
  refine q_istore B X0 at_33 rfl rfl rfl ?_
  show G (s₁.setTop (mkF m 35 #[oi i0, oi i1, oi i2, oi q1, oi b2, oi b3, oi (((i0.toUInt32 >>> ((16 : Int32) &&& 31).toUInt32).toInt32) &&& (255 : Int32)), .unset, .unset, .unset, .unset, .unset, .unset, .unset] []))
  generalize hn_b4 : (((i0.toUInt32 >>> ((16 : Int32) &&& 31).toUInt32).toInt32) &&& (255 : Int32)) = b4
  have hB_b4 : own_B b4 := hn_b4 ▸ own_and255 _
  show G (s₁.setTop (mkF m 35 #[oi i0, oi i1, oi i2, oi q1, oi b2, oi b3, oi b4, .unset, .unset, .unset, .unset, .unset, .unset, .unset] []))
  refine q_iloadN B X0 at_35 rfl rfl ?_
  refine q_bipush B X0 at_36 rfl ?_
  refine q_iushr B X0 at_38 rfl rfl ?_
  refine q_sipush B X0 at_39 rfl ?_
  refine q_iand B X0 at_42 rfl rfl ?_
  refine q_istore B X0 at_43 rfl rfl rfl ?_
  show G (s₁.setTop (mkF m 45 #[oi i0, oi i1, oi i2, oi q1, oi b2, oi b3, oi b4, oi (((i0.toUInt32 >>> ((24 : Int32) &&& 31).toUInt32).toInt32) &&& (255 : Int32)), .unset, .unset, .unset, .unset, .unset, .unset] []))
  generalize hn_b5 : (((i0.toUInt32 >>> ((24 : Int32) &&& 31).toUInt32).toInt32) &&& (255 : Int32)) = b5
  have hB_b5 : own_B b5 := hn_b5 ▸ own_and255 _
  show G (s₁.setTop (mkF m 45 #[oi i0, oi i1, oi i2, oi q1, oi b2, oi b3, oi b4, oi b5, .unset, .unset, .unset, .unset, .unset, .unset] []))
  refine q_iloadN B X0 at_45 rfl rfl ?_
  refine q_sipush B X0 at_46 rfl ?_
  refine q_iand B X0 at_49 rfl rfl ?_
  refine q_istore B X0 at_50 rfl rfl rfl ?_
  show G (s₁.setTop (mkF m 52 #[oi i0, oi i1, oi i2, oi q1, oi b2, oi b3, oi b4, oi b5, oi (i1 &&& (255 : Int32)), .unset, .unset, .unset, .unset, .unset] []))
  generalize hn_b6 : (i1 &&& (255 : Int32)) = b6
  have hB_b6 : own_B b6 := hn_b6 ▸ own_and255 _
  show G (s₁.setTop (mkF m 52 #[oi i0, oi i1, oi i2, oi q1, oi b2, oi b3, oi b4, oi b5, oi b6, .unset, .unset, .unset, .unset, .unset] []))
  refine q_iloadN B X0 at_52 rfl rfl ?_
  refine q_bipush B X0 at_53 rfl ?_
  refine q_iushr B X0 at_55 rfl rfl ?_
  refine q_sipush B X0 at_56 rfl ?_
  refine q_iand B X0 at_59 rfl rfl ?_
  refine q_istore B X0 at_60 rfl rfl rfl ?_
  show G (s₁.setTop (mkF m 62 #[oi i0, oi i1, oi i2, oi q1, oi b2, oi b3, oi b4, oi b5, oi b6, oi (((i1.toUInt32 >>> ((8 : Int32) &&& 31).toUInt32).toInt32) &&& (255 : Int32)), .unset, .unset, .unset, .unset] []))
  generalize hn_b7 : (((i1.toUInt32 >>> ((8 : Int32) &&& 31).toUInt32).toInt32) &&& (255 : Int32)) = b7
  have hB_b7 : own_B b7 := hn_b7 ▸ own_and255 _
  show G (s₁.setTop (mkF m 62 #[oi i0, oi i1, oi i2, oi q1, oi b2, oi b3, oi b4, oi b5, oi b6, oi b7, .unset, .unset, .unset, .unset] []))
  refine q_iloadN B X0 at_62 rfl rfl ?_
  show G (s₁.setTop (mkF m 63 #[oi i0, oi i1, oi i2, oi q1, oi b2, oi b3, oi b4, oi b5, oi b6, oi b7, .unset, .unset, .unset, .unset] [(.int q1)]))
  rcases own_r7 hn_q1 with rfl | rfl | rfl | rfl | rfl | rfl | rfl
  · skip
    show G (s₁.setTop (mkF m 63 #[oi i0, oi i1, oi i2, oi 0, oi b2, oi b3, oi b4, oi b5, oi b6, oi b7, .unset, .unset, .unset, .unset] [(.int 0)]))
    refine q_iconst B X0 at_63 rfl ?_
    refine hG _ _ (fun t_ k_ => iremM X0 hx rfl (hb hby at_64) rfl (by decide) k_) ?_
    show G (s₁.setTop (mkF m 65 #[oi i0, oi i1, oi i2, oi 0, oi b2, oi b3, oi b4, oi b5, oi b6, oi b7, .unset, .unset, .unset, .unset] [(.int ((0 : Int32) % (3 : Int32)))]))
    rw [show ((0 : Int32) % (3 : Int32)) = (0 : Int32) from by decide]
    show G (s₁.setTop (mkF m 65 #[oi i0, oi i1, oi i2, oi 0, oi b2, oi b3, oi b4, oi b5, oi b6, oi b7, .unset, .unset, .unset, .unset] [(.int 0)]))
    refine q_istore B X0 at_65 rfl rfl rfl ?_
    refine q_iconst B X0 at_67 rfl ?_
    refine q_iloadN B X0 at_68 rfl rfl ?_
    refine q_iconst B X0 at_69 rfl ?_
    refine q_idiv B X0 at_70 rfl (by decide) rfl ?_
    show G (s₁.setTop (mkF m 71 #[oi i0, oi i1, oi i2, oi 0, oi b2, oi b3, oi b4, oi b5, oi b6, oi b7, oi 0, .unset, .unset, .unset] [(.int ((0 : Int32) / (3 : Int32))), (.int 4)]))
    rw [show ((0 : Int32) / (3 : Int32)) = (0 : Int32) from by decide]
    show G (s₁.setTop (mkF m 71 #[oi i0, oi i1, oi i2, oi 0, oi b2, oi b3, oi b4, oi b5, oi b6, oi b7, oi 0, .unset, .unset, .unset] [(.int 0), (.int 4)]))
    refine q_imul B X0 at_71 rfl rfl ?_
    show G (s₁.setTop (mkF m 72 #[oi i0, oi i1, oi i2, oi 0, oi b2, oi b3, oi b4, oi b5, oi b6, oi b7, oi 0, .unset, .unset, .unset] [(.int ((4 : Int32) * (0 : Int32)))]))
    rw [show ((4 : Int32) * (0 : Int32)) = (0 : Int32) from by decide]
    show G (s₁.setTop (mkF m 72 #[oi i0, oi i1, oi i2, oi 0, oi b2, oi b3, oi b4, oi b5, oi b6, oi b7, oi 0, .unset, .unset, .unset] [(.int 0)]))
    refine q_iload B X0 at_72 rfl rfl ?_
    refine q_ifNo B X0 at_74 rfl ((if0 _ _).trans (teq (by decide)).2) rfl ?_
    refine q_iconst B X0 at_77 rfl ?_
    refine q_goto 85 B X0 at_78 rfl rfl (by decide) ?_
    refine q_iadd B X0 at_85 rfl rfl ?_
    show G (s₁.setTop (mkF m 86 #[oi i0, oi i1, oi i2, oi 0, oi b2, oi b3, oi b4, oi b5, oi b6, oi b7, oi 0, .unset, .unset, .unset] [(.int ((0 : Int32) + (0 : Int32)))]))
    rw [show ((0 : Int32) + (0 : Int32)) = (0 : Int32) from by decide]
    show G (s₁.setTop (mkF m 86 #[oi i0, oi i1, oi i2, oi 0, oi b2, oi b3, oi b4, oi b5, oi b6, oi b7, oi 0, .unset, .unset, .unset] [(.int 0)]))
    refine q_istore B X0 at_86 rfl rfl rfl ?_
    refine q_iload B X0 at_88 rfl rfl ?_
    refine qna 0 B X0 hZ 1 rfl e0 at_90 (by decide) (by decide) (by decide) fun T8 h8 k8 b8 z8 X8 e8 E8 A8 => ?_
    have R8 := (CHr.ext E8 H0)
    have C8 := (CHr.refl H0).trans R8
    have K8 := (Keep.refl h0 []).ext E8
    have O8 := O0.ext E8
    have V8 : Arv Z h8 b8 k8 .char (0 : Int32) [] (.int 0) := (Arv.new A8 (by decide)).pad (pad_rep [] (.int 0) 0)
    refine q_astore B X8 at_92 rfl rfl rfl rfl ?_
    refine q_iloadN B X8 at_94 rfl rfl ?_
    refine q_iconst B X8 at_95 rfl ?_
    refine q_icmpYes 134 B X8 at_96 rfl (tlt (by decide)).1 rfl rfl (by decide) ?_
    show G (T8.setTop (mkF m 134 #[oi i0, oi i1, oi i2, oi 0, oi b2, oi b3, oi b4, oi b5, oi b6, oi b7, oi 0, oi 0, oa b8, .unset] []))
    refine q_iloadN B X8 at_134 rfl rfl ?_
    refine q_iconst B X8 at_135 rfl ?_
    refine q_icmpYes 173 B X8 at_136 rfl (tlt (by decide)).1 rfl rfl (by decide) ?_
    show G (T8.setTop (mkF m 173 #[oi i0, oi i1, oi i2, oi 0, oi b2, oi b3, oi b4, oi b5, oi b6, oi b7, oi 0, oi 0, oa b8, .unset] []))
    refine qnw B X8 hZ hown 13 14 15 rfl rfl rfl e8 at_173 (by decide) fun T9 h9 b9 z9 X9 e9 E9 A9 D9 => ?_
    have R9 := (CHr.ext E9 R8.1)
    have C9 := C8.trans R9
    have K9 := K8.ext E9
    have O9 := O8.ext E9
    refine q_dup B X9 at_176 rfl rfl rfl ?_
    refine q_aload B X9 at_177 rfl rfl rfl ?_
    show G (T9.setTop (mkF m 179 #[oi i0, oi i1, oi i2, oi 0, oi b2, oi b3, oi b4, oi b5, oi b6, oi b7, oi 0, oi 0, oa b8, .unset] [(.ref b8), (.ref b9), (.ref b9)]))
    have f11 := (V8.ext E9)
    refine qIW B X9 hZ hown 16 17 15 18 rfl rfl rfl rfl rfl (own_str1E hw hEL O9 A9 (D9 (Or.inr (ow hw 39 rfl)) (ty := .byte) (by decide)) (D9 (Or.inr (ow hw 41 rfl)) (ty := (.array .byte)) (by decide)) (own_ge O8 (Nat.le_of_eq z9.symm)) f11) e9 SI0 (Nat.le_trans (Nat.le_trans (Nat.le_refl _) R8.2.1) R9.2.1) hEL R9.1 own_pd4 rfl rfl at_179 1 rfl rfl rfl (by decide) ?_
    rintro T10 h10 v10 L10 X10 e10 SI10 hZ10 hown10 Y10 ⟨t_10, kt_10, rfl, M10, J10, r10_0, r10_1, r10_2, r10_3, r10_4⟩
    have N10 := Fr.app N0 M10
    have R10 := Y10
    have C10 := C9.trans R10
    have K10 := K9.trans J10 (allS (Or.inr (Nat.le_trans K8.1 (Nat.le_of_eq z9.symm))) all0)
    have O10 := O9.keep J10 (allS (own_ge O8 (Nat.le_of_eq z9.symm)) all0)
    show G (T10.setTop (mkF m 182 #[oi i0, oi i1, oi i2, oi 0, oi b2, oi b3, oi b4, oi b5, oi b6, oi b7, oi 0, oi 0, oa b8, .unset] [(.ref b9)]))
    have f13 := (((g7_E.ext E8).ext E9).keep J10)
    have f14 := (((g8_F.ext E8).ext E9).keep J10 (ninS (own_ne (Nat.lt_of_lt_of_le g7_E.lt E8.1) (Nat.le_of_eq z9.symm)) nin0))
    have f15 := (((g9_F.ext E8).ext E9).keep J10 (ninS (own_ne (Nat.lt_of_lt_of_le g7_E.lt E8.1) (Nat.le_of_eq z9.symm)) nin0))
    have f16 := (((g10_V.ext E8).ext E9).keep J10 (ninS (own_ne (Nat.lt_of_lt_of_le g10_V.lt E8.1) (Nat.le_of_eq z9.symm)) nin0))
    refine qS B X10 hZ10 hown10 42 43 44 45 rfl rfl rfl rfl (own_b64_0 hw O10 g2_S g3_S g4_S g5_S g6_hiu f13 f14 f15 f16 r10_0 r10_1 r10_2 r10_3 r10_4 g0_S g1_hcpt) e10 own_pd20 rfl rfl at_182 0 rfl rfl rfl (by decide) ?_
    rintro T12 h12 _ L12 X12 e12 ⟨o_12, ko_12, rfl, M12, J12, y12_0, r12_0⟩
    have N12 := Fr.app N10 M12
    have R12 := (CHr.keep J12 all0 R10.1)
    have C12 := C10.trans R12
    have K12 := K10.trans J12 all0
    have O12 := O10.keep J12 all0
    show G (T12.setTop (mkF m 185 #[oi i0, oi i1, oi i2, oi 0, oi b2, oi b3, oi b4, oi b5, oi b6, oi b7, oi 0, oi 0, oa b8, .unset] [(.ref o_12)]))
    show G (T12.setTop (mkF m 185 #[oi i0, oi i1, oi i2, oi 0, oi b2, oi b3, oi b4, oi b5, oi b6, oi b7, oi 0, oi 0, oa b8, .unset] [(.ref o_12)]))
    refine q_astore B X12 at_185 rfl rfl rfl rfl ?_
    refine q_aload B X12 at_187 rfl rfl rfl ?_
    refine q_ifnullNo B X12 at_189 rfl rfl ?_
    refine q_aload B X12 at_192 rfl rfl rfl ?_
    refine qal B X12 hZ10 e12 r12_0 at_194 ?_
    refine q_iloadN B X12 at_195 rfl rfl ?_
    refine q_icmpYes 201 B X12 at_196 rfl (teq (by decide)).1 rfl rfl (by decide) ?_
    refine q_aload B X12 at_201 rfl rfl rfl ?_
    refine q_iconst B X12 at_203 rfl ?_
    refine q_iloadN B X12 at_204 rfl rfl ?_
    refine q_iload B X12 at_205 rfl rfl ?_
    show G (T12.setTop (mkF m 207 #[oi i0, oi i1, oi i2, oi 0, oi b2, oi b3, oi b4, oi b5, oi b6, oi b7, oi 0, oi 0, oa b8, oa o_12] [(.int b2), (.int 0), (.int 0), (.ref o_12)]))
    refine qS B X12 hZ10 hown10 146 147 8 148 rfl rfl rfl rfl (own_atN hw o_12 (0 : Int32) (0 : Int32) b2 O12 (by decide)) e12 own_pd24 rfl rfl at_207 0 rfl rfl rfl (by decide) ?_
    rintro T18 h18 _ L18 X18 e18 ⟨rfl, M18, rfl⟩
    have N18 := Fr.app N12 M18
    refine q_ifNo B X18 at_210 rfl ((if0 _ _).trans (feq (by decide)).1) rfl ?_
    refine q_aload B X18 at_213 rfl rfl rfl ?_
    refine q_iconst B X18 at_215 rfl ?_
    refine q_iloadN B X18 at_216 rfl rfl ?_
    refine q_iload B X18 at_217 rfl rfl ?_
    show G (T18.setTop (mkF m 219 #[oi i0, oi i1, oi i2, oi 0, oi b2, oi b3, oi b4, oi b5, oi b6, oi b7, oi 0, oi 0, oa b8, oa o_12] [(.int b3), (.int 0), (.int 1), (.ref o_12)]))
    refine qS B X18 hZ10 hown10 146 147 8 148 rfl rfl rfl rfl (own_atN hw o_12 (1 : Int32) (0 : Int32) b3 O12 (by decide)) e18 own_pd24 rfl rfl at_219 0 rfl rfl rfl (by decide) ?_
    rintro T19 h19 _ L19 X19 e19 ⟨rfl, M19, rfl⟩
    have N19 := Fr.app N18 M19
    refine q_ifNo B X19 at_222 rfl ((if0 _ _).trans (feq (by decide)).1) rfl ?_
    refine q_aload B X19 at_225 rfl rfl rfl ?_
    refine q_iconst B X19 at_227 rfl ?_
    refine q_iloadN B X19 at_228 rfl rfl ?_
    refine q_iload B X19 at_229 rfl rfl ?_
    show G (T19.setTop (mkF m 231 #[oi i0, oi i1, oi i2, oi 0, oi b2, oi b3, oi b4, oi b5, oi b6, oi b7, oi 0, oi 0, oa b8, oa o_12] [(.int b4), (.int 0), (.int 2), (.ref o_12)]))
    refine qS B X19 hZ10 hown10 146 147 8 148 rfl rfl rfl rfl (own_atN hw o_12 (2 : Int32) (0 : Int32) b4 O12 (by decide)) e19 own_pd24 rfl rfl at_231 0 rfl rfl rfl (by decide) ?_
    rintro T20 h20 _ L20 X20 e20 ⟨rfl, M20, rfl⟩
    have N20 := Fr.app N19 M20
    refine q_ifNo B X20 at_234 rfl ((if0 _ _).trans (feq (by decide)).1) rfl ?_
    refine q_aload B X20 at_237 rfl rfl rfl ?_
    refine q_iconst B X20 at_239 rfl ?_
    refine q_iloadN B X20 at_240 rfl rfl ?_
    refine q_iload B X20 at_241 rfl rfl ?_
    show G (T20.setTop (mkF m 243 #[oi i0, oi i1, oi i2, oi 0, oi b2, oi b3, oi b4, oi b5, oi b6, oi b7, oi 0, oi 0, oa b8, oa o_12] [(.int b5), (.int 0), (.int 3), (.ref o_12)]))
    refine qS B X20 hZ10 hown10 146 147 8 148 rfl rfl rfl rfl (own_atN hw o_12 (3 : Int32) (0 : Int32) b5 O12 (by decide)) e20 own_pd24 rfl rfl at_243 0 rfl rfl rfl (by decide) ?_
    rintro T21 h21 _ L21 X21 e21 ⟨rfl, M21, rfl⟩
    have N21 := Fr.app N20 M21
    refine q_ifNo B X21 at_246 rfl ((if0 _ _).trans (feq (by decide)).1) rfl ?_
    refine q_aload B X21 at_249 rfl rfl rfl ?_
    refine q_iconst B X21 at_251 rfl ?_
    refine q_iloadN B X21 at_252 rfl rfl ?_
    refine q_iload B X21 at_253 rfl rfl ?_
    show G (T21.setTop (mkF m 255 #[oi i0, oi i1, oi i2, oi 0, oi b2, oi b3, oi b4, oi b5, oi b6, oi b7, oi 0, oi 0, oa b8, oa o_12] [(.int b6), (.int 0), (.int 4), (.ref o_12)]))
    refine qS B X21 hZ10 hown10 146 147 8 148 rfl rfl rfl rfl (own_atN hw o_12 (4 : Int32) (0 : Int32) b6 O12 (by decide)) e21 own_pd24 rfl rfl at_255 0 rfl rfl rfl (by decide) ?_
    rintro T22 h22 _ L22 X22 e22 ⟨rfl, M22, rfl⟩
    have N22 := Fr.app N21 M22
    refine q_ifNo B X22 at_258 rfl ((if0 _ _).trans (feq (by decide)).1) rfl ?_
    refine q_aload B X22 at_261 rfl rfl rfl ?_
    refine q_iconst B X22 at_263 rfl ?_
    refine q_iloadN B X22 at_264 rfl rfl ?_
    refine q_iload B X22 at_265 rfl rfl ?_
    show G (T22.setTop (mkF m 267 #[oi i0, oi i1, oi i2, oi 0, oi b2, oi b3, oi b4, oi b5, oi b6, oi b7, oi 0, oi 0, oa b8, oa o_12] [(.int b7), (.int 0), (.int 5), (.ref o_12)]))
    refine qS B X22 hZ10 hown10 146 147 8 148 rfl rfl rfl rfl (own_atN hw o_12 (5 : Int32) (0 : Int32) b7 O12 (by decide)) e22 own_pd24 rfl rfl at_267 0 rfl rfl rfl (by decide) ?_
    rintro T23 h23 _ L23 X23 e23 ⟨rfl, M23, rfl⟩
    have N23 := Fr.app N22 M23
    refine q_ifNo B X23 at_270 rfl ((if0 _ _).trans (feq (by decide)).1) rfl ?_
    refine q_iconst B X23 at_273 rfl ?_
    refine q_goto 278 B X23 at_274 rfl rfl (by decide) ?_
    show G (T23.setTop (mkF m 278 #[oi i0, oi i1, oi i2, oi 0, oi b2, oi b3, oi b4, oi b5, oi b6, oi b7, oi 0, oi 0, oa b8, oa o_12] [(.int 1)]))
    exact qRNW B hR hret (by simp) X23 at_278 e23 SI10 (Nat.le_trans (Nat.le_refl _) R12.2.1) hZ10 C12 ⟨rfl, N23, K12⟩ (by decide)
  · skip
    show G (s₁.setTop (mkF m 63 #[oi i0, oi i1, oi i2, oi 1, oi b2, oi b3, oi b4, oi b5, oi b6, oi b7, .unset, .unset, .unset, .unset] [(.int 1)]))
    refine q_iconst B X0 at_63 rfl ?_
    refine hG _ _ (fun t_ k_ => iremM X0 hx rfl (hb hby at_64) rfl (by decide) k_) ?_
    show G (s₁.setTop (mkF m 65 #[oi i0, oi i1, oi i2, oi 1, oi b2, oi b3, oi b4, oi b5, oi b6, oi b7, .unset, .unset, .unset, .unset] [(.int ((1 : Int32) % (3 : Int32)))]))
    rw [show ((1 : Int32) % (3 : Int32)) = (1 : Int32) from by decide]
    show G (s₁.setTop (mkF m 65 #[oi i0, oi i1, oi i2, oi 1, oi b2, oi b3, oi b4, oi b5, oi b6, oi b7, .unset, .unset, .unset, .unset] [(.int 1)]))
    refine q_istore B X0 at_65 rfl rfl rfl ?_
    refine q_iconst B X0 at_67 rfl ?_
    refine q_iloadN B X0 at_68 rfl rfl ?_
    refine q_iconst B X0 at_69 rfl ?_
    refine q_idiv B X0 at_70 rfl (by decide) rfl ?_
    show G (s₁.setTop (mkF m 71 #[oi i0, oi i1, oi i2, oi 1, oi b2, oi b3, oi b4, oi b5, oi b6, oi b7, oi 1, .unset, .unset, .unset] [(.int ((1 : Int32) / (3 : Int32))), (.int 4)]))
    rw [show ((1 : Int32) / (3 : Int32)) = (0 : Int32) from by decide]
    show G (s₁.setTop (mkF m 71 #[oi i0, oi i1, oi i2, oi 1, oi b2, oi b3, oi b4, oi b5, oi b6, oi b7, oi 1, .unset, .unset, .unset] [(.int 0), (.int 4)]))
    refine q_imul B X0 at_71 rfl rfl ?_
    show G (s₁.setTop (mkF m 72 #[oi i0, oi i1, oi i2, oi 1, oi b2, oi b3, oi b4, oi b5, oi b6, oi b7, oi 1, .unset, .unset, .unset] [(.int ((4 : Int32) * (0 : Int32)))]))
    rw [show ((4 : Int32) * (0 : Int32)) = (0 : Int32) from by decide]
    show G (s₁.setTop (mkF m 72 #[oi i0, oi i1, oi i2, oi 1, oi b2, oi b3, oi b4, oi b5, oi b6, oi b7, oi 1, .unset, .unset, .unset] [(.int 0)]))
    refine q_iload B X0 at_72 rfl rfl ?_
    refine q_ifYes 81 B X0 at_74 rfl ((if0 _ _).trans (feq (by decide)).2) rfl rfl (by decide) ?_
    refine q_iload B X0 at_81 rfl rfl ?_
    refine q_iconst B X0 at_83 rfl ?_
    refine q_iadd B X0 at_84 rfl rfl ?_
    show G (s₁.setTop (mkF m 85 #[oi i0, oi i1, oi i2, oi 1, oi b2, oi b3, oi b4, oi b5, oi b6, oi b7, oi 1, .unset, .unset, .unset] [(.int ((1 : Int32) + (1 : Int32))), (.int 0)]))
    rw [show ((1 : Int32) + (1 : Int32)) = (2 : Int32) from by decide]
    show G (s₁.setTop (mkF m 85 #[oi i0, oi i1, oi i2, oi 1, oi b2, oi b3, oi b4, oi b5, oi b6, oi b7, oi 1, .unset, .unset, .unset] [(.int 2), (.int 0)]))
    refine q_iadd B X0 at_85 rfl rfl ?_
    show G (s₁.setTop (mkF m 86 #[oi i0, oi i1, oi i2, oi 1, oi b2, oi b3, oi b4, oi b5, oi b6, oi b7, oi 1, .unset, .unset, .unset] [(.int ((0 : Int32) + (2 : Int32)))]))
    rw [show ((0 : Int32) + (2 : Int32)) = (2 : Int32) from by decide]
    show G (s₁.setTop (mkF m 86 #[oi i0, oi i1, oi i2, oi 1, oi b2, oi b3, oi b4, oi b5, oi b6, oi b7, oi 1, .unset, .unset, .unset] [(.int 2)]))
    refine q_istore B X0 at_86 rfl rfl rfl ?_
    refine q_iload B X0 at_88 rfl rfl ?_
    refine qna 2 B X0 hZ 1 rfl e0 at_90 (by decide) (by decide) (by decide) fun T24 h24 k24 b24 z24 X24 e24 E24 A24 => ?_
    have R24 := (CHr.ext E24 H0)
    have C24 := (CHr.refl H0).trans R24
    have K24 := (Keep.refl h0 []).ext E24
    have O24 := O0.ext E24
    have V24 : Arv Z h24 b24 k24 .char (2 : Int32) [(.int 0), (.int 0)] (.int 0) := (Arv.new A24 (by decide)).pad (pad_rep [] (.int 0) 2)
    refine q_astore B X24 at_92 rfl rfl rfl rfl ?_
    refine q_iloadN B X24 at_94 rfl rfl ?_
    refine q_iconst B X24 at_95 rfl ?_
    refine q_icmpNo B X24 at_96 rfl (flt (by decide)).1 rfl ?_
    refine q_aload B X24 at_99 rfl rfl rfl ?_
    refine q_iconst B X24 at_101 rfl ?_
    refine q_iload B X24 at_102 rfl rfl ?_
    refine q_iloadN B X24 at_104 rfl rfl ?_
    refine q_iconst B X24 at_105 rfl ?_
    refine q_icmpYes 114 B X24 at_106 rfl (tlt (by decide)).1 rfl rfl (by decide) ?_
    refine q_iconst B X24 at_114 rfl ?_
    refine q_iloadN B X24 at_115 rfl rfl ?_
    refine q_iconst B X24 at_116 rfl ?_
    refine q_icmpYes 125 B X24 at_117 rfl (tlt (by decide)).1 rfl rfl (by decide) ?_
    show G (T24.setTop (mkF m 125 #[oi i0, oi i1, oi i2, oi 1, oi b2, oi b3, oi b4, oi b5, oi b6, oi b7, oi 1, oi 2, oa b24, .unset] [(.int 0), (.int b2), (.int 0), (.ref b24)]))
    refine q_iconst B X24 at_125 rfl ?_
    refine q_iloadN B X24 at_126 rfl rfl ?_
    refine q_iconst B X24 at_127 rfl ?_
    show G (T24.setTop (mkF m 128 #[oi i0, oi i1, oi i2, oi 1, oi b2, oi b3, oi b4, oi b5, oi b6, oi b7, oi 1, oi 2, oa b24, .unset] [(.int 3), (.int 1), (.int 0), (.int 0), (.int b2), (.int 0), (.ref b24)]))
    refine qS B X24 hZ hown 2 3 4 5 rfl rfl rfl rfl (own_min_1_3 hw O24) e24 own_pd8 rfl rfl at_128 5 rfl rfl rfl (by decide) ?_
    rintro T25 h25 _ L25 X25 e25 ⟨rfl, M25, rfl⟩
    have N25 := Fr.app N0 M25
    show G (T25.setTop (mkF m 131 #[oi i0, oi i1, oi i2, oi 1, oi b2, oi b3, oi b4, oi b5, oi b6, oi b7, oi 1, oi 2, oa b24, .unset] [(.int 1), (.int 0), (.int 0), (.int b2), (.int 0), (.ref b24)]))
    refine qS B X25 hZ hown 6 7 8 9 rfl rfl rfl rfl (own_put2_0_1 hw b2 (0 : Int32) (0 : Int32) O24 V24 (own_ge O0 (Nat.le_of_eq z24.symm))) e25 own_pd23 rfl rfl at_131 0 rfl rfl rfl (by decide) ?_
    rintro T26 h26 _ L26 X26 e26 ⟨z0_26, z1_26, rfl, M26, J26, r26_0, r26_1, r26_2⟩
    have N26 := Fr.app N25 M26
    have sf27 : Safe Z consts_1 _ h24 b24 := (own_safeArv hZ.alike V24 (by decide))
    have R26 := (CHr.keep J26 (allS sf27 all0) R24.1)
    have C26 := C24.trans R26
    have K26 := K24.trans J26 (allS (Or.inr (Nat.le_trans (Keep.refl h0 []).1 (Nat.le_of_eq z24.symm))) all0)
    have O26 := O24.keep J26 (allS (own_ge O0 (Nat.le_of_eq z24.symm)) all0)
    show G (T26.setTop (mkF m 134 #[oi i0, oi i1, oi i2, oi 1, oi b2, oi b3, oi b4, oi b5, oi b6, oi b7, oi 1, oi 2, oa b24, .unset] []))
    refine q_iloadN B X26 at_134 rfl rfl ?_
    refine q_iconst B X26 at_135 rfl ?_
    refine q_icmpYes 173 B X26 at_136 rfl (tlt (by decide)).1 rfl rfl (by decide) ?_
    show G (T26.setTop (mkF m 173 #[oi i0, oi i1, oi i2, oi 1, oi b2, oi b3, oi b4, oi b5, oi b6, oi b7, oi 1, oi 2, oa b24, .unset] []))
    refine qnw B X26 hZ hown 13 14 15 rfl rfl rfl e26 at_173 (by decide) fun T28 h28 b28 z28 X28 e28 E28 A28 D28 => ?_
    have R28 := (CHr.ext E28 R26.1)
    have C28 := C26.trans R28
    have K28 := K26.ext E28
    have O28 := O26.ext E28
    refine q_dup B X28 at_176 rfl rfl rfl ?_
    refine q_aload B X28 at_177 rfl rfl rfl ?_
    show G (T28.setTop (mkF m 179 #[oi i0, oi i1, oi i2, oi 1, oi b2, oi b3, oi b4, oi b5, oi b6, oi b7, oi 1, oi 2, oa b24, .unset] [(.ref b24), (.ref b28), (.ref b28)]))
    have f30 := (r26_0.ext E28)
    refine qI B X28 hZ hown 16 17 15 18 rfl rfl rfl rfl rfl (own_str1 hw [z0_26, z1_26] O28 A28 (D28 (Or.inr (ow hw 39 rfl)) (ty := .byte) (by decide)) (D28 (Or.inr (ow hw 41 rfl)) (ty := (.array .byte)) (by decide)) (own_ge O26 (Nat.le_of_eq z28.symm)) f30 (Nat.le_of_ble_eq_true rfl) (Nat.le_of_ble_eq_true rfl) (own_allc (own_le255 (own_sy8 r26_1)) (own_allc (own_le255 (own_sy8 r26_2)) own_alln)) g0_S g1_hcpt) e28 own_pd4 rfl rfl at_179 1 rfl rfl rfl (by decide) ?_
    rintro T29 h29 _ L29 X29 e29 ⟨t_29, kt_29, rfl, M29, J29, y29_0, r29_0, r29_1, r29_2, r29_3, r29_4⟩
    have N29 := Fr.app N26 M29
    have sf31 : Safe Z consts_1 _ h28 b28 := (own_safeStr hZ.alike A28 (D28 (Or.inr (ow hw 41 rfl)) (ty := (.array .byte)) (by decide)))
    have R29 := (CHr.keep J29 (allS sf31 all0) R28.1)
    have C29 := C28.trans R29
    have K29 := K28.trans J29 (allS (Or.inr (Nat.le_trans K26.1 (Nat.le_of_eq z28.symm))) all0)
    have O29 := O28.keep J29 (allS (own_ge O26 (Nat.le_of_eq z28.symm)) all0)
    show G (T29.setTop (mkF m 182 #[oi i0, oi i1, oi i2, oi 1, oi b2, oi b3, oi b4, oi b5, oi b6, oi b7, oi 1, oi 2, oa b24, .unset] [(.ref b28)]))
    have f33 := ((((g7_E.ext E24).keep J26).ext E28).keep J29)
    have f34 := ((((g8_F.ext E24).keep J26 (ninS (own_ne g7_E.lt (Nat.le_of_eq z24.symm)) nin0)).ext E28).keep J29 (ninS (own_ne (Nat.lt_of_lt_of_le (Nat.lt_of_lt_of_le g7_E.lt E24.1) J26.1) (Nat.le_of_eq z28.symm)) nin0))
    have f35 := ((((g9_F.ext E24).keep J26 (ninS (own_ne g7_E.lt (Nat.le_of_eq z24.symm)) nin0)).ext E28).keep J29 (ninS (own_ne (Nat.lt_of_lt_of_le (Nat.lt_of_lt_of_le g7_E.lt E24.1) J26.1) (Nat.le_of_eq z28.symm)) nin0))
    have f36 := ((((g10_V.ext E24).keep J26 (ninS (own_ne g10_V.lt (Nat.le_of_eq z24.symm)) nin0)).ext E28).keep J29 (ninS (own_ne (Nat.lt_of_lt_of_le (Nat.lt_of_lt_of_le g10_V.lt E24.1) J26.1) (Nat.le_of_eq z28.symm)) nin0))
    refine qS B X29 hZ hown 42 43 44 45 rfl rfl rfl rfl (own_b64_2 hw z0_26 z1_26 (own_s18 (own_w b2 (0 : Int32) (0 : Int32))) (own_s12 (own_w b2 (0 : Int32) (0 : Int32))) O29 g2_S g3_S g4_S g5_S g6_hiu f33 f34 f35 f36 r29_0 r29_1 r29_2 r29_3 r29_4 g0_S g1_hcpt r26_1 r26_2) e29 own_pd20 rfl rfl at_182 0 rfl rfl rfl (by decide) ?_
    rintro T32 h32 _ L32 X32 e32 ⟨o_32, ko_32, rfl, M32, J32, y32_0, r32_0⟩
    have N32 := Fr.app N29 M32
    have R32 := (CHr.keep J32 all0 R29.1)
    have C32 := C29.trans R32
    have K32 := K29.trans J32 all0
    have O32 := O29.keep J32 all0
    show G (T32.setTop (mkF m 185 #[oi i0, oi i1, oi i2, oi 1, oi b2, oi b3, oi b4, oi b5, oi b6, oi b7, oi 1, oi 2, oa b24, .unset] [(.ref o_32)]))
    have og0 := own_out3 hB_b2 own_zB own_zB ((own_bits2 (own_Vs (own_w b2 (0 : Int32) (0 : Int32))).1 (own_Vs (own_w b2 (0 : Int32) (0 : Int32))).2.1).trans (own_full2 hB_b2))
    show G (T32.setTop (mkF m 185 #[oi i0, oi i1, oi i2, oi 1, oi b2, oi b3, oi b4, oi b5, oi b6, oi b7, oi 1, oi 2, oa b24, .unset] [(.ref o_32)]))
    refine q_astore B X32 at_185 rfl rfl rfl rfl ?_
    refine q_aload B X32 at_187 rfl rfl rfl ?_
    refine q_ifnullNo B X32 at_189 rfl rfl ?_
    refine q_aload B X32 at_192 rfl rfl rfl ?_
    refine qal B X32 hZ e32 r32_0 at_194 ?_
    refine q_iloadN B X32 at_195 rfl rfl ?_
    refine q_icmpYes 201 B X32 at_196 rfl (teq (by decide)).1 rfl rfl (by decide) ?_
    refine q_aload B X32 at_201 rfl rfl rfl ?_
    refine q_iconst B X32 at_203 rfl ?_
    refine q_iloadN B X32 at_204 rfl rfl ?_
    refine q_iload B X32 at_205 rfl rfl ?_
    show G (T32.setTop (mkF m 207 #[oi i0, oi i1, oi i2, oi 1, oi b2, oi b3, oi b4, oi b5, oi b6, oi b7, oi 1, oi 2, oa b24, oa o_32] [(.int b2), (.int 1), (.int 0), (.ref o_32)]))
    refine qS B X32 hZ hown 146 147 8 148 rfl rfl rfl rfl (own_atY hw (0 : Int32) b2 (nar .byte (((((0 : Int32) ||| ((own_s18 (own_w b2 (0 : Int32) (0 : Int32))) <<< ((18 : Int32) &&& 31))) ||| ((own_s12 (own_w b2 (0 : Int32) (0 : Int32))) <<< ((12 : Int32) &&& 31))) >>> ((16 : Int32) &&& 31)).toInt8.toInt32)) O32 (by decide) (by decide) r32_0 rfl og0.1) e32 own_pd24 rfl rfl at_207 0 rfl rfl rfl (by decide) ?_
    rintro T38 h38 _ L38 X38 e38 ⟨rfl, M38, rfl⟩
    have N38 := Fr.app N32 M38
    refine q_ifNo B X38 at_210 rfl ((if0 _ _).trans (feq (by decide)).1) rfl ?_
    refine q_aload B X38 at_213 rfl rfl rfl ?_
    refine q_iconst B X38 at_215 rfl ?_
    refine q_iloadN B X38 at_216 rfl rfl ?_
    refine q_iload B X38 at_217 rfl rfl ?_
    show G (T38.setTop (mkF m 219 #[oi i0, oi i1, oi i2, oi 1, oi b2, oi b3, oi b4, oi b5, oi b6, oi b7, oi 1, oi 2, oa b24, oa o_32] [(.int b3), (.int 1), (.int 1), (.ref o_32)]))
    refine qS B X38 hZ hown 146 147 8 148 rfl rfl rfl rfl (own_atN hw o_32 (1 : Int32) (1 : Int32) b3 O32 (by decide)) e38 own_pd24 rfl rfl at_219 0 rfl rfl rfl (by decide) ?_
    rintro T39 h39 _ L39 X39 e39 ⟨rfl, M39, rfl⟩
    have N39 := Fr.app N38 M39
    refine q_ifNo B X39 at_222 rfl ((if0 _ _).trans (feq (by decide)).1) rfl ?_
    refine q_aload B X39 at_225 rfl rfl rfl ?_
    refine q_iconst B X39 at_227 rfl ?_
    refine q_iloadN B X39 at_228 rfl rfl ?_
    refine q_iload B X39 at_229 rfl rfl ?_
    show G (T39.setTop (mkF m 231 #[oi i0, oi i1, oi i2, oi 1, oi b2, oi b3, oi b4, oi b5, oi b6, oi b7, oi 1, oi 2, oa b24, oa o_32] [(.int b4), (.int 1), (.int 2), (.ref o_32)]))
    refine qS B X39 hZ hown 146 147 8 148 rfl rfl rfl rfl (own_atN hw o_32 (2 : Int32) (1 : Int32) b4 O32 (by decide)) e39 own_pd24 rfl rfl at_231 0 rfl rfl rfl (by decide) ?_
    rintro T40 h40 _ L40 X40 e40 ⟨rfl, M40, rfl⟩
    have N40 := Fr.app N39 M40
    refine q_ifNo B X40 at_234 rfl ((if0 _ _).trans (feq (by decide)).1) rfl ?_
    refine q_aload B X40 at_237 rfl rfl rfl ?_
    refine q_iconst B X40 at_239 rfl ?_
    refine q_iloadN B X40 at_240 rfl rfl ?_
    refine q_iload B X40 at_241 rfl rfl ?_
    show G (T40.setTop (mkF m 243 #[oi i0, oi i1, oi i2, oi 1, oi b2, oi b3, oi b4, oi b5, oi b6, oi b7, oi 1, oi 2, oa b24, oa o_32] [(.int b5), (.int 1), (.int 3), (.ref o_32)]))
    refine qS B X40 hZ hown 146 147 8 148 rfl rfl rfl rfl (own_atN hw o_32 (3 : Int32) (1 : Int32) b5 O32 (by decide)) e40 own_pd24 rfl rfl at_243 0 rfl rfl rfl (by decide) ?_
    rintro T41 h41 _ L41 X41 e41 ⟨rfl, M41, rfl⟩
    have N41 := Fr.app N40 M41
    refine q_ifNo B X41 at_246 rfl ((if0 _ _).trans (feq (by decide)).1) rfl ?_
    refine q_aload B X41 at_249 rfl rfl rfl ?_
    refine q_iconst B X41 at_251 rfl ?_
    refine q_iloadN B X41 at_252 rfl rfl ?_
    refine q_iload B X41 at_253 rfl rfl ?_
    show G (T41.setTop (mkF m 255 #[oi i0, oi i1, oi i2, oi 1, oi b2, oi b3, oi b4, oi b5, oi b6, oi b7, oi 1, oi 2, oa b24, oa o_32] [(.int b6), (.int 1), (.int 4), (.ref o_32)]))
    refine qS B X41 hZ hown 146 147 8 148 rfl rfl rfl rfl (own_atN hw o_32 (4 : Int32) (1 : Int32) b6 O32 (by decide)) e41 own_pd24 rfl rfl at_255 0 rfl rfl rfl (by decide) ?_
    rintro T42 h42 _ L42 X42 e42 ⟨rfl, M42, rfl⟩
    have N42 := Fr.app N41 M42
    refine q_ifNo B X42 at_258 rfl ((if0 _ _).trans (feq (by decide)).1) rfl ?_
    refine q_aload B X42 at_261 rfl rfl rfl ?_
    refine q_iconst B X42 at_263 rfl ?_
    refine q_iloadN B X42 at_264 rfl rfl ?_
    refine q_iload B X42 at_265 rfl rfl ?_
    show G (T42.setTop (mkF m 267 #[oi i0, oi i1, oi i2, oi 1, oi b2, oi b3, oi b4, oi b5, oi b6, oi b7, oi 1, oi 2, oa b24, oa o_32] [(.int b7), (.int 1), (.int 5), (.ref o_32)]))
    refine qS B X42 hZ hown 146 147 8 148 rfl rfl rfl rfl (own_atN hw o_32 (5 : Int32) (1 : Int32) b7 O32 (by decide)) e42 own_pd24 rfl rfl at_267 0 rfl rfl rfl (by decide) ?_
    rintro T43 h43 _ L43 X43 e43 ⟨rfl, M43, rfl⟩
    have N43 := Fr.app N42 M43
    refine q_ifNo B X43 at_270 rfl ((if0 _ _).trans (feq (by decide)).1) rfl ?_
    refine q_iconst B X43 at_273 rfl ?_
    refine q_goto 278 B X43 at_274 rfl rfl (by decide) ?_
    show G (T43.setTop (mkF m 278 #[oi i0, oi i1, oi i2, oi 1, oi b2, oi b3, oi b4, oi b5, oi b6, oi b7, oi 1, oi 2, oa b24, oa o_32] [(.int 1)]))
    exact qRNW B hR hret (by simp) X43 at_278 e43 SI0 (Nat.le_trans (Nat.le_trans (Nat.le_trans (Nat.le_trans (Nat.le_trans (Nat.le_refl _) R24.2.1) R26.2.1) R28.2.1) R29.2.1) R32.2.1) hZ C32 ⟨rfl, N43, K32⟩ (by decide)
  · skip
    show G (s₁.setTop (mkF m 63 #[oi i0, oi i1, oi i2, oi 2, oi b2, oi b3, oi b4, oi b5, oi b6, oi b7, .unset, .unset, .unset, .unset] [(.int 2)]))
    refine q_iconst B X0 at_63 rfl ?_
    refine hG _ _ (fun t_ k_ => iremM X0 hx rfl (hb hby at_64) rfl (by decide) k_) ?_
    show G (s₁.setTop (mkF m 65 #[oi i0, oi i1, oi i2, oi 2, oi b2, oi b3, oi b4, oi b5, oi b6, oi b7, .unset, .unset, .unset, .unset] [(.int ((2 : Int32) % (3 : Int32)))]))
    rw [show ((2 : Int32) % (3 : Int32)) = (2 : Int32) from by decide]
    show G (s₁.setTop (mkF m 65 #[oi i0, oi i1, oi i2, oi 2, oi b2, oi b3, oi b4, oi b5, oi b6, oi b7, .unset, .unset, .unset, .unset] [(.int 2)]))
    refine q_istore B X0 at_65 rfl rfl rfl ?_
    refine q_iconst B X0 at_67 rfl ?_
    refine q_iloadN B X0 at_68 rfl rfl ?_
    refine q_iconst B X0 at_69 rfl ?_
    refine q_idiv B X0 at_70 rfl (by decide) rfl ?_
    show G (s₁.setTop (mkF m 71 #[oi i0, oi i1, oi i2, oi 2, oi b2, oi b3, oi b4, oi b5, oi b6, oi b7, oi 2, .unset, .unset, .unset] [(.int ((2 : Int32) / (3 : Int32))), (.int 4)]))
    rw [show ((2 : Int32) / (3 : Int32)) = (0 : Int32) from by decide]
    show G (s₁.setTop (mkF m 71 #[oi i0, oi i1, oi i2, oi 2, oi b2, oi b3, oi b4, oi b5, oi b6, oi b7, oi 2, .unset, .unset, .unset] [(.int 0), (.int 4)]))
    refine q_imul B X0 at_71 rfl rfl ?_
    show G (s₁.setTop (mkF m 72 #[oi i0, oi i1, oi i2, oi 2, oi b2, oi b3, oi b4, oi b5, oi b6, oi b7, oi 2, .unset, .unset, .unset] [(.int ((4 : Int32) * (0 : Int32)))]))
    rw [show ((4 : Int32) * (0 : Int32)) = (0 : Int32) from by decide]
    show G (s₁.setTop (mkF m 72 #[oi i0, oi i1, oi i2, oi 2, oi b2, oi b3, oi b4, oi b5, oi b6, oi b7, oi 2, .unset, .unset, .unset] [(.int 0)]))
    refine q_iload B X0 at_72 rfl rfl ?_
    refine q_ifYes 81 B X0 at_74 rfl ((if0 _ _).trans (feq (by decide)).2) rfl rfl (by decide) ?_
    refine q_iload B X0 at_81 rfl rfl ?_
    refine q_iconst B X0 at_83 rfl ?_
    refine q_iadd B X0 at_84 rfl rfl ?_
    show G (s₁.setTop (mkF m 85 #[oi i0, oi i1, oi i2, oi 2, oi b2, oi b3, oi b4, oi b5, oi b6, oi b7, oi 2, .unset, .unset, .unset] [(.int ((2 : Int32) + (1 : Int32))), (.int 0)]))
    rw [show ((2 : Int32) + (1 : Int32)) = (3 : Int32) from by decide]
    show G (s₁.setTop (mkF m 85 #[oi i0, oi i1, oi i2, oi 2, oi b2, oi b3, oi b4, oi b5, oi b6, oi b7, oi 2, .unset, .unset, .unset] [(.int 3), (.int 0)]))
    refine q_iadd B X0 at_85 rfl rfl ?_
    show G (s₁.setTop (mkF m 86 #[oi i0, oi i1, oi i2, oi 2, oi b2, oi b3, oi b4, oi b5, oi b6, oi b7, oi 2, .unset, .unset, .unset] [(.int ((0 : Int32) + (3 : Int32)))]))
    rw [show ((0 : Int32) + (3 : Int32)) = (3 : Int32) from by decide]
    show G (s₁.setTop (mkF m 86 #[oi i0, oi i1, oi i2, oi 2, oi b2, oi b3, oi b4, oi b5, oi b6, oi b7, oi 2, .unset, .unset, .unset] [(.int 3)]))
    refine q_istore B X0 at_86 rfl rfl rfl ?_
    refine q_iload B X0 at_88 rfl rfl ?_
    refine qna 3 B X0 hZ 1 rfl e0 at_90 (by decide) (by decide) (by decide) fun T44 h44 k44 b44 z44 X44 e44 E44 A44 => ?_
    have R44 := (CHr.ext E44 H0)
    have C44 := (CHr.refl H0).trans R44
    have K44 := (Keep.refl h0 []).ext E44
    have O44 := O0.ext E44
    have V44 : Arv Z h44 b44 k44 .char (3 : Int32) [(.int 0), (.int 0), (.int 0)] (.int 0) := (Arv.new A44 (by decide)).pad (pad_rep [] (.int 0) 3)
    refine q_astore B X44 at_92 rfl rfl rfl rfl ?_
    refine q_iloadN B X44 at_94 rfl rfl ?_
    refine q_iconst B X44 at_95 rfl ?_
    refine q_icmpNo B X44 at_96 rfl (flt (by decide)).1 rfl ?_
    refine q_aload B X44 at_99 rfl rfl rfl ?_
    refine q_iconst B X44 at_101 rfl ?_
    refine q_iload B X44 at_102 rfl rfl ?_
    refine q_iloadN B X44 at_104 rfl rfl ?_
    refine q_iconst B X44 at_105 rfl ?_
    refine q_icmpNo B X44 at_106 rfl (flt (by decide)).1 rfl ?_
    refine q_iload B X44 at_109 rfl rfl ?_
    refine q_goto 115 B X44 at_111 rfl rfl (by decide) ?_
    refine q_iloadN B X44 at_115 rfl rfl ?_
    refine q_iconst B X44 at_116 rfl ?_
    show G (T44.setTop (mkF m 117 #[oi i0, oi i1, oi i2, oi 2, oi b2, oi b3, oi b4, oi b5, oi b6, oi b7, oi 2, oi 3, oa b44, .unset] [(.int 3), (.int 2), (.int b3), (.int b2), (.int 0), (.ref b44)]))
    refine q_icmpYes 125 B X44 at_117 rfl (tlt (by decide)).1 rfl rfl (by decide) ?_
    refine q_iconst B X44 at_125 rfl ?_
    refine q_iloadN B X44 at_126 rfl rfl ?_
    refine q_iconst B X44 at_127 rfl ?_
    show G (T44.setTop (mkF m 128 #[oi i0, oi i1, oi i2, oi 2, oi b2, oi b3, oi b4, oi b5, oi b6, oi b7, oi 2, oi 3, oa b44, .unset] [(.int 3), (.int 2), (.int 0), (.int b3), (.int b2), (.int 0), (.ref b44)]))
    refine qS B X44 hZ hown 2 3 4 5 rfl rfl rfl rfl (own_min_2_3 hw O44) e44 own_pd8 rfl rfl at_128 5 rfl rfl rfl (by decide) ?_
    rintro T45 h45 _ L45 X45 e45 ⟨rfl, M45, rfl⟩
    have N45 := Fr.app N0 M45
    show G (T45.setTop (mkF m 131 #[oi i0, oi i1, oi i2, oi 2, oi b2, oi b3, oi b4, oi b5, oi b6, oi b7, oi 2, oi 3, oa b44, .unset] [(.int 2), (.int 0), (.int b3), (.int b2), (.int 0), (.ref b44)]))
    refine qS B X45 hZ hown 6 7 8 9 rfl rfl rfl rfl (own_put3_0_2 hw b2 b3 (0 : Int32) O44 V44 (own_ge O0 (Nat.le_of_eq z44.symm))) e45 own_pd23 rfl rfl at_131 0 rfl rfl rfl (by decide) ?_
    rintro T46 h46 _ L46 X46 e46 ⟨z0_46, z1_46, z2_46, rfl, M46, J46, r46_0, r46_1, r46_2, r46_3⟩
    have N46 := Fr.app N45 M46
    have sf47 : Safe Z consts_1 _ h44 b44 := (own_safeArv hZ.alike V44 (by decide))
    have R46 := (CHr.keep J46 (allS sf47 all0) R44.1)
    have C46 := C44.trans R46
    have K46 := K44.trans J46 (allS (Or.inr (Nat.le_trans (Keep.refl h0 []).1 (Nat.le_of_eq z44.symm))) all0)
    have O46 := O44.keep J46 (allS (own_ge O0 (Nat.le_of_eq z44.symm)) all0)
    show G (T46.setTop (mkF m 134 #[oi i0, oi i1, oi i2, oi 2, oi b2, oi b3, oi b4, oi b5, oi b6, oi b7, oi 2, oi 3, oa b44, .unset] []))
    refine q_iloadN B X46 at_134 rfl rfl ?_
    refine q_iconst B X46 at_135 rfl ?_
    refine q_icmpYes 173 B X46 at_136 rfl (tlt (by decide)).1 rfl rfl (by decide) ?_
    show G (T46.setTop (mkF m 173 #[oi i0, oi i1, oi i2, oi 2, oi b2, oi b3, oi b4, oi b5, oi b6, oi b7, oi 2, oi 3, oa b44, .unset] []))
    refine qnw B X46 hZ hown 13 14 15 rfl rfl rfl e46 at_173 (by decide) fun T48 h48 b48 z48 X48 e48 E48 A48 D48 => ?_
    have R48 := (CHr.ext E48 R46.1)
    have C48 := C46.trans R48
    have K48 := K46.ext E48
    have O48 := O46.ext E48
    refine q_dup B X48 at_176 rfl rfl rfl ?_
    refine q_aload B X48 at_177 rfl rfl rfl ?_
    show G (T48.setTop (mkF m 179 #[oi i0, oi i1, oi i2, oi 2, oi b2, oi b3, oi b4, oi b5, oi b6, oi b7, oi 2, oi 3, oa b44, .unset] [(.ref b44), (.ref b48), (.ref b48)]))
    have f50 := (r46_0.ext E48)
    refine qI B X48 hZ hown 16 17 15 18 rfl rfl rfl rfl rfl (own_str1 hw [z0_46, z1_46, z2_46] O48 A48 (D48 (Or.inr (ow hw 39 rfl)) (ty := .byte) (by decide)) (D48 (Or.inr (ow hw 41 rfl)) (ty := (.array .byte)) (by decide)) (own_ge O46 (Nat.le_of_eq z48.symm)) f50 (Nat.le_of_ble_eq_true rfl) (Nat.le_of_ble_eq_true rfl) (own_allc (own_le255 (own_sy8 r46_1)) (own_allc (own_le255 (own_sy8 r46_2)) (own_allc (own_le255 (own_sy8 r46_3)) own_alln))) g0_S g1_hcpt) e48 own_pd4 rfl rfl at_179 1 rfl rfl rfl (by decide) ?_
    rintro T49 h49 _ L49 X49 e49 ⟨t_49, kt_49, rfl, M49, J49, y49_0, r49_0, r49_1, r49_2, r49_3, r49_4⟩
    have N49 := Fr.app N46 M49
    have sf51 : Safe Z consts_1 _ h48 b48 := (own_safeStr hZ.alike A48 (D48 (Or.inr (ow hw 41 rfl)) (ty := (.array .byte)) (by decide)))
    have R49 := (CHr.keep J49 (allS sf51 all0) R48.1)
    have C49 := C48.trans R49
    have K49 := K48.trans J49 (allS (Or.inr (Nat.le_trans K46.1 (Nat.le_of_eq z48.symm))) all0)
    have O49 := O48.keep J49 (allS (own_ge O46 (Nat.le_of_eq z48.symm)) all0)
    show G (T49.setTop (mkF m 182 #[oi i0, oi i1, oi i2, oi 2, oi b2, oi b3, oi b4, oi b5, oi b6, oi b7, oi 2, oi 3, oa b44, .unset] [(.ref b48)]))
    have f53 := ((((g7_E.ext E44).keep J46).ext E48).keep J49)
    have f54 := ((((g8_F.ext E44).keep J46 (ninS (own_ne g7_E.lt (Nat.le_of_eq z44.symm)) nin0)).ext E48).keep J49 (ninS (own_ne (Nat.lt_of_lt_of_le (Nat.lt_of_lt_of_le g7_E.lt E44.1) J46.1) (Nat.le_of_eq z48.symm)) nin0))
    have f55 := ((((g9_F.ext E44).keep J46 (ninS (own_ne g7_E.lt (Nat.le_of_eq z44.symm)) nin0)).ext E48).keep J49 (ninS (own_ne (Nat.lt_of_lt_of_le (Nat.lt_of_lt_of_le g7_E.lt E44.1) J46.1) (Nat.le_of_eq z48.symm)) nin0))
    have f56 := ((((g10_V.ext E44).keep J46 (ninS (own_ne g10_V.lt (Nat.le_of_eq z44.symm)) nin0)).ext E48).keep J49 (ninS (own_ne (Nat.lt_of_lt_of_le (Nat.lt_of_lt_of_le g10_V.lt E44.1) J46.1) (Nat.le_of_eq z48.symm)) nin0))
    refine qS B X49 hZ hown 42 43 44 45 rfl rfl rfl rfl (own_b64_3 hw z0_46 z1_46 z2_46 (own_s18 (own_w b2 b3 (0 : Int32))) (own_s12 (own_w b2 b3 (0 : Int32))) (own_s6 (own_w b2 b3 (0 : Int32))) O49 g2_S g3_S g4_S g5_S g6_hiu f53 f54 f55 f56 r49_0 r49_1 r49_2 r49_3 r49_4 g0_S g1_hcpt r46_1 r46_2 r46_3) e49 own_pd20 rfl rfl at_182 0 rfl rfl rfl (by decide) ?_
    rintro T52 h52 _ L52 X52 e52 ⟨o_52, ko_52, rfl, M52, J52, y52_0, r52_0⟩
    have N52 := Fr.app N49 M52
    have R52 := (CHr.keep J52 all0 R49.1)
    have C52 := C49.trans R52
    have K52 := K49.trans J52 all0
    have O52 := O49.keep J52 all0
    show G (T52.setTop (mkF m 185 #[oi i0, oi i1, oi i2, oi 2, oi b2, oi b3, oi b4, oi b5, oi b6, oi b7, oi 2, oi 3, oa b44, .unset] [(.ref o_52)]))
    have og0 := own_out3 hB_b2 hB_b3 own_zB ((own_bits3 (own_Vs (own_w b2 b3 (0 : Int32))).1 (own_Vs (own_w b2 b3 (0 : Int32))).2.1 (own_Vs (own_w b2 b3 (0 : Int32))).2.2.1).trans (own_full3 hB_b2 hB_b3))
    show G (T52.setTop (mkF m 185 #[oi i0, oi i1, oi i2, oi 2, oi b2, oi b3, oi b4, oi b5, oi b6, oi b7, oi 2, oi 3, oa b44, .unset] [(.ref o_52)]))
    refine q_astore B X52 at_185 rfl rfl rfl rfl ?_
    refine q_aload B X52 at_187 rfl rfl rfl ?_
    refine q_ifnullNo B X52 at_189 rfl rfl ?_
    refine q_aload B X52 at_192 rfl rfl rfl ?_
    refine qal B X52 hZ e52 r52_0 at_194 ?_
    refine q_iloadN B X52 at_195 rfl rfl ?_
    refine q_icmpYes 201 B X52 at_196 rfl (teq (by decide)).1 rfl rfl (by decide) ?_
    refine q_aload B X52 at_201 rfl rfl rfl ?_
    refine q_iconst B X52 at_203 rfl ?_
    refine q_iloadN B X52 at_204 rfl rfl ?_
    refine q_iload B X52 at_205 rfl rfl ?_
    show G (T52.setTop (mkF m 207 #[oi i0, oi i1, oi i2, oi 2, oi b2, oi b3, oi b4, oi b5, oi b6, oi b7, oi 2, oi 3, oa b44, oa o_52] [(.int b2), (.int 2), (.int 0), (.ref o_52)]))
    refine qS B X52 hZ hown 146 147 8 148 rfl rfl rfl rfl (own_atY hw (0 : Int32) b2 (nar .byte ((((((0 : Int32) ||| ((own_s18 (own_w b2 b3 (0 : Int32))) <<< ((18 : Int32) &&& 31))) ||| ((own_s12 (own_w b2 b3 (0 : Int32))) <<< ((12 : Int32) &&& 31))) ||| ((own_s6 (own_w b2 b3 (0 : Int32))) <<< ((6 : Int32) &&& 31))) >>> ((16 : Int32) &&& 31)).toInt8.toInt32)) O52 (by decide) (by decide) r52_0 rfl og0.1) e52 own_pd24 rfl rfl at_207 0 rfl rfl rfl (by decide) ?_
    rintro T58 h58 _ L58 X58 e58 ⟨rfl, M58, rfl⟩
    have N58 := Fr.app N52 M58
    refine q_ifNo B X58 at_210 rfl ((if0 _ _).trans (feq (by decide)).1) rfl ?_
    refine q_aload B X58 at_213 rfl rfl rfl ?_
    refine q_iconst B X58 at_215 rfl ?_
    refine q_iloadN B X58 at_216 rfl rfl ?_
    refine q_iload B X58 at_217 rfl rfl ?_
    show G (T58.setTop (mkF m 219 #[oi i0, oi i1, oi i2, oi 2, oi b2, oi b3, oi b4, oi b5, oi b6, oi b7, oi 2, oi 3, oa b44, oa o_52] [(.int b3), (.int 2), (.int 1), (.ref o_52)]))
    refine qS B X58 hZ hown 146 147 8 148 rfl rfl rfl rfl (own_atY hw (1 : Int32) b3 (nar .byte ((((((0 : Int32) ||| ((own_s18 (own_w b2 b3 (0 : Int32))) <<< ((18 : Int32) &&& 31))) ||| ((own_s12 (own_w b2 b3 (0 : Int32))) <<< ((12 : Int32) &&& 31))) ||| ((own_s6 (own_w b2 b3 (0 : Int32))) <<< ((6 : Int32) &&& 31))) >>> ((8 : Int32) &&& 31)).toInt8.toInt32)) O52 (by decide) (by decide) r52_0 rfl og0.2.1) e58 own_pd24 rfl rfl at_219 0 rfl rfl rfl (by decide) ?_
    rintro T59 h59 _ L59 X59 e59 ⟨rfl, M59, rfl⟩
    have N59 := Fr.app N58 M59
    refine q_ifNo B X59 at_222 rfl ((if0 _ _).trans (feq (by decide)).1) rfl ?_
    refine q_aload B X59 at_225 rfl rfl rfl ?_
    refine q_iconst B X59 at_227 rfl ?_
    refine q_iloadN B X59 at_228 rfl rfl ?_
    refine q_iload B X59 at_229 rfl rfl ?_
    show G (T59.setTop (mkF m 231 #[oi i0, oi i1, oi i2, oi 2, oi b2, oi b3, oi b4, oi b5, oi b6, oi b7, oi 2, oi 3, oa b44, oa o_52] [(.int b4), (.int 2), (.int 2), (.ref o_52)]))
    refine qS B X59 hZ hown 146 147 8 148 rfl rfl rfl rfl (own_atN hw o_52 (2 : Int32) (2 : Int32) b4 O52 (by decide)) e59 own_pd24 rfl rfl at_231 0 rfl rfl rfl (by decide) ?_
    rintro T60 h60 _ L60 X60 e60 ⟨rfl, M60, rfl⟩
    have N60 := Fr.app N59 M60
    refine q_ifNo B X60 at_234 rfl ((if0 _ _).trans (feq (by decide)).1) rfl ?_
    refine q_aload B X60 at_237 rfl rfl rfl ?_
    refine q_iconst B X60 at_239 rfl ?_
    refine q_iloadN B X60 at_240 rfl rfl ?_
    refine q_iload B X60 at_241 rfl rfl ?_
    show G (T60.setTop (mkF m 243 #[oi i0, oi i1, oi i2, oi 2, oi b2, oi b3, oi b4, oi b5, oi b6, oi b7, oi 2, oi 3, oa b44, oa o_52] [(.int b5), (.int 2), (.int 3), (.ref o_52)]))
    refine qS B X60 hZ hown 146 147 8 148 rfl rfl rfl rfl (own_atN hw o_52 (3 : Int32) (2 : Int32) b5 O52 (by decide)) e60 own_pd24 rfl rfl at_243 0 rfl rfl rfl (by decide) ?_
    rintro T61 h61 _ L61 X61 e61 ⟨rfl, M61, rfl⟩
    have N61 := Fr.app N60 M61
    refine q_ifNo B X61 at_246 rfl ((if0 _ _).trans (feq (by decide)).1) rfl ?_
    refine q_aload B X61 at_249 rfl rfl rfl ?_
    refine q_iconst B X61 at_251 rfl ?_
    refine q_iloadN B X61 at_252 rfl rfl ?_
    refine q_iload B X61 at_253 rfl rfl ?_
    show G (T61.setTop (mkF m 255 #[oi i0, oi i1, oi i2, oi 2, oi b2, oi b3, oi b4, oi b5, oi b6, oi b7, oi 2, oi 3, oa b44, oa o_52] [(.int b6), (.int 2), (.int 4), (.ref o_52)]))
    refine qS B X61 hZ hown 146 147 8 148 rfl rfl rfl rfl (own_atN hw o_52 (4 : Int32) (2 : Int32) b6 O52 (by decide)) e61 own_pd24 rfl rfl at_255 0 rfl rfl rfl (by decide) ?_
    rintro T62 h62 _ L62 X62 e62 ⟨rfl, M62, rfl⟩
    have N62 := Fr.app N61 M62
    refine q_ifNo B X62 at_258 rfl ((if0 _ _).trans (feq (by decide)).1) rfl ?_
    refine q_aload B X62 at_261 rfl rfl rfl ?_
    refine q_iconst B X62 at_263 rfl ?_
    refine q_iloadN B X62 at_264 rfl rfl ?_
    refine q_iload B X62 at_265 rfl rfl ?_
    show G (T62.setTop (mkF m 267 #[oi i0, oi i1, oi i2, oi 2, oi b2, oi b3, oi b4, oi b5, oi b6, oi b7, oi 2, oi 3, oa b44, oa o_52] [(.int b7), (.int 2), (.int 5), (.ref o_52)]))
    refine qS B X62 hZ hown 146 147 8 148 rfl rfl rfl rfl (own_atN hw o_52 (5 : Int32) (2 : Int32) b7 O52 (by decide)) e62 own_pd24 rfl rfl at_267 0 rfl rfl rfl (by decide) ?_
    rintro T63 h63 _ L63 X63 e63 ⟨rfl, M63, rfl⟩
    have N63 := Fr.app N62 M63
    refine q_ifNo B X63 at_270 rfl ((if0 _ _).trans (feq (by decide)).1) rfl ?_
    refine q_iconst B X63 at_273 rfl ?_
    refine q_goto 278 B X63 at_274 rfl rfl (by decide) ?_
    show G (T63.setTop (mkF m 278 #[oi i0, oi i1, oi i2, oi 2, oi b2, oi b3, oi b4, oi b5, oi b6, oi b7, oi 2, oi 3, oa b44, oa o_52] [(.int 1)]))
    exact qRNW B hR hret (by simp) X63 at_278 e63 SI0 (Nat.le_trans (Nat.le_trans (Nat.le_trans (Nat.le_trans (Nat.le_trans (Nat.le_refl _) R44.2.1) R46.2.1) R48.2.1) R49.2.1) R52.2.1) hZ C52 ⟨rfl, N63, K52⟩ (by decide)
  · skip
    show G (s₁.setTop (mkF m 63 #[oi i0, oi i1, oi i2, oi 3, oi b2, oi b3, oi b4, oi b5, oi b6, oi b7, .unset, .unset, .unset, .unset] [(.int 3)]))
    refine q_iconst B X0 at_63 rfl ?_
    refine hG _ _ (fun t_ k_ => iremM X0 hx rfl (hb hby at_64) rfl (by decide) k_) ?_
    show G (s₁.setTop (mkF m 65 #[oi i0, oi i1, oi i2, oi 3, oi b2, oi b3, oi b4, oi b5, oi b6, oi b7, .unset, .unset, .unset, .unset] [(.int ((3 : Int32) % (3 : Int32)))]))
    rw [show ((3 : Int32) % (3 : Int32)) = (0 : Int32) from by decide]
    show G (s₁.setTop (mkF m 65 #[oi i0, oi i1, oi i2, oi 3, oi b2, oi b3, oi b4, oi b5, oi b6, oi b7, .unset, .unset, .unset, .unset] [(.int 0)]))
    refine q_istore B X0 at_65 rfl rfl rfl ?_
    refine q_iconst B X0 at_67 rfl ?_
    refine q_iloadN B X0 at_68 rfl rfl ?_
    refine q_iconst B X0 at_69 rfl ?_
    refine q_idiv B X0 at_70 rfl (by decide) rfl ?_
    show G (s₁.setTop (mkF m 71 #[oi i0, oi i1, oi i2, oi 3, oi b2, oi b3, oi b4, oi b5, oi b6, oi b7, oi 0, .unset, .unset, .unset] [(.int ((3 : Int32) / (3 : Int32))), (.int 4)]))
    rw [show ((3 : Int32) / (3 : Int32)) = (1 : Int32) from by decide]
    show G (s₁.setTop (mkF m 71 #[oi i0, oi i1, oi i2, oi 3, oi b2, oi b3, oi b4, oi b5, oi b6, oi b7, oi 0, .unset, .unset, .unset] [(.int 1), (.int 4)]))
    refine q_imul B X0 at_71 rfl rfl ?_
    show G (s₁.setTop (mkF m 72 #[oi i0, oi i1, oi i2, oi 3, oi b2, oi b3, oi b4, oi b5, oi b6, oi b7, oi 0, .unset, .unset, .unset] [(.int ((4 : Int32) * (1 : Int32)))]))
    rw [show ((4 : Int32) * (1 : Int32)) = (4 : Int32) from by decide]
    show G (s₁.setTop (mkF m 72 #[oi i0, oi i1, oi i2, oi 3, oi b2, oi b3, oi b4, oi b5, oi b6, oi b7, oi 0, .unset, .unset, .unset] [(.int 4)]))
    refine q_iload B X0 at_72 rfl rfl ?_
    refine q_ifNo B X0 at_74 rfl ((if0 _ _).trans (teq (by decide)).2) rfl ?_
    refine q_iconst B X0 at_77 rfl ?_
    refine q_goto 85 B X0 at_78 rfl rfl (by decide) ?_
    refine q_iadd B X0 at_85 rfl rfl ?_
    show G (s₁.setTop (mkF m 86 #[oi i0, oi i1, oi i2, oi 3, oi b2, oi b3, oi b4, oi b5, oi b6, oi b7, oi 0, .unset, .unset, .unset] [(.int ((4 : Int32) + (0 : Int32)))]))
    rw [show ((4 : Int32) + (0 : Int32)) = (4 : Int32) from by decide]
    show G (s₁.setTop (mkF m 86 #[oi i0, oi i1, oi i2, oi 3, oi b2, oi b3, oi b4, oi b5, oi b6, oi b7, oi 0, .unset, .unset, .unset] [(.int 4)]))
    refine q_istore B X0 at_86 rfl rfl rfl ?_
    refine q_iload B X0 at_88 rfl rfl ?_
    refine qna 4 B X0 hZ 1 rfl e0 at_90 (by decide) (by decide) (by decide) fun T64 h64 k64 b64 z64 X64 e64 E64 A64 => ?_
    have R64 := (CHr.ext E64 H0)
    have C64 := (CHr.refl H0).trans R64
    have K64 := (Keep.refl h0 []).ext E64
    have O64 := O0.ext E64
    have V64 : Arv Z h64 b64 k64 .char (4 : Int32) [(.int 0), (.int 0), (.int 0), (.int 0)] (.int 0) := (Arv.new A64 (by decide)).pad (pad_rep [] (.int 0) 4)
    refine q_astore B X64 at_92 rfl rfl rfl rfl ?_
    refine q_iloadN B X64 at_94 rfl rfl ?_
    refine q_iconst B X64 at_95 rfl ?_
    refine q_icmpNo B X64 at_96 rfl (flt (by decide)).1 rfl ?_
    refine q_aload B X64 at_99 rfl rfl rfl ?_
    refine q_iconst B X64 at_101 rfl ?_
    refine q_iload B X64 at_102 rfl rfl ?_
    refine q_iloadN B X64 at_104 rfl rfl ?_
    refine q_iconst B X64 at_105 rfl ?_
    refine q_icmpNo B X64 at_106 rfl (flt (by decide)).1 rfl ?_
    refine q_iload B X64 at_109 rfl rfl ?_
    refine q_goto 115 B X64 at_111 rfl rfl (by decide) ?_
    refine q_iloadN B X64 at_115 rfl rfl ?_
    refine q_iconst B X64 at_116 rfl ?_
    show G (T64.setTop (mkF m 117 #[oi i0, oi i1, oi i2, oi 3, oi b2, oi b3, oi b4, oi b5, oi b6, oi b7, oi 0, oi 4, oa b64, .unset] [(.int 3), (.int 3), (.int b3), (.int b2), (.int 0), (.ref b64)]))
    refine q_icmpNo B X64 at_117 rfl (flt (by decide)).1 rfl ?_
    refine q_iload B X64 at_120 rfl rfl ?_
    refine q_goto 126 B X64 at_122 rfl rfl (by decide) ?_
    refine q_iloadN B X64 at_126 rfl rfl ?_
    refine q_iconst B X64 at_127 rfl ?_
    show G (T64.setTop (mkF m 128 #[oi i0, oi i1, oi i2, oi 3, oi b2, oi b3, oi b4, oi b5, oi b6, oi b7, oi 0, oi 4, oa b64, .unset] [(.int 3), (.int 3), (.int b4), (.int b3), (.int b2), (.int 0), (.ref b64)]))
    refine qS B X64 hZ hown 2 3 4 5 rfl rfl rfl rfl (own_min_3_3 hw O64) e64 own_pd8 rfl rfl at_128 5 rfl rfl rfl (by decide) ?_
    rintro T65 h65 _ L65 X65 e65 ⟨rfl, M65, rfl⟩
    have N65 := Fr.app N0 M65
    show G (T65.setTop (mkF m 131 #[oi i0, oi i1, oi i2, oi 3, oi b2, oi b3, oi b4, oi b5, oi b6, oi b7, oi 0, oi 4, oa b64, .unset] [(.int 3), (.int b4), (.int b3), (.int b2), (.int 0), (.ref b64)]))
    refine qS B X65 hZ hown 6 7 8 9 rfl rfl rfl rfl (own_put4_0_3 hw b2 b3 b4 O64 V64 (own_ge O0 (Nat.le_of_eq z64.symm))) e65 own_pd23 rfl rfl at_131 0 rfl rfl rfl (by decide) ?_
    rintro T66 h66 _ L66 X66 e66 ⟨z0_66, z1_66, z2_66, z3_66, rfl, M66, J66, r66_0, r66_1, r66_2, r66_3, r66_4⟩
    have N66 := Fr.app N65 M66
    have sf67 : Safe Z consts_1 _ h64 b64 := (own_safeArv hZ.alike V64 (by decide))
    have R66 := (CHr.keep J66 (allS sf67 all0) R64.1)
    have C66 := C64.trans R66
    have K66 := K64.trans J66 (allS (Or.inr (Nat.le_trans (Keep.refl h0 []).1 (Nat.le_of_eq z64.symm))) all0)
    have O66 := O64.keep J66 (allS (own_ge O0 (Nat.le_of_eq z64.symm)) all0)
    show G (T66.setTop (mkF m 134 #[oi i0, oi i1, oi i2, oi 3, oi b2, oi b3, oi b4, oi b5, oi b6, oi b7, oi 0, oi 4, oa b64, .unset] []))
    refine q_iloadN B X66 at_134 rfl rfl ?_
    refine q_iconst B X66 at_135 rfl ?_
    refine q_icmpYes 173 B X66 at_136 rfl (tlt (by decide)).1 rfl rfl (by decide) ?_
    show G (T66.setTop (mkF m 173 #[oi i0, oi i1, oi i2, oi 3, oi b2, oi b3, oi b4, oi b5, oi b6, oi b7, oi 0, oi 4, oa b64, .unset] []))
    refine qnw B X66 hZ hown 13 14 15 rfl rfl rfl e66 at_173 (by decide) fun T68 h68 b68 z68 X68 e68 E68 A68 D68 => ?_
    have R68 := (CHr.ext E68 R66.1)
    have C68 := C66.trans R68
    have K68 := K66.ext E68
    have O68 := O66.ext E68
    refine q_dup B X68 at_176 rfl rfl rfl ?_
    refine q_aload B X68 at_177 rfl rfl rfl ?_
    show G (T68.setTop (mkF m 179 #[oi i0, oi i1, oi i2, oi 3, oi b2, oi b3, oi b4, oi b5, oi b6, oi b7, oi 0, oi 4, oa b64, .unset] [(.ref b64), (.ref b68), (.ref b68)]))
    have f70 := (r66_0.ext E68)
    refine qI B X68 hZ hown 16 17 15 18 rfl rfl rfl rfl rfl (own_str1 hw [z0_66, z1_66, z2_66, z3_66] O68 A68 (D68 (Or.inr (ow hw 39 rfl)) (ty := .byte) (by decide)) (D68 (Or.inr (ow hw 41 rfl)) (ty := (.array .byte)) (by decide)) (own_ge O66 (Nat.le_of_eq z68.symm)) f70 (Nat.le_of_ble_eq_true rfl) (Nat.le_of_ble_eq_true rfl) (own_allc (own_le255 (own_sy8 r66_1)) (own_allc (own_le255 (own_sy8 r66_2)) (own_allc (own_le255 (own_sy8 r66_3)) (own_allc (own_le255 (own_sy8 r66_4)) own_alln)))) g0_S g1_hcpt) e68 own_pd4 rfl rfl at_179 1 rfl rfl rfl (by decide) ?_
    rintro T69 h69 _ L69 X69 e69 ⟨t_69, kt_69, rfl, M69, J69, y69_0, r69_0, r69_1, r69_2, r69_3, r69_4⟩
    have N69 := Fr.app N66 M69
    have sf71 : Safe Z consts_1 _ h68 b68 := (own_safeStr hZ.alike A68 (D68 (Or.inr (ow hw 41 rfl)) (ty := (.array .byte)) (by decide)))
    have R69 := (CHr.keep J69 (allS sf71 all0) R68.1)
    have C69 := C68.trans R69
    have K69 := K68.trans J69 (allS (Or.inr (Nat.le_trans K66.1 (Nat.le_of_eq z68.symm))) all0)
    have O69 := O68.keep J69 (allS (own_ge O66 (Nat.le_of_eq z68.symm)) all0)
    show G (T69.setTop (mkF m 182 #[oi i0, oi i1, oi i2, oi 3, oi b2, oi b3, oi b4, oi b5, oi b6, oi b7, oi 0, oi 4, oa b64, .unset] [(.ref b68)]))
    have f73 := ((((g7_E.ext E64).keep J66).ext E68).keep J69)
    have f74 := ((((g8_F.ext E64).keep J66 (ninS (own_ne g7_E.lt (Nat.le_of_eq z64.symm)) nin0)).ext E68).keep J69 (ninS (own_ne (Nat.lt_of_lt_of_le (Nat.lt_of_lt_of_le g7_E.lt E64.1) J66.1) (Nat.le_of_eq z68.symm)) nin0))
    have f75 := ((((g9_F.ext E64).keep J66 (ninS (own_ne g7_E.lt (Nat.le_of_eq z64.symm)) nin0)).ext E68).keep J69 (ninS (own_ne (Nat.lt_of_lt_of_le (Nat.lt_of_lt_of_le g7_E.lt E64.1) J66.1) (Nat.le_of_eq z68.symm)) nin0))
    have f76 := ((((g10_V.ext E64).keep J66 (ninS (own_ne g10_V.lt (Nat.le_of_eq z64.symm)) nin0)).ext E68).keep J69 (ninS (own_ne (Nat.lt_of_lt_of_le (Nat.lt_of_lt_of_le g10_V.lt E64.1) J66.1) (Nat.le_of_eq z68.symm)) nin0))
    refine qS B X69 hZ hown 42 43 44 45 rfl rfl rfl rfl (own_b64_4 hw z0_66 z1_66 z2_66 z3_66 (own_s18 (own_w b2 b3 b4)) (own_s12 (own_w b2 b3 b4)) (own_s6 (own_w b2 b3 b4)) (own_s0 (own_w b2 b3 b4)) O69 g2_S g3_S g4_S g5_S g6_hiu f73 f74 f75 f76 r69_0 r69_1 r69_2 r69_3 r69_4 g0_S g1_hcpt r66_1 r66_2 r66_3 r66_4) e69 own_pd20 rfl rfl at_182 0 rfl rfl rfl (by decide) ?_
    rintro T72 h72 _ L72 X72 e72 ⟨o_72, ko_72, rfl, M72, J72, y72_0, r72_0⟩
    have N72 := Fr.app N69 M72
    have R72 := (CHr.keep J72 all0 R69.1)
    have C72 := C69.trans R72
    have K72 := K69.trans J72 all0
    have O72 := O69.keep J72 all0
    show G (T72.setTop (mkF m 185 #[oi i0, oi i1, oi i2, oi 3, oi b2, oi b3, oi b4, oi b5, oi b6, oi b7, oi 0, oi 4, oa b64, .unset] [(.ref o_72)]))
    have og0 := own_out3 hB_b2 hB_b3 hB_b4 ((own_bits4 (own_Vs (own_w b2 b3 b4)).1 (own_Vs (own_w b2 b3 b4)).2.1 (own_Vs (own_w b2 b3 b4)).2.2.1 (own_Vs (own_w b2 b3 b4)).2.2.2).trans (own_full hB_b2 hB_b3 hB_b4))
    show G (T72.setTop (mkF m 185 #[oi i0, oi i1, oi i2, oi 3, oi b2, oi b3, oi b4, oi b5, oi b6, oi b7, oi 0, oi 4, oa b64, .unset] [(.ref o_72)]))
    refine q_astore B X72 at_185 rfl rfl rfl rfl ?_
    refine q_aload B X72 at_187 rfl rfl rfl ?_
    refine q_ifnullNo B X72 at_189 rfl rfl ?_
    refine q_aload B X72 at_192 rfl rfl rfl ?_
    refine qal B X72 hZ e72 r72_0 at_194 ?_
    refine q_iloadN B X72 at_195 rfl rfl ?_
    refine q_icmpYes 201 B X72 at_196 rfl (teq (by decide)).1 rfl rfl (by decide) ?_
    refine q_aload B X72 at_201 rfl rfl rfl ?_
    refine q_iconst B X72 at_203 rfl ?_
    refine q_iloadN B X72 at_204 rfl rfl ?_
    refine q_iload B X72 at_205 rfl rfl ?_
    show G (T72.setTop (mkF m 207 #[oi i0, oi i1, oi i2, oi 3, oi b2, oi b3, oi b4, oi b5, oi b6, oi b7, oi 0, oi 4, oa b64, oa o_72] [(.int b2), (.int 3), (.int 0), (.ref o_72)]))
    refine qS B X72 hZ hown 146 147 8 148 rfl rfl rfl rfl (own_atY hw (0 : Int32) b2 (nar .byte (((((((0 : Int32) ||| ((own_s18 (own_w b2 b3 b4)) <<< ((18 : Int32) &&& 31))) ||| ((own_s12 (own_w b2 b3 b4)) <<< ((12 : Int32) &&& 31))) ||| ((own_s6 (own_w b2 b3 b4)) <<< ((6 : Int32) &&& 31))) ||| ((own_s0 (own_w b2 b3 b4)) <<< ((0 : Int32) &&& 31))) >>> ((16 : Int32) &&& 31)).toInt8.toInt32)) O72 (by decide) (by decide) r72_0 rfl og0.1) e72 own_pd24 rfl rfl at_207 0 rfl rfl rfl (by decide) ?_
    rintro T78 h78 _ L78 X78 e78 ⟨rfl, M78, rfl⟩
    have N78 := Fr.app N72 M78
    refine q_ifNo B X78 at_210 rfl ((if0 _ _).trans (feq (by decide)).1) rfl ?_
    refine q_aload B X78 at_213 rfl rfl rfl ?_
    refine q_iconst B X78 at_215 rfl ?_
    refine q_iloadN B X78 at_216 rfl rfl ?_
    refine q_iload B X78 at_217 rfl rfl ?_
    show G (T78.setTop (mkF m 219 #[oi i0, oi i1, oi i2, oi 3, oi b2, oi b3, oi b4, oi b5, oi b6, oi b7, oi 0, oi 4, oa b64, oa o_72] [(.int b3), (.int 3), (.int 1), (.ref o_72)]))
    refine qS B X78 hZ hown 146 147 8 148 rfl rfl rfl rfl (own_atY hw (1 : Int32) b3 (nar .byte (((((((0 : Int32) ||| ((own_s18 (own_w b2 b3 b4)) <<< ((18 : Int32) &&& 31))) ||| ((own_s12 (own_w b2 b3 b4)) <<< ((12 : Int32) &&& 31))) ||| ((own_s6 (own_w b2 b3 b4)) <<< ((6 : Int32) &&& 31))) ||| ((own_s0 (own_w b2 b3 b4)) <<< ((0 : Int32) &&& 31))) >>> ((8 : Int32) &&& 31)).toInt8.toInt32)) O72 (by decide) (by decide) r72_0 rfl og0.2.1) e78 own_pd24 rfl rfl at_219 0 rfl rfl rfl (by decide) ?_
    rintro T79 h79 _ L79 X79 e79 ⟨rfl, M79, rfl⟩
    have N79 := Fr.app N78 M79
    refine q_ifNo B X79 at_222 rfl ((if0 _ _).trans (feq (by decide)).1) rfl ?_
    refine q_aload B X79 at_225 rfl rfl rfl ?_
    refine q_iconst B X79 at_227 rfl ?_
    refine q_iloadN B X79 at_228 rfl rfl ?_
    refine q_iload B X79 at_229 rfl rfl ?_
    show G (T79.setTop (mkF m 231 #[oi i0, oi i1, oi i2, oi 3, oi b2, oi b3, oi b4, oi b5, oi b6, oi b7, oi 0, oi 4, oa b64, oa o_72] [(.int b4), (.int 3), (.int 2), (.ref o_72)]))
    refine qS B X79 hZ hown 146 147 8 148 rfl rfl rfl rfl (own_atY hw (2 : Int32) b4 (nar .byte ((((((0 : Int32) ||| ((own_s18 (own_w b2 b3 b4)) <<< ((18 : Int32) &&& 31))) ||| ((own_s12 (own_w b2 b3 b4)) <<< ((12 : Int32) &&& 31))) ||| ((own_s6 (own_w b2 b3 b4)) <<< ((6 : Int32) &&& 31))) ||| ((own_s0 (own_w b2 b3 b4)) <<< ((0 : Int32) &&& 31))).toInt8.toInt32)) O72 (by decide) (by decide) r72_0 rfl og0.2.2) e79 own_pd24 rfl rfl at_231 0 rfl rfl rfl (by decide) ?_
    rintro T80 h80 _ L80 X80 e80 ⟨rfl, M80, rfl⟩
    have N80 := Fr.app N79 M80
    refine q_ifNo B X80 at_234 rfl ((if0 _ _).trans (feq (by decide)).1) rfl ?_
    refine q_aload B X80 at_237 rfl rfl rfl ?_
    refine q_iconst B X80 at_239 rfl ?_
    refine q_iloadN B X80 at_240 rfl rfl ?_
    refine q_iload B X80 at_241 rfl rfl ?_
    show G (T80.setTop (mkF m 243 #[oi i0, oi i1, oi i2, oi 3, oi b2, oi b3, oi b4, oi b5, oi b6, oi b7, oi 0, oi 4, oa b64, oa o_72] [(.int b5), (.int 3), (.int 3), (.ref o_72)]))
    refine qS B X80 hZ hown 146 147 8 148 rfl rfl rfl rfl (own_atN hw o_72 (3 : Int32) (3 : Int32) b5 O72 (by decide)) e80 own_pd24 rfl rfl at_243 0 rfl rfl rfl (by decide) ?_
    rintro T81 h81 _ L81 X81 e81 ⟨rfl, M81, rfl⟩
    have N81 := Fr.app N80 M81
    refine q_ifNo B X81 at_246 rfl ((if0 _ _).trans (feq (by decide)).1) rfl ?_
    refine q_aload B X81 at_249 rfl rfl rfl ?_
    refine q_iconst B X81 at_251 rfl ?_
    refine q_iloadN B X81 at_252 rfl rfl ?_
    refine q_iload B X81 at_253 rfl rfl ?_
    show G (T81.setTop (mkF m 255 #[oi i0, oi i1, oi i2, oi 3, oi b2, oi b3, oi b4, oi b5, oi b6, oi b7, oi 0, oi 4, oa b64, oa o_72] [(.int b6), (.int 3), (.int 4), (.ref o_72)]))
    refine qS B X81 hZ hown 146 147 8 148 rfl rfl rfl rfl (own_atN hw o_72 (4 : Int32) (3 : Int32) b6 O72 (by decide)) e81 own_pd24 rfl rfl at_255 0 rfl rfl rfl (by decide) ?_
    rintro T82 h82 _ L82 X82 e82 ⟨rfl, M82, rfl⟩
    have N82 := Fr.app N81 M82
    refine q_ifNo B X82 at_258 rfl ((if0 _ _).trans (feq (by decide)).1) rfl ?_
    refine q_aload B X82 at_261 rfl rfl rfl ?_
    refine q_iconst B X82 at_263 rfl ?_
    refine q_iloadN B X82 at_264 rfl rfl ?_
    refine q_iload B X82 at_265 rfl rfl ?_
    show G (T82.setTop (mkF m 267 #[oi i0, oi i1, oi i2, oi 3, oi b2, oi b3, oi b4, oi b5, oi b6, oi b7, oi 0, oi 4, oa b64, oa o_72] [(.int b7), (.int 3), (.int 5), (.ref o_72)]))
    refine qS B X82 hZ hown 146 147 8 148 rfl rfl rfl rfl (own_atN hw o_72 (5 : Int32) (3 : Int32) b7 O72 (by decide)) e82 own_pd24 rfl rfl at_267 0 rfl rfl rfl (by decide) ?_
    rintro T83 h83 _ L83 X83 e83 ⟨rfl, M83, rfl⟩
    have N83 := Fr.app N82 M83
    refine q_ifNo B X83 at_270 rfl ((if0 _ _).trans (feq (by decide)).1) rfl ?_
    refine q_iconst B X83 at_273 rfl ?_
    refine q_goto 278 B X83 at_274 rfl rfl (by decide) ?_
    show G (T83.setTop (mkF m 278 #[oi i0, oi i1, oi i2, oi 3, oi b2, oi b3, oi b4, oi b5, oi b6, oi b7, oi 0, oi 4, oa b64, oa o_72] [(.int 1)]))
    exact qRNW B hR hret (by simp) X83 at_278 e83 SI0 (Nat.le_trans (Nat.le_trans (Nat.le_trans (Nat.le_trans (Nat.le_trans (Nat.le_refl _) R64.2.1) R66.2.1) R68.2.1) R69.2.1) R72.2.1) hZ C72 ⟨rfl, N83, K72⟩ (by decide)
  · skip
    show G (s₁.setTop (mkF m 63 #[oi i0, oi i1, oi i2, oi 4, oi b2, oi b3, oi b4, oi b5, oi b6, oi b7, .unset, .unset, .unset, .unset] [(.int 4)]))
    refine q_iconst B X0 at_63 rfl ?_
    refine hG _ _ (fun t_ k_ => iremM X0 hx rfl (hb hby at_64) rfl (by decide) k_) ?_
    show G (s₁.setTop (mkF m 65 #[oi i0, oi i1, oi i2, oi 4, oi b2, oi b3, oi b4, oi b5, oi b6, oi b7, .unset, .unset, .unset, .unset] [(.int ((4 : Int32) % (3 : Int32)))]))
    rw [show ((4 : Int32) % (3 : Int32)) = (1 : Int32) from by decide]
    show G (s₁.setTop (mkF m 65 #[oi i0, oi i1, oi i2, oi 4, oi b2, oi b3, oi b4, oi b5, oi b6, oi b7, .unset, .unset, .unset, .unset] [(.int 1)]))
    refine q_istore B X0 at_65 rfl rfl rfl ?_
    refine q_iconst B X0 at_67 rfl ?_
    refine q_iloadN B X0 at_68 rfl rfl ?_
    refine q_iconst B X0 at_69 rfl ?_
    refine q_idiv B X0 at_70 rfl (by decide) rfl ?_
    show G (s₁.setTop (mkF m 71 #[oi i0, oi i1, oi i2, oi 4, oi b2, oi b3, oi b4, oi b5, oi b6, oi b7, oi 1, .unset, .unset, .unset] [(.int ((4 : Int32) / (3 : Int32))), (.int 4)]))
    rw [show ((4 : Int32) / (3 : Int32)) = (1 : Int32) from by decide]
    show G (s₁.setTop (mkF m 71 #[oi i0, oi i1, oi i2, oi 4, oi b2, oi b3, oi b4, oi b5, oi b6, oi b7, oi 1, .unset, .unset, .unset] [(.int 1), (.int 4)]))
    refine q_imul B X0 at_71 rfl rfl ?_
    show G (s₁.setTop (mkF m 72 #[oi i0, oi i1, oi i2, oi 4, oi b2, oi b3, oi b4, oi b5, oi b6, oi b7, oi 1, .unset, .unset, .unset] [(.int ((4 : Int32) * (1 : Int32)))]))
    rw [show ((4 : Int32) * (1 : Int32)) = (4 : Int32) from by decide]
    show G (s₁.setTop (mkF m 72 #[oi i0, oi i1, oi i2, oi 4, oi b2, oi b3, oi b4, oi b5, oi b6, oi b7, oi 1, .unset, .unset, .unset] [(.int 4)]))
    refine q_iload B X0 at_72 rfl rfl ?_
    refine q_ifYes 81 B X0 at_74 rfl ((if0 _ _).trans (feq (by decide)).2) rfl rfl (by decide) ?_
    refine q_iload B X0 at_81 rfl rfl ?_
    refine q_iconst B X0 at_83 rfl ?_
    refine q_iadd B X0 at_84 rfl rfl ?_
    show G (s₁.setTop (mkF m 85 #[oi i0, oi i1, oi i2, oi 4, oi b2, oi b3, oi b4, oi b5, oi b6, oi b7, oi 1, .unset, .unset, .unset] [(.int ((1 : Int32) + (1 : Int32))), (.int 4)]))
    rw [show ((1 : Int32) + (1 : Int32)) = (2 : Int32) from by decide]
    show G (s₁.setTop (mkF m 85 #[oi i0, oi i1, oi i2, oi 4, oi b2, oi b3, oi b4, oi b5, oi b6, oi b7, oi 1, .unset, .unset, .unset] [(.int 2), (.int 4)]))
    refine q_iadd B X0 at_85 rfl rfl ?_
    show G (s₁.setTop (mkF m 86 #[oi i0, oi i1, oi i2, oi 4, oi b2, oi b3, oi b4, oi b5, oi b6, oi b7, oi 1, .unset, .unset, .unset] [(.int ((4 : Int32) + (2 : Int32)))]))
    rw [show ((4 : Int32) + (2 : Int32)) = (6 : Int32) from by decide]
    show G (s₁.setTop (mkF m 86 #[oi i0, oi i1, oi i2, oi 4, oi b2, oi b3, oi b4, oi b5, oi b6, oi b7, oi 1, .unset, .unset, .unset] [(.int 6)]))
    refine q_istore B X0 at_86 rfl rfl rfl ?_
    refine q_iload B X0 at_88 rfl rfl ?_
    refine qna 6 B X0 hZ 1 rfl e0 at_90 (by decide) (by decide) (by decide) fun T84 h84 k84 b84 z84 X84 e84 E84 A84 => ?_
    have R84 := (CHr.ext E84 H0)
    have C84 := (CHr.refl H0).trans R84
    have K84 := (Keep.refl h0 []).ext E84
    have O84 := O0.ext E84
    have V84 : Arv Z h84 b84 k84 .char (6 : Int32) [(.int 0), (.int 0), (.int 0), (.int 0), (.int 0), (.int 0)] (.int 0) := (Arv.new A84 (by decide)).pad (pad_rep [] (.int 0) 6)
    refine q_astore B X84 at_92 rfl rfl rfl rfl ?_
    refine q_iloadN B X84 at_94 rfl rfl ?_
    refine q_iconst B X84 at_95 rfl ?_
    refine q_icmpNo B X84 at_96 rfl (flt (by decide)).1 rfl ?_
    refine q_aload B X84 at_99 rfl rfl rfl ?_
    refine q_iconst B X84 at_101 rfl ?_
    refine q_iload B X84 at_102 rfl rfl ?_
    refine q_iloadN B X84 at_104 rfl rfl ?_
    refine q_iconst B X84 at_105 rfl ?_
    refine q_icmpNo B X84 at_106 rfl (flt (by decide)).1 rfl ?_
    refine q_iload B X84 at_109 rfl rfl ?_
    refine q_goto 115 B X84 at_111 rfl rfl (by decide) ?_
    refine q_iloadN B X84 at_115 rfl rfl ?_
    refine q_iconst B X84 at_116 rfl ?_
    show G (T84.setTop (mkF m 117 #[oi i0, oi i1, oi i2, oi 4, oi b2, oi b3, oi b4, oi b5, oi b6, oi b7, oi 1, oi 6, oa b84, .unset] [(.int 3), (.int 4), (.int b3), (.int b2), (.int 0), (.ref b84)]))
    refine q_icmpNo B X84 at_117 rfl (flt (by decide)).1 rfl ?_
    refine q_iload B X84 at_120 rfl rfl ?_
    refine q_goto 126 B X84 at_122 rfl rfl (by decide) ?_
    refine q_iloadN B X84 at_126 rfl rfl ?_
    refine q_iconst B X84 at_127 rfl ?_
    show G (T84.setTop (mkF m 128 #[oi i0, oi i1, oi i2, oi 4, oi b2, oi b3, oi b4, oi b5, oi b6, oi b7, oi 1, oi 6, oa b84, .unset] [(.int 3), (.int 4), (.int b4), (.int b3), (.int b2), (.int 0), (.ref b84)]))
    refine qS B X84 hZ hown 2 3 4 5 rfl rfl rfl rfl (own_min_4_3 hw O84) e84 own_pd8 rfl rfl at_128 5 rfl rfl rfl (by decide) ?_
    rintro T85 h85 _ L85 X85 e85 ⟨rfl, M85, rfl⟩
    have N85 := Fr.app N0 M85
    show G (T85.setTop (mkF m 131 #[oi i0, oi i1, oi i2, oi 4, oi b2, oi b3, oi b4, oi b5, oi b6, oi b7, oi 1, oi 6, oa b84, .unset] [(.int 3), (.int b4), (.int b3), (.int b2), (.int 0), (.ref b84)]))
    refine qS B X85 hZ hown 6 7 8 9 rfl rfl rfl rfl (own_put6_0_3 hw b2 b3 b4 O84 V84 (own_ge O0 (Nat.le_of_eq z84.symm))) e85 own_pd23 rfl rfl at_131 0 rfl rfl rfl (by decide) ?_
    rintro T86 h86 _ L86 X86 e86 ⟨z0_86, z1_86, z2_86, z3_86, rfl, M86, J86, r86_0, r86_1, r86_2, r86_3, r86_4⟩
    have N86 := Fr.app N85 M86
    have sf87 : Safe Z consts_1 _ h84 b84 := (own_safeArv hZ.alike V84 (by decide))
    have R86 := (CHr.keep J86 (allS sf87 all0) R84.1)
    have C86 := C84.trans R86
    have K86 := K84.trans J86 (allS (Or.inr (Nat.le_trans (Keep.refl h0 []).1 (Nat.le_of_eq z84.symm))) all0)
    have O86 := O84.keep J86 (allS (own_ge O0 (Nat.le_of_eq z84.symm)) all0)
    show G (T86.setTop (mkF m 134 #[oi i0, oi i1, oi i2, oi 4, oi b2, oi b3, oi b4, oi b5, oi b6, oi b7, oi 1, oi 6, oa b84, .unset] []))
    refine q_iloadN B X86 at_134 rfl rfl ?_
    refine q_iconst B X86 at_135 rfl ?_
    refine q_icmpNo B X86 at_136 rfl (flt (by decide)).1 rfl ?_
    refine q_aload B X86 at_139 rfl rfl rfl ?_
    refine q_iconst B X86 at_141 rfl ?_
    refine q_iload B X86 at_142 rfl rfl ?_
    refine q_iloadN B X86 at_144 rfl rfl ?_
    refine q_iconst B X86 at_145 rfl ?_
    refine q_icmpYes 154 B X86 at_146 rfl (tlt (by decide)).1 rfl rfl (by decide) ?_
    refine q_iconst B X86 at_154 rfl ?_
    refine q_iloadN B X86 at_155 rfl rfl ?_
    refine q_bipush B X86 at_156 rfl ?_
    refine q_icmpYes 166 B X86 at_158 rfl (tlt (by decide)).1 rfl rfl (by decide) ?_
    refine q_iconst B X86 at_166 rfl ?_
    refine q_iloadN B X86 at_167 rfl rfl ?_
    refine q_iconst B X86 at_168 rfl ?_
    refine q_isub B X86 at_169 rfl rfl ?_
    show G (T86.setTop (mkF m 170 #[oi i0, oi i1, oi i2, oi 4, oi b2, oi b3, oi b4, oi b5, oi b6, oi b7, oi 1, oi 6, oa b84, .unset] [(.int ((4 : Int32) - (3 : Int32))), (.int 0), (.int 0), (.int b5), (.int 4), (.ref b84)]))
    rw [show ((4 : Int32) - (3 : Int32)) = (1 : Int32) from by decide]
    show G (T86.setTop (mkF m 170 #[oi i0, oi i1, oi i2, oi 4, oi b2, oi b3, oi b4, oi b5, oi b6, oi b7, oi 1, oi 6, oa b84, .unset] [(.int 1), (.int 0), (.int 0), (.int b5), (.int 4), (.ref b84)]))
    refine qS B X86 hZ hown 6 7 8 9 rfl rfl rfl rfl (own_put6_4_1 hw b5 (0 : Int32) (0 : Int32) O86 r86_0 (own_ge O0 (Nat.le_of_eq z84.symm))) e86 own_pd23 rfl rfl at_170 0 rfl rfl rfl (by decide) ?_
    rintro T88 h88 _ L88 X88 e88 ⟨z0_88, z1_88, rfl, M88, J88, r88_0, r88_1, r88_2⟩
    have N88 := Fr.app N86 M88
    have sf89 := (R86.safe V84.lt sf87)
    have R88 := (CHr.keep J88 (allS sf89 all0) R86.1)
    have C88 := C86.trans R88
    have K88 := K86.trans J88 (allS (Or.inr (Nat.le_trans (Keep.refl h0 []).1 (Nat.le_of_eq z84.symm))) all0)
    have O88 := O86.keep J88 (allS (own_ge O0 (Nat.le_of_eq z84.symm)) all0)
    show G (T88.setTop (mkF m 173 #[oi i0, oi i1, oi i2, oi 4, oi b2, oi b3, oi b4, oi b5, oi b6, oi b7, oi 1, oi 6, oa b84, .unset] []))
    refine qnw B X88 hZ hown 13 14 15 rfl rfl rfl e88 at_173 (by decide) fun T90 h90 b90 z90 X90 e90 E90 A90 D90 => ?_
    have R90 := (CHr.ext E90 R88.1)
    have C90 := C88.trans R90
    have K90 := K88.ext E90
    have O90 := O88.ext E90
    refine q_dup B X90 at_176 rfl rfl rfl ?_
    refine q_aload B X90 at_177 rfl rfl rfl ?_
    show G (T90.setTop (mkF m 179 #[oi i0, oi i1, oi i2, oi 4, oi b2, oi b3, oi b4, oi b5, oi b6, oi b7, oi 1, oi 6, oa b84, .unset] [(.ref b84), (.ref b90), (.ref b90)]))
    have f92 := (r88_0.ext E90)
    refine qI B X90 hZ hown 16 17 15 18 rfl rfl rfl rfl rfl (own_str1 hw [z0_86, z1_86, z2_86, z3_86, z0_88, z1_88] O90 A90 (D90 (Or.inr (ow hw 39 rfl)) (ty := .byte) (by decide)) (D90 (Or.inr (ow hw 41 rfl)) (ty := (.array .byte)) (by decide)) (own_ge O88 (Nat.le_of_eq z90.symm)) f92 (Nat.le_of_ble_eq_true rfl) (Nat.le_of_ble_eq_true rfl) (own_allc (own_le255 (own_sy8 r86_1)) (own_allc (own_le255 (own_sy8 r86_2)) (own_allc (own_le255 (own_sy8 r86_3)) (own_allc (own_le255 (own_sy8 r86_4)) (own_allc (own_le255 (own_sy8 r88_1)) (own_allc (own_le255 (own_sy8 r88_2)) own_alln)))))) g0_S g1_hcpt) e90 own_pd4 rfl rfl at_179 1 rfl rfl rfl (by decide) ?_
    rintro T91 h91 _ L91 X91 e91 ⟨t_91, kt_91, rfl, M91, J91, y91_0, r91_0, r91_1, r91_2, r91_3, r91_4⟩
    have N91 := Fr.app N88 M91
    have sf93 : Safe Z consts_1 _ h90 b90 := (own_safeStr hZ.alike A90 (D90 (Or.inr (ow hw 41 rfl)) (ty := (.array .byte)) (by decide)))
    have R91 := (CHr.keep J91 (allS sf93 all0) R90.1)
    have C91 := C90.trans R91
    have K91 := K90.trans J91 (allS (Or.inr (Nat.le_trans K88.1 (Nat.le_of_eq z90.symm))) all0)
    have O91 := O90.keep J91 (allS (own_ge O88 (Nat.le_of_eq z90.symm)) all0)
    show G (T91.setTop (mkF m 182 #[oi i0, oi i1, oi i2, oi 4, oi b2, oi b3, oi b4, oi b5, oi b6, oi b7, oi 1, oi 6, oa b84, .unset] [(.ref b90)]))
    have f95 := (((((g7_E.ext E84).keep J86).keep J88).ext E90).keep J91)
    have f96 := (((((g8_F.ext E84).keep J86 (ninS (own_ne g7_E.lt (Nat.le_of_eq z84.symm)) nin0)).keep J88 (ninS (own_ne g7_E.lt (Nat.le_of_eq z84.symm)) nin0)).ext E90).keep J91 (ninS (own_ne (Nat.lt_of_lt_of_le (Nat.lt_of_lt_of_le (Nat.lt_of_lt_of_le g7_E.lt E84.1) J86.1) J88.1) (Nat.le_of_eq z90.symm)) nin0))
    have f97 := (((((g9_F.ext E84).keep J86 (ninS (own_ne g7_E.lt (Nat.le_of_eq z84.symm)) nin0)).keep J88 (ninS (own_ne g7_E.lt (Nat.le_of_eq z84.symm)) nin0)).ext E90).keep J91 (ninS (own_ne (Nat.lt_of_lt_of_le (Nat.lt_of_lt_of_le (Nat.lt_of_lt_of_le g7_E.lt E84.1) J86.1) J88.1) (Nat.le_of_eq z90.symm)) nin0))
    have f98 := (((((g10_V.ext E84).keep J86 (ninS (own_ne g10_V.lt (Nat.le_of_eq z84.symm)) nin0)).keep J88 (ninS (own_ne g10_V.lt (Nat.le_of_eq z84.symm)) nin0)).ext E90).keep J91 (ninS (own_ne (Nat.lt_of_lt_of_le (Nat.lt_of_lt_of_le (Nat.lt_of_lt_of_le g10_V.lt E84.1) J86.1) J88.1) (Nat.le_of_eq z90.symm)) nin0))
    refine qS B X91 hZ hown 42 43 44 45 rfl rfl rfl rfl (own_b64_6 hw z0_86 z1_86 z2_86 z3_86 z0_88 z1_88 (own_s18 (own_w b2 b3 b4)) (own_s12 (own_w b2 b3 b4)) (own_s6 (own_w b2 b3 b4)) (own_s0 (own_w b2 b3 b4)) (own_s18 (own_w b5 (0 : Int32) (0 : Int32))) (own_s12 (own_w b5 (0 : Int32) (0 : Int32))) O91 g2_S g3_S g4_S g5_S g6_hiu f95 f96 f97 f98 r91_0 r91_1 r91_2 r91_3 r91_4 g0_S g1_hcpt r86_1 r86_2 r86_3 r86_4 r88_1 r88_2) e91 own_pd20 rfl rfl at_182 0 rfl rfl rfl (by decide) ?_
    rintro T94 h94 _ L94 X94 e94 ⟨o_94, ko_94, rfl, M94, J94, y94_0, r94_0⟩
    have N94 := Fr.app N91 M94
    have R94 := (CHr.keep J94 all0 R91.1)
    have C94 := C91.trans R94
    have K94 := K91.trans J94 all0
    have O94 := O91.keep J94 all0
    show G (T94.setTop (mkF m 185 #[oi i0, oi i1, oi i2, oi 4, oi b2, oi b3, oi b4, oi b5, oi b6, oi b7, oi 1, oi 6, oa b84, .unset] [(.ref o_94)]))
    have og0 := own_out3 hB_b2 hB_b3 hB_b4 ((own_bitsB (own_Vs (own_w b2 b3 b4)).1 (own_Vs (own_w b2 b3 b4)).2.1 (own_Vs (own_w b2 b3 b4)).2.2.1 (own_Vs (own_w b2 b3 b4)).2.2.2).trans (own_full hB_b2 hB_b3 hB_b4))
    have og1 := own_out3 hB_b5 own_zB own_zB ((own_bits2 (own_Vs (own_w b5 (0 : Int32) (0 : Int32))).1 (own_Vs (own_w b5 (0 : Int32) (0 : Int32))).2.1).trans (own_full2 hB_b5))
    show G (T94.setTop (mkF m 185 #[oi i0, oi i1, oi i2, oi 4, oi b2, oi b3, oi b4, oi b5, oi b6, oi b7, oi 1, oi 6, oa b84, .unset] [(.ref o_94)]))
    refine q_astore B X94 at_185 rfl rfl rfl rfl ?_
    refine q_aload B X94 at_187 rfl rfl rfl ?_
    refine q_ifnullNo B X94 at_189 rfl rfl ?_
    refine q_aload B X94 at_192 rfl rfl rfl ?_
    refine qal B X94 hZ e94 r94_0 at_194 ?_
    refine q_iloadN B X94 at_195 rfl rfl ?_
    refine q_icmpYes 201 B X94 at_196 rfl (teq (by decide)).1 rfl rfl (by decide) ?_
    refine q_aload B X94 at_201 rfl rfl rfl ?_
    refine q_iconst B X94 at_203 rfl ?_
    refine q_iloadN B X94 at_204 rfl rfl ?_
    refine q_iload B X94 at_205 rfl rfl ?_
    show G (T94.setTop (mkF m 207 #[oi i0, oi i1, oi i2, oi 4, oi b2, oi b3, oi b4, oi b5, oi b6, oi b7, oi 1, oi 6, oa b84, oa o_94] [(.int b2), (.int 4), (.int 0), (.ref o_94)]))
    refine qS B X94 hZ hown 146 147 8 148 rfl rfl rfl rfl (own_atY hw (0 : Int32) b2 (nar .byte (((((((own_s18 (own_w b2 b3 b4)) <<< ((18 : Int32) &&& 31)) ||| ((own_s12 (own_w b2 b3 b4)) <<< ((12 : Int32) &&& 31))) ||| ((own_s6 (own_w b2 b3 b4)) <<< ((6 : Int32) &&& 31))) ||| (own_s0 (own_w b2 b3 b4))) >>> ((16 : Int32) &&& 31)).toInt8.toInt32)) O94 (by decide) (by decide) r94_0 rfl og0.1) e94 own_pd24 rfl rfl at_207 0 rfl rfl rfl (by decide) ?_
    rintro T100 h100 _ L100 X100 e100 ⟨rfl, M100, rfl⟩
    have N100 := Fr.app N94 M100
    refine q_ifNo B X100 at_210 rfl ((if0 _ _).trans (feq (by decide)).1) rfl ?_
    refine q_aload B X100 at_213 rfl rfl rfl ?_
    refine q_iconst B X100 at_215 rfl ?_
    refine q_iloadN B X100 at_216 rfl rfl ?_
    refine q_iload B X100 at_217 rfl rfl ?_
    show G (T100.setTop (mkF m 219 #[oi i0, oi i1, oi i2, oi 4, oi b2, oi b3, oi b4, oi b5, oi b6, oi b7, oi 1, oi 6, oa b84, oa o_94] [(.int b3), (.int 4), (.int 1), (.ref o_94)]))
    refine qS B X100 hZ hown 146 147 8 148 rfl rfl rfl rfl (own_atY hw (1 : Int32) b3 (nar .byte (((((((own_s18 (own_w b2 b3 b4)) <<< ((18 : Int32) &&& 31)) ||| ((own_s12 (own_w b2 b3 b4)) <<< ((12 : Int32) &&& 31))) ||| ((own_s6 (own_w b2 b3 b4)) <<< ((6 : Int32) &&& 31))) ||| (own_s0 (own_w b2 b3 b4))) >>> ((8 : Int32) &&& 31)).toInt8.toInt32)) O94 (by decide) (by decide) r94_0 rfl og0.2.1) e100 own_pd24 rfl rfl at_219 0 rfl rfl rfl (by decide) ?_
    rintro T101 h101 _ L101 X101 e101 ⟨rfl, M101, rfl⟩
    have N101 := Fr.app N100 M101
    refine q_ifNo B X101 at_222 rfl ((if0 _ _).trans (feq (by decide)).1) rfl ?_
    refine q_aload B X101 at_225 rfl rfl rfl ?_
    refine q_iconst B X101 at_227 rfl ?_
    refine q_iloadN B X101 at_228 rfl rfl ?_
    refine q_iload B X101 at_229 rfl rfl ?_
    show G (T101.setTop (mkF m 231 #[oi i0, oi i1, oi i2, oi 4, oi b2, oi b3, oi b4, oi b5, oi b6, oi b7, oi 1, oi 6, oa b84, oa o_94] [(.int b4), (.int 4), (.int 2), (.ref o_94)]))
    refine qS B X101 hZ hown 146 147 8 148 rfl rfl rfl rfl (own_atY hw (2 : Int32) b4 (nar .byte ((((((own_s18 (own_w b2 b3 b4)) <<< ((18 : Int32) &&& 31)) ||| ((own_s12 (own_w b2 b3 b4)) <<< ((12 : Int32) &&& 31))) ||| ((own_s6 (own_w b2 b3 b4)) <<< ((6 : Int32) &&& 31))) ||| (own_s0 (own_w b2 b3 b4))).toInt8.toInt32)) O94 (by decide) (by decide) r94_0 rfl og0.2.2) e101 own_pd24 rfl rfl at_231 0 rfl rfl rfl (by decide) ?_
    rintro T102 h102 _ L102 X102 e102 ⟨rfl, M102, rfl⟩
    have N102 := Fr.app N101 M102
    refine q_ifNo B X102 at_234 rfl ((if0 _ _).trans (feq (by decide)).1) rfl ?_
    refine q_aload B X102 at_237 rfl rfl rfl ?_
    refine q_iconst B X102 at_239 rfl ?_
    refine q_iloadN B X102 at_240 rfl rfl ?_
    refine q_iload B X102 at_241 rfl rfl ?_
    show G (T102.setTop (mkF m 243 #[oi i0, oi i1, oi i2, oi 4, oi b2, oi b3, oi b4, oi b5, oi b6, oi b7, oi 1, oi 6, oa b84, oa o_94] [(.int b5), (.int 4), (.int 3), (.ref o_94)]))
    refine qS B X102 hZ hown 146 147 8 148 rfl rfl rfl rfl (own_atY hw (3 : Int32) b5 (nar .byte (((((0 : Int32) ||| ((own_s18 (own_w b5 (0 : Int32) (0 : Int32))) <<< ((18 : Int32) &&& 31))) ||| ((own_s12 (own_w b5 (0 : Int32) (0 : Int32))) <<< ((12 : Int32) &&& 31))) >>> ((16 : Int32) &&& 31)).toInt8.toInt32)) O94 (by decide) (by decide) r94_0 rfl og1.1) e102 own_pd24 rfl rfl at_243 0 rfl rfl rfl (by decide) ?_
    rintro T103 h103 _ L103 X103 e103 ⟨rfl, M103, rfl⟩
    have N103 := Fr.app N102 M103
    refine q_ifNo B X103 at_246 rfl ((if0 _ _).trans (feq (by decide)).1) rfl ?_
    refine q_aload B X103 at_249 rfl rfl rfl ?_
    refine q_iconst B X103 at_251 rfl ?_
    refine q_iloadN B X103 at_252 rfl rfl ?_
    refine q_iload B X103 at_253 rfl rfl ?_
    show G (T103.setTop (mkF m 255 #[oi i0, oi i1, oi i2, oi 4, oi b2, oi b3, oi b4, oi b5, oi b6, oi b7, oi 1, oi 6, oa b84, oa o_94] [(.int b6), (.int 4), (.int 4), (.ref o_94)]))
    refine qS B X103 hZ hown 146 147 8 148 rfl rfl rfl rfl (own_atN hw o_94 (4 : Int32) (4 : Int32) b6 O94 (by decide)) e103 own_pd24 rfl rfl at_255 0 rfl rfl rfl (by decide) ?_
    rintro T104 h104 _ L104 X104 e104 ⟨rfl, M104, rfl⟩
    have N104 := Fr.app N103 M104
    refine q_ifNo B X104 at_258 rfl ((if0 _ _).trans (feq (by decide)).1) rfl ?_
    refine q_aload B X104 at_261 rfl rfl rfl ?_
    refine q_iconst B X104 at_263 rfl ?_
    refine q_iloadN B X104 at_264 rfl rfl ?_
    refine q_iload B X104 at_265 rfl rfl ?_
    show G (T104.setTop (mkF m 267 #[oi i0, oi i1, oi i2, oi 4, oi b2, oi b3, oi b4, oi b5, oi b6, oi b7, oi 1, oi 6, oa b84, oa o_94] [(.int b7), (.int 4), (.int 5), (.ref o_94)]))
    refine qS B X104 hZ hown 146 147 8 148 rfl rfl rfl rfl (own_atN hw o_94 (5 : Int32) (4 : Int32) b7 O94 (by decide)) e104 own_pd24 rfl rfl at_267 0 rfl rfl rfl (by decide) ?_
    rintro T105 h105 _ L105 X105 e105 ⟨rfl, M105, rfl⟩
    have N105 := Fr.app N104 M105
    refine q_ifNo B X105 at_270 rfl ((if0 _ _).trans (feq (by decide)).1) rfl ?_
    refine q_iconst B X105 at_273 rfl ?_
    refine q_goto 278 B X105 at_274 rfl rfl (by decide) ?_
    show G (T105.setTop (mkF m 278 #[oi i0, oi i1, oi i2, oi 4, oi b2, oi b3, oi b4, oi b5, oi b6, oi b7, oi 1, oi 6, oa b84, oa o_94] [(.int 1)]))
    exact qRNW B hR hret (by simp) X105 at_278 e105 SI0 (Nat.le_trans (Nat.le_trans (Nat.le_trans (Nat.le_trans (Nat.le_trans (Nat.le_trans (Nat.le_refl _) R84.2.1) R86.2.1) R88.2.1) R90.2.1) R91.2.1) R94.2.1) hZ C94 ⟨rfl, N105, K94⟩ (by decide)
  · skip
    show G (s₁.setTop (mkF m 63 #[oi i0, oi i1, oi i2, oi 5, oi b2, oi b3, oi b4, oi b5, oi b6, oi b7, .unset, .unset, .unset, .unset] [(.int 5)]))
    refine q_iconst B X0 at_63 rfl ?_
    refine hG _ _ (fun t_ k_ => iremM X0 hx rfl (hb hby at_64) rfl (by decide) k_) ?_
    show G (s₁.setTop (mkF m 65 #[oi i0, oi i1, oi i2, oi 5, oi b2, oi b3, oi b4, oi b5, oi b6, oi b7, .unset, .unset, .unset, .unset] [(.int ((5 : Int32) % (3 : Int32)))]))
    rw [show ((5 : Int32) % (3 : Int32)) = (2 : Int32) from by decide]
    show G (s₁.setTop (mkF m 65 #[oi i0, oi i1, oi i2, oi 5, oi b2, oi b3, oi b4, oi b5, oi b6, oi b7, .unset, .unset, .unset, .unset] [(.int 2)]))
    refine q_istore B X0 at_65 rfl rfl rfl ?_
    refine q_iconst B X0 at_67 rfl ?_
    refine q_iloadN B X0 at_68 rfl rfl ?_
    refine q_iconst B X0 at_69 rfl ?_
    refine q_idiv B X0 at_70 rfl (by decide) rfl ?_
    show G (s₁.setTop (mkF m 71 #[oi i0, oi i1, oi i2, oi 5, oi b2, oi b3, oi b4, oi b5, oi b6, oi b7, oi 2, .unset, .unset, .unset] [(.int ((5 : Int32) / (3 : Int32))), (.int 4)]))
    rw [show ((5 : Int32) / (3 : Int32)) = (1 : Int32) from by decide]
    show G (s₁.setTop (mkF m 71 #[oi i0, oi i1, oi i2, oi 5, oi b2, oi b3, oi b4, oi b5, oi b6, oi b7, oi 2, .unset, .unset, .unset] [(.int 1), (.int 4)]))
    refine q_imul B X0 at_71 rfl rfl ?_
    show G (s₁.setTop (mkF m 72 #[oi i0, oi i1, oi i2, oi 5, oi b2, oi b3, oi b4, oi b5, oi b6, oi b7, oi 2, .unset, .unset, .unset] [(.int ((4 : Int32) * (1 : Int32)))]))
    rw [show ((4 : Int32) * (1 : Int32)) = (4 : Int32) from by decide]
    show G (s₁.setTop (mkF m 72 #[oi i0, oi i1, oi i2, oi 5, oi b2, oi b3, oi b4, oi b5, oi b6, oi b7, oi 2, .unset, .unset, .unset] [(.int 4)]))
    refine q_iload B X0 at_72 rfl rfl ?_
    refine q_ifYes 81 B X0 at_74 rfl ((if0 _ _).trans (feq (by decide)).2) rfl rfl (by decide) ?_
    refine q_iload B X0 at_81 rfl rfl ?_
    refine q_iconst B X0 at_83 rfl ?_
    refine q_iadd B X0 at_84 rfl rfl ?_
    show G (s₁.setTop (mkF m 85 #[oi i0, oi i1, oi i2, oi 5, oi b2, oi b3, oi b4, oi b5, oi b6, oi b7, oi 2, .unset, .unset, .unset] [(.int ((2 : Int32) + (1 : Int32))), (.int 4)]))
    rw [show ((2 : Int32) + (1 : Int32)) = (3 : Int32) from by decide]
    show G (s₁.setTop (mkF m 85 #[oi i0, oi i1, oi i2, oi 5, oi b2, oi b3, oi b4, oi b5, oi b6, oi b7, oi 2, .unset, .unset, .unset] [(.int 3), (.int 4)]))
    refine q_iadd B X0 at_85 rfl rfl ?_
    show G (s₁.setTop (mkF m 86 #[oi i0, oi i1, oi i2, oi 5, oi b2, oi b3, oi b4, oi b5, oi b6, oi b7, oi 2, .unset, .unset, .unset] [(.int ((4 : Int32) + (3 : Int32)))]))
    rw [show ((4 : Int32) + (3 : Int32)) = (7 : Int32) from by decide]
    show G (s₁.setTop (mkF m 86 #[oi i0, oi i1, oi i2, oi 5, oi b2, oi b3, oi b4, oi b5, oi b6, oi b7, oi 2, .unset, .unset, .unset] [(.int 7)]))
    refine q_istore B X0 at_86 rfl rfl rfl ?_
    refine q_iload B X0 at_88 rfl rfl ?_
    refine qna 7 B X0 hZ 1 rfl e0 at_90 (by decide) (by decide) (by decide) fun T106 h106 k106 b106 z106 X106 e106 E106 A106 => ?_
    have R106 := (CHr.ext E106 H0)
    have C106 := (CHr.refl H0).trans R106
    have K106 := (Keep.refl h0 []).ext E106
    have O106 := O0.ext E106
    have V106 : Arv Z h106 b106 k106 .char (7 : Int32) [(.int 0), (.int 0), (.int 0), (.int 0), (.int 0), (.int 0), (.int 0)] (.int 0) := (Arv.new A106 (by decide)).pad (pad_rep [] (.int 0) 7)
    refine q_astore B X106 at_92 rfl rfl rfl rfl ?_
    refine q_iloadN B X106 at_94 rfl rfl ?_
    refine q_iconst B X106 at_95 rfl ?_
    refine q_icmpNo B X106 at_96 rfl (flt (by decide)).1 rfl ?_
    refine q_aload B X106 at_99 rfl rfl rfl ?_
    refine q_iconst B X106 at_101 rfl ?_
    refine q_iload B X106 at_102 rfl rfl ?_
    refine q_iloadN B X106 at_104 rfl rfl ?_
    refine q_iconst B X106 at_105 rfl ?_
    refine q_icmpNo B X106 at_106 rfl (flt (by decide)).1 rfl ?_
    refine q_iload B X106 at_109 rfl rfl ?_
    refine q_goto 115 B X106 at_111 rfl rfl (by decide) ?_
    refine q_iloadN B X106 at_115 rfl rfl ?_
    refine q_iconst B X106 at_116 rfl ?_
    show G (T106.setTop (mkF m 117 #[oi i0, oi i1, oi i2, oi 5, oi b2, oi b3, oi b4, oi b5, oi b6, oi b7, oi 2, oi 7, oa b106, .unset] [(.int 3), (.int 5), (.int b3), (.int b2), (.int 0), (.ref b106)]))
    refine q_icmpNo B X106 at_117 rfl (flt (by decide)).1 rfl ?_
    refine q_iload B X106 at_120 rfl rfl ?_
    refine q_goto 126 B X106 at_122 rfl rfl (by decide) ?_
    refine q_iloadN B X106 at_126 rfl rfl ?_
    refine q_iconst B X106 at_127 rfl ?_
    show G (T106.setTop (mkF m 128 #[oi i0, oi i1, oi i2, oi 5, oi b2, oi b3, oi b4, oi b5, oi b6, oi b7, oi 2, oi 7, oa b106, .unset] [(.int 3), (.int 5), (.int b4), (.int b3), (.int b2), (.int 0), (.ref b106)]))
    refine qS B X106 hZ hown 2 3 4 5 rfl rfl rfl rfl (own_min_5_3 hw O106) e106 own_pd8 rfl rfl at_128 5 rfl rfl rfl (by decide) ?_
    rintro T107 h107 _ L107 X107 e107 ⟨rfl, M107, rfl⟩
    have N107 := Fr.app N0 M107
    show G (T107.setTop (mkF m 131 #[oi i0, oi i1, oi i2, oi 5, oi b2, oi b3, oi b4, oi b5, oi b6, oi b7, oi 2, oi 7, oa b106, .unset] [(.int 3), (.int b4), (.int b3), (.int b2), (.int 0), (.ref b106)]))
    refine qS B X107 hZ hown 6 7 8 9 rfl rfl rfl rfl (own_put7_0_3 hw b2 b3 b4 O106 V106 (own_ge O0 (Nat.le_of_eq z106.symm))) e107 own_pd23 rfl rfl at_131 0 rfl rfl rfl (by decide) ?_
    rintro T108 h108 _ L108 X108 e108 ⟨z0_108, z1_108, z2_108, z3_108, rfl, M108, J108, r108_0, r108_1, r108_2, r108_3, r108_4⟩
    have N108 := Fr.app N107 M108
    have sf109 : Safe Z consts_1 _ h106 b106 := (own_safeArv hZ.alike V106 (by decide))
    have R108 := (CHr.keep J108 (allS sf109 all0) R106.1)
    have C108 := C106.trans R108
    have K108 := K106.trans J108 (allS (Or.inr (Nat.le_trans (Keep.refl h0 []).1 (Nat.le_of_eq z106.symm))) all0)
    have O108 := O106.keep J108 (allS (own_ge O0 (Nat.le_of_eq z106.symm)) all0)
    show G (T108.setTop (mkF m 134 #[oi i0, oi i1, oi i2, oi 5, oi b2, oi b3, oi b4, oi b5, oi b6, oi b7, oi 2, oi 7, oa b106, .unset] []))
    refine q_iloadN B X108 at_134 rfl rfl ?_
    refine q_iconst B X108 at_135 rfl ?_
    refine q_icmpNo B X108 at_136 rfl (flt (by decide)).1 rfl ?_
    refine q_aload B X108 at_139 rfl rfl rfl ?_
    refine q_iconst B X108 at_141 rfl ?_
    refine q_iload B X108 at_142 rfl rfl ?_
    refine q_iloadN B X108 at_144 rfl rfl ?_
    refine q_iconst B X108 at_145 rfl ?_
    refine q_icmpNo B X108 at_146 rfl (flt (by decide)).1 rfl ?_
    refine q_iload B X108 at_149 rfl rfl ?_
    refine q_goto 155 B X108 at_151 rfl rfl (by decide) ?_
    refine q_iloadN B X108 at_155 rfl rfl ?_
    refine q_bipush B X108 at_156 rfl ?_
    refine q_icmpYes 166 B X108 at_158 rfl (tlt (by decide)).1 rfl rfl (by decide) ?_
    refine q_iconst B X108 at_166 rfl ?_
    refine q_iloadN B X108 at_167 rfl rfl ?_
    refine q_iconst B X108 at_168 rfl ?_
    show G (T108.setTop (mkF m 169 #[oi i0, oi i1, oi i2, oi 5, oi b2, oi b3, oi b4, oi b5, oi b6, oi b7, oi 2, oi 7, oa b106, .unset] [(.int 3), (.int 5), (.int 0), (.int b6), (.int b5), (.int 4), (.ref b106)]))
    refine q_isub B X108 at_169 rfl rfl ?_
    show G (T108.setTop (mkF m 170 #[oi i0, oi i1, oi i2, oi 5, oi b2, oi b3, oi b4, oi b5, oi b6, oi b7, oi 2, oi 7, oa b106, .unset] [(.int ((5 : Int32) - (3 : Int32))), (.int 0), (.int b6), (.int b5), (.int 4), (.ref b106)]))
    rw [show ((5 : Int32) - (3 : Int32)) = (2 : Int32) from by decide]
    show G (T108.setTop (mkF m 170 #[oi i0, oi i1, oi i2, oi 5, oi b2, oi b3, oi b4, oi b5, oi b6, oi b7, oi 2, oi 7, oa b106, .unset] [(.int 2), (.int 0), (.int b6), (.int b5), (.int 4), (.ref b106)]))
    refine qS B X108 hZ hown 6 7 8 9 rfl rfl rfl rfl (own_put7_4_2 hw b5 b6 (0 : Int32) O108 r108_0 (own_ge O0 (Nat.le_of_eq z106.symm))) e108 own_pd23 rfl rfl at_170 0 rfl rfl rfl (by decide) ?_
    rintro T110 h110 _ L110 X110 e110 ⟨z0_110, z1_110, z2_110, rfl, M110, J110, r110_0, r110_1, r110_2, r110_3⟩
    have N110 := Fr.app N108 M110
    have sf111 := (R108.safe V106.lt sf109)
    have R110 := (CHr.keep J110 (allS sf111 all0) R108.1)
    have C110 := C108.trans R110
    have K110 := K108.trans J110 (allS (Or.inr (Nat.le_trans (Keep.refl h0 []).1 (Nat.le_of_eq z106.symm))) all0)
    have O110 := O108.keep J110 (allS (own_ge O0 (Nat.le_of_eq z106.symm)) all0)
    show G (T110.setTop (mkF m 173 #[oi i0, oi i1, oi i2, oi 5, oi b2, oi b3, oi b4, oi b5, oi b6, oi b7, oi 2, oi 7, oa b106, .unset] []))
    refine qnw B X110 hZ hown 13 14 15 rfl rfl rfl e110 at_173 (by decide) fun T112 h112 b112 z112 X112 e112 E112 A112 D112 => ?_
    have R112 := (CHr.ext E112 R110.1)
    have C112 := C110.trans R112
    have K112 := K110.ext E112
    have O112 := O110.ext E112
    refine q_dup B X112 at_176 rfl rfl rfl ?_
    refine q_aload B X112 at_177 rfl rfl rfl ?_
    show G (T112.setTop (mkF m 179 #[oi i0, oi i1, oi i2, oi 5, oi b2, oi b3, oi b4, oi b5, oi b6, oi b7, oi 2, oi 7, oa b106, .unset] [(.ref b106), (.ref b112), (.ref b112)]))
    have f114 := (r110_0.ext E112)
    refine qI B X112 hZ hown 16 17 15 18 rfl rfl rfl rfl rfl (own_str1 hw [z0_108, z1_108, z2_108, z3_108, z0_110, z1_110, z2_110] O112 A112 (D112 (Or.inr (ow hw 39 rfl)) (ty := .byte) (by decide)) (D112 (Or.inr (ow hw 41 rfl)) (ty := (.array .byte)) (by decide)) (own_ge O110 (Nat.le_of_eq z112.symm)) f114 (Nat.le_of_ble_eq_true rfl) (Nat.le_of_ble_eq_true rfl) (own_allc (own_le255 (own_sy8 r108_1)) (own_allc (own_le255 (own_sy8 r108_2)) (own_allc (own_le255 (own_sy8 r108_3)) (own_allc (own_le255 (own_sy8 r108_4)) (own_allc (own_le255 (own_sy8 r110_1)) (own_allc (own_le255 (own_sy8 r110_2)) (own_allc (own_le255 (own_sy8 r110_3)) own_alln))))))) g0_S g1_hcpt) e112 own_pd4 rfl rfl at_179 1 rfl rfl rfl (by decide) ?_
    rintro T113 h113 _ L113 X113 e113 ⟨t_113, kt_113, rfl, M113, J113, y113_0, r113_0, r113_1, r113_2, r113_3, r113_4⟩
    have N113 := Fr.app N110 M113
    have sf115 : Safe Z consts_1 _ h112 b112 := (own_safeStr hZ.alike A112 (D112 (Or.inr (ow hw 41 rfl)) (ty := (.array .byte)) (by decide)))
    have R113 := (CHr.keep J113 (allS sf115 all0) R112.1)
    have C113 := C112.trans R113
    have K113 := K112.trans J113 (allS (Or.inr (Nat.le_trans K110.1 (Nat.le_of_eq z112.symm))) all0)
    have O113 := O112.keep J113 (allS (own_ge O110 (Nat.le_of_eq z112.symm)) all0)
    show G (T113.setTop (mkF m 182 #[oi i0, oi i1, oi i2, oi 5, oi b2, oi b3, oi b4, oi b5, oi b6, oi b7, oi 2, oi 7, oa b106, .unset] [(.ref b112)]))
    have f117 := (((((g7_E.ext E106).keep J108).keep J110).ext E112).keep J113)
    have f118 := (((((g8_F.ext E106).keep J108 (ninS (own_ne g7_E.lt (Nat.le_of_eq z106.symm)) nin0)).keep J110 (ninS (own_ne g7_E.lt (Nat.le_of_eq z106.symm)) nin0)).ext E112).keep J113 (ninS (own_ne (Nat.lt_of_lt_of_le (Nat.lt_of_lt_of_le (Nat.lt_of_lt_of_le g7_E.lt E106.1) J108.1) J110.1) (Nat.le_of_eq z112.symm)) nin0))
    have f119 := (((((g9_F.ext E106).keep J108 (ninS (own_ne g7_E.lt (Nat.le_of_eq z106.symm)) nin0)).keep J110 (ninS (own_ne g7_E.lt (Nat.le_of_eq z106.symm)) nin0)).ext E112).keep J113 (ninS (own_ne (Nat.lt_of_lt_of_le (Nat.lt_of_lt_of_le (Nat.lt_of_lt_of_le g7_E.lt E106.1) J108.1) J110.1) (Nat.le_of_eq z112.symm)) nin0))
    have f120 := (((((g10_V.ext E106).keep J108 (ninS (own_ne g10_V.lt (Nat.le_of_eq z106.symm)) nin0)).keep J110 (ninS (own_ne g10_V.lt (Nat.le_of_eq z106.symm)) nin0)).ext E112).keep J113 (ninS (own_ne (Nat.lt_of_lt_of_le (Nat.lt_of_lt_of_le (Nat.lt_of_lt_of_le g10_V.lt E106.1) J108.1) J110.1) (Nat.le_of_eq z112.symm)) nin0))
    refine qS B X113 hZ hown 42 43 44 45 rfl rfl rfl rfl (own_b64_7 hw z0_108 z1_108 z2_108 z3_108 z0_110 z1_110 z2_110 (own_s18 (own_w b2 b3 b4)) (own_s12 (own_w b2 b3 b4)) (own_s6 (own_w b2 b3 b4)) (own_s0 (own_w b2 b3 b4)) (own_s18 (own_w b5 b6 (0 : Int32))) (own_s12 (own_w b5 b6 (0 : Int32))) (own_s6 (own_w b5 b6 (0 : Int32))) O113 g2_S g3_S g4_S g5_S g6_hiu f117 f118 f119 f120 r113_0 r113_1 r113_2 r113_3 r113_4 g0_S g1_hcpt r108_1 r108_2 r108_3 r108_4 r110_1 r110_2 r110_3) e113 own_pd20 rfl rfl at_182 0 rfl rfl rfl (by decide) ?_
    rintro T116 h116 _ L116 X116 e116 ⟨o_116, ko_116, rfl, M116, J116, y116_0, r116_0⟩
    have N116 := Fr.app N113 M116
    have R116 := (CHr.keep J116 all0 R113.1)
    have C116 := C113.trans R116
    have K116 := K113.trans J116 all0
    have O116 := O113.keep J116 all0
    show G (T116.setTop (mkF m 185 #[oi i0, oi i1, oi i2, oi 5, oi b2, oi b3, oi b4, oi b5, oi b6, oi b7, oi 2, oi 7, oa b106, .unset] [(.ref o_116)]))
    have og0 := own_out3 hB_b2 hB_b3 hB_b4 ((own_bitsB (own_Vs (own_w b2 b3 b4)).1 (own_Vs (own_w b2 b3 b4)).2.1 (own_Vs (own_w b2 b3 b4)).2.2.1 (own_Vs (own_w b2 b3 b4)).2.2.2).trans (own_full hB_b2 hB_b3 hB_b4))
    have og1 := own_out3 hB_b5 hB_b6 own_zB ((own_bits3 (own_Vs (own_w b5 b6 (0 : Int32))).1 (own_Vs (own_w b5 b6 (0 : Int32))).2.1 (own_Vs (own_w b5 b6 (0 : Int32))).2.2.1).trans (own_full3 hB_b5 hB_b6))
    show G (T116.setTop (mkF m 185 #[oi i0, oi i1, oi i2, oi 5, oi b2, oi b3, oi b4, oi b5, oi b6, oi b7, oi 2, oi 7, oa b106, .unset] [(.ref o_116)]))
    refine q_astore B X116 at_185 rfl rfl rfl rfl ?_
    refine q_aload B X116 at_187 rfl rfl rfl ?_
    refine q_ifnullNo B X116 at_189 rfl rfl ?_
    refine q_aload B X116 at_192 rfl rfl rfl ?_
    refine qal B X116 hZ e116 r116_0 at_194 ?_
    refine q_iloadN B X116 at_195 rfl rfl ?_
    refine q_icmpYes 201 B X116 at_196 rfl (teq (by decide)).1 rfl rfl (by decide) ?_
    refine q_aload B X116 at_201 rfl rfl rfl ?_
    refine q_iconst B X116 at_203 rfl ?_
    refine q_iloadN B X116 at_204 rfl rfl ?_
    refine q_iload B X116 at_205 rfl rfl ?_
    show G (T116.setTop (mkF m 207 #[oi i0, oi i1, oi i2, oi 5, oi b2, oi b3, oi b4, oi b5, oi b6, oi b7, oi 2, oi 7, oa b106, oa o_116] [(.int b2), (.int 5), (.int 0), (.ref o_116)]))
    refine qS B X116 hZ hown 146 147 8 148 rfl rfl rfl rfl (own_atY hw (0 : Int32) b2 (nar .byte (((((((own_s18 (own_w b2 b3 b4)) <<< ((18 : Int32) &&& 31)) ||| ((own_s12 (own_w b2 b3 b4)) <<< ((12 : Int32) &&& 31))) ||| ((own_s6 (own_w b2 b3 b4)) <<< ((6 : Int32) &&& 31))) ||| (own_s0 (own_w b2 b3 b4))) >>> ((16 : Int32) &&& 31)).toInt8.toInt32)) O116 (by decide) (by decide) r116_0 rfl og0.1) e116 own_pd24 rfl rfl at_207 0 rfl rfl rfl (by decide) ?_
    rintro T122 h122 _ L122 X122 e122 ⟨rfl, M122, rfl⟩
    have N122 := Fr.app N116 M122
    refine q_ifNo B X122 at_210 rfl ((if0 _ _).trans (feq (by decide)).1) rfl ?_
    refine q_aload B X122 at_213 rfl rfl rfl ?_
    refine q_iconst B X122 at_215 rfl ?_
    refine q_iloadN B X122 at_216 rfl rfl ?_
    refine q_iload B X122 at_217 rfl rfl ?_
    show G (T122.setTop (mkF m 219 #[oi i0, oi i1, oi i2, oi 5, oi b2, oi b3, oi b4, oi b5, oi b6, oi b7, oi 2, oi 7, oa b106, oa o_116] [(.int b3), (.int 5), (.int 1), (.ref o_116)]))
    refine qS B X122 hZ hown 146 147 8 148 rfl rfl rfl rfl (own_atY hw (1 : Int32) b3 (nar .byte (((((((own_s18 (own_w b2 b3 b4)) <<< ((18 : Int32) &&& 31)) ||| ((own_s12 (own_w b2 b3 b4)) <<< ((12 : Int32) &&& 31))) ||| ((own_s6 (own_w b2 b3 b4)) <<< ((6 : Int32) &&& 31))) ||| (own_s0 (own_w b2 b3 b4))) >>> ((8 : Int32) &&& 31)).toInt8.toInt32)) O116 (by decide) (by decide) r116_0 rfl og0.2.1) e122 own_pd24 rfl rfl at_219 0 rfl rfl rfl (by decide) ?_
    rintro T123 h123 _ L123 X123 e123 ⟨rfl, M123, rfl⟩
    have N123 := Fr.app N122 M123
    refine q_ifNo B X123 at_222 rfl ((if0 _ _).trans (feq (by decide)).1) rfl ?_
    refine q_aload B X123 at_225 rfl rfl rfl ?_
    refine q_iconst B X123 at_227 rfl ?_
    refine q_iloadN B X123 at_228 rfl rfl ?_
    refine q_iload B X123 at_229 rfl rfl ?_
    show G (T123.setTop (mkF m 231 #[oi i0, oi i1, oi i2, oi 5, oi b2, oi b3, oi b4, oi b5, oi b6, oi b7, oi 2, oi 7, oa b106, oa o_116] [(.int b4), (.int 5), (.int 2), (.ref o_116)]))
    refine qS B X123 hZ hown 146 147 8 148 rfl rfl rfl rfl (own_atY hw (2 : Int32) b4 (nar .byte ((((((own_s18 (own_w b2 b3 b4)) <<< ((18 : Int32) &&& 31)) ||| ((own_s12 (own_w b2 b3 b4)) <<< ((12 : Int32) &&& 31))) ||| ((own_s6 (own_w b2 b3 b4)) <<< ((6 : Int32) &&& 31))) ||| (own_s0 (own_w b2 b3 b4))).toInt8.toInt32)) O116 (by decide) (by decide) r116_0 rfl og0.2.2) e123 own_pd24 rfl rfl at_231 0 rfl rfl rfl (by decide) ?_
    rintro T124 h124 _ L124 X124 e124 ⟨rfl, M124, rfl⟩
    have N124 := Fr.app N123 M124
    refine q_ifNo B X124 at_234 rfl ((if0 _ _).trans (feq (by decide)).1) rfl ?_
    refine q_aload B X124 at_237 rfl rfl rfl ?_
    refine q_iconst B X124 at_239 rfl ?_
    refine q_iloadN B X124 at_240 rfl rfl ?_
    refine q_iload B X124 at_241 rfl rfl ?_
    show G (T124.setTop (mkF m 243 #[oi i0, oi i1, oi i2, oi 5, oi b2, oi b3, oi b4, oi b5, oi b6, oi b7, oi 2, oi 7, oa b106, oa o_116] [(.int b5), (.int 5), (.int 3), (.ref o_116)]))
    refine qS B X124 hZ hown 146 147 8 148 rfl rfl rfl rfl (own_atY hw (3 : Int32) b5 (nar .byte ((((((0 : Int32) ||| ((own_s18 (own_w b5 b6 (0 : Int32))) <<< ((18 : Int32) &&& 31))) ||| ((own_s12 (own_w b5 b6 (0 : Int32))) <<< ((12 : Int32) &&& 31))) ||| ((own_s6 (own_w b5 b6 (0 : Int32))) <<< ((6 : Int32) &&& 31))) >>> ((16 : Int32) &&& 31)).toInt8.toInt32)) O116 (by decide) (by decide) r116_0 rfl og1.1) e124 own_pd24 rfl rfl at_243 0 rfl rfl rfl (by decide) ?_
    rintro T125 h125 _ L125 X125 e125 ⟨rfl, M125, rfl⟩
    have N125 := Fr.app N124 M125
    refine q_ifNo B X125 at_246 rfl ((if0 _ _).trans (feq (by decide)).1) rfl ?_
    refine q_aload B X125 at_249 rfl rfl rfl ?_
    refine q_iconst B X125 at_251 rfl ?_
    refine q_iloadN B X125 at_252 rfl rfl ?_
    refine q_iload B X125 at_253 rfl rfl ?_
    show G (T125.setTop (mkF m 255 #[oi i0, oi i1, oi i2, oi 5, oi b2, oi b3, oi b4, oi b5, oi b6, oi b7, oi 2, oi 7, oa b106, oa o_116] [(.int b6), (.int 5), (.int 4), (.ref o_116)]))
    refine qS B X125 hZ hown 146 147 8 148 rfl rfl rfl rfl (own_atY hw (4 : Int32) b6 (nar .byte ((((((0 : Int32) ||| ((own_s18 (own_w b5 b6 (0 : Int32))) <<< ((18 : Int32) &&& 31))) ||| ((own_s12 (own_w b5 b6 (0 : Int32))) <<< ((12 : Int32) &&& 31))) ||| ((own_s6 (own_w b5 b6 (0 : Int32))) <<< ((6 : Int32) &&& 31))) >>> ((8 : Int32) &&& 31)).toInt8.toInt32)) O116 (by decide) (by decide) r116_0 rfl og1.2.1) e125 own_pd24 rfl rfl at_255 0 rfl rfl rfl (by decide) ?_
    rintro T126 h126 _ L126 X126 e126 ⟨rfl, M126, rfl⟩
    have N126 := Fr.app N125 M126
    refine q_ifNo B X126 at_258 rfl ((if0 _ _).trans (feq (by decide)).1) rfl ?_
    refine q_aload B X126 at_261 rfl rfl rfl ?_
    refine q_iconst B X126 at_263 rfl ?_
    refine q_iloadN B X126 at_264 rfl rfl ?_
    refine q_iload B X126 at_265 rfl rfl ?_
    show G (T126.setTop (mkF m 267 #[oi i0, oi i1, oi i2, oi 5, oi b2, oi b3, oi b4, oi b5, oi b6, oi b7, oi 2, oi 7, oa b106, oa o_116] [(.int b7), (.int 5), (.int 5), (.ref o_116)]))
    refine qS B X126 hZ hown 146 147 8 148 rfl rfl rfl rfl (own_atN hw o_116 (5 : Int32) (5 : Int32) b7 O116 (by decide)) e126 own_pd24 rfl rfl at_267 0 rfl rfl rfl (by decide) ?_
    rintro T127 h127 _ L127 X127 e127 ⟨rfl, M127, rfl⟩
    have N127 := Fr.app N126 M127
    refine q_ifNo B X127 at_270 rfl ((if0 _ _).trans (feq (by decide)).1) rfl ?_
    refine q_iconst B X127 at_273 rfl ?_
    refine q_goto 278 B X127 at_274 rfl rfl (by decide) ?_
    show G (T127.setTop (mkF m 278 #[oi i0, oi i1, oi i2, oi 5, oi b2, oi b3, oi b4, oi b5, oi b6, oi b7, oi 2, oi 7, oa b106, oa o_116] [(.int 1)]))
    exact qRNW B hR hret (by simp) X127 at_278 e127 SI0 (Nat.le_trans (Nat.le_trans (Nat.le_trans (Nat.le_trans (Nat.le_trans (Nat.le_trans (Nat.le_refl _) R106.2.1) R108.2.1) R110.2.1) R112.2.1) R113.2.1) R116.2.1) hZ C116 ⟨rfl, N127, K116⟩ (by decide)
  · skip
    show G (s₁.setTop (mkF m 63 #[oi i0, oi i1, oi i2, oi 6, oi b2, oi b3, oi b4, oi b5, oi b6, oi b7, .unset, .unset, .unset, .unset] [(.int 6)]))
    refine q_iconst B X0 at_63 rfl ?_
    refine hG _ _ (fun t_ k_ => iremM X0 hx rfl (hb hby at_64) rfl (by decide) k_) ?_
    show G (s₁.setTop (mkF m 65 #[oi i0, oi i1, oi i2, oi 6, oi b2, oi b3, oi b4, oi b5, oi b6, oi b7, .unset, .unset, .unset, .unset] [(.int ((6 : Int32) % (3 : Int32)))]))
    rw [show ((6 : Int32) % (3 : Int32)) = (0 : Int32) from by decide]
    show G (s₁.setTop (mkF m 65 #[oi i0, oi i1, oi i2, oi 6, oi b2, oi b3, oi b4, oi b5, oi b6, oi b7, .unset, .unset, .unset, .unset] [(.int 0)]))
    refine q_istore B X0 at_65 rfl rfl rfl ?_
    refine q_iconst B X0 at_67 rfl ?_
    refine q_iloadN B X0 at_68 rfl rfl ?_
    refine q_iconst B X0 at_69 rfl ?_
    refine q_idiv B X0 at_70 rfl (by decide) rfl ?_
    show G (s₁.setTop (mkF m 71 #[oi i0, oi i1, oi i2, oi 6, oi b2, oi b3, oi b4, oi b5, oi b6, oi b7, oi 0, .unset, .unset, .unset] [(.int ((6 : Int32) / (3 : Int32))), (.int 4)]))
    rw [show ((6 : Int32) / (3 : Int32)) = (2 : Int32) from by decide]
    show G (s₁.setTop (mkF m 71 #[oi i0, oi i1, oi i2, oi 6, oi b2, oi b3, oi b4, oi b5, oi b6, oi b7, oi 0, .unset, .unset, .unset] [(.int 2), (.int 4)]))
    refine q_imul B X0 at_71 rfl rfl ?_
    show G (s₁.setTop (mkF m 72 #[oi i0, oi i1, oi i2, oi 6, oi b2, oi b3, oi b4, oi b5, oi b6, oi b7, oi 0, .unset, .unset, .unset] [(.int ((4 : Int32) * (2 : Int32)))]))
    rw [show ((4 : Int32) * (2 : Int32)) = (8 : Int32) from by decide]
    show G (s₁.setTop (mkF m 72 #[oi i0, oi i1, oi i2, oi 6, oi b2, oi b3, oi b4, oi b5, oi b6, oi b7, oi 0, .unset, .unset, .unset] [(.int 8)]))
    refine q_iload B X0 at_72 rfl rfl ?_
    refine q_ifNo B X0 at_74 rfl ((if0 _ _).trans (teq (by decide)).2) rfl ?_
    refine q_iconst B X0 at_77 rfl ?_
    refine q_goto 85 B X0 at_78 rfl rfl (by decide) ?_
    refine q_iadd B X0 at_85 rfl rfl ?_
    show G (s₁.setTop (mkF m 86 #[oi i0, oi i1, oi i2, oi 6, oi b2, oi b3, oi b4, oi b5, oi b6, oi b7, oi 0, .unset, .unset, .unset] [(.int ((8 : Int32) + (0 : Int32)))]))
    rw [show ((8 : Int32) + (0 : Int32)) = (8 : Int32) from by decide]
    show G (s₁.setTop (mkF m 86 #[oi i0, oi i1, oi i2, oi 6, oi b2, oi b3, oi b4, oi b5, oi b6, oi b7, oi 0, .unset, .unset, .unset] [(.int 8)]))
    refine q_istore B X0 at_86 rfl rfl rfl ?_
    refine q_iload B X0 at_88 rfl rfl ?_
    refine qna 8 B X0 hZ 1 rfl e0 at_90 (by decide) (by decide) (by decide) fun T128 h128 k128 b128 z128 X128 e128 E128 A128 => ?_
    have R128 := (CHr.ext E128 H0)
    have C128 := (CHr.refl H0).trans R128
    have K128 := (Keep.refl h0 []).ext E128
    have O128 := O0.ext E128
    have V128 : Arv Z h128 b128 k128 .char (8 : Int32) [(.int 0), (.int 0), (.int 0), (.int 0), (.int 0), (.int 0), (.int 0), (.int 0)] (.int 0) := (Arv.new A128 (by decide)).pad (pad_rep [] (.int 0) 8)
    refine q_astore B X128 at_92 rfl rfl rfl rfl ?_
    refine q_iloadN B X128 at_94 rfl rfl ?_
    refine q_iconst B X128 at_95 rfl ?_
    refine q_icmpNo B X128 at_96 rfl (flt (by decide)).1 rfl ?_
    refine q_aload B X128 at_99 rfl rfl rfl ?_
    refine q_iconst B X128 at_101 rfl ?_
    refine q_iload B X128 at_102 rfl rfl ?_
    refine q_iloadN B X128 at_104 rfl rfl ?_
    refine q_iconst B X128 at_105 rfl ?_
    refine q_icmpNo B X128 at_106 rfl (flt (by decide)).1 rfl ?_
    refine q_iload B X128 at_109 rfl rfl ?_
    refine q_goto 115 B X128 at_111 rfl rfl (by decide) ?_
    refine q_iloadN B X128 at_115 rfl rfl ?_
    refine q_iconst B X128 at_116 rfl ?_
    show G (T128.setTop (mkF m 117 #[oi i0, oi i1, oi i2, oi 6, oi b2, oi b3, oi b4, oi b5, oi b6, oi b7, oi 0, oi 8, oa b128, .unset] [(.int 3), (.int 6), (.int b3), (.int b2), (.int 0), (.ref b128)]))
    refine q_icmpNo B X128 at_117 rfl (flt (by decide)).1 rfl ?_
    refine q_iload B X128 at_120 rfl rfl ?_
    refine q_goto 126 B X128 at_122 rfl rfl (by decide) ?_
    refine q_iloadN B X128 at_126 rfl rfl ?_
    refine q_iconst B X128 at_127 rfl ?_
    show G (T128.setTop (mkF m 128 #[oi i0, oi i1, oi i2, oi 6, oi b2, oi b3, oi b4, oi b5, oi b6, oi b7, oi 0, oi 8, oa b128, .unset] [(.int 3), (.int 6), (.int b4), (.int b3), (.int b2), (.int 0), (.ref b128)]))
    refine qS B X128 hZ hown 2 3 4 5 rfl rfl rfl rfl (own_min_6_3 hw O128) e128 own_pd8 rfl rfl at_128 5 rfl rfl rfl (by decide) ?_
    rintro T129 h129 _ L129 X129 e129 ⟨rfl, M129, rfl⟩
    have N129 := Fr.app N0 M129
    show G (T129.setTop (mkF m 131 #[oi i0, oi i1, oi i2, oi 6, oi b2, oi b3, oi b4, oi b5, oi b6, oi b7, oi 0, oi 8, oa b128, .unset] [(.int 3), (.int b4), (.int b3), (.int b2), (.int 0), (.ref b128)]))
    refine qS B X129 hZ hown 6 7 8 9 rfl rfl rfl rfl (own_put8_0_3 hw b2 b3 b4 O128 V128 (own_ge O0 (Nat.le_of_eq z128.symm))) e129 own_pd23 rfl rfl at_131 0 rfl rfl rfl (by decide) ?_
    rintro T130 h130 _ L130 X130 e130 ⟨z0_130, z1_130, z2_130, z3_130, rfl, M130, J130, r130_0, r130_1, r130_2, r130_3, r130_4⟩
    have N130 := Fr.app N129 M130
    have sf131 : Safe Z consts_1 _ h128 b128 := (own_safeArv hZ.alike V128 (by decide))
    have R130 := (CHr.keep J130 (allS sf131 all0) R128.1)
    have C130 := C128.trans R130
    have K130 := K128.trans J130 (allS (Or.inr (Nat.le_trans (Keep.refl h0 []).1 (Nat.le_of_eq z128.symm))) all0)
    have O130 := O128.keep J130 (allS (own_ge O0 (Nat.le_of_eq z128.symm)) all0)
    show G (T130.setTop (mkF m 134 #[oi i0, oi i1, oi i2, oi 6, oi b2, oi b3, oi b4, oi b5, oi b6, oi b7, oi 0, oi 8, oa b128, .unset] []))
    refine q_iloadN B X130 at_134 rfl rfl ?_
    refine q_iconst B X130 at_135 rfl ?_
    refine q_icmpNo B X130 at_136 rfl (flt (by decide)).1 rfl ?_
    refine q_aload B X130 at_139 rfl rfl rfl ?_
    refine q_iconst B X130 at_141 rfl ?_
    refine q_iload B X130 at_142 rfl rfl ?_
    refine q_iloadN B X130 at_144 rfl rfl ?_
    refine q_iconst B X130 at_145 rfl ?_
    refine q_icmpNo B X130 at_146 rfl (flt (by decide)).1 rfl ?_
    refine q_iload B X130 at_149 rfl rfl ?_
    refine q_goto 155 B X130 at_151 rfl rfl (by decide) ?_
    refine q_iloadN B X130 at_155 rfl rfl ?_
    refine q_bipush B X130 at_156 rfl ?_
    refine q_icmpNo B X130 at_158 rfl (flt (by decide)).1 rfl ?_
    refine q_iload B X130 at_161 rfl rfl ?_
    refine q_goto 167 B X130 at_163 rfl rfl (by decide) ?_
    refine q_iloadN B X130 at_167 rfl rfl ?_
    show G (T130.setTop (mkF m 168 #[oi i0, oi i1, oi i2, oi 6, oi b2, oi b3, oi b4, oi b5, oi b6, oi b7, oi 0, oi 8, oa b128, .unset] [(.int 6), (.int b7), (.int b6), (.int b5), (.int 4), (.ref b128)]))
    refine q_iconst B X130 at_168 rfl ?_
    refine q_isub B X130 at_169 rfl rfl ?_
    show G (T130.setTop (mkF m 170 #[oi i0, oi i1, oi i2, oi 6, oi b2, oi b3, oi b4, oi b5, oi b6, oi b7, oi 0, oi 8, oa b128, .unset] [(.int ((6 : Int32) - (3 : Int32))), (.int b7), (.int b6), (.int b5), (.int 4), (.ref b128)]))
    rw [show ((6 : Int32) - (3 : Int32)) = (3 : Int32) from by decide]
    show G (T130.setTop (mkF m 170 #[oi i0, oi i1, oi i2, oi 6, oi b2, oi b3, oi b4, oi b5, oi b6, oi b7, oi 0, oi 8, oa b128, .unset] [(.int 3), (.int b7), (.int b6), (.int b5), (.int 4), (.ref b128)]))
    refine qS B X130 hZ hown 6 7 8 9 rfl rfl rfl rfl (own_put8_4_3 hw b5 b6 b7 O130 r130_0 (own_ge O0 (Nat.le_of_eq z128.symm))) e130 own_pd23 rfl rfl at_170 0 rfl rfl rfl (by decide) ?_
    rintro T132 h132 _ L132 X132 e132 ⟨z0_132, z1_132, z2_132, z3_132, rfl, M132, J132, r132_0, r132_1, r132_2, r132_3, r132_4⟩
    have N132 := Fr.app N130 M132
    have sf133 := (R130.safe V128.lt sf131)
    have R132 := (CHr.keep J132 (allS sf133 all0) R130.1)
    have C132 := C130.trans R132
    have K132 := K130.trans J132 (allS (Or.inr (Nat.le_trans (Keep.refl h0 []).1 (Nat.le_of_eq z128.symm))) all0)
    have O132 := O130.keep J132 (allS (own_ge O0 (Nat.le_of_eq z128.symm)) all0)
    show G (T132.setTop (mkF m 173 #[oi i0, oi i1, oi i2, oi 6, oi b2, oi b3, oi b4, oi b5, oi b6, oi b7, oi 0, oi 8, oa b128, .unset] []))
    refine qnw B X132 hZ hown 13 14 15 rfl rfl rfl e132 at_173 (by decide) fun T134 h134 b134 z134 X134 e134 E134 A134 D134 => ?_
    have R134 := (CHr.ext E134 R132.1)
    have C134 := C132.trans R134
    have K134 := K132.ext E134
    have O134 := O132.ext E134
    refine q_dup B X134 at_176 rfl rfl rfl ?_
    refine q_aload B X134 at_177 rfl rfl rfl ?_
    show G (T134.setTop (mkF m 179 #[oi i0, oi i1, oi i2, oi 6, oi b2, oi b3, oi b4, oi b5, oi b6, oi b7, oi 0, oi 8, oa b128, .unset] [(.ref b128), (.ref b134), (.ref b134)]))
    have f136 := (r132_0.ext E134)
    refine qI B X134 hZ hown 16 17 15 18 rfl rfl rfl rfl rfl (own_str1 hw [z0_130, z1_130, z2_130, z3_130, z0_132, z1_132, z2_132, z3_132] O134 A134 (D134 (Or.inr (ow hw 39 rfl)) (ty := .byte) (by decide)) (D134 (Or.inr (ow hw 41 rfl)) (ty := (.array .byte)) (by decide)) (own_ge O132 (Nat.le_of_eq z134.symm)) f136 (Nat.le_of_ble_eq_true rfl) (Nat.le_of_ble_eq_true rfl) (own_allc (own_le255 (own_sy8 r130_1)) (own_allc (own_le255 (own_sy8 r130_2)) (own_allc (own_le255 (own_sy8 r130_3)) (own_allc (own_le255 (own_sy8 r130_4)) (own_allc (own_le255 (own_sy8 r132_1)) (own_allc (own_le255 (own_sy8 r132_2)) (own_allc (own_le255 (own_sy8 r132_3)) (own_allc (own_le255 (own_sy8 r132_4)) own_alln)))))))) g0_S g1_hcpt) e134 own_pd4 rfl rfl at_179 1 rfl rfl rfl (by decide) ?_
    rintro T135 h135 _ L135 X135 e135 ⟨t_135, kt_135, rfl, M135, J135, y135_0, r135_0, r135_1, r135_2, r135_3, r135_4⟩
    have N135 := Fr.app N132 M135
    have sf137 : Safe Z consts_1 _ h134 b134 := (own_safeStr hZ.alike A134 (D134 (Or.inr (ow hw 41 rfl)) (ty := (.array .byte)) (by decide)))
    have R135 := (CHr.keep J135 (allS sf137 all0) R134.1)
    have C135 := C134.trans R135
    have K135 := K134.trans J135 (allS (Or.inr (Nat.le_trans K132.1 (Nat.le_of_eq z134.symm))) all0)
    have O135 := O134.keep J135 (allS (own_ge O132 (Nat.le_of_eq z134.symm)) all0)
    show G (T135.setTop (mkF m 182 #[oi i0, oi i1, oi i2, oi 6, oi b2, oi b3, oi b4, oi b5, oi b6, oi b7, oi 0, oi 8, oa b128, .unset] [(.ref b134)]))
    have f139 := (((((g7_E.ext E128).keep J130).keep J132).ext E134).keep J135)
    have f140 := (((((g8_F.ext E128).keep J130 (ninS (own_ne g7_E.lt (Nat.le_of_eq z128.symm)) nin0)).keep J132 (ninS (own_ne g7_E.lt (Nat.le_of_eq z128.symm)) nin0)).ext E134).keep J135 (ninS (own_ne (Nat.lt_of_lt_of_le (Nat.lt_of_lt_of_le (Nat.lt_of_lt_of_le g7_E.lt E128.1) J130.1) J132.1) (Nat.le_of_eq z134.symm)) nin0))
    have f141 := (((((g9_F.ext E128).keep J130 (ninS (own_ne g7_E.lt (Nat.le_of_eq z128.symm)) nin0)).keep J132 (ninS (own_ne g7_E.lt (Nat.le_of_eq z128.symm)) nin0)).ext E134).keep J135 (ninS (own_ne (Nat.lt_of_lt_of_le (Nat.lt_of_lt_of_le (Nat.lt_of_lt_of_le g7_E.lt E128.1) J130.1) J132.1) (Nat.le_of_eq z134.symm)) nin0))
    have f142 := (((((g10_V.ext E128).keep J130 (ninS (own_ne g10_V.lt (Nat.le_of_eq z128.symm)) nin0)).keep J132 (ninS (own_ne g10_V.lt (Nat.le_of_eq z128.symm)) nin0)).ext E134).keep J135 (ninS (own_ne (Nat.lt_of_lt_of_le (Nat.lt_of_lt_of_le (Nat.lt_of_lt_of_le g10_V.lt E128.1) J130.1) J132.1) (Nat.le_of_eq z134.symm)) nin0))
    refine qS B X135 hZ hown 42 43 44 45 rfl rfl rfl rfl (own_b64_8 hw z0_130 z1_130 z2_130 z3_130 z0_132 z1_132 z2_132 z3_132 (own_s18 (own_w b2 b3 b4)) (own_s12 (own_w b2 b3 b4)) (own_s6 (own_w b2 b3 b4)) (own_s0 (own_w b2 b3 b4)) (own_s18 (own_w b5 b6 b7)) (own_s12 (own_w b5 b6 b7)) (own_s6 (own_w b5 b6 b7)) (own_s0 (own_w b5 b6 b7)) O135 g2_S g3_S g4_S g5_S g6_hiu f139 f140 f141 f142 r135_0 r135_1 r135_2 r135_3 r135_4 g0_S g1_hcpt r130_1 r130_2 r130_3 r130_4 r132_1 r132_2 r132_3 r132_4) e135 own_pd20 rfl rfl at_182 0 rfl rfl rfl (by decide) ?_
    rintro T138 h138 _ L138 X138 e138 ⟨o_138, ko_138, rfl, M138, J138, y138_0, r138_0⟩
    have N138 := Fr.app N135 M138
    have R138 := (CHr.keep J138 all0 R135.1)
    have C138 := C135.trans R138
    have K138 := K135.trans J138 all0
    have O138 := O135.keep J138 all0
    show G (T138.setTop (mkF m 185 #[oi i0, oi i1, oi i2, oi 6, oi b2, oi b3, oi b4, oi b5, oi b6, oi b7, oi 0, oi 8, oa b128, .unset] [(.ref o_138)]))
    have og0 := own_out3 hB_b2 hB_b3 hB_b4 ((own_bitsB (own_Vs (own_w b2 b3 b4)).1 (own_Vs (own_w b2 b3 b4)).2.1 (own_Vs (own_w b2 b3 b4)).2.2.1 (own_Vs (own_w b2 b3 b4)).2.2.2).trans (own_full hB_b2 hB_b3 hB_b4))
    have og1 := own_out3 hB_b5 hB_b6 hB_b7 ((own_bitsB (own_Vs (own_w b5 b6 b7)).1 (own_Vs (own_w b5 b6 b7)).2.1 (own_Vs (own_w b5 b6 b7)).2.2.1 (own_Vs (own_w b5 b6 b7)).2.2.2).trans (own_full hB_b5 hB_b6 hB_b7))
    show G (T138.setTop (mkF m 185 #[oi i0, oi i1, oi i2, oi 6, oi b2, oi b3, oi b4, oi b5, oi b6, oi b7, oi 0, oi 8, oa b128, .unset] [(.ref o_138)]))
    refine q_astore B X138 at_185 rfl rfl rfl rfl ?_
    refine q_aload B X138 at_187 rfl rfl rfl ?_
    refine q_ifnullNo B X138 at_189 rfl rfl ?_
    refine q_aload B X138 at_192 rfl rfl rfl ?_
    refine qal B X138 hZ e138 r138_0 at_194 ?_
    refine q_iloadN B X138 at_195 rfl rfl ?_
    refine q_icmpYes 201 B X138 at_196 rfl (teq (by decide)).1 rfl rfl (by decide) ?_
    refine q_aload B X138 at_201 rfl rfl rfl ?_
    refine q_iconst B X138 at_203 rfl ?_
    refine q_iloadN B X138 at_204 rfl rfl ?_
    refine q_iload B X138 at_205 rfl rfl ?_
    show G (T138.setTop (mkF m 207 #[oi i0, oi i1, oi i2, oi 6, oi b2, oi b3, oi b4, oi b5, oi b6, oi b7, oi 0, oi 8, oa b128, oa o_138] [(.int b2), (.int 6), (.int 0), (.ref o_138)]))
    refine qS B X138 hZ hown 146 147 8 148 rfl rfl rfl rfl (own_atY hw (0 : Int32) b2 (nar .byte (((((((own_s18 (own_w b2 b3 b4)) <<< ((18 : Int32) &&& 31)) ||| ((own_s12 (own_w b2 b3 b4)) <<< ((12 : Int32) &&& 31))) ||| ((own_s6 (own_w b2 b3 b4)) <<< ((6 : Int32) &&& 31))) ||| (own_s0 (own_w b2 b3 b4))) >>> ((16 : Int32) &&& 31)).toInt8.toInt32)) O138 (by decide) (by decide) r138_0 rfl og0.1) e138 own_pd24 rfl rfl at_207 0 rfl rfl rfl (by decide) ?_
    rintro T144 h144 _ L144 X144 e144 ⟨rfl, M144, rfl⟩
    have N144 := Fr.app N138 M144
    refine q_ifNo B X144 at_210 rfl ((if0 _ _).trans (feq (by decide)).1) rfl ?_
    refine q_aload B X144 at_213 rfl rfl rfl ?_
    refine q_iconst B X144 at_215 rfl ?_
    refine q_iloadN B X144 at_216 rfl rfl ?_
    refine q_iload B X144 at_217 rfl rfl ?_
    show G (T144.setTop (mkF m 219 #[oi i0, oi i1, oi i2, oi 6, oi b2, oi b3, oi b4, oi b5, oi b6, oi b7, oi 0, oi 8, oa b128, oa o_138] [(.int b3), (.int 6), (.int 1), (.ref o_138)]))
    refine qS B X144 hZ hown 146 147 8 148 rfl rfl rfl rfl (own_atY hw (1 : Int32) b3 (nar .byte (((((((own_s18 (own_w b2 b3 b4)) <<< ((18 : Int32) &&& 31)) ||| ((own_s12 (own_w b2 b3 b4)) <<< ((12 : Int32) &&& 31))) ||| ((own_s6 (own_w b2 b3 b4)) <<< ((6 : Int32) &&& 31))) ||| (own_s0 (own_w b2 b3 b4))) >>> ((8 : Int32) &&& 31)).toInt8.toInt32)) O138 (by decide) (by decide) r138_0 rfl og0.2.1) e144 own_pd24 rfl rfl at_219 0 rfl rfl rfl (by decide) ?_
    rintro T145 h145 _ L145 X145 e145 ⟨rfl, M145, rfl⟩
    have N145 := Fr.app N144 M145
    refine q_ifNo B X145 at_222 rfl ((if0 _ _).trans (feq (by decide)).1) rfl ?_
    refine q_aload B X145 at_225 rfl rfl rfl ?_
    refine q_iconst B X145 at_227 rfl ?_
    refine q_iloadN B X145 at_228 rfl rfl ?_
    refine q_iload B X145 at_229 rfl rfl ?_
    show G (T145.setTop (mkF m 231 #[oi i0, oi i1, oi i2, oi 6, oi b2, oi b3, oi b4, oi b5, oi b6, oi b7, oi 0, oi 8, oa b128, oa o_138] [(.int b4), (.int 6), (.int 2), (.ref o_138)]))
    refine qS B X145 hZ hown 146 147 8 148 rfl rfl rfl rfl (own_atY hw (2 : Int32) b4 (nar .byte ((((((own_s18 (own_w b2 b3 b4)) <<< ((18 : Int32) &&& 31)) ||| ((own_s12 (own_w b2 b3 b4)) <<< ((12 : Int32) &&& 31))) ||| ((own_s6 (own_w b2 b3 b4)) <<< ((6 : Int32) &&& 31))) ||| (own_s0 (own_w b2 b3 b4))).toInt8.toInt32)) O138 (by decide) (by decide) r138_0 rfl og0.2.2) e145 own_pd24 rfl rfl at_231 0 rfl rfl rfl (by decide) ?_
    rintro T146 h146 _ L146 X146 e146 ⟨rfl, M146, rfl⟩
    have N146 := Fr.app N145 M146
    refine q_ifNo B X146 at_234 rfl ((if0 _ _).trans (feq (by decide)).1) rfl ?_
    refine q_aload B X146 at_237 rfl rfl rfl ?_
    refine q_iconst B X146 at_239 rfl ?_
    refine q_iloadN B X146 at_240 rfl rfl ?_
    refine q_iload B X146 at_241 rfl rfl ?_
    show G (T146.setTop (mkF m 243 #[oi i0, oi i1, oi i2, oi 6, oi b2, oi b3, oi b4, oi b5, oi b6, oi b7, oi 0, oi 8, oa b128, oa o_138] [(.int b5), (.int 6), (.int 3), (.ref o_138)]))
    refine qS B X146 hZ hown 146 147 8 148 rfl rfl rfl rfl (own_atY hw (3 : Int32) b5 (nar .byte (((((((own_s18 (own_w b5 b6 b7)) <<< ((18 : Int32) &&& 31)) ||| ((own_s12 (own_w b5 b6 b7)) <<< ((12 : Int32) &&& 31))) ||| ((own_s6 (own_w b5 b6 b7)) <<< ((6 : Int32) &&& 31))) ||| (own_s0 (own_w b5 b6 b7))) >>> ((16 : Int32) &&& 31)).toInt8.toInt32)) O138 (by decide) (by decide) r138_0 rfl og1.1) e146 own_pd24 rfl rfl at_243 0 rfl rfl rfl (by decide) ?_
    rintro T147 h147 _ L147 X147 e147 ⟨rfl, M147, rfl⟩
    have N147 := Fr.app N146 M147
    refine q_ifNo B X147 at_246 rfl ((if0 _ _).trans (feq (by decide)).1) rfl ?_
    refine q_aload B X147 at_249 rfl rfl rfl ?_
    refine q_iconst B X147 at_251 rfl ?_
    refine q_iloadN B X147 at_252 rfl rfl ?_
    refine q_iload B X147 at_253 rfl rfl ?_
    show G (T147.setTop (mkF m 255 #[oi i0, oi i1, oi i2, oi 6, oi b2, oi b3, oi b4, oi b5, oi b6, oi b7, oi 0, oi 8, oa b128, oa o_138] [(.int b6), (.int 6), (.int 4), (.ref o_138)]))
    refine qS B X147 hZ hown 146 147 8 148 rfl rfl rfl rfl (own_atY hw (4 : Int32) b6 (nar .byte (((((((own_s18 (own_w b5 b6 b7)) <<< ((18 : Int32) &&& 31)) ||| ((own_s12 (own_w b5 b6 b7)) <<< ((12 : Int32) &&& 31))) ||| ((own_s6 (own_w b5 b6 b7)) <<< ((6 : Int32) &&& 31))) ||| (own_s0 (own_w b5 b6 b7))) >>> ((8 : Int32) &&& 31)).toInt8.toInt32)) O138 (by decide) (by decide) r138_0 rfl og1.2.1) e147 own_pd24 rfl rfl at_255 0 rfl rfl rfl (by decide) ?_
    rintro T148 h148 _ L148 X148 e148 ⟨rfl, M148, rfl⟩
    have N148 := Fr.app N147 M148
    refine q_ifNo B X148 at_258 rfl ((if0 _ _).trans (feq (by decide)).1) rfl ?_
    refine q_aload B X148 at_261 rfl rfl rfl ?_
    refine q_iconst B X148 at_263 rfl ?_
    refine q_iloadN B X148 at_264 rfl rfl ?_
    refine q_iload B X148 at_265 rfl rfl ?_
    show G (T148.setTop (mkF m 267 #[oi i0, oi i1, oi i2, oi 6, oi b2, oi b3, oi b4, oi b5, oi b6, oi b7, oi 0, oi 8, oa b128, oa o_138] [(.int b7), (.int 6), (.int 5), (.ref o_138)]))
    refine qS B X148 hZ hown 146 147 8 148 rfl rfl rfl rfl (own_atY hw (5 : Int32) b7 (nar .byte ((((((own_s18 (own_w b5 b6 b7)) <<< ((18 : Int32) &&& 31)) ||| ((own_s12 (own_w b5 b6 b7)) <<< ((12 : Int32) &&& 31))) ||| ((own_s6 (own_w b5 b6 b7)) <<< ((6 : Int32) &&& 31))) ||| (own_s0 (own_w b5 b6 b7))).toInt8.toInt32)) O138 (by decide) (by decide) r138_0 rfl og1.2.2) e148 own_pd24 rfl rfl at_267 0 rfl rfl rfl (by decide) ?_
    rintro T149 h149 _ L149 X149 e149 ⟨rfl, M149, rfl⟩
    have N149 := Fr.app N148 M149
    refine q_ifNo B X149 at_270 rfl ((if0 _ _).trans (feq (by decide)).1) rfl ?_
    refine q_iconst B X149 at_273 rfl ?_
    refine q_goto 278 B X149 at_274 rfl rfl (by decide) ?_
    show G (T149.setTop (mkF m 278 #[oi i0, oi i1, oi i2, oi 6, oi b2, oi b3, oi b4, oi b5, oi b6, oi b7, oi 0, oi 8, oa b128, oa o_138] [(.int 1)]))
    exact qRNW B hR hret (by simp) X149 at_278 e149 SI0 (Nat.le_trans (Nat.le_trans (Nat.le_trans (Nat.le_trans (Nat.le_trans (Nat.le_trans (Nat.le_refl _) R128.2.1) R130.2.1) R132.2.1) R134.2.1) R135.2.1) R138.2.1) hZ C138 ⟨rfl, N149, K138⟩ (by decide)
theorem own_comes {Post : Tables → Env → Array Value → State → Outcome → State → Prop} (hpost : ∀ tb e args s v u, (limb_1_1.after args s (.returned v) u = true ∧ limb_1_2.after args s (.returned v) u = true ∧ True) → ReturnedEndW s (.returned v) u (Jvm.fieldLocs frame_1_writes args s ++ Jvm.arrayLocs frame_1_arrays args s ++ Jvm.staticLocs frame_1_statics s) 24 1216 → Post tb e args s (.returned v) u) :
    ArmFor flags0 classFile x code maxLocals ret World_1 tables_1 room_1 Calls_1 rest_1 Pre_1 Post := by
  intro l hfl _ _ p e ha hc hk s m args below hf hA hF happ hP
  obtain ⟨hcalls, hrest, hpre⟩ := hP
  obtain ⟨-, -, -, hnamed, -, -, -, hat⟩ := (Spec.applies_iff hf).mp happ
  obtain ⟨hg, hn⟩ := and_e (Cond.before_iff.mp (show (Jvm.Cond.and given_1 narrow_1).before args s = true from hpre))
  obtain ⟨hcnt, hg⟩ := and_e hg
  obtain ⟨g0, hg⟩ := and_e hg
  obtain ⟨g1, hg⟩ := and_e hg
  have g2 := hg
  obtain ⟨w0, w1, w2, rfl⟩ : ∃ w0 w1 w2 : Value, args = #[w0, w1, w2] := by
    have hs : args.size = 3 := by simpa [Cond.value, given_1] using hcnt
    obtain ⟨L⟩ := args
    match L, hs with
    | [w0, w1, w2], _ => exact ⟨w0, w1, w2, rfl⟩
  have hw := fun d (hd : d ∈ tables_1) => atoms_spec (ws := Jvm.Cond.code x code maxLocals ret :: tables_1) hat d (List.mem_cons_of_mem _ hd)
  have hfit : Fit s := fun {y c} hc i hi => by
    obtain ⟨ha, rfl⟩ := Array.getElem?_eq_some_iff.mp hc
    have q := List.all_eq_true.mp ((Array.all_eq_true_iff_forall_mem.mp hF) _ (Array.getElem_mem ha)) i (List.mem_range.mpr hi)
    simpa [Array.getElem?_eq_getElem hi] using q
  obtain ⟨hsets, hown0⟩ := atoms_of _ (rest_1_c_eq ▸ (show rest_1_c.before _ s = true from hrest))
  have hr0 := Cond.before_iff.mp hown0
  obtain ⟨i0, ei0⟩ := is_v g0
  obtain rfl : w0 = (.int i0) := Option.some.inj ei0
  obtain ⟨i1, ei1⟩ := is_v g1
  obtain rfl : w1 = (.int i1) := Option.some.inj ei1
  obtain ⟨i2, ei2⟩ := is_v g2
  obtain rfl : w2 = (.int i2) := Option.some.inj ei2
  obtain ⟨cpt, ecpt⟩ := is_v (Cond.before_iff.mp (hsets _ (List.mem_of_getElem? (i := 1) rfl)))
  have S_cpt : Sta s s.heap "java/lang/String" "COMPACT_STRINGS" "Z" (.int cpt) := Sta.start ecpt (Or.inl (hsets _ (List.mem_of_getElem? (i := 0) rfl)))
  have h_cpt : ¬ (cpt = (0 : Int32)) := gotF (Cond.eq_ints ecpt (Term.int_eval (0))) (not_v (Cond.before_iff.mp (hsets _ (List.mem_of_getElem? (i := 2) rfl))))
  obtain ⟨dc, e_dc⟩ := exa_v (Cond.before_iff.mp (hsets _ (List.mem_of_getElem? (i := 11) rfl)))
  have E_dc := Exa.start e_dc (Cond.before_iff.mp (hsets _ (List.mem_of_getElem? (i := 11) rfl)))
  have S_dc : Sta s s.heap "java/util/Base64$Decoder" "RFC4648_URLSAFE" "Ljava/util/Base64$Decoder;" (.ref dc) := Sta.start e_dc (Or.inl (hsets _ (List.mem_of_getElem? (i := 10) rfl)))
  obtain ⟨iso, e_iso⟩ := exa_v (Cond.before_iff.mp (hsets _ (List.mem_of_getElem? (i := 16) rfl)))
  have E_iso := Exa.start e_iso (Cond.before_iff.mp (hsets _ (List.mem_of_getElem? (i := 16) rfl)))
  have S_iso : Sta s s.heap "sun/nio/cs/ISO_8859_1" "INSTANCE" "Lsun/nio/cs/ISO_8859_1;" (.ref iso) := Sta.start e_iso (Or.inl (hsets _ (List.mem_of_getElem? (i := 15) rfl)))
  obtain ⟨u8, e_u8⟩ := exa_v (Cond.before_iff.mp (hsets _ (List.mem_of_getElem? (i := 19) rfl)))
  have E_u8 := Exa.start e_u8 (Cond.before_iff.mp (hsets _ (List.mem_of_getElem? (i := 19) rfl)))
  have S_u8 : Sta s s.heap "sun/nio/cs/UTF_8" "INSTANCE" "Lsun/nio/cs/UTF_8;" (.ref u8) := Sta.start e_u8 (Or.inl (hsets _ (List.mem_of_getElem? (i := 18) rfl)))
  have F_u := own_fldS e_dc (own_eqI (Cond.before_iff.mp (hsets _ (List.mem_of_getElem? (i := 12) rfl))) (Term.int_eval (1)))
  have F_m := own_fldS e_dc (own_eqI (Cond.before_iff.mp (hsets _ (List.mem_of_getElem? (i := 13) rfl))) (Term.int_eval (0)))
  have hiu : iso ≠ u8 := Exa.ne E_iso E_u8 (by decide)
  obtain ⟨tab, e_tab⟩ := arr_v (Cond.before_iff.mp (hsets _ (List.mem_of_getElem? (i := 22) rfl)))
  have S_tab : Sta s s.heap "java/util/Base64$Decoder" "fromBase64URL" "[I" (.ref tab) := Sta.start e_tab (Or.inl (hsets _ (List.mem_of_getElem? (i := 21) rfl)))
  obtain ⟨ctab, A_tab⟩ := Arr.start e_tab (Cond.before_iff.mp (hsets _ (List.mem_of_getElem? (i := 22) rfl)))
  have V_tab : Arv s s.heap tab ctab.cls .int 256 (own_TAB.map Value.int) (.int 0) := own_listArv hfit e_tab A_tab (own_eqI (Cond.before_iff.mp (hsets _ (List.mem_of_getElem? (i := 24) rfl))) (Term.int_eval (256))) (by decide) (by rw [List.length_map, own_tabL]; rfl) (by rw [List.length_map, own_tabL]; decide) (fun i hi => by rw [List.length_map, own_tabL] at hi; rw [own_getD_map Value.int own_TAB i _ 0 (by rw [own_tabL]; exact hi)]; exact own_eqI (Cond.before_iff.mp (hsets _ (own_tabM i hi))) (Term.int_eval _))
  have hEL : EW s _ consts_1 := (EW.cons (ow hw 154 rfl) (by decide) EW.nil)
  have H0 : CHv s consts_1 s.vm s.heap := CHv.start hEL (show ∀ p ∈ consts_1, Jvm.Lit.constHeld s p.1 p.2 from hcalls.1) (hsets _ (List.mem_of_getElem? (i := 2) rfl)) (ow hw 31 rfl) (ow hw 14 rfl)
  obtain ⟨n, o, h1, h2, h3, _, L, rfl, ⟨rfl, N, K⟩, hC, hq⟩ := own_law l s _ hw tables_1 hEL i0 i1 i2 cpt dc iso u8 tab ctab.cls s.heap (Old.start s) S_cpt h_cpt S_dc S_iso S_u8 S_tab hiu E_dc F_u F_m V_tab p e ha hc hk s m _ below hf ((Spec.applies_iff_loose hf).mp happ).1 ⟨rfl, State.Warmed39.refl s, rfl, H0⟩ trivial
  refine ⟨n, _, h1, h2, h3, hpost _ _ _ _ _ _ ⟨Cond.after_iff.mpr rfl, Cond.after_iff.mpr (eq_i res_at (Term.int_eval (1)) rfl), trivial⟩ ⟨hq.1, hq.2.1, hq.2.2.1, (hq.2.2.2.sift fun y hy => Or.inr (N y hy)).mono (by decide) (by decide)⟩⟩
theorem main_1_1 : Claimed_1_1 := own_comes fun _ _ _ _ _ _ h hF => ⟨h.1, hF⟩
theorem main_1_2 : Claimed_1_2 := own_comes fun _ _ _ _ _ _ h hF => ⟨h.2.1, hF⟩
end Jvm.Pilot.@@N@@
namespace Jvm.Pilot.@@N@@
open Jvm Jvm.ClassFile Sem Op Lib Jvm.Free Jvm.Stand Jvm.Pilot.@@N@@.Jvm.D
/-! MADE BY PROGRAM (witnessworld.py) out of the Statement's table words and the real class files: 28 classes; the members and pool entries that the words name. The judged class is class 1, her method 4. -/
namespace start1
open Jvm.ClassFile
def u (s : String) : CpInfo := .utf8 (stringToUtf16 s)
/-- a pool by its gaps: so many unusable entries, then the entry; so many at the end -/
def gap : Nat → List CpInfo → List CpInfo
  | 0, r => r
  | n + 1, r => .unusable :: gap n r
def poolList (es : List (Nat × CpInfo)) (last : Nat) : List CpInfo := es.foldr (fun e r => gap e.1 (e.2 :: r)) (gap last [])
def pool (es : List (Nat × CpInfo)) (last : Nat) : Array CpInfo := ⟨poolList es last⟩
def fileOf (pool : Array CpInfo) (this : Nat) (attrs : Array Attribute := #[]) (ms : Array MethodInfo := #[]) (fl : Nat := 33) (sup : Nat := 0) (ifs : Array Nat := #[]) (fds : Array FieldInfo := #[]) : ClassFile where
  minorVersion := 0
  majorVersion := 65
  constantPool := pool
  accessFlags := fl
  thisClass := this
  superClass := sup
  interfaces := ifs
  fields := fds
  methods := ms
  attributes := attrs
def plain (name : String) (sup : Option ClassId) : Class where
  name := name
  kind := .ordinary
  loader := none
  accessFlags := 33
  super := sup
  interfaces := #[]
  cf := none
  fields := #[]
  methods := #[]
  instanceTypes := #[]
  staticTypes := #[]
  resolved := #[]
  callSites := []
  init := .initialized
  statics := none
  mirror := none

def pool0 : Array CpInfo := pool [(5, u "<init>"), (0, u "()V"), (1, .class_ 10), (1, u "java/lang/Object"), (85, u "clone"), (0, u "()Ljava/lang/Object;")] 26

def k0c0 : Code := { maxStack := 0, maxLocals := 1, code := object_method_1_code, exceptionTable := #[], attributes := #[] }
def k0m0 : Method := { name := "<init>", desc := "()V", sig := { parameters := [], returnType := none }, accessFlags := 1, code := some k0c0 }
def k0m1 : Method := { name := "clone", desc := "()Ljava/lang/Object;", sig := { parameters := [], returnType := some (.object "java/lang/Object") }, accessFlags := 260, code := none }
/-- java/lang/Object -/
def k0 : Class := { plain "java/lang/Object" none with
  accessFlags := 33
  interfaces := #[]
  cf := some (fileOf pool0 8 #[] #[{ accessFlags := 1, nameIndex := 5, descriptorIndex := 6, attributes := #[] }, { accessFlags := 260, nameIndex := 96, descriptorIndex := 97, attributes := #[] }] 33 0 #[] #[])
  fields := #[]
  methods := #[k0m0, k0m1]
  instanceTypes := #[]
  staticTypes := #[]
  resolved := Array.replicate 124 none
  statics := none }

def pool1 : Array CpInfo := pool [(2, .class_ 4), (1, u "java/lang/Object"), (0, u "<init>"), (0, u "()V"), (0, .methodref 8 9), (0, .class_ 10), (0, .nameAndType 11 12), (0, u "com/example/research_access_policy/researchaccesspolicy/token/Base64UrlDecodePinLaw"), (0, u "sym"), (0, u "(I)C"), (0, .integer 2147483647), (0, .methodref 15 16), (0, .class_ 17), (0, .nameAndType 18 19), (0, u "java/lang/Math"), (0, u "min"), (0, u "(II)I"), (0, .methodref 8 21), (0, .nameAndType 22 23), (0, u "put"), (0, u "([CIIIII)V"), (0, .class_ 25), (0, u "java/lang/String"), (0, .methodref 24 27), (0, .nameAndType 5 28), (0, u "([C)V"), (0, .methodref 30 31), (0, .class_ 32), (0, .nameAndType 33 34), (0, u "com/example/research_access_policy/researchaccesspolicy/token/Base64Url"), (0, u "decode"), (0, u "(Ljava/lang/String;)[B"), (0, .methodref 8 36), (0, .nameAndType 37 38), (0, u "at"), (0, u "([BIII)Z"), (3, u "law"), (0, u "(III)Z")] 6

def k1m0 : Method := { name := "<init>", desc := "()V", sig := { parameters := [], returnType := none }, accessFlags := 2, code := none }
def k1c1 : Code := { maxStack := 3, maxLocals := 1, code := method_2_code, exceptionTable := #[], attributes := #[] }
def k1m1 : Method := { name := "sym", desc := "(I)C", sig := { parameters := [.int], returnType := some .char }, accessFlags := 10, code := some k1c1 }
def k1c2 : Code := { maxStack := 4, maxLocals := 7, code := method_3_code, exceptionTable := #[], attributes := #[] }
def k1m2 : Method := { name := "put", desc := "([CIIIII)V", sig := { parameters := [(.array .char), .int, .int, .int, .int, .int], returnType := none }, accessFlags := 10, code := some k1c2 }
def k1c3 : Code := { maxStack := 2, maxLocals := 4, code := method_4_code, exceptionTable := #[], attributes := #[] }
def k1m3 : Method := { name := "at", desc := "([BIII)Z", sig := { parameters := [(.array .byte), .int, .int, .int], returnType := some .boolean }, accessFlags := 10, code := some k1c3 }
def k1c4 : Code := { maxStack := 7, maxLocals := 14, code := code, exceptionTable := #[], attributes := #[] }
def k1m4 : Method := { name := "law", desc := "(III)Z", sig := { parameters := [.int, .int, .int], returnType := some .boolean }, accessFlags := 9, code := some k1c4 }
/-- com/example/research_access_policy/researchaccesspolicy/token/Base64UrlDecodePinLaw -/
def k1 : Class := { plain "com/example/research_access_policy/researchaccesspolicy/token/Base64UrlDecodePinLaw" (some 0) with
  accessFlags := 49
  interfaces := #[]
  cf := some (fileOf pool1 8 #[] #[{ accessFlags := 2, nameIndex := 5, descriptorIndex := 6, attributes := #[] }, { accessFlags := 10, nameIndex := 11, descriptorIndex := 12, attributes := #[] }, { accessFlags := 10, nameIndex := 22, descriptorIndex := 23, attributes := #[] }, { accessFlags := 10, nameIndex := 37, descriptorIndex := 38, attributes := #[] }, { accessFlags := 9, nameIndex := 42, descriptorIndex := 43, attributes := #[] }] 49 2 #[] #[])
  fields := #[]
  methods := #[k1m0, k1m1, k1m2, k1m3, k1m4]
  instanceTypes := #[]
  staticTypes := #[]
  resolved := Array.replicate 50 none
  statics := none }

def pool2 : Array CpInfo := pool [(1, .class_ 2), (0, u "java/lang/Math"), (1, .class_ 6), (1, u "java/lang/Object"), (0, u "<init>"), (0, u "()V"), (89, .class_ 100), (1, u "java/lang/Math$RandomNumberGeneratorHolder"), (71, u "negativeZeroFloatBits"), (0, u "J"), (2, u "negativeZeroDoubleBits"), (21, u "max"), (2, u "min"), (43, u "$assertionsDisabled"), (0, u "Z"), (88, u "(II)I"), (2, u "twoToTheDoubleScaleDown"), (0, u "D"), (4, u "twoToTheDoubleScaleUp"), (9, u "E"), (3, u "PI"), (2, u "TAU"), (2, u "DEGREES_TO_RADIANS"), (0, u "RADIANS_TO_DEGREES")] 94

def k2m0 : Method := { name := "<init>", desc := "()V", sig := { parameters := [], returnType := none }, accessFlags := 2, code := none }
def k2c1 : Code := { maxStack := 2, maxLocals := 2, code := jdk_29_method_65_code, exceptionTable := #[], attributes := #[] }
def k2m1 : Method := { name := "max", desc := "(II)I", sig := { parameters := [.int, .int], returnType := some .int }, accessFlags := 9, code := some k2c1 }
def k2c2 : Code := { maxStack := 2, maxLocals := 2, code := jdk_29_method_69_code, exceptionTable := #[], attributes := #[] }
def k2m2 : Method := { name := "min", desc := "(II)I", sig := { parameters := [.int, .int], returnType := some .int }, accessFlags := 9, code := some k2c2 }
/-- java/lang/Math -/
def k2 : Class := { plain "java/lang/Math" (some 0) with
  accessFlags := 49
  interfaces := #[]
  cf := some (fileOf pool2 1 #[.nestMembers #[98]] #[{ accessFlags := 2, nameIndex := 7, descriptorIndex := 8, attributes := #[] }, { accessFlags := 9, nameIndex := 198, descriptorIndex := 335, attributes := #[] }, { accessFlags := 9, nameIndex := 201, descriptorIndex := 335, attributes := #[] }] 49 4 #[] #[{ accessFlags := 25, nameIndex := 354, descriptorIndex := 339, attributes := #[] }, { accessFlags := 25, nameIndex := 358, descriptorIndex := 339, attributes := #[] }, { accessFlags := 25, nameIndex := 361, descriptorIndex := 339, attributes := #[] }, { accessFlags := 26, nameIndex := 364, descriptorIndex := 339, attributes := #[] }, { accessFlags := 26, nameIndex := 365, descriptorIndex := 339, attributes := #[] }, { accessFlags := 26, nameIndex := 172, descriptorIndex := 173, attributes := #[] }, { accessFlags := 26, nameIndex := 176, descriptorIndex := 173, attributes := #[] }, { accessFlags := 8, nameIndex := 344, descriptorIndex := 339, attributes := #[] }, { accessFlags := 8, nameIndex := 338, descriptorIndex := 339, attributes := #[] }, { accessFlags := 4120, nameIndex := 245, descriptorIndex := 246, attributes := #[] }])
  fields := #[{ name := "E", type := .double, accessFlags := 25, slot := 0, constantValue := 0 }, { name := "PI", type := .double, accessFlags := 25, slot := 1, constantValue := 0 }, { name := "TAU", type := .double, accessFlags := 25, slot := 2, constantValue := 0 }, { name := "DEGREES_TO_RADIANS", type := .double, accessFlags := 26, slot := 3, constantValue := 0 }, { name := "RADIANS_TO_DEGREES", type := .double, accessFlags := 26, slot := 4, constantValue := 0 }, { name := "negativeZeroFloatBits", type := .long, accessFlags := 26, slot := 5, constantValue := 0 }, { name := "negativeZeroDoubleBits", type := .long, accessFlags := 26, slot := 6, constantValue := 0 }, { name := "twoToTheDoubleScaleUp", type := .double, accessFlags := 8, slot := 7, constantValue := 0 }, { name := "twoToTheDoubleScaleDown", type := .double, accessFlags := 8, slot := 8, constantValue := 0 }, { name := "$assertionsDisabled", type := .boolean, accessFlags := 4120, slot := 9, constantValue := 0 }]
  methods := #[k2m0, k2m1, k2m2]
  instanceTypes := #[]
  staticTypes := #[.double, .double, .double, .double, .double, .long, .long, .double, .double, .boolean]
  resolved := Array.replicate 460 none
  statics := none }

def pool3 : Array CpInfo := pool [(1, .class_ 2), (0, u "java/io/Serializable"), (0, .class_ 4), (0, u "java/lang/Object")] 2

/-- java/io/Serializable -/
def k3 : Class := { plain "java/io/Serializable" (some 0) with
  accessFlags := 1537
  interfaces := #[]
  cf := some (fileOf pool3 1 #[] #[] 1537 3 #[] #[])
  fields := #[]
  methods := #[]
  instanceTypes := #[]
  staticTypes := #[]
  resolved := Array.replicate 7 none
  statics := none }

def pool4 : Array CpInfo := pool [(1, .class_ 2), (0, u "java/lang/Comparable"), (0, .class_ 4), (0, u "java/lang/Object")] 7

/-- java/lang/Comparable -/
def k4 : Class := { plain "java/lang/Comparable" (some 0) with
  accessFlags := 1537
  interfaces := #[]
  cf := some (fileOf pool4 1 #[] #[] 1537 3 #[] #[])
  fields := #[]
  methods := #[]
  instanceTypes := #[]
  staticTypes := #[]
  resolved := Array.replicate 12 none
  statics := none }

def pool5 : Array CpInfo := pool [(2, .class_ 4), (1, u "java/lang/CharSequence"), (42, .class_ 48), (0, u "java/lang/CharSequence$1CodePointIterator"), (10, .class_ 60), (0, u "java/lang/CharSequence$1CharIterator"), (5, .class_ 67), (0, u "java/lang/Object")] 63

/-- java/lang/CharSequence -/
def k5 : Class := { plain "java/lang/CharSequence" (some 0) with
  accessFlags := 1537
  interfaces := #[]
  cf := some (fileOf pool5 2 #[.nestMembers #[47, 59]] #[] 1537 66 #[] #[])
  fields := #[]
  methods := #[]
  instanceTypes := #[]
  staticTypes := #[]
  resolved := Array.replicate 131 none
  statics := none }

def pool6 : Array CpInfo := pool [(1, .class_ 2), (0, u "java/lang/constant/Constable"), (0, .class_ 4), (0, u "java/lang/Object")] 6

/-- java/lang/constant/Constable -/
def k6 : Class := { plain "java/lang/constant/Constable" (some 0) with
  accessFlags := 1537
  interfaces := #[]
  cf := some (fileOf pool6 1 #[] #[] 1537 3 #[] #[])
  fields := #[]
  methods := #[]
  instanceTypes := #[]
  staticTypes := #[]
  resolved := Array.replicate 11 none
  statics := none }

def pool7 : Array CpInfo := pool [(1, .class_ 2), (0, u "java/lang/constant/ConstantDesc"), (0, .class_ 4), (0, u "java/lang/Object")] 32

/-- java/lang/constant/ConstantDesc -/
def k7 : Class := { plain "java/lang/constant/ConstantDesc" (some 0) with
  accessFlags := 1537
  interfaces := #[]
  cf := some (fileOf pool7 1 #[] #[] 1537 3 #[] #[])
  fields := #[]
  methods := #[]
  instanceTypes := #[]
  staticTypes := #[]
  resolved := Array.replicate 37 none
  statics := none }

def pool8 : Array CpInfo := pool [(1, .methodref 2 3), (0, .class_ 4), (0, .nameAndType 5 6), (0, u "java/lang/Object"), (0, u "<init>"), (0, u "()V"), (0, .string 8), (0, u ""), (0, .fieldref 10 11), (0, .class_ 12), (0, .nameAndType 13 14), (0, u "java/lang/String"), (0, u "value"), (0, u "[B"), (0, .fieldref 10 16), (0, .nameAndType 17 18), (0, u "coder"), (0, u "B"), (2, u "hash"), (0, u "I"), (2, u "hashIsZero"), (0, u "Z"), (0, .methodref 10 28), (0, .nameAndType 5 29), (0, u "([CIILjava/lang/Void;)V"), (8, .fieldref 10 39), (0, .nameAndType 40 26), (0, u "COMPACT_STRINGS"), (1, .class_ 44), (1, u "java/lang/StringUTF16"), (0, u "compress"), (1, .methodref 42 48), (0, .nameAndType 49 50), (0, u "coderFromArrayLen"), (0, u "([BI)B"), (35, .fieldref 87 88), (0, .class_ 89), (0, .nameAndType 90 91), (0, u "sun/nio/cs/UTF_8"), (0, u "INSTANCE"), (0, u "Lsun/nio/cs/UTF_8;"), (15, .class_ 109), (1, u "java/lang/StringLatin1"), (6, .fieldref 117 118), (0, .class_ 119), (0, .nameAndType 90 120), (0, u "sun/nio/cs/ISO_8859_1"), (0, u "Lsun/nio/cs/ISO_8859_1;"), (21, u "()Z"), (34, .methodref 42 178), (0, .nameAndType 45 179), (0, u "([CII)[B"), (75, u "(B[BZ)[B"), (0, .methodref 10 257), (0, .nameAndType 258 259), (0, u "encode8859_1"), (0, u "(B[B)[B"), (19, .methodref 280 281), (0, .class_ 14), (0, .nameAndType 282 283), (0, u "clone"), (0, u "()Ljava/lang/Object;"), (33, u "encode"), (16, u "()I"), (0, .methodref 10 336), (0, .nameAndType 17 337), (0, u "()B"), (13, .methodref 10 352), (0, .nameAndType 258 255), (139, .methodref 10 493), (0, .nameAndType 494 142), (0, u "isLatin1"), (10, .methodref 10 506), (0, .nameAndType 507 334), (0, u "length"), (24, u "getBytes"), (2, .methodref 10 536), (0, .nameAndType 317 537), (0, u "(Ljava/nio/charset/Charset;B[B)[B"), (37, .class_ 576), (0, u "java/lang/CharSequence"), (22, u "CASE_INSENSITIVE_ORDER"), (0, u "Ljava/util/Comparator;"), (32, .methodref 10 634), (0, .nameAndType 635 636), (0, u "indexOf"), (0, u "(II)I"), (0, .methodref 107 638), (0, .nameAndType 635 639), (0, u "([BIII)I"), (125, u "(I)I"), (244, u "([C)V"), (90, u "serialPersistentFields"), (0, u "[Ljava/io/ObjectStreamField;"), (0, .class_ 1104), (0, u "java/lang/String$CaseInsensitiveComparator"), (1, .class_ 1107), (0, u "java/io/Serializable"), (0, .class_ 1109), (0, u "java/lang/Comparable"), (0, .class_ 1111), (0, u "java/lang/constant/Constable"), (0, .class_ 1113), (0, u "java/lang/constant/ConstantDesc"), (2, u "serialVersionUID"), (0, u "J"), (3, u "REPL"), (0, u "C"), (2, u "LATIN1"), (1, u "UTF16"), (117, u "(Ljava/nio/charset/Charset;)[B")] 205

def k8m0 : Method := { name := "<init>", desc := "()V", sig := { parameters := [], returnType := none }, accessFlags := 1, code := none }
def k8c1 : Code := { maxStack := 5, maxLocals := 2, code := jdk_42_method_3_code, exceptionTable := #[], attributes := #[] }
def k8m1 : Method := { name := "<init>", desc := "([C)V", sig := { parameters := [(.array .char)], returnType := none }, accessFlags := 1, code := some k8c1 }
def k8c2 : Code := { maxStack := 4, maxLocals := 3, code := jdk_42_method_18_code, exceptionTable := #[], attributes := #[] }
def k8m2 : Method := { name := "encode", desc := "(Ljava/nio/charset/Charset;B[B)[B", sig := { parameters := [(.object "java/nio/charset/Charset"), .byte, (.array .byte)], returnType := some (.array .byte) }, accessFlags := 10, code := some k8c2 }
def k8c3 : Code := { maxStack := 3, maxLocals := 2, code := jdk_42_method_26_code, exceptionTable := #[], attributes := #[] }
def k8m3 : Method := { name := "encode8859_1", desc := "(B[B)[B", sig := { parameters := [.byte, (.array .byte)], returnType := some (.array .byte) }, accessFlags := 10, code := some k8c3 }
def k8c4 : Code := { maxStack := 5, maxLocals := 10, code := jdk_42_method_27_code, exceptionTable := #[], attributes := #[] }
def k8m4 : Method := { name := "encode8859_1", desc := "(B[BZ)[B", sig := { parameters := [.byte, (.array .byte), .boolean], returnType := some (.array .byte) }, accessFlags := 10, code := some k8c4 }
def k8c5 : Code := { maxStack := 2, maxLocals := 1, code := jdk_42_method_54_code, exceptionTable := #[], attributes := #[] }
def k8m5 : Method := { name := "length", desc := "()I", sig := { parameters := [], returnType := some .int }, accessFlags := 1, code := some k8c5 }
def k8c6 : Code := { maxStack := 3, maxLocals := 2, code := jdk_42_method_64_code, exceptionTable := #[], attributes := #[] }
def k8m6 : Method := { name := "getBytes", desc := "(Ljava/nio/charset/Charset;)[B", sig := { parameters := [(.object "java/nio/charset/Charset")], returnType := some (.array .byte) }, accessFlags := 1, code := some k8c6 }
def k8c7 : Code := { maxStack := 3, maxLocals := 2, code := jdk_42_method_79_code, exceptionTable := #[], attributes := #[] }
def k8m7 : Method := { name := "indexOf", desc := "(I)I", sig := { parameters := [.int], returnType := some .int }, accessFlags := 1, code := some k8c7 }
def k8c8 : Code := { maxStack := 4, maxLocals := 3, code := jdk_42_method_80_code, exceptionTable := #[], attributes := #[] }
def k8m8 : Method := { name := "indexOf", desc := "(II)I", sig := { parameters := [.int, .int], returnType := some .int }, accessFlags := 1, code := some k8c8 }
def k8c9 : Code := { maxStack := 4, maxLocals := 6, code := jdk_42_method_149_code, exceptionTable := #[], attributes := #[] }
def k8m9 : Method := { name := "<init>", desc := "([CIILjava/lang/Void;)V", sig := { parameters := [(.array .char), .int, .int, (.object "java/lang/Void")], returnType := none }, accessFlags := 2, code := some k8c9 }
def k8c10 : Code := { maxStack := 1, maxLocals := 1, code := jdk_42_method_152_code, exceptionTable := #[], attributes := #[] }
def k8m10 : Method := { name := "coder", desc := "()B", sig := { parameters := [], returnType := some .byte }, accessFlags := 0, code := some k8c10 }
def k8c11 : Code := { maxStack := 1, maxLocals := 1, code := jdk_42_method_154_code, exceptionTable := #[], attributes := #[] }
def k8m11 : Method := { name := "isLatin1", desc := "()Z", sig := { parameters := [], returnType := some .boolean }, accessFlags := 0, code := some k8c11 }
/-- java/lang/String -/
def k8 : Class := { plain "java/lang/String" (some 0) with
  accessFlags := 49
  interfaces := #[3, 4, 5, 6, 7]
  cf := some (fileOf pool8 10 #[.nestMembers #[1103]] #[{ accessFlags := 1, nameIndex := 5, descriptorIndex := 6, attributes := #[] }, { accessFlags := 1, nameIndex := 5, descriptorIndex := 1010, attributes := #[] }, { accessFlags := 10, nameIndex := 317, descriptorIndex := 537, attributes := #[] }, { accessFlags := 10, nameIndex := 258, descriptorIndex := 259, attributes := #[] }, { accessFlags := 10, nameIndex := 258, descriptorIndex := 255, attributes := #[] }, { accessFlags := 1, nameIndex := 507, descriptorIndex := 334, attributes := #[] }, { accessFlags := 1, nameIndex := 532, descriptorIndex := 1245, attributes := #[] }, { accessFlags := 1, nameIndex := 635, descriptorIndex := 765, attributes := #[] }, { accessFlags := 1, nameIndex := 635, descriptorIndex := 636, attributes := #[] }, { accessFlags := 2, nameIndex := 5, descriptorIndex := 29, attributes := #[] }, { accessFlags := 0, nameIndex := 17, descriptorIndex := 337, attributes := #[] }, { accessFlags := 0, nameIndex := 494, descriptorIndex := 142, attributes := #[] }] 49 2 #[1106, 1108, 575, 1110, 1112] #[{ accessFlags := 18, nameIndex := 13, descriptorIndex := 14, attributes := #[] }, { accessFlags := 18, nameIndex := 17, descriptorIndex := 18, attributes := #[] }, { accessFlags := 2, nameIndex := 21, descriptorIndex := 22, attributes := #[] }, { accessFlags := 2, nameIndex := 25, descriptorIndex := 26, attributes := #[] }, { accessFlags := 26, nameIndex := 1116, descriptorIndex := 1117, attributes := #[] }, { accessFlags := 24, nameIndex := 40, descriptorIndex := 26, attributes := #[] }, { accessFlags := 26, nameIndex := 1101, descriptorIndex := 1102, attributes := #[] }, { accessFlags := 26, nameIndex := 1121, descriptorIndex := 1122, attributes := #[] }, { accessFlags := 25, nameIndex := 599, descriptorIndex := 600, attributes := #[] }, { accessFlags := 24, nameIndex := 1125, descriptorIndex := 18, attributes := #[] }, { accessFlags := 24, nameIndex := 1127, descriptorIndex := 18, attributes := #[] }])
  fields := #[{ name := "value", type := (.array .byte), accessFlags := 18, slot := 0, constantValue := 0 }, { name := "coder", type := .byte, accessFlags := 18, slot := 1, constantValue := 0 }, { name := "hash", type := .int, accessFlags := 2, slot := 2, constantValue := 0 }, { name := "hashIsZero", type := .boolean, accessFlags := 2, slot := 3, constantValue := 0 }, { name := "serialVersionUID", type := .long, accessFlags := 26, slot := 0, constantValue := 0 }, { name := "COMPACT_STRINGS", type := .boolean, accessFlags := 24, slot := 1, constantValue := 0 }, { name := "serialPersistentFields", type := (.array (.object "java/io/ObjectStreamField")), accessFlags := 26, slot := 2, constantValue := 0 }, { name := "REPL", type := .char, accessFlags := 26, slot := 3, constantValue := 0 }, { name := "CASE_INSENSITIVE_ORDER", type := (.object "java/util/Comparator"), accessFlags := 25, slot := 4, constantValue := 0 }, { name := "LATIN1", type := .byte, accessFlags := 24, slot := 5, constantValue := 0 }, { name := "UTF16", type := .byte, accessFlags := 24, slot := 6, constantValue := 0 }]
  methods := #[k8m0, k8m1, k8m2, k8m3, k8m4, k8m5, k8m6, k8m7, k8m8, k8m9, k8m10, k8m11]
  instanceTypes := #[(.array .byte), .byte, .int, .boolean]
  staticTypes := #[.long, .boolean, (.array (.object "java/io/ObjectStreamField")), .char, (.object "java/util/Comparator"), .byte, .byte]
  resolved := Array.replicate 1451 none
  statics := some 0 }

def pool9 : Array CpInfo := pool [(6, .class_ 8), (1, u "java/lang/Object"), (0, u "<init>"), (0, u "()V"), (1, .class_ 14), (1, u "java/lang/StringUTF16"), (31, u "$assertionsDisabled"), (0, u "Z"), (13, u "HI_BYTE_SHIFT"), (0, u "I"), (2, u "LO_BYTE_SHIFT"), (49, .methodref 12 116), (0, .nameAndType 117 118), (0, u "compress"), (0, u "([CI[BII)I"), (3, u "([CII)[B"), (138, u "coderFromArrayLen"), (0, u "([BI)B"), (106, .class_ 371), (1, u "java/lang/StringUTF16$LinesSpliterator"), (58, u "MAX_LENGTH"), (196, .class_ 628), (0, u "java/lang/StringUTF16$CodePointsSpliterator"), (0, .class_ 630), (0, u "java/lang/StringUTF16$CharsSpliterator")] 4

def k9m0 : Method := { name := "<init>", desc := "()V", sig := { parameters := [], returnType := none }, accessFlags := 0, code := none }
def k9c1 : Code := { maxStack := 2, maxLocals := 2, code := jdk_52_method_15_code, exceptionTable := #[], attributes := #[] }
def k9m1 : Method := { name := "coderFromArrayLen", desc := "([BI)B", sig := { parameters := [(.array .byte), .int], returnType := some .byte }, accessFlags := 8, code := some k9c1 }
def k9c2 : Code := { maxStack := 5, maxLocals := 6, code := jdk_52_method_16_code, exceptionTable := #[], attributes := #[] }
def k9m2 : Method := { name := "compress", desc := "([CII)[B", sig := { parameters := [(.array .char), .int, .int], returnType := some (.array .byte) }, accessFlags := 9, code := some k9c2 }
def k9c3 : Code := { maxStack := 3, maxLocals := 7, code := jdk_52_method_21_code, exceptionTable := #[], attributes := #[] }
def k9m3 : Method := { name := "compress", desc := "([CI[BII)I", sig := { parameters := [(.array .char), .int, (.array .byte), .int, .int], returnType := some .int }, accessFlags := 9, code := some k9c3 }
/-- java/lang/StringUTF16 -/
def k9 : Class := { plain "java/lang/StringUTF16" (some 0) with
  accessFlags := 48
  interfaces := #[]
  cf := some (fileOf pool9 12 #[.nestMembers #[627, 629, 369]] #[{ accessFlags := 0, nameIndex := 9, descriptorIndex := 10, attributes := #[] }, { accessFlags := 8, nameIndex := 261, descriptorIndex := 262, attributes := #[] }, { accessFlags := 9, nameIndex := 117, descriptorIndex := 122, attributes := #[] }, { accessFlags := 9, nameIndex := 117, descriptorIndex := 118, attributes := #[] }] 48 6 #[] #[{ accessFlags := 26, nameIndex := 61, descriptorIndex := 62, attributes := #[] }, { accessFlags := 26, nameIndex := 65, descriptorIndex := 62, attributes := #[] }, { accessFlags := 24, nameIndex := 430, descriptorIndex := 62, attributes := #[] }, { accessFlags := 4120, nameIndex := 46, descriptorIndex := 47, attributes := #[] }])
  fields := #[{ name := "HI_BYTE_SHIFT", type := .int, accessFlags := 26, slot := 0, constantValue := 0 }, { name := "LO_BYTE_SHIFT", type := .int, accessFlags := 26, slot := 1, constantValue := 0 }, { name := "MAX_LENGTH", type := .int, accessFlags := 24, slot := 2, constantValue := 0 }, { name := "$assertionsDisabled", type := .boolean, accessFlags := 4120, slot := 3, constantValue := 0 }]
  methods := #[k9m0, k9m1, k9m2, k9m3]
  instanceTypes := #[]
  staticTypes := #[.int, .int, .int, .boolean]
  resolved := Array.replicate 635 none
  statics := none }

def pool10 : Array CpInfo := pool [(2, .class_ 4), (1, u "java/lang/Object"), (0, u "<init>"), (0, u "()V"), (0, .methodref 8 9), (0, .class_ 10), (0, .nameAndType 11 12), (0, u "java/lang/String"), (0, u "indexOf"), (0, u "(I)I"), (7, .methodref 21 22), (0, .class_ 23), (0, .nameAndType 24 25), (0, u "java/util/Base64"), (0, u "getUrlDecoder"), (0, u "()Ljava/util/Base64$Decoder;"), (0, .methodref 27 28), (0, .class_ 29), (0, .nameAndType 30 31), (0, u "java/util/Base64$Decoder"), (0, u "decode"), (0, u "(Ljava/lang/String;)[B"), (0, .class_ 33), (0, u "com/example/research_access_policy/researchaccesspolicy/token/Base64Url")] 7

def k10m0 : Method := { name := "<init>", desc := "()V", sig := { parameters := [], returnType := none }, accessFlags := 2, code := none }
def k10c1 : Code := { maxStack := 3, maxLocals := 1, code := prog_16_method_2_code, exceptionTable := #[], attributes := #[] }
def k10m1 : Method := { name := "decode", desc := "(Ljava/lang/String;)[B", sig := { parameters := [(.object "java/lang/String")], returnType := some (.array .byte) }, accessFlags := 8, code := some k10c1 }
/-- com/example/research_access_policy/researchaccesspolicy/token/Base64Url -/
def k10 : Class := { plain "com/example/research_access_policy/researchaccesspolicy/token/Base64Url" (some 0) with
  accessFlags := 48
  interfaces := #[]
  cf := some (fileOf pool10 32 #[] #[{ accessFlags := 2, nameIndex := 5, descriptorIndex := 6, attributes := #[] }, { accessFlags := 8, nameIndex := 30, descriptorIndex := 31, attributes := #[] }] 48 2 #[] #[])
  fields := #[]
  methods := #[k10m0, k10m1]
  instanceTypes := #[]
  staticTypes := #[]
  resolved := Array.replicate 41 none
  statics := none }

def pool11 : Array CpInfo := pool [(4, .class_ 6), (1, u "java/lang/Object"), (0, u "<init>"), (0, u "()V"), (5, .class_ 16), (1, u "java/lang/StringLatin1"), (21, .methodref 39 40), (0, .class_ 41), (0, .nameAndType 42 43), (0, u "java/lang/Math"), (0, u "min"), (0, u "(II)I"), (44, .methodref 14 89), (0, .nameAndType 90 91), (0, u "canEncode"), (0, u "(I)Z"), (0, .methodref 39 93), (0, .nameAndType 94 43), (0, u "max"), (0, .methodref 14 96), (0, .nameAndType 97 98), (0, u "indexOfChar"), (0, u "([BIII)I"), (2, u "indexOf"), (19, u "$assertionsDisabled"), (0, u "Z"), (98, .class_ 223), (1, u "java/lang/StringLatin1$LinesSpliterator"), (166, .class_ 391), (0, u "java/lang/StringLatin1$CharsSpliterator")] 3

def k11m0 : Method := { name := "<init>", desc := "()V", sig := { parameters := [], returnType := none }, accessFlags := 0, code := none }
def k11c1 : Code := { maxStack := 2, maxLocals := 1, code := jdk_43_method_4_code, exceptionTable := #[], attributes := #[] }
def k11m1 : Method := { name := "canEncode", desc := "(I)Z", sig := { parameters := [.int], returnType := some .boolean }, accessFlags := 9, code := some k11c1 }
def k11c2 : Code := { maxStack := 4, maxLocals := 4, code := jdk_43_method_22_code, exceptionTable := #[], attributes := #[] }
def k11m2 : Method := { name := "indexOf", desc := "([BIII)I", sig := { parameters := [(.array .byte), .int, .int, .int], returnType := some .int }, accessFlags := 9, code := some k11c2 }
def k11c3 : Code := { maxStack := 2, maxLocals := 6, code := jdk_43_method_23_code, exceptionTable := #[], attributes := #[] }
def k11m3 : Method := { name := "indexOfChar", desc := "([BIII)I", sig := { parameters := [(.array .byte), .int, .int, .int], returnType := some .int }, accessFlags := 10, code := some k11c3 }
/-- java/lang/StringLatin1 -/
def k11 : Class := { plain "java/lang/StringLatin1" (some 0) with
  accessFlags := 48
  interfaces := #[]
  cf := some (fileOf pool11 14 #[.nestMembers #[390, 221]] #[{ accessFlags := 0, nameIndex := 7, descriptorIndex := 8, attributes := #[] }, { accessFlags := 9, nameIndex := 90, descriptorIndex := 91, attributes := #[] }, { accessFlags := 9, nameIndex := 101, descriptorIndex := 98, attributes := #[] }, { accessFlags := 10, nameIndex := 97, descriptorIndex := 98, attributes := #[] }] 48 4 #[] #[{ accessFlags := 4120, nameIndex := 121, descriptorIndex := 122, attributes := #[] }])
  fields := #[{ name := "$assertionsDisabled", type := .boolean, accessFlags := 4120, slot := 0, constantValue := 0 }]
  methods := #[k11m0, k11m1, k11m2, k11m3]
  instanceTypes := #[]
  staticTypes := #[.boolean]
  resolved := Array.replicate 395 none
  statics := none }

def pool12 : Array CpInfo := pool [(2, .class_ 4), (1, u "java/lang/Object"), (0, u "<init>"), (0, u "()V"), (1, .class_ 10), (1, u "java/util/Base64$Encoder"), (4, u "RFC4648_URLSAFE"), (10, .class_ 28), (1, u "java/util/Base64$Decoder"), (30, u "Ljava/util/Base64$Decoder;"), (0, .fieldref 26 61), (0, .nameAndType 15 59), (2, .class_ 65), (0, u "java/util/Base64"), (21, u "()Ljava/util/Base64$Decoder;"), (0, u "getUrlDecoder"), (4, .class_ 94), (0, u "java/util/Base64$DecInputStream"), (0, .class_ 96), (0, u "java/util/Base64$EncOutputStream")] 5

def k12m0 : Method := { name := "<init>", desc := "()V", sig := { parameters := [], returnType := none }, accessFlags := 2, code := none }
def k12c1 : Code := { maxStack := 1, maxLocals := 0, code := jdk_2448_method_7_code, exceptionTable := #[], attributes := #[] }
def k12m1 : Method := { name := "getUrlDecoder", desc := "()Ljava/util/Base64$Decoder;", sig := { parameters := [], returnType := some (.object "java/util/Base64$Decoder") }, accessFlags := 9, code := some k12c1 }
/-- java/util/Base64 -/
def k12 : Class := { plain "java/util/Base64" (some 0) with
  accessFlags := 33
  interfaces := #[]
  cf := some (fileOf pool12 64 #[.nestMembers #[93, 95, 26, 8]] #[{ accessFlags := 2, nameIndex := 5, descriptorIndex := 6, attributes := #[] }, { accessFlags := 9, nameIndex := 88, descriptorIndex := 87, attributes := #[] }] 33 2 #[] #[])
  fields := #[]
  methods := #[k12m0, k12m1]
  instanceTypes := #[]
  staticTypes := #[]
  resolved := Array.replicate 102 none
  statics := none }

def pool13 : Array CpInfo := pool [(2, .class_ 4), (1, u "java/lang/Object"), (2, .fieldref 8 9), (0, .class_ 10), (0, .nameAndType 11 12), (0, u "java/util/Base64$Decoder"), (0, u "isURL"), (0, u "Z"), (0, .fieldref 8 14), (0, .nameAndType 15 12), (0, u "isMIME"), (0, .methodref 8 17), (0, .nameAndType 18 19), (0, u "decodedOutLength"), (0, u "([BII)I"), (0, .methodref 8 21), (0, .nameAndType 22 23), (0, u "decode0"), (0, u "([BII[B)I"), (6, .fieldref 31 32), (0, .class_ 33), (0, .nameAndType 34 35), (0, u "sun/nio/cs/ISO_8859_1"), (0, u "INSTANCE"), (0, u "Lsun/nio/cs/ISO_8859_1;"), (0, .methodref 37 38), (0, .class_ 39), (0, .nameAndType 40 41), (0, u "java/lang/String"), (0, u "getBytes"), (0, u "(Ljava/nio/charset/Charset;)[B"), (0, .methodref 8 43), (0, .nameAndType 44 45), (0, u "decode"), (0, u "([B)[B"), (49, .fieldref 8 96), (0, .nameAndType 97 98), (0, u "fromBase64URL"), (0, u "[I"), (2, u "fromBase64"), (5, .long 3), (1, .long 4), (1, .methodref 8 112), (0, .nameAndType 113 114), (0, u "decodeBlock"), (0, u "([BII[BIZZ)I"), (45, u "RFC4648"), (0, u "Ljava/util/Base64$Decoder;"), (2, u "RFC4648_URLSAFE"), (2, u "RFC2045"), (11, u "(Ljava/lang/String;)[B"), (40, .class_ 221), (0, u "java/util/Base64")] 4

def k13c0 : Code := { maxStack := 5, maxLocals := 4, code := jdk_2450_method_2_code, exceptionTable := #[], attributes := #[] }
def k13m0 : Method := { name := "decode", desc := "([B)[B", sig := { parameters := [(.array .byte)], returnType := some (.array .byte) }, accessFlags := 1, code := some k13c0 }
def k13c1 : Code := { maxStack := 3, maxLocals := 2, code := jdk_2450_method_3_code, exceptionTable := #[], attributes := #[] }
def k13m1 : Method := { name := "decode", desc := "(Ljava/lang/String;)[B", sig := { parameters := [(.object "java/lang/String")], returnType := some (.array .byte) }, accessFlags := 1, code := some k13c1 }
def k13c2 : Code := { maxStack := 5, maxLocals := 9, code := jdk_2450_method_7_code, exceptionTable := #[], attributes := #[] }
def k13m2 : Method := { name := "decodedOutLength", desc := "([BII)I", sig := { parameters := [(.array .byte), .int, .int], returnType := some .int }, accessFlags := 2, code := some k13c2 }
def k13c3 : Code := { maxStack := 4, maxLocals := 16, code := jdk_2450_method_8_code, exceptionTable := #[], attributes := #[] }
def k13m3 : Method := { name := "decodeBlock", desc := "([BII[BIZZ)I", sig := { parameters := [(.array .byte), .int, .int, (.array .byte), .int, .boolean, .boolean], returnType := some .int }, accessFlags := 2, code := some k13c3 }
def k13c4 : Code := { maxStack := 8, maxLocals := 11, code := jdk_2450_method_9_code, exceptionTable := #[], attributes := #[] }
def k13m4 : Method := { name := "decode0", desc := "([BII[B)I", sig := { parameters := [(.array .byte), .int, .int, (.array .byte)], returnType := some .int }, accessFlags := 2, code := some k13c4 }
/-- java/util/Base64$Decoder -/
def k13 : Class := { plain "java/util/Base64$Decoder" (some 0) with
  accessFlags := 33
  interfaces := #[]
  cf := some (fileOf pool13 8 #[.nestHost 220] #[{ accessFlags := 1, nameIndex := 44, descriptorIndex := 45, attributes := #[] }, { accessFlags := 1, nameIndex := 44, descriptorIndex := 179, attributes := #[] }, { accessFlags := 2, nameIndex := 18, descriptorIndex := 19, attributes := #[] }, { accessFlags := 2, nameIndex := 113, descriptorIndex := 114, attributes := #[] }, { accessFlags := 2, nameIndex := 22, descriptorIndex := 23, attributes := #[] }] 33 2 #[] #[{ accessFlags := 18, nameIndex := 11, descriptorIndex := 12, attributes := #[] }, { accessFlags := 18, nameIndex := 15, descriptorIndex := 12, attributes := #[] }, { accessFlags := 26, nameIndex := 101, descriptorIndex := 98, attributes := #[] }, { accessFlags := 26, nameIndex := 97, descriptorIndex := 98, attributes := #[] }, { accessFlags := 24, nameIndex := 160, descriptorIndex := 161, attributes := #[] }, { accessFlags := 24, nameIndex := 164, descriptorIndex := 161, attributes := #[] }, { accessFlags := 24, nameIndex := 167, descriptorIndex := 161, attributes := #[] }])
  fields := #[{ name := "isURL", type := .boolean, accessFlags := 18, slot := 0, constantValue := 0 }, { name := "isMIME", type := .boolean, accessFlags := 18, slot := 1, constantValue := 0 }, { name := "fromBase64", type := (.array .int), accessFlags := 26, slot := 0, constantValue := 0 }, { name := "fromBase64URL", type := (.array .int), accessFlags := 26, slot := 1, constantValue := 0 }, { name := "RFC4648", type := (.object "java/util/Base64$Decoder"), accessFlags := 24, slot := 2, constantValue := 0 }, { name := "RFC4648_URLSAFE", type := (.object "java/util/Base64$Decoder"), accessFlags := 24, slot := 3, constantValue := 0 }, { name := "RFC2045", type := (.object "java/util/Base64$Decoder"), accessFlags := 24, slot := 4, constantValue := 0 }]
  methods := #[k13m0, k13m1, k13m2, k13m3, k13m4]
  instanceTypes := #[.boolean, .boolean]
  staticTypes := #[(.array .int), (.array .int), (.object "java/util/Base64$Decoder"), (.object "java/util/Base64$Decoder"), (.object "java/util/Base64$Decoder")]
  resolved := Array.replicate 226 none
  statics := some 1 }

def pool14 : Array CpInfo := pool [(18, .class_ 20), (1, u "java/nio/charset/Charset"), (0, u "cache1"), (0, u "[Ljava/lang/Object;"), (2, u "cache2"), (0, .class_ 27), (0, u "java/lang/Object"), (0, .class_ 29), (0, u "java/nio/charset/Charset$1"), (4, .class_ 36), (1, u "java/nio/charset/Charset$ThreadTrackHolder"), (21, .class_ 59), (0, u "java/nio/charset/Charset$2"), (11, .class_ 73), (1, u "java/nio/charset/Charset$ExtendedProviderHolder"), (22, u "standardProvider"), (0, u "Ljava/nio/charset/spi/CharsetProvider;"), (29, u "name"), (7, .class_ 136), (0, u "java/nio/charset/Charset$3"), (5, u "defaultCharset"), (0, u "Ljava/nio/charset/Charset;"), (14, u "zeroAliases"), (0, u "[Ljava/lang/String;"), (29, u "Ljava/lang/String;"), (2, u "aliases"), (2, u "aliasSet"), (0, u "Ljava/util/Set;"), (82, .class_ 280), (0, u "java/lang/Comparable"), (84, .class_ 366), (0, u "java/nio/charset/Charset$ExtendedProviderHolder$1")] 3

/-- java/nio/charset/Charset -/
def k14 : Class := { plain "java/nio/charset/Charset" (some 0) with
  accessFlags := 1057
  interfaces := #[4]
  cf := some (fileOf pool14 18 #[.nestMembers #[71, 365, 34, 135, 58, 28]] #[] 1057 26 #[279] #[{ accessFlags := 26, nameIndex := 96, descriptorIndex := 97, attributes := #[] }, { accessFlags := 26, nameIndex := 158, descriptorIndex := 159, attributes := #[] }, { accessFlags := 74, nameIndex := 21, descriptorIndex := 22, attributes := #[] }, { accessFlags := 74, nameIndex := 25, descriptorIndex := 22, attributes := #[] }, { accessFlags := 10, nameIndex := 142, descriptorIndex := 143, attributes := #[] }, { accessFlags := 18, nameIndex := 127, descriptorIndex := 189, attributes := #[] }, { accessFlags := 18, nameIndex := 192, descriptorIndex := 159, attributes := #[] }, { accessFlags := 2, nameIndex := 195, descriptorIndex := 196, attributes := #[] }])
  fields := #[{ name := "standardProvider", type := (.object "java/nio/charset/spi/CharsetProvider"), accessFlags := 26, slot := 0, constantValue := 0 }, { name := "zeroAliases", type := (.array (.object "java/lang/String")), accessFlags := 26, slot := 1, constantValue := 0 }, { name := "cache1", type := (.array (.object "java/lang/Object")), accessFlags := 74, slot := 2, constantValue := 0 }, { name := "cache2", type := (.array (.object "java/lang/Object")), accessFlags := 74, slot := 3, constantValue := 0 }, { name := "defaultCharset", type := (.object "java/nio/charset/Charset"), accessFlags := 10, slot := 4, constantValue := 0 }, { name := "name", type := (.object "java/lang/String"), accessFlags := 18, slot := 0, constantValue := 0 }, { name := "aliases", type := (.array (.object "java/lang/String")), accessFlags := 18, slot := 1, constantValue := 0 }, { name := "aliasSet", type := (.object "java/util/Set"), accessFlags := 2, slot := 2, constantValue := 0 }]
  methods := #[]
  instanceTypes := #[(.object "java/lang/String"), (.array (.object "java/lang/String")), (.object "java/util/Set")]
  staticTypes := #[(.object "java/nio/charset/spi/CharsetProvider"), (.array (.object "java/lang/String")), (.array (.object "java/lang/Object")), (.array (.object "java/lang/Object")), (.object "java/nio/charset/Charset")]
  resolved := Array.replicate 370 none
  statics := none }

def pool15 : Array CpInfo := pool [(1, .class_ 2), (0, u "sun/nio/cs/HistoricallyNamedCharset"), (0, .class_ 4), (0, u "java/lang/Object")] 4

/-- sun/nio/cs/HistoricallyNamedCharset -/
def k15 : Class := { plain "sun/nio/cs/HistoricallyNamedCharset" (some 0) with
  accessFlags := 1537
  interfaces := #[]
  cf := some (fileOf pool15 1 #[] #[] 1537 3 #[] #[])
  fields := #[]
  methods := #[]
  instanceTypes := #[]
  staticTypes := #[]
  resolved := Array.replicate 9 none
  statics := none }

def pool16 : Array CpInfo := pool [(10, .class_ 12), (1, u "java/nio/charset/Charset"), (0, u "<init>"), (5, .class_ 20), (0, u "sun/nio/cs/ISO_8859_1"), (0, .class_ 22), (0, u "sun/nio/cs/ISO_8859_1$Decoder"), (3, .class_ 27), (0, u "sun/nio/cs/ISO_8859_1$Encoder"), (3, u "()V"), (2, u "INSTANCE"), (0, u "Lsun/nio/cs/ISO_8859_1;"), (0, .class_ 37), (0, u "sun/nio/cs/HistoricallyNamedCharset")] 22

def k16m0 : Method := { name := "<init>", desc := "()V", sig := { parameters := [], returnType := none }, accessFlags := 1, code := none }
/-- sun/nio/cs/ISO_8859_1 -/
def k16 : Class := { plain "sun/nio/cs/ISO_8859_1" (some 14) with
  accessFlags := 33
  interfaces := #[15]
  cf := some (fileOf pool16 19 #[.nestMembers #[26, 21]] #[{ accessFlags := 1, nameIndex := 13, descriptorIndex := 31, attributes := #[] }] 33 10 #[36] #[{ accessFlags := 25, nameIndex := 34, descriptorIndex := 35, attributes := #[] }])
  fields := #[{ name := "INSTANCE", type := (.object "sun/nio/cs/ISO_8859_1"), accessFlags := 25, slot := 0, constantValue := 0 }]
  methods := #[k16m0]
  instanceTypes := #[(.object "java/lang/String"), (.array (.object "java/lang/String")), (.object "java/util/Set")]
  staticTypes := #[(.object "sun/nio/cs/ISO_8859_1")]
  resolved := Array.replicate 60 none
  statics := some 2 }

def pool17 : Array CpInfo := pool [(2, .class_ 4), (1, u "java/nio/charset/Charset"), (130, .class_ 136), (0, u "sun/nio/cs/Unicode"), (0, .class_ 138), (0, u "sun/nio/cs/HistoricallyNamedCharset")] 15

/-- sun/nio/cs/Unicode -/
def k17 : Class := { plain "sun/nio/cs/Unicode" (some 14) with
  accessFlags := 1056
  interfaces := #[15]
  cf := some (fileOf pool17 135 #[] #[] 1056 2 #[137] #[])
  fields := #[]
  methods := #[]
  instanceTypes := #[(.object "java/lang/String"), (.array (.object "java/lang/String")), (.object "java/util/Set")]
  staticTypes := #[]
  resolved := Array.replicate 154 none
  statics := none }

def pool18 : Array CpInfo := pool [(10, .class_ 12), (1, u "sun/nio/cs/Unicode"), (0, u "<init>"), (3, .class_ 18), (0, u "sun/nio/cs/UTF_8$Decoder"), (3, .class_ 23), (0, u "sun/nio/cs/UTF_8$Encoder"), (15, .class_ 40), (0, u "sun/nio/cs/UTF_8"), (2, u "()V"), (2, u "INSTANCE"), (0, u "Lsun/nio/cs/UTF_8;"), (8, u "JLA"), (0, u "Ljdk/internal/access/JavaLangAccess;")] 26

def k18m0 : Method := { name := "<init>", desc := "()V", sig := { parameters := [], returnType := none }, accessFlags := 1, code := none }
/-- sun/nio/cs/UTF_8 -/
def k18 : Class := { plain "sun/nio/cs/UTF_8" (some 17) with
  accessFlags := 49
  interfaces := #[]
  cf := some (fileOf pool18 39 #[.nestMembers #[22, 17]] #[{ accessFlags := 1, nameIndex := 13, descriptorIndex := 43, attributes := #[] }] 49 10 #[] #[{ accessFlags := 25, nameIndex := 46, descriptorIndex := 47, attributes := #[] }, { accessFlags := 26, nameIndex := 56, descriptorIndex := 57, attributes := #[] }])
  fields := #[{ name := "INSTANCE", type := (.object "sun/nio/cs/UTF_8"), accessFlags := 25, slot := 0, constantValue := 0 }, { name := "JLA", type := (.object "jdk/internal/access/JavaLangAccess"), accessFlags := 26, slot := 1, constantValue := 0 }]
  methods := #[k18m0]
  instanceTypes := #[(.object "java/lang/String"), (.array (.object "java/lang/String")), (.object "java/util/Set")]
  staticTypes := #[(.object "sun/nio/cs/UTF_8"), (.object "jdk/internal/access/JavaLangAccess")]
  resolved := Array.replicate 84 none
  statics := some 3 }

def pool19 : Array CpInfo := pool [(1, .class_ 2), (0, u "java/lang/Cloneable"), (0, .class_ 4), (0, u "java/lang/Object")] 2

/-- java/lang/Cloneable -/
def k19 : Class := { plain "java/lang/Cloneable" (some 0) with
  accessFlags := 1537
  interfaces := #[]
  cf := some (fileOf pool19 1 #[] #[] 1537 3 #[] #[])
  fields := #[]
  methods := #[]
  instanceTypes := #[]
  staticTypes := #[]
  resolved := Array.replicate 7 none
  statics := none }

def pool20 : Array CpInfo := pool [(2, .class_ 4), (1, u "java/lang/Object"), (0, u "<init>"), (0, u "()V"), (17, .class_ 26), (1, u "jdk/internal/util/Preconditions"), (28, .class_ 56), (0, u "jdk/internal/util/Preconditions$4"), (57, .class_ 115), (0, u "jdk/internal/util/Preconditions$1"), (7, u "SIOOBE_FORMATTER"), (0, u "Ljava/util/function/BiFunction;"), (0, .class_ 126), (0, u "jdk/internal/util/Preconditions$2"), (3, u "AIOOBE_FORMATTER"), (0, .class_ 132), (0, u "jdk/internal/util/Preconditions$3"), (3, u "IOOBE_FORMATTER")] 57

def k20m0 : Method := { name := "<init>", desc := "()V", sig := { parameters := [], returnType := none }, accessFlags := 1, code := none }
/-- jdk/internal/util/Preconditions -/
def k20 : Class := { plain "jdk/internal/util/Preconditions" (some 0) with
  accessFlags := 33
  interfaces := #[]
  cf := some (fileOf pool20 24 #[.nestMembers #[55, 131, 125, 114]] #[{ accessFlags := 1, nameIndex := 5, descriptorIndex := 6, attributes := #[] }] 33 2 #[] #[{ accessFlags := 25, nameIndex := 123, descriptorIndex := 124, attributes := #[] }, { accessFlags := 25, nameIndex := 130, descriptorIndex := 124, attributes := #[] }, { accessFlags := 25, nameIndex := 136, descriptorIndex := 124, attributes := #[] }])
  fields := #[{ name := "SIOOBE_FORMATTER", type := (.object "java/util/function/BiFunction"), accessFlags := 25, slot := 0, constantValue := 0 }, { name := "AIOOBE_FORMATTER", type := (.object "java/util/function/BiFunction"), accessFlags := 25, slot := 1, constantValue := 0 }, { name := "IOOBE_FORMATTER", type := (.object "java/util/function/BiFunction"), accessFlags := 25, slot := 2, constantValue := 0 }]
  methods := #[k20m0]
  instanceTypes := #[]
  staticTypes := #[(.object "java/util/function/BiFunction"), (.object "java/util/function/BiFunction"), (.object "java/util/function/BiFunction")]
  resolved := Array.replicate 194 none
  statics := some 4 }

def pool21 : Array CpInfo := pool [(9, u "<init>"), (6, .class_ 18), (1, u "java/lang/Object"), (0, u "()V"), (1, .class_ 23), (1, u "jdk/internal/util/ArraysSupport"), (0, u "LOG2_ARRAY_LONG_INDEX_SCALE"), (0, u "I"), (2, u "U"), (0, u "Ljdk/internal/misc/Unsafe;"), (8, u "BIG_ENDIAN"), (0, u "Z"), (8, u "LOG2_BYTE_BIT_SIZE"), (4, u "LOG2_ARRAY_INT_INDEX_SCALE"), (54, u "JLA"), (0, u "Ljdk/internal/access/JavaLangAccess;"), (11, u "LOG2_ARRAY_BOOLEAN_INDEX_SCALE"), (9, u "LOG2_ARRAY_BYTE_INDEX_SCALE"), (5, u "LOG2_ARRAY_CHAR_INDEX_SCALE"), (5, u "LOG2_ARRAY_SHORT_INDEX_SCALE"), (18, u "LOG2_ARRAY_FLOAT_INDEX_SCALE"), (24, u "LOG2_ARRAY_DOUBLE_INDEX_SCALE"), (89, u "T_BOOLEAN"), (2, u "T_CHAR"), (1, u "T_FLOAT"), (1, u "T_DOUBLE"), (1, u "T_BYTE"), (1, u "T_SHORT"), (1, u "T_INT"), (1, u "T_LONG"), (1, u "SOFT_MAX_ARRAY_LENGTH")] 83

def k21m0 : Method := { name := "<init>", desc := "()V", sig := { parameters := [], returnType := none }, accessFlags := 2, code := none }
/-- jdk/internal/util/ArraysSupport -/
def k21 : Class := { plain "jdk/internal/util/ArraysSupport" (some 0) with
  accessFlags := 33
  interfaces := #[]
  cf := some (fileOf pool21 21 #[] #[{ accessFlags := 2, nameIndex := 9, descriptorIndex := 19, attributes := #[] }] 33 16 #[] #[{ accessFlags := 24, nameIndex := 28, descriptorIndex := 29, attributes := #[] }, { accessFlags := 26, nameIndex := 38, descriptorIndex := 39, attributes := #[] }, { accessFlags := 25, nameIndex := 121, descriptorIndex := 25, attributes := #[] }, { accessFlags := 25, nameIndex := 131, descriptorIndex := 25, attributes := #[] }, { accessFlags := 25, nameIndex := 137, descriptorIndex := 25, attributes := #[] }, { accessFlags := 25, nameIndex := 143, descriptorIndex := 25, attributes := #[] }, { accessFlags := 25, nameIndex := 53, descriptorIndex := 25, attributes := #[] }, { accessFlags := 25, nameIndex := 24, descriptorIndex := 25, attributes := #[] }, { accessFlags := 25, nameIndex := 162, descriptorIndex := 25, attributes := #[] }, { accessFlags := 25, nameIndex := 187, descriptorIndex := 25, attributes := #[] }, { accessFlags := 26, nameIndex := 48, descriptorIndex := 25, attributes := #[] }, { accessFlags := 25, nameIndex := 277, descriptorIndex := 25, attributes := #[] }, { accessFlags := 25, nameIndex := 280, descriptorIndex := 25, attributes := #[] }, { accessFlags := 25, nameIndex := 282, descriptorIndex := 25, attributes := #[] }, { accessFlags := 25, nameIndex := 284, descriptorIndex := 25, attributes := #[] }, { accessFlags := 25, nameIndex := 286, descriptorIndex := 25, attributes := #[] }, { accessFlags := 25, nameIndex := 288, descriptorIndex := 25, attributes := #[] }, { accessFlags := 25, nameIndex := 290, descriptorIndex := 25, attributes := #[] }, { accessFlags := 25, nameIndex := 292, descriptorIndex := 25, attributes := #[] }, { accessFlags := 26, nameIndex := 108, descriptorIndex := 109, attributes := #[] }, { accessFlags := 25, nameIndex := 294, descriptorIndex := 25, attributes := #[] }])
  fields := #[{ name := "U", type := (.object "jdk/internal/misc/Unsafe"), accessFlags := 24, slot := 0, constantValue := 0 }, { name := "BIG_ENDIAN", type := .boolean, accessFlags := 26, slot := 1, constantValue := 0 }, { name := "LOG2_ARRAY_BOOLEAN_INDEX_SCALE", type := .int, accessFlags := 25, slot := 2, constantValue := 0 }, { name := "LOG2_ARRAY_BYTE_INDEX_SCALE", type := .int, accessFlags := 25, slot := 3, constantValue := 0 }, { name := "LOG2_ARRAY_CHAR_INDEX_SCALE", type := .int, accessFlags := 25, slot := 4, constantValue := 0 }, { name := "LOG2_ARRAY_SHORT_INDEX_SCALE", type := .int, accessFlags := 25, slot := 5, constantValue := 0 }, { name := "LOG2_ARRAY_INT_INDEX_SCALE", type := .int, accessFlags := 25, slot := 6, constantValue := 0 }, { name := "LOG2_ARRAY_LONG_INDEX_SCALE", type := .int, accessFlags := 25, slot := 7, constantValue := 0 }, { name := "LOG2_ARRAY_FLOAT_INDEX_SCALE", type := .int, accessFlags := 25, slot := 8, constantValue := 0 }, { name := "LOG2_ARRAY_DOUBLE_INDEX_SCALE", type := .int, accessFlags := 25, slot := 9, constantValue := 0 }, { name := "LOG2_BYTE_BIT_SIZE", type := .int, accessFlags := 26, slot := 10, constantValue := 0 }, { name := "T_BOOLEAN", type := .int, accessFlags := 25, slot := 11, constantValue := 0 }, { name := "T_CHAR", type := .int, accessFlags := 25, slot := 12, constantValue := 0 }, { name := "T_FLOAT", type := .int, accessFlags := 25, slot := 13, constantValue := 0 }, { name := "T_DOUBLE", type := .int, accessFlags := 25, slot := 14, constantValue := 0 }, { name := "T_BYTE", type := .int, accessFlags := 25, slot := 15, constantValue := 0 }, { name := "T_SHORT", type := .int, accessFlags := 25, slot := 16, constantValue := 0 }, { name := "T_INT", type := .int, accessFlags := 25, slot := 17, constantValue := 0 }, { name := "T_LONG", type := .int, accessFlags := 25, slot := 18, constantValue := 0 }, { name := "JLA", type := (.object "jdk/internal/access/JavaLangAccess"), accessFlags := 26, slot := 19, constantValue := 0 }, { name := "SOFT_MAX_ARRAY_LENGTH", type := .int, accessFlags := 25, slot := 20, constantValue := 0 }]
  methods := #[k21m0]
  instanceTypes := #[]
  staticTypes := #[(.object "jdk/internal/misc/Unsafe"), .boolean, .int, .int, .int, .int, .int, .int, .int, .int, .int, .int, .int, .int, .int, .int, .int, .int, .int, (.object "jdk/internal/access/JavaLangAccess"), .int]
  resolved := Array.replicate 378 none
  statics := none }

/-- the primitive byte -/
def k22 : Class := { plain "byte" none with kind := .primitive 'B', accessFlags := 0x411 }
/-- [B -/
def k23 : Class := { plain "[B" (some 0) with kind := .array 22 .byte, interfaces := #[19, 3], accessFlags := 1041 }

/-- the primitive char -/
def k24 : Class := { plain "char" none with kind := .primitive 'C', accessFlags := 0x411 }
/-- [C -/
def k25 : Class := { plain "[C" (some 0) with kind := .array 24 .char, interfaces := #[19, 3], accessFlags := 1041 }

/-- the primitive int -/
def k26 : Class := { plain "int" none with kind := .primitive 'I', accessFlags := 0x411 }
/-- [I -/
def k27 : Class := { plain "[I" (some 0) with kind := .array 26 .int, interfaces := #[19, 3], accessFlags := 1041 }

def heap : Heap := #[{ cls := 8, slots := #[.long 0, .int 1, .null, .int 0, .null, .int 0, .int 0], vm := .statics 8 },
  { cls := 13, slots := #[.null, .ref 9, .null, .ref 6, .null], vm := .statics 13 },
  { cls := 16, slots := #[.ref 7], vm := .statics 16 },
  { cls := 18, slots := #[.ref 8, .null], vm := .statics 18 },
  { cls := 20, slots := #[.null, .null, .null], vm := .statics 20 },
  { cls := 21, slots := #[], vm := .none },
  { cls := 13, slots := #[.int 1, .int 0], vm := .none },
  { cls := 16, slots := #[.null, .null, .null], vm := .none },
  { cls := 18, slots := #[.null, .null, .null], vm := .none },
  { cls := 27, slots := #[.int (-1), .int (-1), .int (-1), .int (-1), .int (-1), .int (-1), .int (-1), .int (-1), .int (-1), .int (-1), .int (-1), .int (-1), .int (-1), .int (-1), .int (-1), .int (-1), .int (-1), .int (-1), .int (-1), .int (-1), .int (-1), .int (-1), .int (-1), .int (-1), .int (-1), .int (-1), .int (-1), .int (-1), .int (-1), .int (-1), .int (-1), .int (-1), .int (-1), .int (-1), .int (-1), .int (-1), .int (-1), .int (-1), .int (-1), .int (-1), .int (-1), .int (-1), .int (-1), .int (-1), .int (-1), .int 62, .int (-1), .int (-1), .int 52, .int 53, .int 54, .int 55, .int 56, .int 57, .int 58, .int 59, .int 60, .int 61, .int (-1), .int (-1), .int (-1), .int (-2), .int (-1), .int (-1), .int (-1), .int 0, .int 1, .int 2, .int 3, .int 4, .int 5, .int 6, .int 7, .int 8, .int 9, .int 10, .int 11, .int 12, .int 13, .int 14, .int 15, .int 16, .int 17, .int 18, .int 19, .int 20, .int 21, .int 22, .int 23, .int 24, .int 25, .int (-1), .int (-1), .int (-1), .int (-1), .int 63, .int (-1), .int 26, .int 27, .int 28, .int 29, .int 30, .int 31, .int 32, .int 33, .int 34, .int 35, .int 36, .int 37, .int 38, .int 39, .int 40, .int 41, .int 42, .int 43, .int 44, .int 45, .int 46, .int 47, .int 48, .int 49, .int 50, .int 51, .int (-1), .int (-1), .int (-1), .int (-1), .int (-1), .int (-1), .int (-1), .int (-1), .int (-1), .int (-1), .int (-1), .int (-1), .int (-1), .int (-1), .int (-1), .int (-1), .int (-1), .int (-1), .int (-1), .int (-1), .int (-1), .int (-1), .int (-1), .int (-1), .int (-1), .int (-1), .int (-1), .int (-1), .int (-1), .int (-1), .int (-1), .int (-1), .int (-1), .int (-1), .int (-1), .int (-1), .int (-1), .int (-1), .int (-1), .int (-1), .int (-1), .int (-1), .int (-1), .int (-1), .int (-1), .int (-1), .int (-1), .int (-1), .int (-1), .int (-1), .int (-1), .int (-1), .int (-1), .int (-1), .int (-1), .int (-1), .int (-1), .int (-1), .int (-1), .int (-1), .int (-1), .int (-1), .int (-1), .int (-1), .int (-1), .int (-1), .int (-1), .int (-1), .int (-1), .int (-1), .int (-1), .int (-1), .int (-1), .int (-1), .int (-1), .int (-1), .int (-1), .int (-1), .int (-1), .int (-1), .int (-1), .int (-1), .int (-1), .int (-1), .int (-1), .int (-1), .int (-1), .int (-1), .int (-1), .int (-1), .int (-1), .int (-1), .int (-1), .int (-1), .int (-1), .int (-1), .int (-1), .int (-1), .int (-1), .int (-1), .int (-1), .int (-1), .int (-1), .int (-1), .int (-1), .int (-1), .int (-1), .int (-1), .int (-1), .int (-1), .int (-1), .int (-1), .int (-1), .int (-1), .int (-1), .int (-1), .int (-1), .int (-1), .int (-1), .int (-1), .int (-1), .int (-1), .int (-1), .int (-1), .int (-1), .int (-1), .int (-1), .int (-1), .int (-1), .int (-1), .int (-1), .int (-1), .int (-1)], vm := .none }]
def classes : Array Class := #[k0, k1, k2, k3, k4, k5, k6, k7, k8, k9, k10, k11, k12, k13, k14, k15, k16, k17, k18, k19, k20, k21, k22, k23, k24, k25, k26, k27]
def interned : List (Array UInt16 × Addr) := []
def slotsUsed : Nat := 282
def theMethod : MethodId := ⟨1, 4⟩
def args0 : Array Value := #[.int 5, .int 5, .int 5]
def aboutOver (below : List Frame) : State where
  vm := { classes := classes, interned := interned.toArray }
  heap := heap
  slotsUsed := slotsUsed
  threads := #[{ frames := .invoking theMethod args0 :: below }]
def below0 : List Frame := [.native { method := ⟨0, 0⟩, args := #[] }]
def about1 : State := aboutOver below0
def p0 : Program := .bare "" "" ""
def e0 : Env := launch0.env 0 0 0
theorem w_frames : about1.frames = Frame.invoking theMethod args0 :: below0 := rfl
set_option maxRecDepth 65536 in
theorem w_args : argsFit about1.vm theMethod args0 = true := by decide +kernel
set_option maxRecDepth 65536 in
theorem w_heap : heapFits about1 = true := by decide +kernel
set_option maxRecDepth 65536 in
theorem w_runnable : about1.curStatus? = some .runnable := by decide +kernel
set_option maxRecDepth 65536 in
theorem w_alone : about1.alone = true := by decide +kernel
set_option maxRecDepth 65536 in
theorem w_named : about1.methodNamed? x = some theMethod := by decide +kernel
set_option maxRecDepth 65536 in
theorem w_hears : about1.hears theMethod below0 = true := by decide +kernel
set_option maxRecDepth 65536 in
theorem w_ripe : about1.ripe theMethod args0 below0 = true := by decide +kernel
theorem w_running : about1.status = .running := rfl
set_option maxRecDepth 65536 in
theorem w_room : about1.hasRoom e0.platform room_1 = true :=
  launch0.hasRoom_least _ room_1 (by decide +kernel) (by decide +kernel) (by decide +kernel) (by decide +kernel) (by decide +kernel) (by decide +kernel)
theorem allAtoms_all (ts : List Jvm.Cond) (a : Array Jvm.Value) (st : Jvm.State) : (allAtoms ts).before a st = ts.all (fun c => c.before a st) := by
  induction ts with
  | nil => rfl
  | cons c t ih =>
    show (Jvm.Cond.and c (allAtoms t)).before a st = _
    rw [Jvm.Cond.before_and, ih, List.all_cons]
def words1 : List Jvm.Cond := Jvm.Cond.code x code maxLocals ret :: tables_1
/-- a 'code' word, met by the world's own term for the bytes: nothing is compared byte by byte -/
theorem code_word {y : MethodName} {bytes : ByteArray} {mx : Nat} {rt : Option FieldType} {a : Array Value} {s : State} {m : MethodId} {meth : Method} {c : Code} (h1 : s.methodNamed? y = some m) (h2 : s.vm.method? m = some meth) (h3 : meth.code = some c) (h4 : c.code = bytes)
    (h5 : (c.maxLocals == mx && c.exceptionTable.isEmpty && decide (c.maxStack ≤ mostOperands) && decide (meth.sig.returnType = rt) && !meth.locks && decide (parseMethodDescriptor y.desc = some meth.sig)) = true) : (Jvm.Cond.code y bytes mx rt).before a s = true := by
  simp only [Bool.and_eq_true, beq_iff_eq, Bool.not_eq_true', decide_eq_true_eq] at h5
  obtain ⟨⟨⟨⟨⟨g1, g2⟩, g3⟩, g4⟩, g5⟩, g6⟩ := h5
  simp [Cond.before, Cond.holds, Cond.value, h1, h2, h3, h4, g1, g2, g3, g4, g5, g6]
def isCode : Jvm.Cond → Bool
  | .code _ _ _ _ => true
  | _ => false
theorem all_split {L : List Jvm.Cond} {P : Jvm.Cond → Bool} (h1 : L.all (fun c => isCode c || P c) = true) (h2 : ∀ c ∈ L.filter isCode, P c = true) : L.all P = true := by
  refine List.all_eq_true.mpr fun c hc => ?_
  have h := List.all_eq_true.mp h1 c hc
  rcases Bool.eq_false_or_eq_true (isCode c) with hi | hi
  · exact h2 c (List.mem_filter.mpr ⟨hc, hi⟩)
  · simpa [hi] using h
set_option maxRecDepth 65536 in
theorem w_c0 : (Jvm.Cond.code x code maxLocals ret).before args0 about1 = true := code_word (m := ⟨1, 4⟩) (meth := k1m4) (c := k1c4) (by decide +kernel) rfl rfl rfl (by decide +kernel)
set_option maxRecDepth 65536 in
theorem w_c1 : (Jvm.Cond.code ({ cls := "java/lang/Math", name := "min", desc := "(II)I" } : Jvm.MethodName) jdk_29_method_69_code (2 : Nat) (Option.some Jvm.ClassFile.FieldType.int)).before args0 about1 = true := code_word (m := ⟨2, 2⟩) (meth := k2m2) (c := k2c2) (by decide +kernel) rfl rfl rfl (by decide +kernel)
set_option maxRecDepth 65536 in
theorem w_c2 : (Jvm.Cond.code ({ cls := "com/example/research_access_policy/researchaccesspolicy/token/Base64UrlDecodePinLaw", name := "put", desc := "([CIIIII)V" } : Jvm.MethodName) method_3_code (7 : Nat) (Option.none : Option Jvm.ClassFile.FieldType)).before args0 about1 = true := code_word (m := ⟨1, 2⟩) (meth := k1m2) (c := k1c2) (by decide +kernel) rfl rfl rfl (by decide +kernel)
set_option maxRecDepth 65536 in
theorem w_c3 : (Jvm.Cond.code ({ cls := "com/example/research_access_policy/researchaccesspolicy/token/Base64UrlDecodePinLaw", name := "sym", desc := "(I)C" } : Jvm.MethodName) method_2_code (1 : Nat) (Option.some Jvm.ClassFile.FieldType.char)).before args0 about1 = true := code_word (m := ⟨1, 1⟩) (meth := k1m1) (c := k1c1) (by decide +kernel) rfl rfl rfl (by decide +kernel)
set_option maxRecDepth 65536 in
theorem w_c4 : (Jvm.Cond.code ({ cls := "java/lang/String", name := "<init>", desc := "([C)V" } : Jvm.MethodName) jdk_42_method_3_code (2 : Nat) (Option.none : Option Jvm.ClassFile.FieldType)).before args0 about1 = true := code_word (m := ⟨8, 1⟩) (meth := k8m1) (c := k8c1) (by decide +kernel) rfl rfl rfl (by decide +kernel)
set_option maxRecDepth 65536 in
theorem w_c5 : (Jvm.Cond.code ({ cls := "java/lang/String", name := "<init>", desc := "([CIILjava/lang/Void;)V" } : Jvm.MethodName) jdk_42_method_149_code (6 : Nat) (Option.none : Option Jvm.ClassFile.FieldType)).before args0 about1 = true := code_word (m := ⟨8, 9⟩) (meth := k8m9) (c := k8c9) (by decide +kernel) rfl rfl rfl (by decide +kernel)
set_option maxRecDepth 65536 in
theorem w_c6 : (Jvm.Cond.code ({ cls := "java/lang/Object", name := "<init>", desc := "()V" } : Jvm.MethodName) object_method_1_code (1 : Nat) (Option.none : Option Jvm.ClassFile.FieldType)).before args0 about1 = true := code_word (m := ⟨0, 0⟩) (meth := k0m0) (c := k0c0) (by decide +kernel) rfl rfl rfl (by decide +kernel)
set_option maxRecDepth 65536 in
theorem w_c7 : (Jvm.Cond.code ({ cls := "java/lang/StringUTF16", name := "compress", desc := "([CII)[B" } : Jvm.MethodName) jdk_52_method_16_code (6 : Nat) (Option.some (Jvm.ClassFile.FieldType.array Jvm.ClassFile.FieldType.byte))).before args0 about1 = true := code_word (m := ⟨9, 2⟩) (meth := k9m2) (c := k9c2) (by decide +kernel) rfl rfl rfl (by decide +kernel)
set_option maxRecDepth 65536 in
theorem w_c8 : (Jvm.Cond.code ({ cls := "java/lang/StringUTF16", name := "compress", desc := "([CI[BII)I" } : Jvm.MethodName) jdk_52_method_21_code (7 : Nat) (Option.some Jvm.ClassFile.FieldType.int)).before args0 about1 = true := code_word (m := ⟨9, 3⟩) (meth := k9m3) (c := k9c3) (by decide +kernel) rfl rfl rfl (by decide +kernel)
set_option maxRecDepth 65536 in
theorem w_c9 : (Jvm.Cond.code ({ cls := "java/lang/StringUTF16", name := "coderFromArrayLen", desc := "([BI)B" } : Jvm.MethodName) jdk_52_method_15_code (2 : Nat) (Option.some Jvm.ClassFile.FieldType.byte)).before args0 about1 = true := code_word (m := ⟨9, 1⟩) (meth := k9m1) (c := k9c1) (by decide +kernel) rfl rfl rfl (by decide +kernel)
set_option maxRecDepth 65536 in
theorem w_c10 : (Jvm.Cond.code ({ cls := "com/example/research_access_policy/researchaccesspolicy/token/Base64Url", name := "decode", desc := "(Ljava/lang/String;)[B" } : Jvm.MethodName) prog_16_method_2_code (1 : Nat) (Option.some (Jvm.ClassFile.FieldType.array Jvm.ClassFile.FieldType.byte))).before args0 about1 = true := code_word (m := ⟨10, 1⟩) (meth := k10m1) (c := k10c1) (by decide +kernel) rfl rfl rfl (by decide +kernel)
set_option maxRecDepth 65536 in
theorem w_c11 : (Jvm.Cond.code ({ cls := "java/lang/String", name := "indexOf", desc := "(I)I" } : Jvm.MethodName) jdk_42_method_79_code (2 : Nat) (Option.some Jvm.ClassFile.FieldType.int)).before args0 about1 = true := code_word (m := ⟨8, 7⟩) (meth := k8m7) (c := k8c7) (by decide +kernel) rfl rfl rfl (by decide +kernel)
set_option maxRecDepth 65536 in
theorem w_c12 : (Jvm.Cond.code ({ cls := "java/lang/String", name := "indexOf", desc := "(II)I" } : Jvm.MethodName) jdk_42_method_80_code (3 : Nat) (Option.some Jvm.ClassFile.FieldType.int)).before args0 about1 = true := code_word (m := ⟨8, 8⟩) (meth := k8m8) (c := k8c8) (by decide +kernel) rfl rfl rfl (by decide +kernel)
set_option maxRecDepth 65536 in
theorem w_c13 : (Jvm.Cond.code ({ cls := "java/lang/String", name := "isLatin1", desc := "()Z" } : Jvm.MethodName) jdk_42_method_154_code (1 : Nat) (Option.some Jvm.ClassFile.FieldType.boolean)).before args0 about1 = true := code_word (m := ⟨8, 11⟩) (meth := k8m11) (c := k8c11) (by decide +kernel) rfl rfl rfl (by decide +kernel)
set_option maxRecDepth 65536 in
theorem w_c14 : (Jvm.Cond.code ({ cls := "java/lang/String", name := "length", desc := "()I" } : Jvm.MethodName) jdk_42_method_54_code (1 : Nat) (Option.some Jvm.ClassFile.FieldType.int)).before args0 about1 = true := code_word (m := ⟨8, 5⟩) (meth := k8m5) (c := k8c5) (by decide +kernel) rfl rfl rfl (by decide +kernel)
set_option maxRecDepth 65536 in
theorem w_c15 : (Jvm.Cond.code ({ cls := "java/lang/String", name := "coder", desc := "()B" } : Jvm.MethodName) jdk_42_method_152_code (1 : Nat) (Option.some Jvm.ClassFile.FieldType.byte)).before args0 about1 = true := code_word (m := ⟨8, 10⟩) (meth := k8m10) (c := k8c10) (by decide +kernel) rfl rfl rfl (by decide +kernel)
set_option maxRecDepth 65536 in
theorem w_c16 : (Jvm.Cond.code ({ cls := "java/lang/StringLatin1", name := "indexOf", desc := "([BIII)I" } : Jvm.MethodName) jdk_43_method_22_code (4 : Nat) (Option.some Jvm.ClassFile.FieldType.int)).before args0 about1 = true := code_word (m := ⟨11, 2⟩) (meth := k11m2) (c := k11c2) (by decide +kernel) rfl rfl rfl (by decide +kernel)
set_option maxRecDepth 65536 in
theorem w_c17 : (Jvm.Cond.code ({ cls := "java/lang/StringLatin1", name := "canEncode", desc := "(I)Z" } : Jvm.MethodName) jdk_43_method_4_code (1 : Nat) (Option.some Jvm.ClassFile.FieldType.boolean)).before args0 about1 = true := code_word (m := ⟨11, 1⟩) (meth := k11m1) (c := k11c1) (by decide +kernel) rfl rfl rfl (by decide +kernel)
set_option maxRecDepth 65536 in
theorem w_c18 : (Jvm.Cond.code ({ cls := "java/lang/Math", name := "max", desc := "(II)I" } : Jvm.MethodName) jdk_29_method_65_code (2 : Nat) (Option.some Jvm.ClassFile.FieldType.int)).before args0 about1 = true := code_word (m := ⟨2, 1⟩) (meth := k2m1) (c := k2c1) (by decide +kernel) rfl rfl rfl (by decide +kernel)
set_option maxRecDepth 65536 in
theorem w_c19 : (Jvm.Cond.code ({ cls := "java/lang/StringLatin1", name := "indexOfChar", desc := "([BIII)I" } : Jvm.MethodName) jdk_43_method_23_code (6 : Nat) (Option.some Jvm.ClassFile.FieldType.int)).before args0 about1 = true := code_word (m := ⟨11, 3⟩) (meth := k11m3) (c := k11c3) (by decide +kernel) rfl rfl rfl (by decide +kernel)
set_option maxRecDepth 65536 in
theorem w_c20 : (Jvm.Cond.code ({ cls := "java/util/Base64", name := "getUrlDecoder", desc := "()Ljava/util/Base64$Decoder;" } : Jvm.MethodName) jdk_2448_method_7_code (0 : Nat) (Option.some (Jvm.ClassFile.FieldType.object "java/util/Base64$Decoder"))).before args0 about1 = true := code_word (m := ⟨12, 1⟩) (meth := k12m1) (c := k12c1) (by decide +kernel) rfl rfl rfl (by decide +kernel)
set_option maxRecDepth 65536 in
theorem w_c21 : (Jvm.Cond.code ({ cls := "java/util/Base64$Decoder", name := "decode", desc := "(Ljava/lang/String;)[B" } : Jvm.MethodName) jdk_2450_method_3_code (2 : Nat) (Option.some (Jvm.ClassFile.FieldType.array Jvm.ClassFile.FieldType.byte))).before args0 about1 = true := code_word (m := ⟨13, 1⟩) (meth := k13m1) (c := k13c1) (by decide +kernel) rfl rfl rfl (by decide +kernel)
set_option maxRecDepth 65536 in
theorem w_c22 : (Jvm.Cond.code ({ cls := "java/lang/String", name := "getBytes", desc := "(Ljava/nio/charset/Charset;)[B" } : Jvm.MethodName) jdk_42_method_64_code (2 : Nat) (Option.some (Jvm.ClassFile.FieldType.array Jvm.ClassFile.FieldType.byte))).before args0 about1 = true := code_word (m := ⟨8, 6⟩) (meth := k8m6) (c := k8c6) (by decide +kernel) rfl rfl rfl (by decide +kernel)
set_option maxRecDepth 65536 in
theorem w_c23 : (Jvm.Cond.code ({ cls := "java/lang/String", name := "encode", desc := "(Ljava/nio/charset/Charset;B[B)[B" } : Jvm.MethodName) jdk_42_method_18_code (3 : Nat) (Option.some (Jvm.ClassFile.FieldType.array Jvm.ClassFile.FieldType.byte))).before args0 about1 = true := code_word (m := ⟨8, 2⟩) (meth := k8m2) (c := k8c2) (by decide +kernel) rfl rfl rfl (by decide +kernel)
set_option maxRecDepth 65536 in
theorem w_c24 : (Jvm.Cond.code ({ cls := "java/lang/String", name := "encode8859_1", desc := "(B[B)[B" } : Jvm.MethodName) jdk_42_method_26_code (2 : Nat) (Option.some (Jvm.ClassFile.FieldType.array Jvm.ClassFile.FieldType.byte))).before args0 about1 = true := code_word (m := ⟨8, 3⟩) (meth := k8m3) (c := k8c3) (by decide +kernel) rfl rfl rfl (by decide +kernel)
set_option maxRecDepth 65536 in
theorem w_c25 : (Jvm.Cond.code ({ cls := "java/lang/String", name := "encode8859_1", desc := "(B[BZ)[B" } : Jvm.MethodName) jdk_42_method_27_code (10 : Nat) (Option.some (Jvm.ClassFile.FieldType.array Jvm.ClassFile.FieldType.byte))).before args0 about1 = true := code_word (m := ⟨8, 4⟩) (meth := k8m4) (c := k8c4) (by decide +kernel) rfl rfl rfl (by decide +kernel)
set_option maxRecDepth 65536 in
theorem w_c26 : (Jvm.Cond.code ({ cls := "java/util/Base64$Decoder", name := "decode", desc := "([B)[B" } : Jvm.MethodName) jdk_2450_method_2_code (4 : Nat) (Option.some (Jvm.ClassFile.FieldType.array Jvm.ClassFile.FieldType.byte))).before args0 about1 = true := code_word (m := ⟨13, 0⟩) (meth := k13m0) (c := k13c0) (by decide +kernel) rfl rfl rfl (by decide +kernel)
set_option maxRecDepth 65536 in
theorem w_c27 : (Jvm.Cond.code ({ cls := "java/util/Base64$Decoder", name := "decodedOutLength", desc := "([BII)I" } : Jvm.MethodName) jdk_2450_method_7_code (9 : Nat) (Option.some Jvm.ClassFile.FieldType.int)).before args0 about1 = true := code_word (m := ⟨13, 2⟩) (meth := k13m2) (c := k13c2) (by decide +kernel) rfl rfl rfl (by decide +kernel)
set_option maxRecDepth 65536 in
theorem w_c28 : (Jvm.Cond.code ({ cls := "java/util/Base64$Decoder", name := "decode0", desc := "([BII[B)I" } : Jvm.MethodName) jdk_2450_method_9_code (11 : Nat) (Option.some Jvm.ClassFile.FieldType.int)).before args0 about1 = true := code_word (m := ⟨13, 4⟩) (meth := k13m4) (c := k13c4) (by decide +kernel) rfl rfl rfl (by decide +kernel)
set_option maxRecDepth 65536 in
theorem w_c29 : (Jvm.Cond.code ({ cls := "com/example/research_access_policy/researchaccesspolicy/token/Base64UrlDecodePinLaw", name := "at", desc := "([BIII)Z" } : Jvm.MethodName) method_4_code (4 : Nat) (Option.some Jvm.ClassFile.FieldType.boolean)).before args0 about1 = true := code_word (m := ⟨1, 3⟩) (meth := k1m3) (c := k1c3) (by decide +kernel) rfl rfl rfl (by decide +kernel)
set_option maxRecDepth 65536 in
theorem w_c30 : (Jvm.Cond.code ({ cls := "java/util/Base64$Decoder", name := "decodeBlock", desc := "([BII[BIZZ)I" } : Jvm.MethodName) jdk_2450_method_8_code (16 : Nat) (Option.some Jvm.ClassFile.FieldType.int)).before args0 about1 = true := code_word (m := ⟨13, 3⟩) (meth := k13m3) (c := k13c3) (by decide +kernel) rfl rfl rfl (by decide +kernel)
def codes1 : List Jvm.Cond := [Jvm.Cond.code x code maxLocals ret, Jvm.Cond.code ({ cls := "java/lang/Math", name := "min", desc := "(II)I" } : Jvm.MethodName) jdk_29_method_69_code (2 : Nat) (Option.some Jvm.ClassFile.FieldType.int), Jvm.Cond.code ({ cls := "com/example/research_access_policy/researchaccesspolicy/token/Base64UrlDecodePinLaw", name := "put", desc := "([CIIIII)V" } : Jvm.MethodName) method_3_code (7 : Nat) (Option.none : Option Jvm.ClassFile.FieldType), Jvm.Cond.code ({ cls := "com/example/research_access_policy/researchaccesspolicy/token/Base64UrlDecodePinLaw", name := "sym", desc := "(I)C" } : Jvm.MethodName) method_2_code (1 : Nat) (Option.some Jvm.ClassFile.FieldType.char), Jvm.Cond.code ({ cls := "java/lang/String", name := "<init>", desc := "([C)V" } : Jvm.MethodName) jdk_42_method_3_code (2 : Nat) (Option.none : Option Jvm.ClassFile.FieldType), Jvm.Cond.code ({ cls := "java/lang/String", name := "<init>", desc := "([CIILjava/lang/Void;)V" } : Jvm.MethodName) jdk_42_method_149_code (6 : Nat) (Option.none : Option Jvm.ClassFile.FieldType), Jvm.Cond.code ({ cls := "java/lang/Object", name := "<init>", desc := "()V" } : Jvm.MethodName) object_method_1_code (1 : Nat) (Option.none : Option Jvm.ClassFile.FieldType), Jvm.Cond.code ({ cls := "java/lang/StringUTF16", name := "compress", desc := "([CII)[B" } : Jvm.MethodName) jdk_52_method_16_code (6 : Nat) (Option.some (Jvm.ClassFile.FieldType.array Jvm.ClassFile.FieldType.byte)), Jvm.Cond.code ({ cls := "java/lang/StringUTF16", name := "compress", desc := "([CI[BII)I" } : Jvm.MethodName) jdk_52_method_21_code (7 : Nat) (Option.some Jvm.ClassFile.FieldType.int), Jvm.Cond.code ({ cls := "java/lang/StringUTF16", name := "coderFromArrayLen", desc := "([BI)B" } : Jvm.MethodName) jdk_52_method_15_code (2 : Nat) (Option.some Jvm.ClassFile.FieldType.byte), Jvm.Cond.code ({ cls := "com/example/research_access_policy/researchaccesspolicy/token/Base64Url", name := "decode", desc := "(Ljava/lang/String;)[B" } : Jvm.MethodName) prog_16_method_2_code (1 : Nat) (Option.some (Jvm.ClassFile.FieldType.array Jvm.ClassFile.FieldType.byte)), Jvm.Cond.code ({ cls := "java/lang/String", name := "indexOf", desc := "(I)I" } : Jvm.MethodName) jdk_42_method_79_code (2 : Nat) (Option.some Jvm.ClassFile.FieldType.int), Jvm.Cond.code ({ cls := "java/lang/String", name := "indexOf", desc := "(II)I" } : Jvm.MethodName) jdk_42_method_80_code (3 : Nat) (Option.some Jvm.ClassFile.FieldType.int), Jvm.Cond.code ({ cls := "java/lang/String", name := "isLatin1", desc := "()Z" } : Jvm.MethodName) jdk_42_method_154_code (1 : Nat) (Option.some Jvm.ClassFile.FieldType.boolean), Jvm.Cond.code ({ cls := "java/lang/String", name := "length", desc := "()I" } : Jvm.MethodName) jdk_42_method_54_code (1 : Nat) (Option.some Jvm.ClassFile.FieldType.int), Jvm.Cond.code ({ cls := "java/lang/String", name := "coder", desc := "()B" } : Jvm.MethodName) jdk_42_method_152_code (1 : Nat) (Option.some Jvm.ClassFile.FieldType.byte), Jvm.Cond.code ({ cls := "java/lang/StringLatin1", name := "indexOf", desc := "([BIII)I" } : Jvm.MethodName) jdk_43_method_22_code (4 : Nat) (Option.some Jvm.ClassFile.FieldType.int), Jvm.Cond.code ({ cls := "java/lang/StringLatin1", name := "canEncode", desc := "(I)Z" } : Jvm.MethodName) jdk_43_method_4_code (1 : Nat) (Option.some Jvm.ClassFile.FieldType.boolean), Jvm.Cond.code ({ cls := "java/lang/Math", name := "max", desc := "(II)I" } : Jvm.MethodName) jdk_29_method_65_code (2 : Nat) (Option.some Jvm.ClassFile.FieldType.int), Jvm.Cond.code ({ cls := "java/lang/StringLatin1", name := "indexOfChar", desc := "([BIII)I" } : Jvm.MethodName) jdk_43_method_23_code (6 : Nat) (Option.some Jvm.ClassFile.FieldType.int), Jvm.Cond.code ({ cls := "java/util/Base64", name := "getUrlDecoder", desc := "()Ljava/util/Base64$Decoder;" } : Jvm.MethodName) jdk_2448_method_7_code (0 : Nat) (Option.some (Jvm.ClassFile.FieldType.object "java/util/Base64$Decoder")), Jvm.Cond.code ({ cls := "java/util/Base64$Decoder", name := "decode", desc := "(Ljava/lang/String;)[B" } : Jvm.MethodName) jdk_2450_method_3_code (2 : Nat) (Option.some (Jvm.ClassFile.FieldType.array Jvm.ClassFile.FieldType.byte)), Jvm.Cond.code ({ cls := "java/lang/String", name := "getBytes", desc := "(Ljava/nio/charset/Charset;)[B" } : Jvm.MethodName) jdk_42_method_64_code (2 : Nat) (Option.some (Jvm.ClassFile.FieldType.array Jvm.ClassFile.FieldType.byte)), Jvm.Cond.code ({ cls := "java/lang/String", name := "encode", desc := "(Ljava/nio/charset/Charset;B[B)[B" } : Jvm.MethodName) jdk_42_method_18_code (3 : Nat) (Option.some (Jvm.ClassFile.FieldType.array Jvm.ClassFile.FieldType.byte)), Jvm.Cond.code ({ cls := "java/lang/String", name := "encode8859_1", desc := "(B[B)[B" } : Jvm.MethodName) jdk_42_method_26_code (2 : Nat) (Option.some (Jvm.ClassFile.FieldType.array Jvm.ClassFile.FieldType.byte)), Jvm.Cond.code ({ cls := "java/lang/String", name := "encode8859_1", desc := "(B[BZ)[B" } : Jvm.MethodName) jdk_42_method_27_code (10 : Nat) (Option.some (Jvm.ClassFile.FieldType.array Jvm.ClassFile.FieldType.byte)), Jvm.Cond.code ({ cls := "java/util/Base64$Decoder", name := "decode", desc := "([B)[B" } : Jvm.MethodName) jdk_2450_method_2_code (4 : Nat) (Option.some (Jvm.ClassFile.FieldType.array Jvm.ClassFile.FieldType.byte)), Jvm.Cond.code ({ cls := "java/util/Base64$Decoder", name := "decodedOutLength", desc := "([BII)I" } : Jvm.MethodName) jdk_2450_method_7_code (9 : Nat) (Option.some Jvm.ClassFile.FieldType.int), Jvm.Cond.code ({ cls := "java/util/Base64$Decoder", name := "decode0", desc := "([BII[B)I" } : Jvm.MethodName) jdk_2450_method_9_code (11 : Nat) (Option.some Jvm.ClassFile.FieldType.int), Jvm.Cond.code ({ cls := "com/example/research_access_policy/researchaccesspolicy/token/Base64UrlDecodePinLaw", name := "at", desc := "([BIII)Z" } : Jvm.MethodName) method_4_code (4 : Nat) (Option.some Jvm.ClassFile.FieldType.boolean), Jvm.Cond.code ({ cls := "java/util/Base64$Decoder", name := "decodeBlock", desc := "([BII[BIZZ)I" } : Jvm.MethodName) jdk_2450_method_8_code (16 : Nat) (Option.some Jvm.ClassFile.FieldType.int)]
set_option maxRecDepth 65536 in
theorem codes_eq : words1.filter isCode = codes1 := rfl
theorem w_codes : ∀ c ∈ words1.filter isCode, c.before args0 about1 = true := by
  rw [codes_eq]
  intro c hc
  simp only [codes1, List.mem_cons, List.not_mem_nil, or_false] at hc
  rcases hc with rfl | rfl | rfl | rfl | rfl | rfl | rfl | rfl | rfl | rfl | rfl | rfl | rfl | rfl | rfl | rfl | rfl | rfl | rfl | rfl | rfl | rfl | rfl | rfl | rfl | rfl | rfl | rfl | rfl | rfl | rfl
  · exact w_c0
  · exact w_c1
  · exact w_c2
  · exact w_c3
  · exact w_c4
  · exact w_c5
  · exact w_c6
  · exact w_c7
  · exact w_c8
  · exact w_c9
  · exact w_c10
  · exact w_c11
  · exact w_c12
  · exact w_c13
  · exact w_c14
  · exact w_c15
  · exact w_c16
  · exact w_c17
  · exact w_c18
  · exact w_c19
  · exact w_c20
  · exact w_c21
  · exact w_c22
  · exact w_c23
  · exact w_c24
  · exact w_c25
  · exact w_c26
  · exact w_c27
  · exact w_c28
  · exact w_c29
  · exact w_c30
set_option maxRecDepth 65536 in
theorem w_t1 : (words1.take 24).all (fun c => isCode c || c.before args0 about1) = true := by decide +kernel
set_option maxRecDepth 65536 in
theorem w_t2 : ((words1.drop 24).take 24).all (fun c => isCode c || c.before args0 about1) = true := by decide +kernel
set_option maxRecDepth 65536 in
theorem w_t3 : (((words1.drop 24).drop 24).take 24).all (fun c => isCode c || c.before args0 about1) = true := by decide +kernel
set_option maxRecDepth 65536 in
theorem w_t4 : ((((words1.drop 24).drop 24).drop 24).take 24).all (fun c => isCode c || c.before args0 about1) = true := by decide +kernel
set_option maxRecDepth 65536 in
theorem w_t5 : (((((words1.drop 24).drop 24).drop 24).drop 24).take 24).all (fun c => isCode c || c.before args0 about1) = true := by decide +kernel
set_option maxRecDepth 65536 in
theorem w_t6 : ((((((words1.drop 24).drop 24).drop 24).drop 24).drop 24).take 24).all (fun c => isCode c || c.before args0 about1) = true := by decide +kernel
set_option maxRecDepth 65536 in
theorem w_t7 : ((((((words1.drop 24).drop 24).drop 24).drop 24).drop 24).drop 24).all (fun c => isCode c || c.before args0 about1) = true := by decide +kernel
theorem w_tables : (allAtoms (Jvm.Cond.code x code maxLocals ret :: tables_1)).before args0 about1 = true := by
  rw [allAtoms_all]
  show words1.all (fun c => c.before args0 about1) = true
  refine all_split ?_ w_codes
  rw [← List.take_append_drop 24 words1, List.all_append, w_t1, ← List.take_append_drop 24 (words1.drop 24), List.all_append, w_t2, ← List.take_append_drop 24 ((words1.drop 24).drop 24), List.all_append, w_t3, ← List.take_append_drop 24 (((words1.drop 24).drop 24).drop 24), List.all_append, w_t4, ← List.take_append_drop 24 ((((words1.drop 24).drop 24).drop 24).drop 24), List.all_append, w_t5, ← List.take_append_drop 24 (((((words1.drop 24).drop 24).drop 24).drop 24).drop 24), List.all_append, w_t6, w_t7]
  rfl
set_option maxRecDepth 65536 in
theorem w_rest : rest_1_c.before args0 about1 = true := by decide +kernel
set_option maxRecDepth 65536 in
theorem w_case : (Jvm.Cond.and given_1 narrow_1).before args0 about1 = true := by decide +kernel
set_option maxRecDepth 65536 in
theorem w_consts : constsHeld consts_1 about1 := Jvm.Lit.constsHeldB_iff.mp (by decide +kernel)
theorem w_applies : (headSpec (Jvm.Cond.code x code maxLocals ret :: tables_1) room_1).applies x e0.platform about1 = true :=
  (Spec.applies_iff w_frames).mpr ⟨w_running, w_runnable, w_alone, w_named, w_hears, w_ripe, w_room, w_tables⟩
theorem atStart : AtStart classFile x code maxLocals ret World_1 tables_1 room_1 Calls_1 rest_1 Pre_1 launch0 p0 e0 about1 theMethod args0 below0 :=
  ⟨lists_1, trivial, launch0.admits_env _ _ _, launch0.least_env, fairChoices_fair.cas, fairChoices_fair.clock, w_frames, w_args, w_heap, w_applies, ⟨w_consts, trivial⟩, w_rest, w_case⟩
end start1
theorem witness_1 : WitnessClaimed_1 := ⟨start1.p0, start1.e0, start1.about1, start1.theMethod, start1.args0, start1.below0, start1.atStart⟩
end Jvm.Pilot.@@N@@
