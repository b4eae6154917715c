import JvmDerived
import JvmDerived.Pilot.@@N@@Statement
import JvmDerived.Pilot.@@N@@Code
set_option linter.unusedVariables false
set_option linter.unusedSimpArgs false
namespace Jvm.Pilot.@@N@@
open Jvm Jvm.ClassFile Sem Op Lib Jvm.Free Jvm.Stand Jvm.LawKit Jvm.RoadKit Bundle Jvm.Pilot.@@N@@.Jvm.D
section OwnKit
variable {p : Program} {l : Launch} {e : Env} {R : Room} {s : State} {m : MethodId} {args : Array Value} {below : List Frame} {meth : Method} {c : Code} {T : State} {locs : List Loc} {cells slots : Nat}
/-- the contract of a body at given arguments and a given heap -/
def own_Con (l : Launch) (Z : State) (y : MethodName) (bytes : ByteArray) (maxL : Nat) (ret : Option FieldType) (ws : List Jvm.Cond) (rm : Room) (as' : Array Value) (h0 : Heap) (Q : Option Value → Heap → List Loc → Prop) : Prop :=
  MetFree l y (head1 (Jvm.Cond.code y bytes maxL ret :: ws) rm) (fun a U => a = as' ∧ Z.Warmed39 U.vm ∧ U.heap = h0) (fun _ _ _ _ _ => True) (fun _ U o U' => ∃ v L, o = .returned v ∧ Q v U'.heap L ∧ FrameEnd U o U' L rm.cells rm.slots)
/-- G holds of a state where the walk is owed; it goes backwards over steps -/
def own_Bk (p : Program) (e : Env) (below : List Frame) (G : State → Prop) : Prop := ∀ S S', (∀ t, Steps p.tables e below S' t → Steps p.tables e below S t) → G S' → G S
/-- a walk may end where its body returns -/
def own_Rt (p : Program) (l : Launch) (e : Env) (rm : Room) (s : State) (m : MethodId) (as' : Array Value) (below : List Frame) (meth : Method) (c : Code) (ret : Option FieldType) (Q : Option Value → Heap → List Loc → Prop) (G : State → Prop) : Prop :=
  ∀ T locs cells slots v S, Stand p l e rm s m as' below meth c T locs cells slots → cells ≤ rm.cells → slots ≤ rm.slots → (ret = none → v = none) → Q v T.heap locs →
    (∀ fs, (∀ (f : JFrame) (acts : List Action), f.method = m → f.locked = none → f.entered = [] → (doReturn e (T.setTop f) acts v).1 = T.setFrames fs) → Steps p.tables e below S (T.setFrames fs)) → G S
theorem own_intro {Z : State} {y : MethodName} {bytes : ByteArray} {maxL : Nat} {ret : Option FieldType} {ws : List Jvm.Cond} {rm : Room} {as' : Array Value} {h0 : Heap} {Q : Option Value → Heap → List Loc → Prop} (hpn : plainFor y = true)
    (H : ∀ (p : Program) (e : Env) (s : State) (m : MethodId) (below : List Frame) (meth : Method) (c : Code) (s₁ : State) (G : State → Prop), p.tables.exec = Jvm.exec → c.code = bytes → c.maxLocals = maxL → s.vm.findClass y.cls = some m.cls → meth.name = y.name → meth.sig.returnType = ret → Z.Warmed39 s.vm →
      Stand p l e rm s m as' below meth c s₁ [] 0 0 → s₁.heap = h0 → own_Bk p e below G → own_Rt p l e rm s m as' below meth c ret Q G → G (s₁.setTop (entryFrame m as' maxL))) : own_Con l Z y bytes maxL ret ws rm as' h0 Q := by
  refine MetFree.of_bodySF hpn hisR ?_
  intro p e s m args below meth c s₁ Bd hml hP hK
  obtain ⟨rfl, hZ, hh⟩ := hP
  refine H p e s m below meth c s₁ (fun S => ∃ s₂ o, Steps p.tables e below S s₂ ∧ s₂.status = .running ∧ Ended s₂ below o ∧ ∃ v L, o = .returned v ∧ Q v s₂.heap L ∧ FrameEnd s o s₂ L rm.cells rm.slots) Bd.exec Bd.bytes hml (findClass_of_methodNamed Bd.named) (name_of_methodNamed Bd.named Bd.method).1 Bd.returns hZ (Stand.of_body Bd) (by rw [← hh, Bd.state]; rfl) ?_ ?_
  · rintro S S' st ⟨s₂, o, h1, h2⟩
    exact ⟨s₂, o, st _ h1, h2⟩
  · intro T locs cells slots v S X hc hs hv hQ hst
    obtain ⟨fs, hr, hrun, hended, hW, hsame⟩ := X.leave (v := v) (fun h => hv (Bd.returns ▸ h))
    exact ⟨_, _, hst fs hr, hrun, hended, v, locs, rfl, hQ, ⟨_, rfl⟩, hW, hsame.mono hc hs⟩
section Rets
variable {Q : Option Value → Heap → List Loc → Prop} {G : State → Prop} {ret : Option FieldType} {pc : Nat} {Ls : Array Slot} {rest : List Value}
theorem own_retV (hR : own_Rt p l e R s m args below meth c none Q G) (hret : meth.sig.returnType = none) (X : Stand p l e R s m args below meth c T locs cells slots) (hx : p.tables.exec = Jvm.exec) (hd : decode c.code pc = .ok (.return_, 1)) (hc : cells ≤ R.cells) (hs : slots ≤ R.slots) (hQ : Q none T.heap locs) : G (T.setTop (mkF m pc Ls [])) :=
  hR T locs cells slots none _ X hc hs (fun _ => rfl) hQ fun fs hr => X.returnOut hx hret hd hr
theorem own_retA {t : FieldType} {v : Value} (hR : own_Rt p l e R s m args below meth c (some t) Q G) (hret : meth.sig.returnType = some t) (ht : t.isReference = true) (hv : v.isRef = true) (X : Stand p l e R s m args below meth c T locs cells slots) (hx : p.tables.exec = Jvm.exec) (hd : decode c.code pc = .ok (.areturn, 1)) (hc : cells ≤ R.cells) (hs : slots ≤ R.slots) (hQ : Q (some v) T.heap locs) : G (T.setTop (mkF m pc Ls (v :: rest))) :=
  hR T locs cells slots (some v) _ X hc hs (fun h => nomatch h) hQ fun fs hr => retOut X hx hret (by cases t <;> simp_all [FieldType.isReference, narrow]) (Or.inr (Or.inr (Or.inr (Or.inr ⟨rfl, ht, hv⟩)))) hd hr
theorem own_retI {z : Int32} (hR : own_Rt p l e R s m args below meth c (some .int) Q G) (hret : meth.sig.returnType = some .int) (X : Stand p l e R s m args below meth c T locs cells slots) (hx : p.tables.exec = Jvm.exec) (hd : decode c.code pc = .ok (.ireturn, 1)) (hc : cells ≤ R.cells) (hs : slots ≤ R.slots) (hQ : Q (some (.int z)) T.heap locs) : G (T.setTop (mkF m pc Ls (.int z :: rest))) :=
  hR T locs cells slots (some (.int z)) _ X hc hs (fun h => nomatch h) hQ fun fs hr => retOut X hx hret rfl (Or.inl ⟨rfl, Or.inl rfl, z, rfl⟩) hd hr
theorem own_retL {z : Int64} (hR : own_Rt p l e R s m args below meth c (some .long) Q G) (hret : meth.sig.returnType = some .long) (X : Stand p l e R s m args below meth c T locs cells slots) (hx : p.tables.exec = Jvm.exec) (hd : decode c.code pc = .ok (.lreturn, 1)) (hc : cells ≤ R.cells) (hs : slots ≤ R.slots) (hQ : Q (some (.long z)) T.heap locs) : G (T.setTop (mkF m pc Ls (.long z :: rest))) :=
  hR T locs cells slots (some (.long z)) _ X hc hs (fun h => nomatch h) hQ fun fs hr => retOut X hx hret rfl (Or.inr (Or.inl ⟨rfl, rfl, z, rfl⟩)) hd hr
theorem own_retN {z : Int32} {t : FieldType} (hR : own_Rt p l e R s m args below meth c (some t) Q G) (hret : meth.sig.returnType = some t) (ht : t = .boolean ∨ t = .byte ∨ t = .char ∨ t = .short) (X : Stand p l e R s m args below meth c T locs cells slots) (hx : p.tables.exec = Jvm.exec) (hd : decode c.code pc = .ok (.ireturn, 1)) (hc : cells ≤ R.cells) (hs : slots ≤ R.slots) (hQ : Q (some (.int (nar t z))) T.heap locs) : G (T.setTop (mkF m pc Ls (.int z :: rest))) :=
  hR T locs cells slots (some (.int (nar t z))) _ X hc hs (fun h => nomatch h) hQ fun fs hr => retN X hx hret ht hd hr
end Rets
section Calls
variable {Z : State} {a0 : Array Value} {own : String} {index : Nat} {y z : MethodName} {bytes : ByteArray} {maxL : Nat} {ret : Option FieldType} {rm : Room} {as' : Array Value} {h : Heap} {Q : Option Value → Heap → List Loc → Prop} {G : State → Prop} {pc : Nat} {Ls : Array Slot} {stk argsL rest : List Value}
theorem own_callS (X : Stand p l e R s m args below meth c T locs cells slots) (hx : p.tables.exec = Jvm.exec) (hZ : Z.Warmed39 s.vm) (hG : own_Bk p e below G) (hown : s.vm.findClass own = some m.cls)
    (w1 : (Jvm.Cond.methodLink own index y).before a0 Z = true) (w2 : (Jvm.Cond.static y).before a0 Z = true) (w3 : (Jvm.Cond.initialized y.cls).before a0 Z = true) (w4 : (Jvm.Cond.code y bytes maxL ret).before a0 Z = true)
    (hy : y.cls ≠ "java/lang/invoke/MethodHandle" ∧ y.cls ≠ "java/lang/invoke/VarHandle") (W : Nat) (hM : own_Con l Z y bytes maxL ret [] rm as' h Q) (hf : rm.frames + 1 ≤ R.frames) (hlo : W + (maxL + 11) + rm.locals ≤ R.locals) (eT : T.heap = h)
    (hsize : Ls.size = c.maxLocals) (hlen : ∀ sig, parseMethodDescriptor y.desc = some sig → argsL.length = sig.parameters.length) (has : argsL.toArray = as') (hst : stk = argsL.reverse ++ rest) (hW : (rest.map fun v => v.category).sum ≤ W)
    (hd : decode c.code pc = .ok (.invokestatic index, 3)) (hc : cells + rm.cells ≤ R.cells) (hs : slots + rm.slots ≤ R.slots)
    (k : ∀ T' h' v L, Stand p l e R s m args below meth c T' (locs ++ L) (cells + rm.cells) (slots + rm.slots) → T'.heap = h' → Q v h' L → G (T'.setTop (mkF m (pc + 3) Ls (v.toList ++ rest)))) : G (T.setTop (mkF m pc Ls stk)) := by
  obtain ⟨v, _, ⟨T1, L1, k1, n1⟩, -, X1, ⟨L, hQ, rfl, rfl, rfl⟩, st⟩ := Jvm.LawKit.callS X hx (y := y) hown (mvT hZ w1) (mvT hZ w2) (mvT hZ w3) (mvT hZ w4) hy (backOf (W := W) hM hZ w4 w3 hf hlo) (g := mkF m pc Ls stk) rfl hsize (argsL := argsL) (rest := rest) hlen hst (by show 2 * 0 + _ ≤ _; rw [Nat.mul_zero, Nat.zero_add]; exact hW) hd (fun _ _ => ⟨has, eT, hc, hs⟩)
  exact hG _ _ st (k T1 _ v L X1 rfl hQ)
theorem own_callI (X : Stand p l e R s m args below meth c T locs cells slots) (hx : p.tables.exec = Jvm.exec) (hZ : Z.Warmed39 s.vm) (hG : own_Bk p e below G) (hown : s.vm.findClass own = some m.cls) (hy1 : y.name = "<init>")
    (w1 : (Jvm.Cond.methodLink own index y).before a0 Z = true) (w2 : (Jvm.Cond.instanceMethod y).before a0 Z = true) (w3 : (Jvm.Cond.initialized y.cls).before a0 Z = true) (w4 : (Jvm.Cond.code y bytes maxL none).before a0 Z = true)
    (hy : y.cls ≠ "java/lang/invoke/MethodHandle" ∧ y.cls ≠ "java/lang/invoke/VarHandle") (W : Nat) (hM : own_Con l Z y bytes maxL none [] rm as' h Q) (hf : rm.frames + 1 ≤ R.frames) (hlo : W + (maxL + 11) + rm.locals ≤ R.locals) (eT : T.heap = h)
    (hsize : Ls.size = c.maxLocals) (hlen : ∀ sig, parseMethodDescriptor y.desc = some sig → argsL.length = sig.parameters.length) {a : Addr} (has : (.ref a :: argsL).toArray = as') (hst : stk = argsL.reverse ++ .ref a :: rest) (hW : (rest.map fun v => v.category).sum ≤ W)
    (hd : decode c.code pc = .ok (.invokespecial index, 3)) (hc : cells + rm.cells ≤ R.cells) (hs : slots + rm.slots ≤ R.slots)
    (k : ∀ T' h' v L, Stand p l e R s m args below meth c T' (locs ++ L) (cells + rm.cells) (slots + rm.slots) → T'.heap = h' → Q v h' L → G (T'.setTop (mkF m (pc + 3) Ls (v.toList ++ rest)))) : G (T.setTop (mkF m pc Ls stk)) := by
  obtain ⟨v, _, ⟨T1, L1, k1, n1⟩, -, X1, ⟨L, hQ, rfl, rfl, rfl⟩, st⟩ := X.specialBack hx (y := y) hy1 hown (mvT hZ w1) (mvT hZ w2) (mvT hZ w4) hy (backOf (W := W) hM hZ w4 w3 hf hlo) (g := mkF m pc Ls stk) rfl hsize (Steps.refl _) (a := a) (argsL := argsL) (rest := rest) hlen hst (by show 2 * 0 + _ ≤ _; rw [Nat.mul_zero, Nat.zero_add]; exact hW) hd (fun _ _ => ⟨has, eT, hc, hs⟩)
  exact hG _ _ (fun t kk => st.trans kk) (k T1 _ v L X1 rfl hQ)
theorem own_callV {C : String} (X : Stand p l e R s m args below meth c T locs cells slots) (hx : p.tables.exec = Jvm.exec) (hZ : Z.Warmed39 s.vm) (hG : own_Bk p e below G) (hown : s.vm.findClass own = some m.cls)
    (w1 : (Jvm.Cond.methodLink own index y).before a0 Z = true) (w2 : (Jvm.Cond.declares y).before a0 Z = true) (w3 : (Jvm.Cond.selects C y y).before a0 Z = true) (w4 : (Jvm.Cond.instanceMethod y).before a0 Z = true) (w5 : (Jvm.Cond.initialized y.cls).before a0 Z = true) (w6 : (Jvm.Cond.code y bytes maxL ret).before a0 Z = true)
    (hy : y.cls ≠ "java/lang/invoke/MethodHandle" ∧ y.cls ≠ "java/lang/invoke/VarHandle") (W : Nat) (hM : own_Con l Z y bytes maxL ret [] rm as' h Q) (hf : rm.frames + 1 ≤ R.frames) (hlo : W + (maxL + 11) + rm.locals ≤ R.locals) (eT : T.heap = h) {b : Addr} (E : Exa Z h b C)
    (hsize : Ls.size = c.maxLocals) (hlen : ∀ sig, parseMethodDescriptor y.desc = some sig → argsL.length = sig.parameters.length) (has : (.ref b :: argsL).toArray = as') (hst : stk = argsL.reverse ++ .ref b :: rest) (hW : (rest.map fun v => v.category).sum ≤ W)
    (hd : decode c.code pc = .ok (.invokevirtual index, 3)) (hc : cells + rm.cells ≤ R.cells) (hs : slots + rm.slots ≤ R.slots)
    (k : ∀ T' h' v L, Stand p l e R s m args below meth c T' (locs ++ L) (cells + rm.cells) (slots + rm.slots) → T'.heap = h' → Q v h' L → G (T'.setTop (mkF m (pc + 3) Ls (v.toList ++ rest)))) : G (T.setTop (mkF m pc Ls stk)) := by
  obtain ⟨cq, kq, qa, qb, qc⟩ := isOf hZ eT E
  obtain ⟨v, _, ⟨T1, L1, k1, n1⟩, -, X1, ⟨L, hQ, rfl, rfl, rfl⟩, st⟩ := X.virtualBack hx (y := y) (z := y) hown (mvT hZ w1) (mvT hZ w2) (notFace_of_selects (args := #[]) (mvT hZ w3)) (mvT hZ w3) (mvT hZ w4) hy (backOf (W := W) hM hZ w6 w5 hf hlo) qa qc (g := mkF m pc Ls stk) rfl hsize (Steps.refl _) (argsL := argsL) (rest := rest) hlen hst (by show 2 * 0 + _ ≤ _; rw [Nat.mul_zero, Nat.zero_add]; exact hW) hd (fun _ _ => ⟨has, eT, hc, hs⟩)
  exact hG _ _ (fun t kk => st.trans kk) (k T1 _ v L X1 rfl hQ)
theorem own_callP (X : Stand p l e R s m args below meth c T locs cells slots) (hx : p.tables.exec = Jvm.exec) (hZ : Z.Warmed39 s.vm) (hG : own_Bk p e below G) (hown : s.vm.findClass own = some m.cls)
    (w1 : (Jvm.Cond.methodLink own index y).before a0 Z = true) (w2 : (Jvm.Cond.instanceMethod y).before a0 Z = true) (w3 : (Jvm.Cond.selects y.cls y y).before a0 Z = true) (wp : (Jvm.Cond.privateMethod y).before a0 Z = true) (w5 : (Jvm.Cond.initialized y.cls).before a0 Z = true) (w6 : (Jvm.Cond.code y bytes maxL ret).before a0 Z = true)
    (hy : y.cls ≠ "java/lang/invoke/MethodHandle" ∧ y.cls ≠ "java/lang/invoke/VarHandle") (W : Nat) (hM : own_Con l Z y bytes maxL ret [] rm as' h Q) (hf : rm.frames + 1 ≤ R.frames) (hlo : W + (maxL + 11) + rm.locals ≤ R.locals) (eT : T.heap = h) {b : Addr} {C : String} (E : Exa Z h b C)
    (hsize : Ls.size = c.maxLocals) (hlen : ∀ sig, parseMethodDescriptor y.desc = some sig → argsL.length = sig.parameters.length) (has : (.ref b :: argsL).toArray = as') (hst : stk = argsL.reverse ++ .ref b :: rest) (hW : (rest.map fun v => v.category).sum ≤ W)
    (hd : decode c.code pc = .ok (.invokevirtual index, 3)) (hc : cells + rm.cells ≤ R.cells) (hs : slots + rm.slots ≤ R.slots)
    (k : ∀ T' h' v L, Stand p l e R s m args below meth c T' (locs ++ L) (cells + rm.cells) (slots + rm.slots) → T'.heap = h' → Q v h' L → G (T'.setTop (mkF m (pc + 3) Ls (v.toList ++ rest)))) : G (T.setTop (mkF m pc Ls stk)) := by
  obtain ⟨cell, hc1, hc2⟩ := (Ins.self E).cell
  obtain ⟨v, _, ⟨T1, L1, k1, n1⟩, -, X1, ⟨L, hQ, rfl, rfl, rfl⟩, st⟩ := X.privateBack hx (y := y) hown (mvT hZ w1) (mvT hZ w2) (mvT hZ w3) (Cond.privateMethod_at (mvP hZ wp (args := #[]))) (mvT hZ w6) hy (backOf (W := W) hM hZ w6 w5 hf hlo) (g := mkF m pc Ls stk) rfl hsize (Steps.refl _) (a := b) (by rw [eT]; exact hc1) hc2 (argsL := argsL) (rest := rest) hlen hst (by show 2 * 0 + _ ≤ _; rw [Nat.mul_zero, Nat.zero_add]; exact hW) hd (fun _ _ => ⟨has, eT, hc, hs⟩)
  exact hG _ _ (fun t kk => st.trans kk) (k T1 _ v L X1 rfl hQ)
theorem own_callF {C : String} {count : Nat} (X : Stand p l e R s m args below meth c T locs cells slots) (hx : p.tables.exec = Jvm.exec) (hZ : Z.Warmed39 s.vm) (hG : own_Bk p e below G) (hown : s.vm.findClass own = some m.cls)
    (w1 : (Jvm.Cond.methodLink own index z).before a0 Z = true) (w2 : (Jvm.Cond.declares z).before a0 Z = true) (wf : ∀ s' : State, Z.Warmed39 s'.vm → (Jvm.Cond.interfaceMethod z.cls z.cls z.name z.desc).before args s' = true) (w3 : (Jvm.Cond.selects C z y).before a0 Z = true) (w4 : (Jvm.Cond.instanceMethod y).before a0 Z = true) (wp : (Jvm.Cond.publicMethod y).before a0 Z = true) (wu : (Jvm.Cond.unhidden C z.name z.desc).before a0 Z = true) (wc : (Jvm.Cond.castable C z.cls).before a0 Z = true) (w5 : (Jvm.Cond.initialized y.cls).before a0 Z = true) (w6 : (Jvm.Cond.code y bytes maxL ret).before a0 Z = true)
    (hy : z.cls ≠ "java/lang/invoke/MethodHandle" ∧ z.cls ≠ "java/lang/invoke/VarHandle") (W : Nat) (hM : own_Con l Z y bytes maxL ret [] rm as' h Q) (hf : rm.frames + 1 ≤ R.frames) (hlo : W + (maxL + 11) + rm.locals ≤ R.locals) (eT : T.heap = h) {b : Addr} (E : Exa Z h b C)
    (hsize : Ls.size = c.maxLocals) (hlen : ∀ sig, parseMethodDescriptor z.desc = some sig → argsL.length = sig.parameters.length) (has : (.ref b :: argsL).toArray = as') (hst : stk = argsL.reverse ++ .ref b :: rest) (hW : (rest.map fun v => v.category).sum ≤ W)
    (hd : decode c.code pc = .ok (.invokeinterface index count, 5)) (hc : cells + rm.cells ≤ R.cells) (hs : slots + rm.slots ≤ R.slots)
    (k : ∀ T' h' v L, Stand p l e R s m args below meth c T' (locs ++ L) (cells + rm.cells) (slots + rm.slots) → T'.heap = h' → Q v h' L → G (T'.setTop (mkF m (pc + 5) Ls (v.toList ++ rest)))) : G (T.setTop (mkF m pc Ls stk)) := by
  obtain ⟨cq, kq, qa, qb, qc⟩ := isOf hZ eT E
  obtain ⟨v, _, ⟨T1, L1, k1, n1⟩, -, X1, ⟨L, hQ, rfl, rfl, rfl⟩, st⟩ := X.interfaceBack hx (xi := z) (y := y) hown (mvT hZ w1) (mvT hZ w2) (wf s hZ) (mvT hZ w3) (mvT hZ w4) (mvT hZ wp) (mvT hZ wu) (mvT hZ wc) hy (backOf (W := W) hM hZ w6 w5 hf hlo) qa qb qc (g := mkF m pc Ls stk) rfl hsize (Steps.refl _) (argsL := argsL) (rest := rest) hlen hst (by show 2 * 0 + _ ≤ _; rw [Nat.mul_zero, Nat.zero_add]; exact hW) hd (fun _ _ => ⟨has, eT, hc, hs⟩)
  exact hG _ _ (fun t kk => st.trans kk) (k T1 _ v L X1 rfl hQ)
end Calls
theorem own_entry {G : State → Prop} {n : Nat} {Ls : Array Slot} (q : entryFrame m args n = mkF m 0 Ls []) (k : G (T.setTop (mkF m 0 Ls []))) : G (T.setTop (entryFrame m args n)) := q ▸ k
abbrev own_Old (Z : State) (h : Heap) : Prop := Old Z Z.heap.size h
abbrev own_Fr (Z : State) (L : List Loc) : Prop := Fr Z.heap.size L
theorem own_ge {Z : State} {h : Heap} (O : own_Old Z h) {b : Addr} (q : h.size ≤ b) : Z.heap.size ≤ b := Nat.le_trans O.2.1 q
theorem own_sta {Z : State} {h : Heap} {C n d : String} {v : Value} (S : Sta Z Z.heap C n d v) (O : own_Old Z h) : Sta Z h C n d v := S.ext O.2
theorem own_ne {h : Heap} {a b : Addr} (q : a < h.size) (r : h.size ≤ b) : a ≠ b := Nat.ne_of_lt (Nat.lt_of_lt_of_le q r)
end OwnKit
theorem own_toInt {i : Nat} (h : i < 2147483648) : (Int32.ofNat i).toInt = i := Int32.toInt_ofNat_of_lt (by omega)
theorem own_clamp {i : Nat} (h : i < 2147483648) : (Int32.ofNat i).toNatClampNeg = i := by
  show ((Int32.ofNat i).toInt).toNat = i
  rw [own_toInt h]; rfl
theorem own_inc (i : Nat) : Int32.ofNat i + 1 = Int32.ofNat (i + 1) := (Int32.ofNat_add i 1).symm
theorem own_nn {i : Nat} (h : i < 2147483648) : ¬ Int32.ofNat i < 0 := by
  rw [Int32.lt_iff_toInt_lt, own_toInt h]; simp
theorem own_lt {i n : Nat} (h : i < n) (hn : n < 2147483648) : Int32.ofNat i < Int32.ofNat n := by
  rw [Int32.lt_iff_toInt_lt, own_toInt (by omega), own_toInt hn]; omega
theorem own_nlt {i n : Nat} (h : n ≤ i) (hi : i < 2147483648) : ¬ Int32.ofNat i < Int32.ofNat n := by
  rw [Int32.lt_iff_toInt_lt, own_toInt hi, own_toInt (by omega)]; omega
theorem own_ofNat_inj {i n : Nat} (hi : i < 2147483648) (hn : n < 2147483648) (h : Int32.ofNat i = Int32.ofNat n) : i = n := by
  have := congrArg Int32.toInt h
  rw [own_toInt hi, own_toInt hn] at this; omega
theorem own_getD_set {α : Type} (vs : List α) (i j : Nat) (x d : α) (h : i < vs.length) : (vs.set i x).getD j d = if j = i then x else vs.getD j d := by
  simp only [List.getD_eq_getElem?_getD, List.getElem?_set]
  by_cases e : i = j
  · subst e; simp [h]
  · simp [e, Ne.symm e]
theorem own_getD_map {α β : Type} (f : α → β) (cs : List α) (j : Nat) (d : β) (e : α) (h : j < cs.length) : (cs.map f).getD j d = f (cs.getD j e) := by
  simp [List.getD_eq_getElem?_getD, List.getElem?_map, h]
theorem own_mapEq {α β : Type} (f : α → β) (cs : List α) (vs : List β) (d : β) (e : α) (hl : vs.length = cs.length) (h : ∀ j, j < cs.length → vs.getD j d = f (cs.getD j e)) : vs = cs.map f := by
  apply List.ext_getElem (by simpa using hl)
  intro j h1 h2
  have q := h j (by simpa using h2)
  have h3 : j < cs.length := by simpa using h2
  simp [List.getD_eq_getElem?_getD, h1, h3] at q
  simpa using q
theorem own_narR {t : FieldType} {v : Value} (ht : t.isReference = true) (hv : v.isRef = true) : narrow t v = v := by cases t <;> simp_all [FieldType.isReference, narrow]
theorem own_nb (x : Int32) : nar .byte x.toInt8.toInt32 = x.toInt8.toInt32 := by
  show x.toInt8.toInt32.toInt8.toInt32 = _
  rw [Int8.toInt8_toInt32]
theorem own_nc (x : Int32) : nar .char x.toUInt32.toUInt16.toUInt32.toInt32 = x.toUInt32.toUInt16.toUInt32.toInt32 := by
  simp only [nar, UInt32.toUInt32_toInt32, UInt16.toUInt16_toUInt32]
theorem own_getD_mem {α : Type} (cs : List α) (i : Nat) (d : α) (h : i < cs.length) : cs.getD i d ∈ cs := by
  rw [List.getD_eq_getElem?_getD, List.getElem?_eq_getElem h]; exact List.getElem_mem h
theorem own_alln {α : Type} {P : α → Prop} : ∀ c ∈ ([] : List α), P c := fun _ q => nomatch q
theorem own_allc {α : Type} {P : α → Prop} {x : α} {L : List α} (q : P x) (r : ∀ c ∈ L, P c) : ∀ c ∈ x :: L, P c := fun c z => (List.mem_cons.mp z).elim (fun u => u ▸ q) (r c)
theorem own_and255 (x : Int32) : 0 ≤ (x &&& 255).toInt ∧ (x &&& 255).toInt ≤ 255 := by
  rw [c_mask x 255 8 (by decide) (by decide)]
  have h1 := Int.emod_nonneg x.toInt (show ((2 ^ 8 : Nat) : Int) ≠ 0 by decide)
  have h2 := Int.emod_lt_of_pos x.toInt (show (0 : Int) < ((2 ^ 8 : Nat) : Int) by decide)
  omega
theorem own_mask8 {x c : Int32} (h : (x &&& 255).toUInt32.toUInt16.toUInt32.toInt32 = c) : 0 ≤ c.toInt ∧ c.toInt ≤ 255 := by
  rw [i2c_mask] at h; subst h; exact own_and255 x
theorem own_narC {c : Int32} (h : 0 ≤ c.toInt ∧ c.toInt ≤ 65535) : nar .char c = c := by
  apply Int32.toInt_inj.mp
  have q := c_i2c c
  show c.toUInt32.toUInt16.toUInt32.toInt32.toInt = c.toInt
  omega
theorem own_le255 {c : Int32} (h : 0 ≤ c.toInt ∧ c.toInt ≤ 255) : ¬ ((255 : Int32) < c) := by
  rw [Int32.lt_iff_toInt_lt]
  have : (255 : Int32).toInt = 255 := by decide
  omega
theorem own_nar8 {c : Int32} (h : 0 ≤ c.toInt ∧ c.toInt ≤ 255) : ¬ ((255 : Int32) < nar .char c) := by
  rw [own_narC ⟨h.1, by omega⟩]; exact own_le255 h
theorem own_setNext {vs : List Value} {cs : List Int32} {i : Nat} (f : Int32 → Value) (d x : Value) (hi : i < vs.length) (hx : x = f (cs.getD i 0)) (hv : ∀ j, j < i → vs.getD j d = f (cs.getD j 0)) : ∀ j, j < i + 1 → (vs.set i x).getD j d = f (cs.getD j 0) := by
  intro j hj
  rw [own_getD_set _ _ _ _ _ hi]
  by_cases e : j = i
  · subst e; rw [if_pos rfl]; exact hx
  · rw [if_neg e]; exact hv j (by omega)
theorem own_fitR {t : FieldType} {v : Value} (ht : t.isReference = true) (hv : v.isRef = true) : fits t v = true := by
  rcases ref_cases hv with rfl | ⟨a, rfl⟩ <;> cases t <;> simp_all [FieldType.isReference, fits]

theorem own_d1_0 : decode method_2_code 0 = .ok (.iconst 2, 1) := by decide +kernel
theorem own_d1_1 : decode method_2_code 1 = .ok (.newarray .char, 2) := by decide +kernel
theorem own_d1_3 : decode method_2_code 3 = .ok (.astore_n 1, 1) := by decide +kernel
theorem own_d1_4 : decode method_2_code 4 = .ok (.aload_n 1, 1) := by decide +kernel
theorem own_d1_5 : decode method_2_code 5 = .ok (.iconst 0, 1) := by decide +kernel
theorem own_d1_6 : decode method_2_code 6 = .ok (.iload_n 0, 1) := by decide +kernel
theorem own_d1_7 : decode method_2_code 7 = .ok (.sipush 255, 3) := by decide +kernel
theorem own_d1_10 : decode method_2_code 10 = .ok (.iand, 1) := by decide +kernel
theorem own_d1_11 : decode method_2_code 11 = .ok (.i2c, 1) := by decide +kernel
theorem own_d1_12 : decode method_2_code 12 = .ok (.castore, 1) := by decide +kernel
theorem own_d1_13 : decode method_2_code 13 = .ok (.aload_n 1, 1) := by decide +kernel
theorem own_d1_14 : decode method_2_code 14 = .ok (.iconst 1, 1) := by decide +kernel
theorem own_d1_15 : decode method_2_code 15 = .ok (.iload_n 0, 1) := by decide +kernel
theorem own_d1_16 : decode method_2_code 16 = .ok (.bipush 8, 2) := by decide +kernel
theorem own_d1_18 : decode method_2_code 18 = .ok (.iushr, 1) := by decide +kernel
theorem own_d1_19 : decode method_2_code 19 = .ok (.sipush 255, 3) := by decide +kernel
theorem own_d1_22 : decode method_2_code 22 = .ok (.iand, 1) := by decide +kernel
theorem own_d1_23 : decode method_2_code 23 = .ok (.i2c, 1) := by decide +kernel
theorem own_d1_24 : decode method_2_code 24 = .ok (.castore, 1) := by decide +kernel
theorem own_d1_25 : decode method_2_code 25 = .ok (.new 7, 3) := by decide +kernel
theorem own_d1_28 : decode method_2_code 28 = .ok (.dup, 1) := by decide +kernel
theorem own_d1_29 : decode method_2_code 29 = .ok (.aload_n 1, 1) := by decide +kernel
theorem own_d1_30 : decode method_2_code 30 = .ok (.invokespecial 9, 3) := by decide +kernel
theorem own_d1_33 : decode method_2_code 33 = .ok (.areturn, 1) := by decide +kernel
theorem own_d2_0 : decode jdk_42_method_3_code 0 = .ok (.aload_n 0, 1) := by decide +kernel
theorem own_d2_1 : decode jdk_42_method_3_code 1 = .ok (.aload_n 1, 1) := by decide +kernel
theorem own_d2_2 : decode jdk_42_method_3_code 2 = .ok (.iconst 0, 1) := by decide +kernel
theorem own_d2_3 : decode jdk_42_method_3_code 3 = .ok (.aload_n 1, 1) := by decide +kernel
theorem own_d2_4 : decode jdk_42_method_3_code 4 = .ok (.arraylength, 1) := by decide +kernel
theorem own_d2_5 : decode jdk_42_method_3_code 5 = .ok (.aconst_null, 1) := by decide +kernel
theorem own_d2_6 : decode jdk_42_method_3_code 6 = .ok (.invokespecial 27, 3) := by decide +kernel
theorem own_d2_9 : decode jdk_42_method_3_code 9 = .ok (.return_, 1) := by decide +kernel
theorem own_d3_0 : decode jdk_42_method_149_code 0 = .ok (.aload_n 0, 1) := by decide +kernel
theorem own_d3_1 : decode jdk_42_method_149_code 1 = .ok (.invokespecial 1, 3) := by decide +kernel
theorem own_d3_4 : decode jdk_42_method_149_code 4 = .ok (.iload_n 3, 1) := by decide +kernel
theorem own_d3_5 : decode jdk_42_method_149_code 5 = .ok (.ifCond .ne 22, 3) := by decide +kernel
theorem own_d3_27 : decode jdk_42_method_149_code 27 = .ok (.getstatic 38, 3) := by decide +kernel
theorem own_d3_30 : decode jdk_42_method_149_code 30 = .ok (.ifCond .eq 28, 3) := by decide +kernel
theorem own_d3_33 : decode jdk_42_method_149_code 33 = .ok (.aload_n 1, 1) := by decide +kernel
theorem own_d3_34 : decode jdk_42_method_149_code 34 = .ok (.iload_n 2, 1) := by decide +kernel
theorem own_d3_35 : decode jdk_42_method_149_code 35 = .ok (.iload_n 3, 1) := by decide +kernel
theorem own_d3_36 : decode jdk_42_method_149_code 36 = .ok (.invokestatic 177, 3) := by decide +kernel
theorem own_d3_39 : decode jdk_42_method_149_code 39 = .ok (.astore 5, 2) := by decide +kernel
theorem own_d3_41 : decode jdk_42_method_149_code 41 = .ok (.aload_n 0, 1) := by decide +kernel
theorem own_d3_42 : decode jdk_42_method_149_code 42 = .ok (.aload 5, 2) := by decide +kernel
theorem own_d3_44 : decode jdk_42_method_149_code 44 = .ok (.iload_n 3, 1) := by decide +kernel
theorem own_d3_45 : decode jdk_42_method_149_code 45 = .ok (.invokestatic 47, 3) := by decide +kernel
theorem own_d3_48 : decode jdk_42_method_149_code 48 = .ok (.putfield 15, 3) := by decide +kernel
theorem own_d3_51 : decode jdk_42_method_149_code 51 = .ok (.aload_n 0, 1) := by decide +kernel
theorem own_d3_52 : decode jdk_42_method_149_code 52 = .ok (.aload 5, 2) := by decide +kernel
theorem own_d3_54 : decode jdk_42_method_149_code 54 = .ok (.putfield 9, 3) := by decide +kernel
theorem own_d3_57 : decode jdk_42_method_149_code 57 = .ok (.return_, 1) := by decide +kernel
theorem own_d5_0 : decode jdk_52_method_16_code 0 = .ok (.iload_n 2, 1) := by decide +kernel
theorem own_d5_1 : decode jdk_52_method_16_code 1 = .ok (.newarray .byte, 2) := by decide +kernel
theorem own_d5_3 : decode jdk_52_method_16_code 3 = .ok (.astore_n 3, 1) := by decide +kernel
theorem own_d5_4 : decode jdk_52_method_16_code 4 = .ok (.aload_n 0, 1) := by decide +kernel
theorem own_d5_5 : decode jdk_52_method_16_code 5 = .ok (.iload_n 1, 1) := by decide +kernel
theorem own_d5_6 : decode jdk_52_method_16_code 6 = .ok (.aload_n 3, 1) := by decide +kernel
theorem own_d5_7 : decode jdk_52_method_16_code 7 = .ok (.iconst 0, 1) := by decide +kernel
theorem own_d5_8 : decode jdk_52_method_16_code 8 = .ok (.iload_n 2, 1) := by decide +kernel
theorem own_d5_9 : decode jdk_52_method_16_code 9 = .ok (.invokestatic 115, 3) := by decide +kernel
theorem own_d5_12 : decode jdk_52_method_16_code 12 = .ok (.istore 4, 2) := by decide +kernel
theorem own_d5_14 : decode jdk_52_method_16_code 14 = .ok (.iload 4, 2) := by decide +kernel
theorem own_d5_16 : decode jdk_52_method_16_code 16 = .ok (.iload_n 2, 1) := by decide +kernel
theorem own_d5_17 : decode jdk_52_method_16_code 17 = .ok (.if_icmp .eq 40, 3) := by decide +kernel
theorem own_d5_57 : decode jdk_52_method_16_code 57 = .ok (.aload_n 3, 1) := by decide +kernel
theorem own_d5_58 : decode jdk_52_method_16_code 58 = .ok (.areturn, 1) := by decide +kernel
theorem own_d6_0 : decode jdk_52_method_21_code 0 = .ok (.iconst 0, 1) := by decide +kernel
theorem own_d6_1 : decode jdk_52_method_21_code 1 = .ok (.istore 5, 2) := by decide +kernel
theorem own_d6_3 : decode jdk_52_method_21_code 3 = .ok (.iload 5, 2) := by decide +kernel
theorem own_d6_5 : decode jdk_52_method_21_code 5 = .ok (.iload 4, 2) := by decide +kernel
theorem own_d6_7 : decode jdk_52_method_21_code 7 = .ok (.if_icmp .ge 37, 3) := by decide +kernel
theorem own_d6_10 : decode jdk_52_method_21_code 10 = .ok (.aload_n 0, 1) := by decide +kernel
theorem own_d6_11 : decode jdk_52_method_21_code 11 = .ok (.iload_n 1, 1) := by decide +kernel
theorem own_d6_12 : decode jdk_52_method_21_code 12 = .ok (.caload, 1) := by decide +kernel
theorem own_d6_13 : decode jdk_52_method_21_code 13 = .ok (.istore 6, 2) := by decide +kernel
theorem own_d6_15 : decode jdk_52_method_21_code 15 = .ok (.iload 6, 2) := by decide +kernel
theorem own_d6_17 : decode jdk_52_method_21_code 17 = .ok (.sipush 255, 3) := by decide +kernel
theorem own_d6_20 : decode jdk_52_method_21_code 20 = .ok (.if_icmp .le 6, 3) := by decide +kernel
theorem own_d6_26 : decode jdk_52_method_21_code 26 = .ok (.aload_n 2, 1) := by decide +kernel
theorem own_d6_27 : decode jdk_52_method_21_code 27 = .ok (.iload_n 3, 1) := by decide +kernel
theorem own_d6_28 : decode jdk_52_method_21_code 28 = .ok (.iload 6, 2) := by decide +kernel
theorem own_d6_30 : decode jdk_52_method_21_code 30 = .ok (.i2b, 1) := by decide +kernel
theorem own_d6_31 : decode jdk_52_method_21_code 31 = .ok (.bastore, 1) := by decide +kernel
theorem own_d6_32 : decode jdk_52_method_21_code 32 = .ok (.iinc 1 1, 3) := by decide +kernel
theorem own_d6_35 : decode jdk_52_method_21_code 35 = .ok (.iinc 3 1, 3) := by decide +kernel
theorem own_d6_38 : decode jdk_52_method_21_code 38 = .ok (.iinc 5 1, 3) := by decide +kernel
theorem own_d6_41 : decode jdk_52_method_21_code 41 = .ok (.goto (-38), 3) := by decide +kernel
theorem own_d6_44 : decode jdk_52_method_21_code 44 = .ok (.iload 4, 2) := by decide +kernel
theorem own_d6_46 : decode jdk_52_method_21_code 46 = .ok (.ireturn, 1) := by decide +kernel
theorem own_d7_0 : decode jdk_52_method_15_code 0 = .ok (.iload_n 1, 1) := by decide +kernel
theorem own_d7_1 : decode jdk_52_method_15_code 1 = .ok (.aload_n 0, 1) := by decide +kernel
theorem own_d7_2 : decode jdk_52_method_15_code 2 = .ok (.arraylength, 1) := by decide +kernel
theorem own_d7_3 : decode jdk_52_method_15_code 3 = .ok (.isub, 1) := by decide +kernel
theorem own_d7_4 : decode jdk_52_method_15_code 4 = .ok (.bipush 31, 2) := by decide +kernel
theorem own_d7_6 : decode jdk_52_method_15_code 6 = .ok (.iushr, 1) := by decide +kernel
theorem own_d7_7 : decode jdk_52_method_15_code 7 = .ok (.i2b, 1) := by decide +kernel
theorem own_d7_8 : decode jdk_52_method_15_code 8 = .ok (.ireturn, 1) := by decide +kernel
theorem own_d8_0 : decode prog_19_method_1_code 0 = .ok (.aload_n 0, 1) := by decide +kernel
theorem own_d8_1 : decode prog_19_method_1_code 1 = .ok (.invokespecial 1, 3) := by decide +kernel
theorem own_d8_4 : decode prog_19_method_1_code 4 = .ok (.aload_n 0, 1) := by decide +kernel
theorem own_d8_5 : decode prog_19_method_1_code 5 = .ok (.aload_n 1, 1) := by decide +kernel
theorem own_d8_6 : decode prog_19_method_1_code 6 = .ok (.putfield 7, 3) := by decide +kernel
theorem own_d8_9 : decode prog_19_method_1_code 9 = .ok (.aload_n 0, 1) := by decide +kernel
theorem own_d8_10 : decode prog_19_method_1_code 10 = .ok (.aload_n 2, 1) := by decide +kernel
theorem own_d8_11 : decode prog_19_method_1_code 11 = .ok (.putfield 13, 3) := by decide +kernel
theorem own_d8_14 : decode prog_19_method_1_code 14 = .ok (.aload_n 0, 1) := by decide +kernel
theorem own_d8_15 : decode prog_19_method_1_code 15 = .ok (.aload_n 3, 1) := by decide +kernel
theorem own_d8_16 : decode prog_19_method_1_code 16 = .ok (.putfield 16, 3) := by decide +kernel
theorem own_d8_19 : decode prog_19_method_1_code 19 = .ok (.aload_n 0, 1) := by decide +kernel
theorem own_d8_20 : decode prog_19_method_1_code 20 = .ok (.iload 4, 2) := by decide +kernel
theorem own_d8_22 : decode prog_19_method_1_code 22 = .ok (.putfield 20, 3) := by decide +kernel
theorem own_d8_25 : decode prog_19_method_1_code 25 = .ok (.return_, 1) := by decide +kernel
theorem own_d9_0 : decode jdk_30_method_1_code 0 = .ok (.aload_n 0, 1) := by decide +kernel
theorem own_d9_1 : decode jdk_30_method_1_code 1 = .ok (.invokespecial 1, 3) := by decide +kernel
theorem own_d9_4 : decode jdk_30_method_1_code 4 = .ok (.return_, 1) := by decide +kernel
theorem own_d10_0 : decode prog_19_method_5_code 0 = .ok (.new 8, 3) := by decide +kernel
theorem own_d10_3 : decode prog_19_method_5_code 3 = .ok (.dup, 1) := by decide +kernel
theorem own_d10_4 : decode prog_19_method_5_code 4 = .ok (.aload_n 0, 1) := by decide +kernel
theorem own_d10_5 : decode prog_19_method_5_code 5 = .ok (.getfield 7, 3) := by decide +kernel
theorem own_d10_8 : decode prog_19_method_5_code 8 = .ok (.aload_n 1, 1) := by decide +kernel
theorem own_d10_9 : decode prog_19_method_5_code 9 = .ok (.aload_n 0, 1) := by decide +kernel
theorem own_d10_10 : decode prog_19_method_5_code 10 = .ok (.getfield 16, 3) := by decide +kernel
theorem own_d10_13 : decode prog_19_method_5_code 13 = .ok (.aload_n 0, 1) := by decide +kernel
theorem own_d10_14 : decode prog_19_method_5_code 14 = .ok (.getfield 20, 3) := by decide +kernel
theorem own_d10_17 : decode prog_19_method_5_code 17 = .ok (.invokespecial 29, 3) := by decide +kernel
theorem own_d10_20 : decode prog_19_method_5_code 20 = .ok (.areturn, 1) := by decide +kernel
theorem own_d11_0 : decode prog_19_method_9_code 0 = .ok (.aload_n 0, 1) := by decide +kernel
theorem own_d11_1 : decode prog_19_method_9_code 1 = .ok (.getfield 7, 3) := by decide +kernel
theorem own_d11_4 : decode prog_19_method_9_code 4 = .ok (.areturn, 1) := by decide +kernel
theorem own_d12_0 : decode jdk_42_method_66_code 0 = .ok (.aload_n 0, 1) := by decide +kernel
theorem own_d12_1 : decode jdk_42_method_66_code 1 = .ok (.aload_n 1, 1) := by decide +kernel
theorem own_d12_2 : decode jdk_42_method_66_code 2 = .ok (.if_acmp .ne 5, 3) := by decide +kernel
theorem own_d12_5 : decode jdk_42_method_66_code 5 = .ok (.iconst 1, 1) := by decide +kernel
theorem own_d12_6 : decode jdk_42_method_66_code 6 = .ok (.ireturn, 1) := by decide +kernel
theorem own_d13_0 : decode prog_19_method_10_code 0 = .ok (.aload_n 0, 1) := by decide +kernel
theorem own_d13_1 : decode prog_19_method_10_code 1 = .ok (.getfield 13, 3) := by decide +kernel
theorem own_d13_4 : decode prog_19_method_10_code 4 = .ok (.areturn, 1) := by decide +kernel
theorem own_d14_0 : decode prog_19_method_11_code 0 = .ok (.aload_n 0, 1) := by decide +kernel
theorem own_d14_1 : decode prog_19_method_11_code 1 = .ok (.getfield 16, 3) := by decide +kernel
theorem own_d14_4 : decode prog_19_method_11_code 4 = .ok (.areturn, 1) := by decide +kernel
theorem own_d15_0 : decode prog_19_method_12_code 0 = .ok (.aload_n 0, 1) := by decide +kernel
theorem own_d15_1 : decode prog_19_method_12_code 1 = .ok (.getfield 20, 3) := by decide +kernel
theorem own_d15_4 : decode prog_19_method_12_code 4 = .ok (.ireturn, 1) := by decide +kernel
theorem own_pd0 : parseMethodDescriptor "()V" = some ⟨[], none⟩ := by decide +kernel
set_option maxRecDepth 65536 in
set_option maxHeartbeats 40000000 in
theorem own_rec (l : Launch) (Z : State) (a0 : Array Value) (hw : ∀ d ∈ tables_1, d.before a0 Z = true) (a : Addr) (h0 : Heap) (O0 : own_Old Z h0) :
    own_Con l Z (⟨"java/lang/Record", "<init>", "()V"⟩ : MethodName) jdk_30_method_1_code 1 none [] ({ frames := 1, cells := 0, slots := 0, locals := 12 } : Room) #[(.ref a)] h0 (fun rv rh rL => rv = none ∧ own_Fr Z rL ∧ h0 = rh) := by
  refine own_intro (plainFor_of_name (by first | (simp [plainName, overriddenIn]; done) | decide +kernel)) ?_
  intro p e s m below meth c s₁ G hx hby hml hown hnm hret hZ X0 e0 hG hR
  have N0 := Fr.nil Z.heap.size
  refine own_entry (Ls := #[.val (.ref a)]) (by first | (simp [entryFrame, mkF, argsToLocals, Value.category]; done) | rfl) ?_
  show G (s₁.setTop (mkF m 0 #[.val (.ref a)] []))
  refine hG _ _ (fun t k => XS.aloadN X0.here hx rfl (hb hby own_d9_0) rfl rfl k) ?_
  show G (s₁.setTop (mkF m 1 #[.val (.ref a)] [(.ref a)]))
  obtain ⟨T1, X1, e1, st1⟩ := initO X0 hx hZ hown (hw _ (List.mem_of_getElem? (i := 48) rfl)) (hw _ (List.mem_of_getElem? (i := 16) rfl)) (hw _ (List.mem_of_getElem? (i := 17) rfl)) e0 (g := (mkF m 1 #[.val (.ref a)] [(.ref a)])) rfl (by rw [hml]; rfl) rfl (hb hby own_d9_1) (by decide) (W := 0) (by show 2 * 0 + _ ≤ _; exact Nat.le_of_eq rfl) (by decide)
  refine hG _ _ st1 ?_
  show G (T1.setTop (mkF m 4 #[.val (.ref a)] []))
  exact own_retV hR hret X1 hx (hb hby own_d9_4) (by decide) (by decide) (by rw [e1]; exact ⟨rfl, N0, rfl⟩)
theorem own_pd1 : parseMethodDescriptor "([CI[BII)I" = some ⟨[(.array .char), .int, (.array .byte), .int, .int], some .int⟩ := by decide +kernel
set_option maxRecDepth 65536 in
set_option maxHeartbeats 40000000 in
theorem own_cmp5 (l : Launch) (Z : State) (a0 : Array Value) (hw : ∀ d ∈ tables_1, d.before a0 Z = true) (a : Addr) (b : Addr) (ka : ClassId) (kb : ClassId) (cs : List Int32) (h0 : Heap) (O0 : own_Old Z h0) (g0_V : Arv Z h0 a ka .char (Int32.ofNat cs.length) (cs.map Value.int) (.int (0 : Int32))) (g1_V : Arv Z h0 b kb .byte (Int32.ofNat cs.length) [] (.int (0 : Int32))) (g2_G : Z.heap.size ≤ b) (g3_hne : a ≠ b) (g4_hlen : cs.length < 2147483648) (g5_hcs : ∀ c ∈ cs, ¬ ((255 : Int32) < c)) :
    own_Con l Z (⟨"java/lang/StringUTF16", "compress", "([CI[BII)I"⟩ : MethodName) jdk_52_method_21_code 7 (some .int) [] ({ frames := 0, cells := 0, slots := 0, locals := 0 } : Room) #[(.ref a), (.int (0 : Int32)), (.ref b), (.int (0 : Int32)), (.int (Int32.ofNat cs.length))] h0 (fun rv rh rL => rv = some (.int (Int32.ofNat cs.length)) ∧ own_Fr Z rL ∧ Keep h0 rh [b] ∧ (Arv Z rh b kb .byte (Int32.ofNat cs.length) (cs.map fun c => Value.int c.toInt8.toInt32) (.int (0 : Int32)))) := by
  refine own_intro (plainFor_of_name (by first | (simp [plainName, overriddenIn]; done) | decide +kernel)) ?_
  intro p e s m below meth c s₁ G hx hby hml hown hnm hret hZ X0 e0 hG hR
  have N0 := Fr.nil Z.heap.size
  refine own_entry (Ls := #[.val (.ref a), .val (.int (0 : Int32)), .val (.ref b), .val (.int (0 : Int32)), .val (.int (Int32.ofNat cs.length)), .unset, .unset]) (by first | (simp [entryFrame, mkF, argsToLocals, Value.category]; done) | rfl) ?_
  show G (s₁.setTop (mkF m 0 #[.val (.ref a), .val (.int (0 : Int32)), .val (.ref b), .val (.int (0 : Int32)), .val (.int (Int32.ofNat cs.length)), .unset, .unset] []))
  refine hG _ _ (fun t k => XS.iconst X0.here hx rfl (hb hby own_d6_0) k) ?_
  show G (s₁.setTop (mkF m 1 #[.val (.ref a), .val (.int (0 : Int32)), .val (.ref b), .val (.int (0 : Int32)), .val (.int (Int32.ofNat cs.length)), .unset, .unset] [(.int (0 : Int32))]))
  refine hG _ _ (fun t k => XS.istore X0.here hx rfl (hb hby own_d6_1) rfl (l' := #[.val (.ref a), .val (.int (0 : Int32)), .val (.ref b), .val (.int (0 : Int32)), .val (.int (Int32.ofNat cs.length)), .val (.int (0 : Int32)), .unset]) rfl k) ?_
  show G (s₁.setTop (mkF m 3 #[.val (.ref a), .val (.int (0 : Int32)), .val (.ref b), .val (.int (0 : Int32)), .val (.int (Int32.ofNat cs.length)), .val (.int (0 : Int32)), .unset] []))
  have loop : ∀ (r i : Nat) (T : State) (locs : List Loc) (hT : Heap) (vs : List Value) (ch : Slot), r + i = cs.length → Stand p l e ({ frames := 0, cells := 0, slots := 0, locals := 0 } : Room) s m #[(.ref a), (.int (0 : Int32)), (.ref b), (.int (0 : Int32)), (.int (Int32.ofNat cs.length))] below meth c T locs 0 0 → T.heap = hT → Keep h0 hT [b] → own_Old Z hT → own_Fr Z locs → Arv Z hT b kb .byte (Int32.ofNat cs.length) vs (.int (0 : Int32)) → vs.length = cs.length → (∀ j, j < i → vs.getD j (.int (0 : Int32)) = Value.int (cs.getD j 0).toInt8.toInt32) → One ch → G (T.setTop (mkF m 3 #[.val (.ref a), .val (.int (Int32.ofNat i)), .val (.ref b), .val (.int (Int32.ofNat i)), .val (.int (Int32.ofNat cs.length)), .val (.int (Int32.ofNat i)), ch] [])) := by
    intro r
    induction r with
    | zero =>
      intro i T locs hT vs ch hri X eT K O N V hl hv hch
      have hi : i = cs.length := by omega
      subst hi
      have hvs := own_mapEq (fun c : Int32 => Value.int c.toInt8.toInt32) cs vs (.int (0 : Int32)) 0 hl hv
      rw [hvs] at V
      refine hG _ _ (fun t k => XS.iload X.here hx rfl (hb hby own_d6_3) rfl k) ?_
      show G (T.setTop (mkF m 5 #[.val (.ref a), .val (.int (Int32.ofNat cs.length)), .val (.ref b), .val (.int (Int32.ofNat cs.length)), .val (.int (Int32.ofNat cs.length)), .val (.int (Int32.ofNat cs.length)), ch] [(.int (Int32.ofNat cs.length))]))
      refine hG _ _ (fun t k => XS.iload X.here hx rfl (hb hby own_d6_5) rfl k) ?_
      show G (T.setTop (mkF m 7 #[.val (.ref a), .val (.int (Int32.ofNat cs.length)), .val (.ref b), .val (.int (Int32.ofNat cs.length)), .val (.int (Int32.ofNat cs.length)), .val (.int (Int32.ofNat cs.length)), ch] [(.int (Int32.ofNat cs.length)), (.int (Int32.ofNat cs.length))]))
      refine hG _ _ (fun t k => XS.icmpYes X.here hx rfl (pc0 := 7) (pc' := 44) rfl (hb hby own_d6_7) rfl (flt (own_nlt (Nat.le_refl _) g4_hlen)).2.1 (by decide) (by decide) k) ?_
      show G (T.setTop (mkF m 44 #[.val (.ref a), .val (.int (Int32.ofNat cs.length)), .val (.ref b), .val (.int (Int32.ofNat cs.length)), .val (.int (Int32.ofNat cs.length)), .val (.int (Int32.ofNat cs.length)), ch] []))
      refine hG _ _ (fun t k => XS.iload X.here hx rfl (hb hby own_d6_44) rfl k) ?_
      show G (T.setTop (mkF m 46 #[.val (.ref a), .val (.int (Int32.ofNat cs.length)), .val (.ref b), .val (.int (Int32.ofNat cs.length)), .val (.int (Int32.ofNat cs.length)), .val (.int (Int32.ofNat cs.length)), ch] [(.int (Int32.ofNat cs.length))]))
      exact own_retI hR hret X hx (hb hby own_d6_46) (by decide) (by decide) (by rw [eT]; exact ⟨rfl, N, K, V⟩)
    | succ r ih =>
      intro i T locs hT vs ch hri X eT K O N V hl hv hch
      have hi : i < cs.length := by omega
      refine hG _ _ (fun t k => XS.iload X.here hx rfl (hb hby own_d6_3) rfl k) ?_
      show G (T.setTop (mkF m 5 #[.val (.ref a), .val (.int (Int32.ofNat i)), .val (.ref b), .val (.int (Int32.ofNat i)), .val (.int (Int32.ofNat cs.length)), .val (.int (Int32.ofNat i)), ch] [(.int (Int32.ofNat i))]))
      refine hG _ _ (fun t k => XS.iload X.here hx rfl (hb hby own_d6_5) rfl k) ?_
      show G (T.setTop (mkF m 7 #[.val (.ref a), .val (.int (Int32.ofNat i)), .val (.ref b), .val (.int (Int32.ofNat i)), .val (.int (Int32.ofNat cs.length)), .val (.int (Int32.ofNat i)), ch] [(.int (Int32.ofNat cs.length)), (.int (Int32.ofNat i))]))
      refine hG _ _ (fun t k => XS.icmpNo X.here hx rfl (hb hby own_d6_7) rfl (tlt (own_lt hi g4_hlen)).2.1 k) ?_
      show G (T.setTop (mkF m 10 #[.val (.ref a), .val (.int (Int32.ofNat i)), .val (.ref b), .val (.int (Int32.ofNat i)), .val (.int (Int32.ofNat cs.length)), .val (.int (Int32.ofNat i)), ch] []))
      refine hG _ _ (fun t k => XS.aloadN X.here hx rfl (hb hby own_d6_10) rfl rfl k) ?_
      show G (T.setTop (mkF m 11 #[.val (.ref a), .val (.int (Int32.ofNat i)), .val (.ref b), .val (.int (Int32.ofNat i)), .val (.int (Int32.ofNat cs.length)), .val (.int (Int32.ofNat i)), ch] [(.ref a)]))
      refine hG _ _ (fun t k => XS.iloadN X.here hx rfl (hb hby own_d6_11) rfl k) ?_
      show G (T.setTop (mkF m 12 #[.val (.ref a), .val (.int (Int32.ofNat i)), .val (.ref b), .val (.int (Int32.ofNat i)), .val (.int (Int32.ofNat cs.length)), .val (.int (Int32.ofNat i)), ch] [(.int (Int32.ofNat i)), (.ref a)]))
      obtain ⟨c1, Ar1, q1, S1, M1, H1, G1⟩ := id (g0_V.keep K (ninS g3_hne nin0))
      have hin1 : ¬ ((Int32.ofNat i) < 0 ∨ c1.slots.size ≤ (Int32.ofNat i).toNatClampNeg) := inb_of S1 ⟨own_nn (by omega), own_lt hi g4_hlen⟩
      refine hG _ _ (X.caload hx (j := (Int32.ofNat i)) (v := (.int (cs.getD i 0))) (by rw [eT]; exact Ar1.1) (State.isArrayOf_alike hZ.alike Ar1.2.1) Ar1.2.2 hin1 (Has.at H1 hin1 (by rw [own_clamp (by omega)]; exact own_getD_map Value.int cs i _ 0 hi)) (g := (mkF m 12 #[.val (.ref a), .val (.int (Int32.ofNat i)), .val (.ref b), .val (.int (Int32.ofNat i)), .val (.int (Int32.ofNat cs.length)), .val (.int (Int32.ofNat i)), ch] [(.int (Int32.ofNat i)), (.ref a)])) rfl rfl (hb hby own_d6_12)) ?_
      show G (T.setTop (mkF m 13 #[.val (.ref a), .val (.int (Int32.ofNat i)), .val (.ref b), .val (.int (Int32.ofNat i)), .val (.int (Int32.ofNat cs.length)), .val (.int (Int32.ofNat i)), ch] [(.int (cs.getD i 0))]))
      refine hG _ _ (fun t k => XS.istoreS X.here hx rfl (hb hby own_d6_13) rfl rfl hch k) ?_
      show G (T.setTop (mkF m 15 #[.val (.ref a), .val (.int (Int32.ofNat i)), .val (.ref b), .val (.int (Int32.ofNat i)), .val (.int (Int32.ofNat cs.length)), .val (.int (Int32.ofNat i)), .val (.int (cs.getD i 0))] []))
      refine hG _ _ (fun t k => XS.iload X.here hx rfl (hb hby own_d6_15) rfl k) ?_
      show G (T.setTop (mkF m 17 #[.val (.ref a), .val (.int (Int32.ofNat i)), .val (.ref b), .val (.int (Int32.ofNat i)), .val (.int (Int32.ofNat cs.length)), .val (.int (Int32.ofNat i)), .val (.int (cs.getD i 0))] [(.int (cs.getD i 0))]))
      refine hG _ _ (fun t k => XS.sipush X.here hx rfl (hb hby own_d6_17) k) ?_
      show G (T.setTop (mkF m 20 #[.val (.ref a), .val (.int (Int32.ofNat i)), .val (.ref b), .val (.int (Int32.ofNat i)), .val (.int (Int32.ofNat cs.length)), .val (.int (Int32.ofNat i)), .val (.int (cs.getD i 0))] [(.int (255 : Int32)), (.int (cs.getD i 0))]))
      refine hG _ _ (fun t k => XS.icmpYes X.here hx rfl (pc0 := 20) (pc' := 26) rfl (hb hby own_d6_20) rfl (flt (g5_hcs _ (own_getD_mem cs i 0 hi))).2.2.2 (by decide) (by decide) k) ?_
      show G (T.setTop (mkF m 26 #[.val (.ref a), .val (.int (Int32.ofNat i)), .val (.ref b), .val (.int (Int32.ofNat i)), .val (.int (Int32.ofNat cs.length)), .val (.int (Int32.ofNat i)), .val (.int (cs.getD i 0))] []))
      refine hG _ _ (fun t k => XS.aloadN X.here hx rfl (hb hby own_d6_26) rfl rfl k) ?_
      show G (T.setTop (mkF m 27 #[.val (.ref a), .val (.int (Int32.ofNat i)), .val (.ref b), .val (.int (Int32.ofNat i)), .val (.int (Int32.ofNat cs.length)), .val (.int (Int32.ofNat i)), .val (.int (cs.getD i 0))] [(.ref b)]))
      refine hG _ _ (fun t k => XS.iloadN X.here hx rfl (hb hby own_d6_27) rfl k) ?_
      show G (T.setTop (mkF m 28 #[.val (.ref a), .val (.int (Int32.ofNat i)), .val (.ref b), .val (.int (Int32.ofNat i)), .val (.int (Int32.ofNat cs.length)), .val (.int (Int32.ofNat i)), .val (.int (cs.getD i 0))] [(.int (Int32.ofNat i)), (.ref b)]))
      refine hG _ _ (fun t k => XS.iload X.here hx rfl (hb hby own_d6_28) rfl k) ?_
      show G (T.setTop (mkF m 30 #[.val (.ref a), .val (.int (Int32.ofNat i)), .val (.ref b), .val (.int (Int32.ofNat i)), .val (.int (Int32.ofNat cs.length)), .val (.int (Int32.ofNat i)), .val (.int (cs.getD i 0))] [(.int (cs.getD i 0)), (.int (Int32.ofNat i)), (.ref b)]))
      refine hG _ _ (fun t k => XS.i2b X.here hx rfl (hb hby own_d6_30) rfl k) ?_
      show G (T.setTop (mkF m 31 #[.val (.ref a), .val (.int (Int32.ofNat i)), .val (.ref b), .val (.int (Int32.ofNat i)), .val (.int (Int32.ofNat cs.length)), .val (.int (Int32.ofNat i)), .val (.int (cs.getD i 0))] [(.int ((cs.getD i 0).toInt8.toInt32)), (.int (Int32.ofNat i)), (.ref b)]))
      obtain ⟨c2, Ar2, q2, S2, M2, H2, G2⟩ := id V
      obtain ⟨T2, h2, X2, e2, W2, st2⟩ := stB X hx hZ eT Ar2 (j := (Int32.ofNat i)) (inb_of S2 ⟨own_nn (by omega), own_lt hi g4_hlen⟩) (g := (mkF m 31 #[.val (.ref a), .val (.int (Int32.ofNat i)), .val (.ref b), .val (.int (Int32.ofNat i)), .val (.int (Int32.ofNat cs.length)), .val (.int (Int32.ofNat i)), .val (.int (cs.getD i 0))] [(.int ((cs.getD i 0).toInt8.toInt32)), (.int (Int32.ofNat i)), (.ref b)])) rfl rfl (hb hby own_d6_31)
      refine hG _ _ st2 ?_
      have K2 : Keep h0 h2 [b] := K.wr W2 (Or.inl (List.mem_of_getElem? (i := 0) rfl))
      have O2 : own_Old Z h2 := O.wr W2 g2_G
      have V2 : Arv Z h2 b kb .byte (Int32.ofNat cs.length) (vs.set i (.int (nar .byte ((cs.getD i 0).toInt8.toInt32)))) (.int (0 : Int32)) := Arv.set Ar2 q2 S2 M2 H2 G2 (fits_nar_byte _) W2 i (own_clamp (by omega)) (by omega)
      have N2 := Fr.snoc X2 N g2_G
      show G (T2.setTop (mkF m 32 #[.val (.ref a), .val (.int (Int32.ofNat i)), .val (.ref b), .val (.int (Int32.ofNat i)), .val (.int (Int32.ofNat cs.length)), .val (.int (Int32.ofNat i)), .val (.int (cs.getD i 0))] []))
      refine hG _ _ (fun t k => XS.iinc X2.here hx rfl (hb hby own_d6_32) rfl (l' := #[.val (.ref a), .val (.int ((Int32.ofNat i) + (1 : Int32))), .val (.ref b), .val (.int (Int32.ofNat i)), .val (.int (Int32.ofNat cs.length)), .val (.int (Int32.ofNat i)), .val (.int (cs.getD i 0))]) rfl k) ?_
      show G (T2.setTop (mkF m 35 #[.val (.ref a), .val (.int ((Int32.ofNat i) + (1 : Int32))), .val (.ref b), .val (.int (Int32.ofNat i)), .val (.int (Int32.ofNat cs.length)), .val (.int (Int32.ofNat i)), .val (.int (cs.getD i 0))] []))
      refine hG _ _ (fun t k => XS.iinc X2.here hx rfl (hb hby own_d6_35) rfl (l' := #[.val (.ref a), .val (.int ((Int32.ofNat i) + (1 : Int32))), .val (.ref b), .val (.int ((Int32.ofNat i) + (1 : Int32))), .val (.int (Int32.ofNat cs.length)), .val (.int (Int32.ofNat i)), .val (.int (cs.getD i 0))]) rfl k) ?_
      show G (T2.setTop (mkF m 38 #[.val (.ref a), .val (.int ((Int32.ofNat i) + (1 : Int32))), .val (.ref b), .val (.int ((Int32.ofNat i) + (1 : Int32))), .val (.int (Int32.ofNat cs.length)), .val (.int (Int32.ofNat i)), .val (.int (cs.getD i 0))] []))
      refine hG _ _ (fun t k => XS.iinc X2.here hx rfl (hb hby own_d6_38) rfl (l' := #[.val (.ref a), .val (.int ((Int32.ofNat i) + (1 : Int32))), .val (.ref b), .val (.int ((Int32.ofNat i) + (1 : Int32))), .val (.int (Int32.ofNat cs.length)), .val (.int ((Int32.ofNat i) + (1 : Int32))), .val (.int (cs.getD i 0))]) rfl k) ?_
      show G (T2.setTop (mkF m 41 #[.val (.ref a), .val (.int ((Int32.ofNat i) + (1 : Int32))), .val (.ref b), .val (.int ((Int32.ofNat i) + (1 : Int32))), .val (.int (Int32.ofNat cs.length)), .val (.int ((Int32.ofNat i) + (1 : Int32))), .val (.int (cs.getD i 0))] []))
      refine hG _ _ (fun t k => XS.goto X2.here hx rfl (pc0 := 41) (pc' := 3) rfl (hb hby own_d6_41) (by decide) (by decide) k) ?_
      show G (T2.setTop (mkF m 3 #[.val (.ref a), .val (.int ((Int32.ofNat i) + (1 : Int32))), .val (.ref b), .val (.int ((Int32.ofNat i) + (1 : Int32))), .val (.int (Int32.ofNat cs.length)), .val (.int ((Int32.ofNat i) + (1 : Int32))), .val (.int (cs.getD i 0))] []))
      rw [own_inc i]
      exact ih (i + 1) _ _ _ _ _ (by omega) X2 e2 K2 O2 N2 V2 (by rw [List.length_set]; exact hl) (own_setNext (fun c => Value.int c.toInt8.toInt32) _ _ (by omega) (by rw [own_nb]) hv) (One.val rfl)
  exact loop cs.length 0 _ _ _ _ _ rfl X0 e0 (Keep.refl h0 [b]) O0 N0 (g1_V.pad (pad_rep [] (.int (0 : Int32)) cs.length)) (by simp) (fun j hj => absurd hj (Nat.not_lt_zero j)) One.u
theorem own_pd2 : parseMethodDescriptor "([CII)[B" = some ⟨[(.array .char), .int, .int], some (.array .byte)⟩ := by decide +kernel
set_option maxRecDepth 65536 in
set_option maxHeartbeats 40000000 in
theorem own_cmp3 (l : Launch) (Z : State) (a0 : Array Value) (hw : ∀ d ∈ tables_1, d.before a0 Z = true) (a : Addr) (ka : ClassId) (cs : List Int32) (h0 : Heap) (O0 : own_Old Z h0) (g0_V : Arv Z h0 a ka .char (Int32.ofNat cs.length) (cs.map Value.int) (.int (0 : Int32))) (g1_hcap : cs.length ≤ 2) (g2_hcs : ∀ c ∈ cs, ¬ ((255 : Int32) < c)) :
    own_Con l Z (⟨"java/lang/StringUTF16", "compress", "([CII)[B"⟩ : MethodName) jdk_52_method_16_code 6 (some (.array .byte)) [] ({ frames := 1, cells := 1, slots := 2, locals := 18 } : Room) #[(.ref a), (.int (0 : Int32)), (.int (Int32.ofNat cs.length))] h0 (fun rv rh rL => ∃ (t : Addr) (kt : ClassId), rv = some (.ref t) ∧ own_Fr Z rL ∧ Keep h0 rh [] ∧ h0.size ≤ t ∧ (Arv Z rh t kt .byte (Int32.ofNat cs.length) (cs.map fun c => Value.int c.toInt8.toInt32) (.int (0 : Int32)))) := by
  refine own_intro (plainFor_of_name (by first | (simp [plainName, overriddenIn]; done) | decide +kernel)) ?_
  intro p e s m below meth c s₁ G hx hby hml hown hnm hret hZ X0 e0 hG hR
  have N0 := Fr.nil Z.heap.size
  refine own_entry (Ls := #[.val (.ref a), .val (.int (0 : Int32)), .val (.int (Int32.ofNat cs.length)), .unset, .unset, .unset]) (by first | (simp [entryFrame, mkF, argsToLocals, Value.category]; done) | rfl) ?_
  show G (s₁.setTop (mkF m 0 #[.val (.ref a), .val (.int (0 : Int32)), .val (.int (Int32.ofNat cs.length)), .unset, .unset, .unset] []))
  refine hG _ _ (fun t k => XS.iloadN X0.here hx rfl (hb hby own_d5_0) rfl k) ?_
  show G (s₁.setTop (mkF m 1 #[.val (.ref a), .val (.int (0 : Int32)), .val (.int (Int32.ofNat cs.length)), .unset, .unset, .unset] [(.int (Int32.ofNat cs.length))]))
  obtain ⟨T1, h1, k1, X1, e1, E1, A1, st1⟩ := newP X0 hx hZ (hw _ (List.mem_of_getElem? (i := 23) rfl)) e0 (g := (mkF m 1 #[.val (.ref a), .val (.int (0 : Int32)), .val (.int (Int32.ofNat cs.length)), .unset, .unset, .unset] [(.int (Int32.ofNat cs.length))])) rfl (hb hby own_d5_1) rfl (own_nn (by omega)) (cap := 2) (by rw [own_clamp (by omega)]; exact g1_hcap) (by decide) (by decide) (by decide)
  obtain ⟨b1, z1⟩ : ∃ z, z = h0.size := ⟨_, rfl⟩
  rw [← z1] at A1 st1
  refine hG _ _ st1 ?_
  have K1 : Keep h0 h1 [] := (Keep.refl h0 []).ext E1
  have O1 : own_Old Z h1 := O0.ext E1
  have V1 : Arv Z h1 b1 k1 .byte (Int32.ofNat cs.length) [] (.int (0 : Int32)) := Arv.new A1 (own_nn (by omega))
  show G (T1.setTop (mkF m 3 #[.val (.ref a), .val (.int (0 : Int32)), .val (.int (Int32.ofNat cs.length)), .unset, .unset, .unset] [(.ref b1)]))
  refine hG _ _ (fun t k => XS.astoreN X1.here hx rfl (hb hby own_d5_3) rfl rfl (l' := #[.val (.ref a), .val (.int (0 : Int32)), .val (.int (Int32.ofNat cs.length)), .val (.ref b1), .unset, .unset]) rfl k) ?_
  show G (T1.setTop (mkF m 4 #[.val (.ref a), .val (.int (0 : Int32)), .val (.int (Int32.ofNat cs.length)), .val (.ref b1), .unset, .unset] []))
  refine hG _ _ (fun t k => XS.aloadN X1.here hx rfl (hb hby own_d5_4) rfl rfl k) ?_
  show G (T1.setTop (mkF m 5 #[.val (.ref a), .val (.int (0 : Int32)), .val (.int (Int32.ofNat cs.length)), .val (.ref b1), .unset, .unset] [(.ref a)]))
  refine hG _ _ (fun t k => XS.iloadN X1.here hx rfl (hb hby own_d5_5) rfl k) ?_
  show G (T1.setTop (mkF m 6 #[.val (.ref a), .val (.int (0 : Int32)), .val (.int (Int32.ofNat cs.length)), .val (.ref b1), .unset, .unset] [(.int (0 : Int32)), (.ref a)]))
  refine hG _ _ (fun t k => XS.aloadN X1.here hx rfl (hb hby own_d5_6) rfl rfl k) ?_
  show G (T1.setTop (mkF m 7 #[.val (.ref a), .val (.int (0 : Int32)), .val (.int (Int32.ofNat cs.length)), .val (.ref b1), .unset, .unset] [(.ref b1), (.int (0 : Int32)), (.ref a)]))
  refine hG _ _ (fun t k => XS.iconst X1.here hx rfl (hb hby own_d5_7) k) ?_
  show G (T1.setTop (mkF m 8 #[.val (.ref a), .val (.int (0 : Int32)), .val (.int (Int32.ofNat cs.length)), .val (.ref b1), .unset, .unset] [(.int (0 : Int32)), (.ref b1), (.int (0 : Int32)), (.ref a)]))
  refine hG _ _ (fun t k => XS.iloadN X1.here hx rfl (hb hby own_d5_8) rfl k) ?_
  show G (T1.setTop (mkF m 9 #[.val (.ref a), .val (.int (0 : Int32)), .val (.int (Int32.ofNat cs.length)), .val (.ref b1), .unset, .unset] [(.int (Int32.ofNat cs.length)), (.int (0 : Int32)), (.ref b1), (.int (0 : Int32)), (.ref a)]))
  have f3 := (g0_V.ext E1)
  refine own_callS X1 hx hZ hG hown (hw _ (List.mem_of_getElem? (i := 24) rfl)) (hw _ (List.mem_of_getElem? (i := 25) rfl)) (hw _ (List.mem_of_getElem? (i := 21) rfl)) (hw _ (List.mem_of_getElem? (i := 26) rfl)) (by decide) 0 (own_cmp5 l Z a0 hw a b1 ka k1 cs h1 O1 f3 V1 (own_ge O0 (Nat.le_of_eq z1.symm)) (own_ne g0_V.lt (Nat.le_of_eq z1.symm)) (by omega) g2_hcs) (by decide) (by decide) e1 (by rw [hml]; rfl) (lenOf own_pd1 rfl) (argsL := [(.ref a), (.int (0 : Int32)), (.ref b1), (.int (0 : Int32)), (.int (Int32.ofNat cs.length))]) (rest := []) rfl rfl (Nat.le_of_eq rfl) (hb hby own_d5_9) (by decide) (by decide) ?_
  intro T2 h2 v2 L2 X2 e2 q2
  obtain ⟨rfl, M2, J2, r2_0⟩ := q2
  have N2 := Fr.app N0 M2
  have K2 : Keep h0 h2 [] := K1.trans J2 (allS (Or.inr (Nat.le_trans (Keep.refl h0 []).1 (Nat.le_of_eq z1.symm))) all0)
  have O2 : own_Old Z h2 := O1.keep J2 (allS (own_ge O0 (Nat.le_of_eq z1.symm)) all0)
  show G (T2.setTop (mkF m 12 #[.val (.ref a), .val (.int (0 : Int32)), .val (.int (Int32.ofNat cs.length)), .val (.ref b1), .unset, .unset] [(.int (Int32.ofNat cs.length))]))
  refine hG _ _ (fun t k => XS.istore X2.here hx rfl (hb hby own_d5_12) rfl (l' := #[.val (.ref a), .val (.int (0 : Int32)), .val (.int (Int32.ofNat cs.length)), .val (.ref b1), .val (.int (Int32.ofNat cs.length)), .unset]) rfl k) ?_
  show G (T2.setTop (mkF m 14 #[.val (.ref a), .val (.int (0 : Int32)), .val (.int (Int32.ofNat cs.length)), .val (.ref b1), .val (.int (Int32.ofNat cs.length)), .unset] []))
  refine hG _ _ (fun t k => XS.iload X2.here hx rfl (hb hby own_d5_14) rfl k) ?_
  show G (T2.setTop (mkF m 16 #[.val (.ref a), .val (.int (0 : Int32)), .val (.int (Int32.ofNat cs.length)), .val (.ref b1), .val (.int (Int32.ofNat cs.length)), .unset] [(.int (Int32.ofNat cs.length))]))
  refine hG _ _ (fun t k => XS.iloadN X2.here hx rfl (hb hby own_d5_16) rfl k) ?_
  show G (T2.setTop (mkF m 17 #[.val (.ref a), .val (.int (0 : Int32)), .val (.int (Int32.ofNat cs.length)), .val (.ref b1), .val (.int (Int32.ofNat cs.length)), .unset] [(.int (Int32.ofNat cs.length)), (.int (Int32.ofNat cs.length))]))
  refine hG _ _ (fun t k => XS.icmpYes X2.here hx rfl (pc0 := 17) (pc' := 57) rfl (hb hby own_d5_17) rfl (teq (rfl : (Int32.ofNat cs.length) = (Int32.ofNat cs.length))).1 (by decide) (by decide) k) ?_
  show G (T2.setTop (mkF m 57 #[.val (.ref a), .val (.int (0 : Int32)), .val (.int (Int32.ofNat cs.length)), .val (.ref b1), .val (.int (Int32.ofNat cs.length)), .unset] []))
  refine hG _ _ (fun t k => XS.aloadN X2.here hx rfl (hb hby own_d5_57) rfl rfl k) ?_
  show G (T2.setTop (mkF m 58 #[.val (.ref a), .val (.int (0 : Int32)), .val (.int (Int32.ofNat cs.length)), .val (.ref b1), .val (.int (Int32.ofNat cs.length)), .unset] [(.ref b1)]))
  exact own_retA hR hret rfl rfl X2 hx (hb hby own_d5_58) (by decide) (by decide) (by rw [e2]; exact ⟨b1, k1, rfl, N2, K2, (Nat.le_trans (Keep.refl h0 []).1 (Nat.le_of_eq z1.symm)), r2_0⟩)
theorem own_pd3 : parseMethodDescriptor "([BI)B" = some ⟨[(.array .byte), .int], some .byte⟩ := by decide +kernel
set_option maxRecDepth 65536 in
set_option maxHeartbeats 40000000 in
theorem own_coder (l : Launch) (Z : State) (a0 : Array Value) (hw : ∀ d ∈ tables_1, d.before a0 Z = true) (t : Addr) (n : Int32) (kt : ClassId) (n2 : Int32) (vs : List Value) (r : Int32) (h0 : Heap) (O0 : own_Old Z h0) (g0_V : Arv Z h0 t kt .byte n2 vs (.int (0 : Int32))) (g1_hr : nar .byte ((((n - n2).toUInt32 >>> ((31 : Int32) &&& 31).toUInt32).toInt32).toInt8.toInt32) = r) :
    own_Con l Z (⟨"java/lang/StringUTF16", "coderFromArrayLen", "([BI)B"⟩ : MethodName) jdk_52_method_15_code 2 (some .byte) [] ({ frames := 0, cells := 0, slots := 0, locals := 0 } : Room) #[(.ref t), (.int n)] h0 (fun rv rh rL => rv = some (.int r) ∧ own_Fr Z rL ∧ h0 = rh) := by
  refine own_intro (plainFor_of_name (by first | (simp [plainName, overriddenIn]; done) | decide +kernel)) ?_
  intro p e s m below meth c s₁ G hx hby hml hown hnm hret hZ X0 e0 hG hR
  have N0 := Fr.nil Z.heap.size
  refine own_entry (Ls := #[.val (.ref t), .val (.int n)]) (by first | (simp [entryFrame, mkF, argsToLocals, Value.category]; done) | rfl) ?_
  show G (s₁.setTop (mkF m 0 #[.val (.ref t), .val (.int n)] []))
  refine hG _ _ (fun t k => XS.iloadN X0.here hx rfl (hb hby own_d7_0) rfl k) ?_
  show G (s₁.setTop (mkF m 1 #[.val (.ref t), .val (.int n)] [(.int n)]))
  refine hG _ _ (fun t k => XS.aloadN X0.here hx rfl (hb hby own_d7_1) rfl rfl k) ?_
  show G (s₁.setTop (mkF m 2 #[.val (.ref t), .val (.int n)] [(.ref t), (.int n)]))
  obtain ⟨c1, Ar1, -, S1, M1, -, -⟩ := id g0_V
  refine hG _ _ (X0.arraylength hx (by rw [e0]; exact Ar1.1) (State.isArrayOf_alike hZ.alike Ar1.2.1) (g := (mkF m 2 #[.val (.ref t), .val (.int n)] [(.ref t), (.int n)])) rfl rfl (hb hby own_d7_2)) ?_
  rw [len_of S1 M1]
  show G (s₁.setTop (mkF m 3 #[.val (.ref t), .val (.int n)] [(.int n2), (.int n)]))
  refine hG _ _ (fun t k => XS.isub X0.here hx rfl (hb hby own_d7_3) rfl k) ?_
  show G (s₁.setTop (mkF m 4 #[.val (.ref t), .val (.int n)] [(.int (n - n2))]))
  refine hG _ _ (fun t k => XS.bipush X0.here hx rfl (hb hby own_d7_4) k) ?_
  show G (s₁.setTop (mkF m 6 #[.val (.ref t), .val (.int n)] [(.int (31 : Int32)), (.int (n - n2))]))
  refine hG _ _ (fun t k => XS.iushr X0.here hx rfl (hb hby own_d7_6) rfl k) ?_
  show G (s₁.setTop (mkF m 7 #[.val (.ref t), .val (.int n)] [(.int (((n - n2).toUInt32 >>> ((31 : Int32) &&& 31).toUInt32).toInt32))]))
  refine hG _ _ (fun t k => XS.i2b X0.here hx rfl (hb hby own_d7_7) rfl k) ?_
  show G (s₁.setTop (mkF m 8 #[.val (.ref t), .val (.int n)] [(.int ((((n - n2).toUInt32 >>> ((31 : Int32) &&& 31).toUInt32).toInt32).toInt8.toInt32))]))
  exact own_retN hR hret (by simp) X0 hx (hb hby own_d7_8) (by decide) (by decide) (by rw [e0]; exact ⟨(by rw [g1_hr]), N0, rfl⟩)
theorem own_pd4 : parseMethodDescriptor "([CIILjava/lang/Void;)V" = some ⟨[(.array .char), .int, .int, (.object "java/lang/Void")], none⟩ := by decide +kernel
set_option maxRecDepth 65536 in
set_option maxHeartbeats 40000000 in
theorem own_str4 (l : Launch) (Z : State) (a0 : Array Value) (hw : ∀ d ∈ tables_1, d.before a0 Z = true) (a : Addr) (u : Addr) (ku : ClassId) (cs : List Int32) (cpt : Int32) (v0 : Value) (v1 : Value) (h0 : Heap) (O0 : own_Old Z h0) (g0_E : Exa Z h0 a "java/lang/String") (g1_F : Fld Z h0 a "java/lang/String" "coder" "B" v0) (g2_F : Fld Z h0 a "java/lang/String" "value" "[B" v1) (g3_G : Z.heap.size ≤ a) (g4_V : Arv Z h0 u ku .char (Int32.ofNat cs.length) (cs.map Value.int) (.int (0 : Int32))) (g5_hpos : 0 < cs.length) (g6_hcap : cs.length ≤ 2) (g7_hcs : ∀ c ∈ cs, ¬ ((255 : Int32) < c)) (g8_S : Sta Z Z.heap "java/lang/String" "COMPACT_STRINGS" "Z" (.int cpt)) (g9_hcpt : ¬ (cpt = (0 : Int32))) :
    own_Con l Z (⟨"java/lang/String", "<init>", "([CIILjava/lang/Void;)V"⟩ : MethodName) jdk_42_method_149_code 6 none [] ({ frames := 2, cells := 1, slots := 2, locals := 35 } : Room) #[(.ref a), (.ref u), (.int (0 : Int32)), (.int (Int32.ofNat cs.length)), .null] h0 (fun rv rh rL => ∃ (t : Addr) (kt : ClassId), rv = none ∧ own_Fr Z rL ∧ Keep h0 rh [a] ∧ h0.size ≤ t ∧ (Exa Z rh a "java/lang/String") ∧ (Fld Z rh a "java/lang/String" "coder" "B" (.int (0 : Int32))) ∧ (Fld Z rh a "java/lang/String" "value" "[B" (.ref t)) ∧ (Arv Z rh t kt .byte (Int32.ofNat cs.length) (cs.map fun c => Value.int c.toInt8.toInt32) (.int (0 : Int32)))) := by
  refine own_intro (plainFor_of_name (by first | (simp [plainName, overriddenIn]; done) | decide +kernel)) ?_
  intro p e s m below meth c s₁ G hx hby hml hown hnm hret hZ X0 e0 hG hR
  have N0 := Fr.nil Z.heap.size
  refine own_entry (Ls := #[.val (.ref a), .val (.ref u), .val (.int (0 : Int32)), .val (.int (Int32.ofNat cs.length)), .val .null, .unset]) (by first | (simp [entryFrame, mkF, argsToLocals, Value.category]; done) | rfl) ?_
  show G (s₁.setTop (mkF m 0 #[.val (.ref a), .val (.ref u), .val (.int (0 : Int32)), .val (.int (Int32.ofNat cs.length)), .val .null, .unset] []))
  refine hG _ _ (fun t k => XS.aloadN X0.here hx rfl (hb hby own_d3_0) rfl rfl k) ?_
  show G (s₁.setTop (mkF m 1 #[.val (.ref a), .val (.ref u), .val (.int (0 : Int32)), .val (.int (Int32.ofNat cs.length)), .val .null, .unset] [(.ref a)]))
  obtain ⟨T1, X1, e1, st1⟩ := initO X0 hx hZ hown (hw _ (List.mem_of_getElem? (i := 15) rfl)) (hw _ (List.mem_of_getElem? (i := 16) rfl)) (hw _ (List.mem_of_getElem? (i := 17) rfl)) e0 (g := (mkF m 1 #[.val (.ref a), .val (.ref u), .val (.int (0 : Int32)), .val (.int (Int32.ofNat cs.length)), .val .null, .unset] [(.ref a)])) rfl (by rw [hml]; rfl) rfl (hb hby own_d3_1) (by decide) (W := 0) (by show 2 * 0 + _ ≤ _; exact Nat.le_of_eq rfl) (by decide)
  refine hG _ _ st1 ?_
  show G (T1.setTop (mkF m 4 #[.val (.ref a), .val (.ref u), .val (.int (0 : Int32)), .val (.int (Int32.ofNat cs.length)), .val .null, .unset] []))
  refine hG _ _ (fun t k => XS.iloadN X1.here hx rfl (hb hby own_d3_4) rfl k) ?_
  show G (T1.setTop (mkF m 5 #[.val (.ref a), .val (.ref u), .val (.int (0 : Int32)), .val (.int (Int32.ofNat cs.length)), .val .null, .unset] [(.int (Int32.ofNat cs.length))]))
  refine hG _ _ (fun t k => XS.ifYes X1.here hx rfl (pc0 := 5) (pc' := 27) rfl (hb hby own_d3_5) rfl ((if0 _ _).trans (feq (fun q => Nat.ne_of_gt g5_hpos (own_ofNat_inj (by omega) (by decide) q))).2) (by decide) (by decide) k) ?_
  show G (T1.setTop (mkF m 27 #[.val (.ref a), .val (.ref u), .val (.int (0 : Int32)), .val (.int (Int32.ofNat cs.length)), .val .null, .unset] []))
  obtain ⟨T2, X2, e2, st2⟩ := getS2 X1 hx hZ hown (host := "") (Or.inl (hw _ (List.mem_of_getElem? (i := 18) rfl))) Via.refl e1 (own_sta g8_S O0) (g := (mkF m 27 #[.val (.ref a), .val (.ref u), .val (.int (0 : Int32)), .val (.int (Int32.ofNat cs.length)), .val .null, .unset] [])) rfl (hb hby own_d3_27)
  refine hG _ _ st2 ?_
  show G (T2.setTop (mkF m 30 #[.val (.ref a), .val (.ref u), .val (.int (0 : Int32)), .val (.int (Int32.ofNat cs.length)), .val .null, .unset] [(.int cpt)]))
  refine hG _ _ (fun t k => XS.ifNo X2.here hx rfl (hb hby own_d3_30) rfl ((if0 _ _).trans (feq g9_hcpt).1) k) ?_
  show G (T2.setTop (mkF m 33 #[.val (.ref a), .val (.ref u), .val (.int (0 : Int32)), .val (.int (Int32.ofNat cs.length)), .val .null, .unset] []))
  refine hG _ _ (fun t k => XS.aloadN X2.here hx rfl (hb hby own_d3_33) rfl rfl k) ?_
  show G (T2.setTop (mkF m 34 #[.val (.ref a), .val (.ref u), .val (.int (0 : Int32)), .val (.int (Int32.ofNat cs.length)), .val .null, .unset] [(.ref u)]))
  refine hG _ _ (fun t k => XS.iloadN X2.here hx rfl (hb hby own_d3_34) rfl k) ?_
  show G (T2.setTop (mkF m 35 #[.val (.ref a), .val (.ref u), .val (.int (0 : Int32)), .val (.int (Int32.ofNat cs.length)), .val .null, .unset] [(.int (0 : Int32)), (.ref u)]))
  refine hG _ _ (fun t k => XS.iloadN X2.here hx rfl (hb hby own_d3_35) rfl k) ?_
  show G (T2.setTop (mkF m 36 #[.val (.ref a), .val (.ref u), .val (.int (0 : Int32)), .val (.int (Int32.ofNat cs.length)), .val .null, .unset] [(.int (Int32.ofNat cs.length)), (.int (0 : Int32)), (.ref u)]))
  refine own_callS X2 hx hZ hG hown (hw _ (List.mem_of_getElem? (i := 19) rfl)) (hw _ (List.mem_of_getElem? (i := 20) rfl)) (hw _ (List.mem_of_getElem? (i := 21) rfl)) (hw _ (List.mem_of_getElem? (i := 22) rfl)) (by decide) 0 (own_cmp3 l Z a0 hw u ku cs h0 O0 g4_V g6_hcap g7_hcs) (by decide) (by decide) e2 (by rw [hml]; rfl) (lenOf own_pd2 rfl) (argsL := [(.ref u), (.int (0 : Int32)), (.int (Int32.ofNat cs.length))]) (rest := []) rfl rfl (Nat.le_of_eq rfl) (hb hby own_d3_36) (by decide) (by decide) ?_
  intro T3 h3 v3 L3 X3 e3 q3
  obtain ⟨t_3, kt_3, rfl, M3, J3, y3_0, r3_0⟩ := q3
  have N3 := Fr.app N0 M3
  have K3 : Keep h0 h3 [a] := (Keep.refl h0 [a]).trans J3 all0
  have O3 : own_Old Z h3 := O0.keep J3 all0
  show G (T3.setTop (mkF m 39 #[.val (.ref a), .val (.ref u), .val (.int (0 : Int32)), .val (.int (Int32.ofNat cs.length)), .val .null, .unset] [(.ref t_3)]))
  refine hG _ _ (fun t k => XS.astore X3.here hx rfl (hb hby own_d3_39) rfl rfl (l' := #[.val (.ref a), .val (.ref u), .val (.int (0 : Int32)), .val (.int (Int32.ofNat cs.length)), .val .null, .val (.ref t_3)]) rfl k) ?_
  show G (T3.setTop (mkF m 41 #[.val (.ref a), .val (.ref u), .val (.int (0 : Int32)), .val (.int (Int32.ofNat cs.length)), .val .null, .val (.ref t_3)] []))
  refine hG _ _ (fun t k => XS.aloadN X3.here hx rfl (hb hby own_d3_41) rfl rfl k) ?_
  show G (T3.setTop (mkF m 42 #[.val (.ref a), .val (.ref u), .val (.int (0 : Int32)), .val (.int (Int32.ofNat cs.length)), .val .null, .val (.ref t_3)] [(.ref a)]))
  refine hG _ _ (fun t k => XS.aload X3.here hx rfl (hb hby own_d3_42) rfl rfl k) ?_
  show G (T3.setTop (mkF m 44 #[.val (.ref a), .val (.ref u), .val (.int (0 : Int32)), .val (.int (Int32.ofNat cs.length)), .val .null, .val (.ref t_3)] [(.ref t_3), (.ref a)]))
  refine hG _ _ (fun t k => XS.iloadN X3.here hx rfl (hb hby own_d3_44) rfl k) ?_
  show G (T3.setTop (mkF m 45 #[.val (.ref a), .val (.ref u), .val (.int (0 : Int32)), .val (.int (Int32.ofNat cs.length)), .val .null, .val (.ref t_3)] [(.int (Int32.ofNat cs.length)), (.ref t_3), (.ref a)]))
  refine own_callS X3 hx hZ hG hown (hw _ (List.mem_of_getElem? (i := 27) rfl)) (hw _ (List.mem_of_getElem? (i := 28) rfl)) (hw _ (List.mem_of_getElem? (i := 21) rfl)) (hw _ (List.mem_of_getElem? (i := 29) rfl)) (by decide) 1 (own_coder l Z a0 hw t_3 (Int32.ofNat cs.length) kt_3 (Int32.ofNat cs.length) (cs.map fun c => Value.int c.toInt8.toInt32) (0 : Int32) h3 O3 r3_0 (by rw [Int32.sub_self]; rfl)) (by decide) (by decide) e3 (by rw [hml]; rfl) (lenOf own_pd3 rfl) (argsL := [(.ref t_3), (.int (Int32.ofNat cs.length))]) (rest := [(.ref a)]) rfl rfl (Nat.le_of_eq rfl) (hb hby own_d3_45) (by decide) (by decide) ?_
  intro T4 h4 v4 L4 X4 e4 q4
  obtain ⟨rfl, M4, rfl⟩ := q4
  have N4 := Fr.app N3 M4
  show G (T4.setTop (mkF m 48 #[.val (.ref a), .val (.ref u), .val (.int (0 : Int32)), .val (.int (Int32.ofNat cs.length)), .val .null, .val (.ref t_3)] [(.int (0 : Int32)), (.ref a)]))
  have f6 := (g1_F.keep J3 nin0)
  have f7 := (g0_E.keep J3)
  obtain ⟨T5, h5, X5, e5, W5, st5⟩ := putFN X4 hx hZ hown (hw _ (List.mem_of_getElem? (i := 30) rfl)) Via.refl e4 f6 f7 (Or.inr ⟨(hw _ (List.mem_of_getElem? (i := 31) rfl)), rfl, hnm⟩) (hw _ (List.mem_of_getElem? (i := 6) rfl)) (ty := .byte) (v' := (.int (nar .byte (0 : Int32)))) (by decide) rfl (fits_nar_byte _) (g := (mkF m 48 #[.val (.ref a), .val (.ref u), .val (.int (0 : Int32)), .val (.int (Int32.ofNat cs.length)), .val .null, .val (.ref t_3)] [(.int (0 : Int32)), (.ref a)])) rfl rfl (hb hby own_d3_48)
  refine hG _ _ st5 ?_
  have K5 : Keep h0 h5 [a] := K3.wr W5 (Or.inl (List.mem_of_getElem? (i := 0) rfl))
  have O5 : own_Old Z h5 := O3.wr W5 g3_G
  have N5 := Fr.snoc X5 N4 g3_G
  show G (T5.setTop (mkF m 51 #[.val (.ref a), .val (.ref u), .val (.int (0 : Int32)), .val (.int (Int32.ofNat cs.length)), .val .null, .val (.ref t_3)] []))
  refine hG _ _ (fun t k => XS.aloadN X5.here hx rfl (hb hby own_d3_51) rfl rfl k) ?_
  show G (T5.setTop (mkF m 52 #[.val (.ref a), .val (.ref u), .val (.int (0 : Int32)), .val (.int (Int32.ofNat cs.length)), .val .null, .val (.ref t_3)] [(.ref a)]))
  refine hG _ _ (fun t k => XS.aload X5.here hx rfl (hb hby own_d3_52) rfl rfl k) ?_
  show G (T5.setTop (mkF m 54 #[.val (.ref a), .val (.ref u), .val (.int (0 : Int32)), .val (.int (Int32.ofNat cs.length)), .val .null, .val (.ref t_3)] [(.ref t_3), (.ref a)]))
  have f9 := ((g2_F.keep J3 nin0).other W5 (Or.inr (slot_ne (Or.inr (hw _ (List.mem_of_getElem? (i := 33) rfl))) (Or.inr (hw _ (List.mem_of_getElem? (i := 31) rfl))) (by decide) (t := (.array .byte)) (t' := .byte) (by decide) (by decide))))
  have f10 := (f7.wr W5)
  obtain ⟨T8, h8, X8, e8, W8, st8⟩ := putF X5 hx hZ hown (host := "") (Or.inl (hw _ (List.mem_of_getElem? (i := 32) rfl))) Via.refl e5 f9 f10 (Or.inr ⟨(hw _ (List.mem_of_getElem? (i := 33) rfl)), rfl, hnm⟩) (hw _ (List.mem_of_getElem? (i := 6) rfl)) (ty := (.array .byte)) (by decide) rfl rfl (g := (mkF m 54 #[.val (.ref a), .val (.ref u), .val (.int (0 : Int32)), .val (.int (Int32.ofNat cs.length)), .val .null, .val (.ref t_3)] [(.ref t_3), (.ref a)])) rfl rfl (hb hby own_d3_54)
  refine hG _ _ st8 ?_
  have K8 : Keep h0 h8 [a] := K5.wr W8 (Or.inl (List.mem_of_getElem? (i := 0) rfl))
  have O8 : own_Old Z h8 := O5.wr W8 g3_G
  have N8 := Fr.snoc X8 N5 g3_G
  show G (T8.setTop (mkF m 57 #[.val (.ref a), .val (.ref u), .val (.int (0 : Int32)), .val (.int (Int32.ofNat cs.length)), .val .null, .val (.ref t_3)] []))
  have f11 := (f10.wr W8)
  have f12 := ((f6.same W5).other W8 (Or.inr (slot_ne (Or.inr (hw _ (List.mem_of_getElem? (i := 31) rfl))) (Or.inr (hw _ (List.mem_of_getElem? (i := 33) rfl))) (by decide) (t := .byte) (t' := (.array .byte)) (by decide) (by decide))))
  have f13 := ((r3_0.other W5 (Ne.symm (own_ne g0_E.lt y3_0))).other W8 (Ne.symm (own_ne g0_E.lt y3_0)))
  exact own_retV hR hret X8 hx (hb hby own_d3_57) (by decide) (by decide) (by rw [e8]; exact ⟨t_3, kt_3, rfl, N8, K8, (Nat.le_trans (Keep.refl h0 [a]).1 y3_0), f11, f12, (f9.same W8), f13⟩)
theorem own_pd5 : parseMethodDescriptor "([C)V" = some ⟨[(.array .char)], none⟩ := by decide +kernel
set_option maxRecDepth 65536 in
set_option maxHeartbeats 40000000 in
theorem own_str1 (l : Launch) (Z : State) (a0 : Array Value) (hw : ∀ d ∈ tables_1, d.before a0 Z = true) (a : Addr) (u : Addr) (ku : ClassId) (cs : List Int32) (cpt : Int32) (v0 : Value) (v1 : Value) (h0 : Heap) (O0 : own_Old Z h0) (g0_E : Exa Z h0 a "java/lang/String") (g1_F : Fld Z h0 a "java/lang/String" "coder" "B" v0) (g2_F : Fld Z h0 a "java/lang/String" "value" "[B" v1) (g3_G : Z.heap.size ≤ a) (g4_V : Arv Z h0 u ku .char (Int32.ofNat cs.length) (cs.map Value.int) (.int (0 : Int32))) (g5_hpos : 0 < cs.length) (g6_hcap : cs.length ≤ 2) (g7_hcs : ∀ c ∈ cs, ¬ ((255 : Int32) < c)) (g8_S : Sta Z Z.heap "java/lang/String" "COMPACT_STRINGS" "Z" (.int cpt)) (g9_hcpt : ¬ (cpt = (0 : Int32))) :
    own_Con l Z (⟨"java/lang/String", "<init>", "([C)V"⟩ : MethodName) jdk_42_method_3_code 2 none [] ({ frames := 3, cells := 1, slots := 2, locals := 52 } : Room) #[(.ref a), (.ref u)] h0 (fun rv rh rL => ∃ (t : Addr) (kt : ClassId), rv = none ∧ own_Fr Z rL ∧ Keep h0 rh [a] ∧ h0.size ≤ t ∧ (Exa Z rh a "java/lang/String") ∧ (Fld Z rh a "java/lang/String" "coder" "B" (.int (0 : Int32))) ∧ (Fld Z rh a "java/lang/String" "value" "[B" (.ref t)) ∧ (Arv Z rh t kt .byte (Int32.ofNat cs.length) (cs.map fun c => Value.int c.toInt8.toInt32) (.int (0 : Int32)))) := by
  refine own_intro (plainFor_of_name (by first | (simp [plainName, overriddenIn]; done) | decide +kernel)) ?_
  intro p e s m below meth c s₁ G hx hby hml hown hnm hret hZ X0 e0 hG hR
  have N0 := Fr.nil Z.heap.size
  refine own_entry (Ls := #[.val (.ref a), .val (.ref u)]) (by first | (simp [entryFrame, mkF, argsToLocals, Value.category]; done) | rfl) ?_
  show G (s₁.setTop (mkF m 0 #[.val (.ref a), .val (.ref u)] []))
  refine hG _ _ (fun t k => XS.aloadN X0.here hx rfl (hb hby own_d2_0) rfl rfl k) ?_
  show G (s₁.setTop (mkF m 1 #[.val (.ref a), .val (.ref u)] [(.ref a)]))
  refine hG _ _ (fun t k => XS.aloadN X0.here hx rfl (hb hby own_d2_1) rfl rfl k) ?_
  show G (s₁.setTop (mkF m 2 #[.val (.ref a), .val (.ref u)] [(.ref u), (.ref a)]))
  refine hG _ _ (fun t k => XS.iconst X0.here hx rfl (hb hby own_d2_2) k) ?_
  show G (s₁.setTop (mkF m 3 #[.val (.ref a), .val (.ref u)] [(.int (0 : Int32)), (.ref u), (.ref a)]))
  refine hG _ _ (fun t k => XS.aloadN X0.here hx rfl (hb hby own_d2_3) rfl rfl k) ?_
  show G (s₁.setTop (mkF m 4 #[.val (.ref a), .val (.ref u)] [(.ref u), (.int (0 : Int32)), (.ref u), (.ref a)]))
  obtain ⟨c1, Ar1, -, S1, M1, -, -⟩ := id g4_V
  refine hG _ _ (X0.arraylength hx (by rw [e0]; exact Ar1.1) (State.isArrayOf_alike hZ.alike Ar1.2.1) (g := (mkF m 4 #[.val (.ref a), .val (.ref u)] [(.ref u), (.int (0 : Int32)), (.ref u), (.ref a)])) rfl rfl (hb hby own_d2_4)) ?_
  rw [len_of S1 M1]
  show G (s₁.setTop (mkF m 5 #[.val (.ref a), .val (.ref u)] [(.int (Int32.ofNat cs.length)), (.int (0 : Int32)), (.ref u), (.ref a)]))
  refine hG _ _ (fun t k => XS.aconstNull X0.here hx rfl (hb hby own_d2_5) k) ?_
  show G (s₁.setTop (mkF m 6 #[.val (.ref a), .val (.ref u)] [.null, (.int (Int32.ofNat cs.length)), (.int (0 : Int32)), (.ref u), (.ref a)]))
  refine own_callI X0 hx hZ hG hown rfl (hw _ (List.mem_of_getElem? (i := 11) rfl)) (hw _ (List.mem_of_getElem? (i := 12) rfl)) (hw _ (List.mem_of_getElem? (i := 7) rfl)) (hw _ (List.mem_of_getElem? (i := 14) rfl)) (by decide) 0 (own_str4 l Z a0 hw a u ku cs cpt v0 v1 h0 O0 g0_E g1_F g2_F g3_G g4_V g5_hpos g6_hcap g7_hcs g8_S g9_hcpt) (by decide) (by decide) e0 (by rw [hml]; rfl) (lenOf own_pd4 rfl) (argsL := [(.ref u), (.int (0 : Int32)), (.int (Int32.ofNat cs.length)), .null]) (rest := []) rfl rfl (Nat.le_of_eq rfl) (hb hby own_d2_6) (by decide) (by decide) ?_
  intro T2 h2 v2 L2 X2 e2 q2
  obtain ⟨t_2, kt_2, rfl, M2, J2, y2_0, r2_0, r2_1, r2_2, r2_3⟩ := q2
  have N2 := Fr.app N0 M2
  have K2 : Keep h0 h2 [a] := (Keep.refl h0 [a]).trans J2 (allS (Or.inl (List.mem_of_getElem? (i := 0) rfl)) all0)
  have O2 : own_Old Z h2 := O0.keep J2 (allS g3_G all0)
  show G (T2.setTop (mkF m 9 #[.val (.ref a), .val (.ref u)] []))
  exact own_retV hR hret X2 hx (hb hby own_d2_9) (by decide) (by decide) (by rw [e2]; exact ⟨t_2, kt_2, rfl, N2, K2, (Nat.le_trans (Keep.refl h0 [a]).1 y2_0), r2_0, r2_1, r2_2, r2_3⟩)
theorem own_pd6 : parseMethodDescriptor "(I)Ljava/lang/String;" = some ⟨[.int], some (.object "java/lang/String")⟩ := by decide +kernel
set_option maxRecDepth 65536 in
set_option maxHeartbeats 40000000 in
theorem own_mk (l : Launch) (Z : State) (a0 : Array Value) (hw : ∀ d ∈ tables_1, d.before a0 Z = true) (x : Int32) (cpt : Int32) (h0 : Heap) (O0 : own_Old Z h0) (g0_S : Sta Z Z.heap "java/lang/String" "COMPACT_STRINGS" "Z" (.int cpt)) (g1_hcpt : ¬ (cpt = (0 : Int32))) :
    own_Con l Z (⟨"com/example/perenna/perenna/FieldWithinPinLaw", "str", "(I)Ljava/lang/String;"⟩ : MethodName) method_2_code 2 (some (.object "java/lang/String")) [] ({ frames := 4, cells := 3, slots := 8, locals := 66 } : Room) #[(.int x)] h0 (fun rv rh rL => ∃ (t : Addr), rv = some (.ref t) ∧ own_Fr Z rL ∧ Keep h0 rh [] ∧ h0.size ≤ t ∧ (Exa Z rh t "java/lang/String")) := by
  refine own_intro (plainFor_of_name (by first | (simp [plainName, overriddenIn]; done) | decide +kernel)) ?_
  intro p e s m below meth c s₁ G hx hby hml hown hnm hret hZ X0 e0 hG hR
  have N0 := Fr.nil Z.heap.size
  refine own_entry (Ls := #[.val (.int x), .unset]) (by first | (simp [entryFrame, mkF, argsToLocals, Value.category]; done) | rfl) ?_
  show G (s₁.setTop (mkF m 0 #[.val (.int x), .unset] []))
  refine hG _ _ (fun t k => XS.iconst X0.here hx rfl (hb hby own_d1_0) k) ?_
  show G (s₁.setTop (mkF m 1 #[.val (.int x), .unset] [(.int (2 : Int32))]))
  obtain ⟨T1, h1, k1, X1, e1, E1, A1, st1⟩ := newP X0 hx hZ (hw _ (List.mem_of_getElem? (i := 4) rfl)) e0 (g := (mkF m 1 #[.val (.int x), .unset] [(.int (2 : Int32))])) rfl (hb hby own_d1_1) rfl (by decide) (cap := 2) (by decide) (by decide) (by decide) (by decide)
  obtain ⟨b1, z1⟩ : ∃ z, z = h0.size := ⟨_, rfl⟩
  rw [← z1] at A1 st1
  refine hG _ _ st1 ?_
  have K1 : Keep h0 h1 [] := (Keep.refl h0 []).ext E1
  have O1 : own_Old Z h1 := O0.ext E1
  have V1 : Arv Z h1 b1 k1 .char (2 : Int32) [(.int (0 : Int32)), (.int (0 : Int32))] (.int (0 : Int32)) := (Arv.new A1 (by decide)).pad (pad_rep [] (.int (0 : Int32)) 2)
  show G (T1.setTop (mkF m 3 #[.val (.int x), .unset] [(.ref b1)]))
  refine hG _ _ (fun t k => XS.astoreN X1.here hx rfl (hb hby own_d1_3) rfl rfl (l' := #[.val (.int x), .val (.ref b1)]) rfl k) ?_
  show G (T1.setTop (mkF m 4 #[.val (.int x), .val (.ref b1)] []))
  refine hG _ _ (fun t k => XS.aloadN X1.here hx rfl (hb hby own_d1_4) rfl rfl k) ?_
  show G (T1.setTop (mkF m 5 #[.val (.int x), .val (.ref b1)] [(.ref b1)]))
  refine hG _ _ (fun t k => XS.iconst X1.here hx rfl (hb hby own_d1_5) k) ?_
  show G (T1.setTop (mkF m 6 #[.val (.int x), .val (.ref b1)] [(.int (0 : Int32)), (.ref b1)]))
  refine hG _ _ (fun t k => XS.iloadN X1.here hx rfl (hb hby own_d1_6) rfl k) ?_
  show G (T1.setTop (mkF m 7 #[.val (.int x), .val (.ref b1)] [(.int x), (.int (0 : Int32)), (.ref b1)]))
  refine hG _ _ (fun t k => XS.sipush X1.here hx rfl (hb hby own_d1_7) k) ?_
  show G (T1.setTop (mkF m 10 #[.val (.int x), .val (.ref b1)] [(.int (255 : Int32)), (.int x), (.int (0 : Int32)), (.ref b1)]))
  refine hG _ _ (fun t k => XS.iand X1.here hx rfl (hb hby own_d1_10) rfl k) ?_
  show G (T1.setTop (mkF m 11 #[.val (.int x), .val (.ref b1)] [(.int (x &&& (255 : Int32))), (.int (0 : Int32)), (.ref b1)]))
  refine hG _ _ (fun t k => XS.i2c X1.here hx rfl (hb hby own_d1_11) rfl k) ?_
  show G (T1.setTop (mkF m 12 #[.val (.int x), .val (.ref b1)] [(.int ((x &&& (255 : Int32)).toUInt32.toUInt16.toUInt32.toInt32)), (.int (0 : Int32)), (.ref b1)]))
  generalize hn_c2 : ((x &&& (255 : Int32)).toUInt32.toUInt16.toUInt32.toInt32) = c2
  have hr_c2 := own_mask8 hn_c2
  obtain ⟨c3, Ar3, q3, S3, M3, H3, G3⟩ := id V1
  obtain ⟨T3, h3, X3, e3, W3, st3⟩ := stC X1 hx hZ e1 Ar3 (j := (0 : Int32)) (inb_of S3 ⟨by decide, by decide⟩) (g := (mkF m 12 #[.val (.int x), .val (.ref b1)] [(.int c2), (.int (0 : Int32)), (.ref b1)])) rfl rfl (hb hby own_d1_12)
  refine hG _ _ st3 ?_
  have K3 : Keep h0 h3 [] := K1.wr W3 (Or.inr (Nat.le_trans (Keep.refl h0 []).1 (Nat.le_of_eq z1.symm)))
  have O3 : own_Old Z h3 := O1.wr W3 (own_ge O0 (Nat.le_of_eq z1.symm))
  have V3 : Arv Z h3 b1 k1 .char (2 : Int32) [(.int (nar .char c2)), (.int (0 : Int32))] (.int (0 : Int32)) := Arv.set Ar3 q3 S3 M3 H3 G3 (fits_nar_char _) W3 0 rfl (Nat.le_of_ble_eq_true rfl)
  have N3 := Fr.snoc X3 N0 (own_ge O0 (Nat.le_of_eq z1.symm))
  show G (T3.setTop (mkF m 13 #[.val (.int x), .val (.ref b1)] []))
  refine hG _ _ (fun t k => XS.aloadN X3.here hx rfl (hb hby own_d1_13) rfl rfl k) ?_
  show G (T3.setTop (mkF m 14 #[.val (.int x), .val (.ref b1)] [(.ref b1)]))
  refine hG _ _ (fun t k => XS.iconst X3.here hx rfl (hb hby own_d1_14) k) ?_
  show G (T3.setTop (mkF m 15 #[.val (.int x), .val (.ref b1)] [(.int (1 : Int32)), (.ref b1)]))
  refine hG _ _ (fun t k => XS.iloadN X3.here hx rfl (hb hby own_d1_15) rfl k) ?_
  show G (T3.setTop (mkF m 16 #[.val (.int x), .val (.ref b1)] [(.int x), (.int (1 : Int32)), (.ref b1)]))
  refine hG _ _ (fun t k => XS.bipush X3.here hx rfl (hb hby own_d1_16) k) ?_
  show G (T3.setTop (mkF m 18 #[.val (.int x), .val (.ref b1)] [(.int (8 : Int32)), (.int x), (.int (1 : Int32)), (.ref b1)]))
  refine hG _ _ (fun t k => XS.iushr X3.here hx rfl (hb hby own_d1_18) rfl k) ?_
  show G (T3.setTop (mkF m 19 #[.val (.int x), .val (.ref b1)] [(.int ((x.toUInt32 >>> ((8 : Int32) &&& 31).toUInt32).toInt32)), (.int (1 : Int32)), (.ref b1)]))
  refine hG _ _ (fun t k => XS.sipush X3.here hx rfl (hb hby own_d1_19) k) ?_
  show G (T3.setTop (mkF m 22 #[.val (.int x), .val (.ref b1)] [(.int (255 : Int32)), (.int ((x.toUInt32 >>> ((8 : Int32) &&& 31).toUInt32).toInt32)), (.int (1 : Int32)), (.ref b1)]))
  refine hG _ _ (fun t k => XS.iand X3.here hx rfl (hb hby own_d1_22) rfl k) ?_
  show G (T3.setTop (mkF m 23 #[.val (.int x), .val (.ref b1)] [(.int (((x.toUInt32 >>> ((8 : Int32) &&& 31).toUInt32).toInt32) &&& (255 : Int32))), (.int (1 : Int32)), (.ref b1)]))
  refine hG _ _ (fun t k => XS.i2c X3.here hx rfl (hb hby own_d1_23) rfl k) ?_
  show G (T3.setTop (mkF m 24 #[.val (.int x), .val (.ref b1)] [(.int ((((x.toUInt32 >>> ((8 : Int32) &&& 31).toUInt32).toInt32) &&& (255 : Int32)).toUInt32.toUInt16.toUInt32.toInt32)), (.int (1 : Int32)), (.ref b1)]))
  generalize hn_c4 : ((((x.toUInt32 >>> ((8 : Int32) &&& 31).toUInt32).toInt32) &&& (255 : Int32)).toUInt32.toUInt16.toUInt32.toInt32) = c4
  have hr_c4 := own_mask8 hn_c4
  obtain ⟨c5, Ar5, q5, S5, M5, H5, G5⟩ := id V3
  obtain ⟨T5, h5, X5, e5, W5, st5⟩ := stC X3 hx hZ e3 Ar5 (j := (1 : Int32)) (inb_of S5 ⟨by decide, by decide⟩) (g := (mkF m 24 #[.val (.int x), .val (.ref b1)] [(.int c4), (.int (1 : Int32)), (.ref b1)])) rfl rfl (hb hby own_d1_24)
  refine hG _ _ st5 ?_
  have K5 : Keep h0 h5 [] := K3.wr W5 (Or.inr (Nat.le_trans (Keep.refl h0 []).1 (Nat.le_of_eq z1.symm)))
  have O5 : own_Old Z h5 := O3.wr W5 (own_ge O0 (Nat.le_of_eq z1.symm))
  have V5 : Arv Z h5 b1 k1 .char (2 : Int32) [(.int (nar .char c2)), (.int (nar .char c4))] (.int (0 : Int32)) := Arv.set Ar5 q5 S5 M5 H5 G5 (fits_nar_char _) W5 1 rfl (Nat.le_of_ble_eq_true rfl)
  have N5 := Fr.snoc X5 N3 (own_ge O0 (Nat.le_of_eq z1.symm))
  show G (T5.setTop (mkF m 25 #[.val (.int x), .val (.ref b1)] []))
  obtain ⟨T6, h6, X6, e6, E6, A6, D6, -, st6⟩ := newO X5 hx hZ hown (hw _ (List.mem_of_getElem? (i := 5) rfl)) (hw _ (List.mem_of_getElem? (i := 6) rfl)) (hw _ (List.mem_of_getElem? (i := 7) rfl)) e5 (g := (mkF m 25 #[.val (.int x), .val (.ref b1)] [])) rfl (hb hby own_d1_25) (by decide) (by decide)
  obtain ⟨b6, z6⟩ : ∃ z, z = h5.size := ⟨_, rfl⟩
  rw [← z6] at A6 D6 st6
  refine hG _ _ st6 ?_
  have K6 : Keep h0 h6 [] := K5.ext E6
  have O6 : own_Old Z h6 := O5.ext E6
  show G (T6.setTop (mkF m 28 #[.val (.int x), .val (.ref b1)] [(.ref b6)]))
  refine hG _ _ (fun t k => XS.dup X6.here hx rfl (hb hby own_d1_28) rfl rfl k) ?_
  show G (T6.setTop (mkF m 29 #[.val (.int x), .val (.ref b1)] [(.ref b6), (.ref b6)]))
  refine hG _ _ (fun t k => XS.aloadN X6.here hx rfl (hb hby own_d1_29) rfl rfl k) ?_
  show G (T6.setTop (mkF m 30 #[.val (.int x), .val (.ref b1)] [(.ref b1), (.ref b6), (.ref b6)]))
  have f8 := (V5.ext E6)
  refine own_callI X6 hx hZ hG hown rfl (hw _ (List.mem_of_getElem? (i := 8) rfl)) (hw _ (List.mem_of_getElem? (i := 9) rfl)) (hw _ (List.mem_of_getElem? (i := 7) rfl)) (hw _ (List.mem_of_getElem? (i := 10) rfl)) (by decide) 1 (own_str1 l Z a0 hw b6 b1 k1 [(nar .char c2), (nar .char c4)] cpt (.int (0 : Int32)) .null h6 O6 A6 (D6 (Or.inr (hw _ (List.mem_of_getElem? (i := 31) rfl))) (ty := .byte) (by decide)) (D6 (Or.inr (hw _ (List.mem_of_getElem? (i := 33) rfl))) (ty := (.array .byte)) (by decide)) (own_ge O5 (Nat.le_of_eq z6.symm)) f8 (Nat.le_of_ble_eq_true rfl) (Nat.le_of_ble_eq_true rfl) (own_allc (own_nar8 hr_c2) (own_allc (own_nar8 hr_c4) own_alln)) g0_S g1_hcpt) (by decide) (by decide) e6 (by rw [hml]; rfl) (lenOf own_pd5 rfl) (argsL := [(.ref b1)]) (rest := [(.ref b6)]) rfl rfl (Nat.le_of_eq rfl) (hb hby own_d1_30) (by decide) (by decide) ?_
  intro T7 h7 v7 L7 X7 e7 q7
  obtain ⟨t_7, kt_7, rfl, M7, J7, y7_0, r7_0, r7_1, r7_2, r7_3⟩ := q7
  have N7 := Fr.app N5 M7
  have K7 : Keep h0 h7 [] := K6.trans J7 (allS (Or.inr (Nat.le_trans K5.1 (Nat.le_of_eq z6.symm))) all0)
  have O7 : own_Old Z h7 := O6.keep J7 (allS (own_ge O5 (Nat.le_of_eq z6.symm)) all0)
  show G (T7.setTop (mkF m 33 #[.val (.int x), .val (.ref b1)] [(.ref b6)]))
  exact own_retA hR hret rfl rfl X7 hx (hb hby own_d1_33) (by decide) (by decide) (by rw [e7]; exact ⟨b6, rfl, N7, K7, (Nat.le_trans K5.1 (Nat.le_of_eq z6.symm)), r7_0⟩)
theorem own_pd7 : parseMethodDescriptor "(Ljava/lang/String;Ljava/lang/String;Lcom/example/perenna/perenna/Visibility;Z)V" = some ⟨[(.object "java/lang/String"), (.object "java/lang/String"), (.object "com/example/perenna/perenna/Visibility"), .boolean], none⟩ := by decide +kernel
set_option maxRecDepth 65536 in
set_option maxHeartbeats 40000000 in
theorem own_finit (l : Launch) (Z : State) (a0 : Array Value) (hw : ∀ d ∈ tables_1, d.before a0 Z = true) (a : Addr) (s1 : Addr) (s2 : Addr) (v : Addr) (fx : Int32) (u0 : Value) (u1 : Value) (u2 : Value) (u3 : Value) (h0 : Heap) (O0 : own_Old Z h0) (g0_E : Exa Z h0 a "com/example/perenna/perenna/Visibility$Field") (g1_G : Z.heap.size ≤ a) (g2_F : Fld Z h0 a "com/example/perenna/perenna/Visibility$Field" "name" "Ljava/lang/String;" u0) (g3_F : Fld Z h0 a "com/example/perenna/perenna/Visibility$Field" "member" "Ljava/lang/String;" u1) (g4_F : Fld Z h0 a "com/example/perenna/perenna/Visibility$Field" "byDefault" "Lcom/example/perenna/perenna/Visibility;" u2) (g5_F : Fld Z h0 a "com/example/perenna/perenna/Visibility$Field" "fixed" "Z" u3) :
    own_Con l Z (⟨"com/example/perenna/perenna/Visibility$Field", "<init>", "(Ljava/lang/String;Ljava/lang/String;Lcom/example/perenna/perenna/Visibility;Z)V"⟩ : MethodName) prog_19_method_1_code 5 none [] ({ frames := 2, cells := 0, slots := 0, locals := 24 } : Room) #[(.ref a), (.ref s1), (.ref s2), (.ref v), (.int fx)] h0 (fun rv rh rL => rv = none ∧ own_Fr Z rL ∧ Keep h0 rh [a] ∧ (Exa Z rh a "com/example/perenna/perenna/Visibility$Field") ∧ (Fld Z rh a "com/example/perenna/perenna/Visibility$Field" "name" "Ljava/lang/String;" (.ref s1)) ∧ (Fld Z rh a "com/example/perenna/perenna/Visibility$Field" "member" "Ljava/lang/String;" (.ref s2)) ∧ (Fld Z rh a "com/example/perenna/perenna/Visibility$Field" "byDefault" "Lcom/example/perenna/perenna/Visibility;" (.ref v)) ∧ (Fld Z rh a "com/example/perenna/perenna/Visibility$Field" "fixed" "Z" (.int (nar .boolean fx)))) := by
  refine own_intro (plainFor_of_name (by first | (simp [plainName, overriddenIn]; done) | decide +kernel)) ?_
  intro p e s m below meth c s₁ G hx hby hml hown hnm hret hZ X0 e0 hG hR
  have N0 := Fr.nil Z.heap.size
  refine own_entry (Ls := #[.val (.ref a), .val (.ref s1), .val (.ref s2), .val (.ref v), .val (.int fx)]) (by first | (simp [entryFrame, mkF, argsToLocals, Value.category]; done) | rfl) ?_
  show G (s₁.setTop (mkF m 0 #[.val (.ref a), .val (.ref s1), .val (.ref s2), .val (.ref v), .val (.int fx)] []))
  refine hG _ _ (fun t k => XS.aloadN X0.here hx rfl (hb hby own_d8_0) rfl rfl k) ?_
  show G (s₁.setTop (mkF m 1 #[.val (.ref a), .val (.ref s1), .val (.ref s2), .val (.ref v), .val (.int fx)] [(.ref a)]))
  refine own_callI X0 hx hZ hG hown rfl (hw _ (List.mem_of_getElem? (i := 43) rfl)) (hw _ (List.mem_of_getElem? (i := 44) rfl)) (hw _ (List.mem_of_getElem? (i := 46) rfl)) (hw _ (List.mem_of_getElem? (i := 47) rfl)) (by decide) 0 (own_rec l Z a0 hw a h0 O0) (by decide) (by decide) e0 (by rw [hml]; rfl) (lenOf own_pd0 rfl) (argsL := []) (rest := []) rfl rfl (Nat.le_of_eq rfl) (hb hby own_d8_1) (by decide) (by decide) ?_
  intro T1 h1 v1 L1 X1 e1 q1
  obtain ⟨rfl, M1, rfl⟩ := q1
  have N1 := Fr.app N0 M1
  show G (T1.setTop (mkF m 4 #[.val (.ref a), .val (.ref s1), .val (.ref s2), .val (.ref v), .val (.int fx)] []))
  refine hG _ _ (fun t k => XS.aloadN X1.here hx rfl (hb hby own_d8_4) rfl rfl k) ?_
  show G (T1.setTop (mkF m 5 #[.val (.ref a), .val (.ref s1), .val (.ref s2), .val (.ref v), .val (.int fx)] [(.ref a)]))
  refine hG _ _ (fun t k => XS.aloadN X1.here hx rfl (hb hby own_d8_5) rfl rfl k) ?_
  show G (T1.setTop (mkF m 6 #[.val (.ref a), .val (.ref s1), .val (.ref s2), .val (.ref v), .val (.int fx)] [(.ref s1), (.ref a)]))
  obtain ⟨T2, h2, X2, e2, W2, st2⟩ := putF X1 hx hZ hown (host := "") (Or.inl (hw _ (List.mem_of_getElem? (i := 49) rfl))) Via.refl e1 g2_F g0_E (Or.inr ⟨(hw _ (List.mem_of_getElem? (i := 50) rfl)), rfl, hnm⟩) (hw _ (List.mem_of_getElem? (i := 38) rfl)) (ty := (.object "java/lang/String")) (by decide) rfl rfl (g := (mkF m 6 #[.val (.ref a), .val (.ref s1), .val (.ref s2), .val (.ref v), .val (.int fx)] [(.ref s1), (.ref a)])) rfl rfl (hb hby own_d8_6)
  refine hG _ _ st2 ?_
  have K2 : Keep h0 h2 [a] := (Keep.refl h0 [a]).wr W2 (Or.inl (List.mem_of_getElem? (i := 0) rfl))
  have O2 : own_Old Z h2 := O0.wr W2 g1_G
  have N2 := Fr.snoc X2 N1 g1_G
  show G (T2.setTop (mkF m 9 #[.val (.ref a), .val (.ref s1), .val (.ref s2), .val (.ref v), .val (.int fx)] []))
  refine hG _ _ (fun t k => XS.aloadN X2.here hx rfl (hb hby own_d8_9) rfl rfl k) ?_
  show G (T2.setTop (mkF m 10 #[.val (.ref a), .val (.ref s1), .val (.ref s2), .val (.ref v), .val (.int fx)] [(.ref a)]))
  refine hG _ _ (fun t k => XS.aloadN X2.here hx rfl (hb hby own_d8_10) rfl rfl k) ?_
  show G (T2.setTop (mkF m 11 #[.val (.ref a), .val (.ref s1), .val (.ref s2), .val (.ref v), .val (.int fx)] [(.ref s2), (.ref a)]))
  have f4 := (g3_F.other W2 (Or.inr (slot_ne (Or.inr (hw _ (List.mem_of_getElem? (i := 52) rfl))) (Or.inr (hw _ (List.mem_of_getElem? (i := 50) rfl))) (by decide) (t := (.object "java/lang/String")) (t' := (.object "java/lang/String")) (by decide) (by decide))))
  have f5 := (g0_E.wr W2)
  obtain ⟨T3, h3, X3, e3, W3, st3⟩ := putF X2 hx hZ hown (host := "") (Or.inl (hw _ (List.mem_of_getElem? (i := 51) rfl))) Via.refl e2 f4 f5 (Or.inr ⟨(hw _ (List.mem_of_getElem? (i := 52) rfl)), rfl, hnm⟩) (hw _ (List.mem_of_getElem? (i := 38) rfl)) (ty := (.object "java/lang/String")) (by decide) rfl rfl (g := (mkF m 11 #[.val (.ref a), .val (.ref s1), .val (.ref s2), .val (.ref v), .val (.int fx)] [(.ref s2), (.ref a)])) rfl rfl (hb hby own_d8_11)
  refine hG _ _ st3 ?_
  have K3 : Keep h0 h3 [a] := K2.wr W3 (Or.inl (List.mem_of_getElem? (i := 0) rfl))
  have O3 : own_Old Z h3 := O2.wr W3 g1_G
  have N3 := Fr.snoc X3 N2 g1_G
  show G (T3.setTop (mkF m 14 #[.val (.ref a), .val (.ref s1), .val (.ref s2), .val (.ref v), .val (.int fx)] []))
  refine hG _ _ (fun t k => XS.aloadN X3.here hx rfl (hb hby own_d8_14) rfl rfl k) ?_
  show G (T3.setTop (mkF m 15 #[.val (.ref a), .val (.ref s1), .val (.ref s2), .val (.ref v), .val (.int fx)] [(.ref a)]))
  refine hG _ _ (fun t k => XS.aloadN X3.here hx rfl (hb hby own_d8_15) rfl rfl k) ?_
  show G (T3.setTop (mkF m 16 #[.val (.ref a), .val (.ref s1), .val (.ref s2), .val (.ref v), .val (.int fx)] [(.ref v), (.ref a)]))
  have f7 := ((g4_F.other W2 (Or.inr (slot_ne (Or.inr (hw _ (List.mem_of_getElem? (i := 54) rfl))) (Or.inr (hw _ (List.mem_of_getElem? (i := 50) rfl))) (by decide) (t := (.object "com/example/perenna/perenna/Visibility")) (t' := (.object "java/lang/String")) (by decide) (by decide)))).other W3 (Or.inr (slot_ne (Or.inr (hw _ (List.mem_of_getElem? (i := 54) rfl))) (Or.inr (hw _ (List.mem_of_getElem? (i := 52) rfl))) (by decide) (t := (.object "com/example/perenna/perenna/Visibility")) (t' := (.object "java/lang/String")) (by decide) (by decide))))
  have f8 := (f5.wr W3)
  obtain ⟨T6, h6, X6, e6, W6, st6⟩ := putF X3 hx hZ hown (host := "") (Or.inl (hw _ (List.mem_of_getElem? (i := 53) rfl))) Via.refl e3 f7 f8 (Or.inr ⟨(hw _ (List.mem_of_getElem? (i := 54) rfl)), rfl, hnm⟩) (hw _ (List.mem_of_getElem? (i := 38) rfl)) (ty := (.object "com/example/perenna/perenna/Visibility")) (by decide) rfl rfl (g := (mkF m 16 #[.val (.ref a), .val (.ref s1), .val (.ref s2), .val (.ref v), .val (.int fx)] [(.ref v), (.ref a)])) rfl rfl (hb hby own_d8_16)
  refine hG _ _ st6 ?_
  have K6 : Keep h0 h6 [a] := K3.wr W6 (Or.inl (List.mem_of_getElem? (i := 0) rfl))
  have O6 : own_Old Z h6 := O3.wr W6 g1_G
  have N6 := Fr.snoc X6 N3 g1_G
  show G (T6.setTop (mkF m 19 #[.val (.ref a), .val (.ref s1), .val (.ref s2), .val (.ref v), .val (.int fx)] []))
  refine hG _ _ (fun t k => XS.aloadN X6.here hx rfl (hb hby own_d8_19) rfl rfl k) ?_
  show G (T6.setTop (mkF m 20 #[.val (.ref a), .val (.ref s1), .val (.ref s2), .val (.ref v), .val (.int fx)] [(.ref a)]))
  refine hG _ _ (fun t k => XS.iload X6.here hx rfl (hb hby own_d8_20) rfl k) ?_
  show G (T6.setTop (mkF m 22 #[.val (.ref a), .val (.ref s1), .val (.ref s2), .val (.ref v), .val (.int fx)] [(.int fx), (.ref a)]))
  have f10 := (((g5_F.other W2 (Or.inr (slot_ne (Or.inr (hw _ (List.mem_of_getElem? (i := 56) rfl))) (Or.inr (hw _ (List.mem_of_getElem? (i := 50) rfl))) (by decide) (t := .boolean) (t' := (.object "java/lang/String")) (by decide) (by decide)))).other W3 (Or.inr (slot_ne (Or.inr (hw _ (List.mem_of_getElem? (i := 56) rfl))) (Or.inr (hw _ (List.mem_of_getElem? (i := 52) rfl))) (by decide) (t := .boolean) (t' := (.object "java/lang/String")) (by decide) (by decide)))).other W6 (Or.inr (slot_ne (Or.inr (hw _ (List.mem_of_getElem? (i := 56) rfl))) (Or.inr (hw _ (List.mem_of_getElem? (i := 54) rfl))) (by decide) (t := .boolean) (t' := (.object "com/example/perenna/perenna/Visibility")) (by decide) (by decide))))
  have f11 := (f8.wr W6)
  obtain ⟨T9, h9, X9, e9, W9, st9⟩ := putFN X6 hx hZ hown (hw _ (List.mem_of_getElem? (i := 55) rfl)) Via.refl e6 f10 f11 (Or.inr ⟨(hw _ (List.mem_of_getElem? (i := 56) rfl)), rfl, hnm⟩) (hw _ (List.mem_of_getElem? (i := 38) rfl)) (ty := .boolean) (v' := (.int (nar .boolean fx))) (by decide) rfl (fits_nar_bool _) (g := (mkF m 22 #[.val (.ref a), .val (.ref s1), .val (.ref s2), .val (.ref v), .val (.int fx)] [(.int fx), (.ref a)])) rfl rfl (hb hby own_d8_22)
  refine hG _ _ st9 ?_
  have K9 : Keep h0 h9 [a] := K6.wr W9 (Or.inl (List.mem_of_getElem? (i := 0) rfl))
  have O9 : own_Old Z h9 := O6.wr W9 g1_G
  have N9 := Fr.snoc X9 N6 g1_G
  show G (T9.setTop (mkF m 25 #[.val (.ref a), .val (.ref s1), .val (.ref s2), .val (.ref v), .val (.int fx)] []))
  have f12 := (f11.wr W9)
  have f13 := ((((g2_F.same W2).other W3 (Or.inr (slot_ne (Or.inr (hw _ (List.mem_of_getElem? (i := 50) rfl))) (Or.inr (hw _ (List.mem_of_getElem? (i := 52) rfl))) (by decide) (t := (.object "java/lang/String")) (t' := (.object "java/lang/String")) (by decide) (by decide)))).other W6 (Or.inr (slot_ne (Or.inr (hw _ (List.mem_of_getElem? (i := 50) rfl))) (Or.inr (hw _ (List.mem_of_getElem? (i := 54) rfl))) (by decide) (t := (.object "java/lang/String")) (t' := (.object "com/example/perenna/perenna/Visibility")) (by decide) (by decide)))).other W9 (Or.inr (slot_ne (Or.inr (hw _ (List.mem_of_getElem? (i := 50) rfl))) (Or.inr (hw _ (List.mem_of_getElem? (i := 56) rfl))) (by decide) (t := (.object "java/lang/String")) (t' := .boolean) (by decide) (by decide))))
  have f14 := (((f4.same W3).other W6 (Or.inr (slot_ne (Or.inr (hw _ (List.mem_of_getElem? (i := 52) rfl))) (Or.inr (hw _ (List.mem_of_getElem? (i := 54) rfl))) (by decide) (t := (.object "java/lang/String")) (t' := (.object "com/example/perenna/perenna/Visibility")) (by decide) (by decide)))).other W9 (Or.inr (slot_ne (Or.inr (hw _ (List.mem_of_getElem? (i := 52) rfl))) (Or.inr (hw _ (List.mem_of_getElem? (i := 56) rfl))) (by decide) (t := (.object "java/lang/String")) (t' := .boolean) (by decide) (by decide))))
  have f15 := ((f7.same W6).other W9 (Or.inr (slot_ne (Or.inr (hw _ (List.mem_of_getElem? (i := 54) rfl))) (Or.inr (hw _ (List.mem_of_getElem? (i := 56) rfl))) (by decide) (t := (.object "com/example/perenna/perenna/Visibility")) (t' := .boolean) (by decide) (by decide))))
  exact own_retV hR hret X9 hx (hb hby own_d8_25) (by decide) (by decide) (by rw [e9]; exact ⟨rfl, N9, K9, f12, f13, f14, f15, (f10.same W9)⟩)
theorem own_pd8 : parseMethodDescriptor "(Ljava/lang/String;)Lcom/example/perenna/perenna/Visibility$Field;" = some ⟨[(.object "java/lang/String")], some (.object "com/example/perenna/perenna/Visibility$Field")⟩ := by decide +kernel
set_option maxRecDepth 65536 in
set_option maxHeartbeats 40000000 in
theorem own_within (l : Launch) (Z : State) (a0 : Array Value) (hw : ∀ d ∈ tables_1, d.before a0 Z = true) (a : Addr) (s3 : Addr) (s1 : Addr) (v : Addr) (fx : Int32) (h0 : Heap) (O0 : own_Old Z h0) (g0_F : Fld Z h0 a "com/example/perenna/perenna/Visibility$Field" "name" "Ljava/lang/String;" (.ref s1)) (g1_F : Fld Z h0 a "com/example/perenna/perenna/Visibility$Field" "byDefault" "Lcom/example/perenna/perenna/Visibility;" (.ref v)) (g2_F : Fld Z h0 a "com/example/perenna/perenna/Visibility$Field" "fixed" "Z" (.int fx)) :
    own_Con l Z (⟨"com/example/perenna/perenna/Visibility$Field", "within", "(Ljava/lang/String;)Lcom/example/perenna/perenna/Visibility$Field;"⟩ : MethodName) prog_19_method_5_code 2 (some (.object "com/example/perenna/perenna/Visibility$Field")) [] ({ frames := 3, cells := 1, slots := 4, locals := 41 } : Room) #[(.ref a), (.ref s3)] h0 (fun rv rh rL => ∃ (t : Addr), rv = some (.ref t) ∧ own_Fr Z rL ∧ Keep h0 rh [] ∧ h0.size ≤ t ∧ (Exa Z rh t "com/example/perenna/perenna/Visibility$Field") ∧ (Fld Z rh t "com/example/perenna/perenna/Visibility$Field" "name" "Ljava/lang/String;" (.ref s1)) ∧ (Fld Z rh t "com/example/perenna/perenna/Visibility$Field" "member" "Ljava/lang/String;" (.ref s3)) ∧ (Fld Z rh t "com/example/perenna/perenna/Visibility$Field" "byDefault" "Lcom/example/perenna/perenna/Visibility;" (.ref v)) ∧ (Fld Z rh t "com/example/perenna/perenna/Visibility$Field" "fixed" "Z" (.int (nar .boolean fx)))) := by
  refine own_intro (plainFor_of_name (by first | (simp [plainName, overriddenIn]; done) | decide +kernel)) ?_
  intro p e s m below meth c s₁ G hx hby hml hown hnm hret hZ X0 e0 hG hR
  have N0 := Fr.nil Z.heap.size
  refine own_entry (Ls := #[.val (.ref a), .val (.ref s3)]) (by first | (simp [entryFrame, mkF, argsToLocals, Value.category]; done) | rfl) ?_
  show G (s₁.setTop (mkF m 0 #[.val (.ref a), .val (.ref s3)] []))
  obtain ⟨T1, h1, X1, e1, E1, A1, D1, -, st1⟩ := newO X0 hx hZ hown (hw _ (List.mem_of_getElem? (i := 62) rfl)) (hw _ (List.mem_of_getElem? (i := 38) rfl)) (hw _ (List.mem_of_getElem? (i := 39) rfl)) e0 (g := (mkF m 0 #[.val (.ref a), .val (.ref s3)] [])) rfl (hb hby own_d10_0) (by decide) (by decide)
  obtain ⟨b1, z1⟩ : ∃ z, z = h0.size := ⟨_, rfl⟩
  rw [← z1] at A1 D1 st1
  refine hG _ _ st1 ?_
  have K1 : Keep h0 h1 [] := (Keep.refl h0 []).ext E1
  have O1 : own_Old Z h1 := O0.ext E1
  show G (T1.setTop (mkF m 3 #[.val (.ref a), .val (.ref s3)] [(.ref b1)]))
  refine hG _ _ (fun t k => XS.dup X1.here hx rfl (hb hby own_d10_3) rfl rfl k) ?_
  show G (T1.setTop (mkF m 4 #[.val (.ref a), .val (.ref s3)] [(.ref b1), (.ref b1)]))
  refine hG _ _ (fun t k => XS.aloadN X1.here hx rfl (hb hby own_d10_4) rfl rfl k) ?_
  show G (T1.setTop (mkF m 5 #[.val (.ref a), .val (.ref s3)] [(.ref a), (.ref b1), (.ref b1)]))
  have f3 := (g0_F.ext E1)
  obtain ⟨T2, X2, e2, st2⟩ := getF X1 hx hZ hown (host := "") (Or.inl (hw _ (List.mem_of_getElem? (i := 49) rfl))) Via.refl e1 f3 (g := (mkF m 5 #[.val (.ref a), .val (.ref s3)] [(.ref a), (.ref b1), (.ref b1)])) rfl rfl (hb hby own_d10_5)
  refine hG _ _ st2 ?_
  show G (T2.setTop (mkF m 8 #[.val (.ref a), .val (.ref s3)] [(.ref s1), (.ref b1), (.ref b1)]))
  refine hG _ _ (fun t k => XS.aloadN X2.here hx rfl (hb hby own_d10_8) rfl rfl k) ?_
  show G (T2.setTop (mkF m 9 #[.val (.ref a), .val (.ref s3)] [(.ref s3), (.ref s1), (.ref b1), (.ref b1)]))
  refine hG _ _ (fun t k => XS.aloadN X2.here hx rfl (hb hby own_d10_9) rfl rfl k) ?_
  show G (T2.setTop (mkF m 10 #[.val (.ref a), .val (.ref s3)] [(.ref a), (.ref s3), (.ref s1), (.ref b1), (.ref b1)]))
  have f5 := (g1_F.ext E1)
  obtain ⟨T4, X4, e4, st4⟩ := getF X2 hx hZ hown (host := "") (Or.inl (hw _ (List.mem_of_getElem? (i := 53) rfl))) Via.refl e2 f5 (g := (mkF m 10 #[.val (.ref a), .val (.ref s3)] [(.ref a), (.ref s3), (.ref s1), (.ref b1), (.ref b1)])) rfl rfl (hb hby own_d10_10)
  refine hG _ _ st4 ?_
  show G (T4.setTop (mkF m 13 #[.val (.ref a), .val (.ref s3)] [(.ref v), (.ref s3), (.ref s1), (.ref b1), (.ref b1)]))
  refine hG _ _ (fun t k => XS.aloadN X4.here hx rfl (hb hby own_d10_13) rfl rfl k) ?_
  show G (T4.setTop (mkF m 14 #[.val (.ref a), .val (.ref s3)] [(.ref a), (.ref v), (.ref s3), (.ref s1), (.ref b1), (.ref b1)]))
  have f7 := (g2_F.ext E1)
  obtain ⟨T6, X6, e6, st6⟩ := getF X4 hx hZ hown (host := "") (Or.inl (hw _ (List.mem_of_getElem? (i := 55) rfl))) Via.refl e4 f7 (g := (mkF m 14 #[.val (.ref a), .val (.ref s3)] [(.ref a), (.ref v), (.ref s3), (.ref s1), (.ref b1), (.ref b1)])) rfl rfl (hb hby own_d10_14)
  refine hG _ _ st6 ?_
  show G (T6.setTop (mkF m 17 #[.val (.ref a), .val (.ref s3)] [(.int fx), (.ref v), (.ref s3), (.ref s1), (.ref b1), (.ref b1)]))
  refine own_callI X6 hx hZ hG hown rfl (hw _ (List.mem_of_getElem? (i := 63) rfl)) (hw _ (List.mem_of_getElem? (i := 41) rfl)) (hw _ (List.mem_of_getElem? (i := 39) rfl)) (hw _ (List.mem_of_getElem? (i := 42) rfl)) (by decide) 1 (own_finit l Z a0 hw b1 s1 s3 v fx .null .null .null (.int (0 : Int32)) h1 O1 A1 (own_ge O0 (Nat.le_of_eq z1.symm)) (D1 (Or.inr (hw _ (List.mem_of_getElem? (i := 50) rfl))) (ty := (.object "java/lang/String")) (by decide)) (D1 (Or.inr (hw _ (List.mem_of_getElem? (i := 52) rfl))) (ty := (.object "java/lang/String")) (by decide)) (D1 (Or.inr (hw _ (List.mem_of_getElem? (i := 54) rfl))) (ty := (.object "com/example/perenna/perenna/Visibility")) (by decide)) (D1 (Or.inr (hw _ (List.mem_of_getElem? (i := 56) rfl))) (ty := .boolean) (by decide))) (by decide) (by decide) e6 (by rw [hml]; rfl) (lenOf own_pd7 rfl) (argsL := [(.ref s1), (.ref s3), (.ref v), (.int fx)]) (rest := [(.ref b1)]) rfl rfl (Nat.le_of_eq rfl) (hb hby own_d10_17) (by decide) (by decide) ?_
  intro T8 h8 v8 L8 X8 e8 q8
  obtain ⟨rfl, M8, J8, r8_0, r8_1, r8_2, r8_3, r8_4⟩ := q8
  have N8 := Fr.app N0 M8
  have K8 : Keep h0 h8 [] := K1.trans J8 (allS (Or.inr (Nat.le_trans (Keep.refl h0 []).1 (Nat.le_of_eq z1.symm))) all0)
  have O8 : own_Old Z h8 := O1.keep J8 (allS (own_ge O0 (Nat.le_of_eq z1.symm)) all0)
  show G (T8.setTop (mkF m 20 #[.val (.ref a), .val (.ref s3)] [(.ref b1)]))
  exact own_retA hR hret rfl rfl X8 hx (hb hby own_d10_20) (by decide) (by decide) (by rw [e8]; exact ⟨b1, rfl, N8, K8, (Nat.le_trans (Keep.refl h0 []).1 (Nat.le_of_eq z1.symm)), r8_0, r8_1, r8_2, r8_3, r8_4⟩)
theorem own_pd9 : parseMethodDescriptor "()Ljava/lang/String;" = some ⟨[], some (.object "java/lang/String")⟩ := by decide +kernel
set_option maxRecDepth 65536 in
set_option maxHeartbeats 40000000 in
theorem own_get_name (l : Launch) (Z : State) (a0 : Array Value) (hw : ∀ d ∈ tables_1, d.before a0 Z = true) (a : Addr) (s1 : Addr) (h0 : Heap) (O0 : own_Old Z h0) (g0_F : Fld Z h0 a "com/example/perenna/perenna/Visibility$Field" "name" "Ljava/lang/String;" (.ref s1)) :
    own_Con l Z (⟨"com/example/perenna/perenna/Visibility$Field", "name", "()Ljava/lang/String;"⟩ : MethodName) prog_19_method_9_code 1 (some (.object "java/lang/String")) [] ({ frames := 0, cells := 0, slots := 0, locals := 0 } : Room) #[(.ref a)] h0 (fun rv rh rL => rv = some (.ref s1) ∧ own_Fr Z rL ∧ h0 = rh) := by
  refine own_intro (plainFor_of_name (by first | (simp [plainName, overriddenIn]; done) | decide +kernel)) ?_
  intro p e s m below meth c s₁ G hx hby hml hown hnm hret hZ X0 e0 hG hR
  have N0 := Fr.nil Z.heap.size
  refine own_entry (Ls := #[.val (.ref a)]) (by first | (simp [entryFrame, mkF, argsToLocals, Value.category]; done) | rfl) ?_
  show G (s₁.setTop (mkF m 0 #[.val (.ref a)] []))
  refine hG _ _ (fun t k => XS.aloadN X0.here hx rfl (hb hby own_d11_0) rfl rfl k) ?_
  show G (s₁.setTop (mkF m 1 #[.val (.ref a)] [(.ref a)]))
  obtain ⟨T1, X1, e1, st1⟩ := getF X0 hx hZ hown (host := "") (Or.inl (hw _ (List.mem_of_getElem? (i := 49) rfl))) Via.refl e0 g0_F (g := (mkF m 1 #[.val (.ref a)] [(.ref a)])) rfl rfl (hb hby own_d11_1)
  refine hG _ _ st1 ?_
  show G (T1.setTop (mkF m 4 #[.val (.ref a)] [(.ref s1)]))
  exact own_retA hR hret rfl rfl X1 hx (hb hby own_d11_4) (by decide) (by decide) (by rw [e1]; exact ⟨rfl, N0, rfl⟩)
set_option maxRecDepth 65536 in
set_option maxHeartbeats 40000000 in
theorem own_get_member (l : Launch) (Z : State) (a0 : Array Value) (hw : ∀ d ∈ tables_1, d.before a0 Z = true) (a : Addr) (s2 : Addr) (h0 : Heap) (O0 : own_Old Z h0) (g0_F : Fld Z h0 a "com/example/perenna/perenna/Visibility$Field" "member" "Ljava/lang/String;" (.ref s2)) :
    own_Con l Z (⟨"com/example/perenna/perenna/Visibility$Field", "member", "()Ljava/lang/String;"⟩ : MethodName) prog_19_method_10_code 1 (some (.object "java/lang/String")) [] ({ frames := 0, cells := 0, slots := 0, locals := 0 } : Room) #[(.ref a)] h0 (fun rv rh rL => rv = some (.ref s2) ∧ own_Fr Z rL ∧ h0 = rh) := by
  refine own_intro (plainFor_of_name (by first | (simp [plainName, overriddenIn]; done) | decide +kernel)) ?_
  intro p e s m below meth c s₁ G hx hby hml hown hnm hret hZ X0 e0 hG hR
  have N0 := Fr.nil Z.heap.size
  refine own_entry (Ls := #[.val (.ref a)]) (by first | (simp [entryFrame, mkF, argsToLocals, Value.category]; done) | rfl) ?_
  show G (s₁.setTop (mkF m 0 #[.val (.ref a)] []))
  refine hG _ _ (fun t k => XS.aloadN X0.here hx rfl (hb hby own_d13_0) rfl rfl k) ?_
  show G (s₁.setTop (mkF m 1 #[.val (.ref a)] [(.ref a)]))
  obtain ⟨T1, X1, e1, st1⟩ := getF X0 hx hZ hown (host := "") (Or.inl (hw _ (List.mem_of_getElem? (i := 51) rfl))) Via.refl e0 g0_F (g := (mkF m 1 #[.val (.ref a)] [(.ref a)])) rfl rfl (hb hby own_d13_1)
  refine hG _ _ st1 ?_
  show G (T1.setTop (mkF m 4 #[.val (.ref a)] [(.ref s2)]))
  exact own_retA hR hret rfl rfl X1 hx (hb hby own_d13_4) (by decide) (by decide) (by rw [e1]; exact ⟨rfl, N0, rfl⟩)
theorem own_pd10 : parseMethodDescriptor "()Lcom/example/perenna/perenna/Visibility;" = some ⟨[], some (.object "com/example/perenna/perenna/Visibility")⟩ := by decide +kernel
set_option maxRecDepth 65536 in
set_option maxHeartbeats 40000000 in
theorem own_get_byDefault (l : Launch) (Z : State) (a0 : Array Value) (hw : ∀ d ∈ tables_1, d.before a0 Z = true) (a : Addr) (v : Addr) (h0 : Heap) (O0 : own_Old Z h0) (g0_F : Fld Z h0 a "com/example/perenna/perenna/Visibility$Field" "byDefault" "Lcom/example/perenna/perenna/Visibility;" (.ref v)) :
    own_Con l Z (⟨"com/example/perenna/perenna/Visibility$Field", "byDefault", "()Lcom/example/perenna/perenna/Visibility;"⟩ : MethodName) prog_19_method_11_code 1 (some (.object "com/example/perenna/perenna/Visibility")) [] ({ frames := 0, cells := 0, slots := 0, locals := 0 } : Room) #[(.ref a)] h0 (fun rv rh rL => rv = some (.ref v) ∧ own_Fr Z rL ∧ h0 = rh) := by
  refine own_intro (plainFor_of_name (by first | (simp [plainName, overriddenIn]; done) | decide +kernel)) ?_
  intro p e s m below meth c s₁ G hx hby hml hown hnm hret hZ X0 e0 hG hR
  have N0 := Fr.nil Z.heap.size
  refine own_entry (Ls := #[.val (.ref a)]) (by first | (simp [entryFrame, mkF, argsToLocals, Value.category]; done) | rfl) ?_
  show G (s₁.setTop (mkF m 0 #[.val (.ref a)] []))
  refine hG _ _ (fun t k => XS.aloadN X0.here hx rfl (hb hby own_d14_0) rfl rfl k) ?_
  show G (s₁.setTop (mkF m 1 #[.val (.ref a)] [(.ref a)]))
  obtain ⟨T1, X1, e1, st1⟩ := getF X0 hx hZ hown (host := "") (Or.inl (hw _ (List.mem_of_getElem? (i := 53) rfl))) Via.refl e0 g0_F (g := (mkF m 1 #[.val (.ref a)] [(.ref a)])) rfl rfl (hb hby own_d14_1)
  refine hG _ _ st1 ?_
  show G (T1.setTop (mkF m 4 #[.val (.ref a)] [(.ref v)]))
  exact own_retA hR hret rfl rfl X1 hx (hb hby own_d14_4) (by decide) (by decide) (by rw [e1]; exact ⟨rfl, N0, rfl⟩)
theorem own_pd11 : parseMethodDescriptor "()Z" = some ⟨[], some .boolean⟩ := by decide +kernel
set_option maxRecDepth 65536 in
set_option maxHeartbeats 40000000 in
theorem own_get_fixed (l : Launch) (Z : State) (a0 : Array Value) (hw : ∀ d ∈ tables_1, d.before a0 Z = true) (a : Addr) (fx : Int32) (h0 : Heap) (O0 : own_Old Z h0) (g0_F : Fld Z h0 a "com/example/perenna/perenna/Visibility$Field" "fixed" "Z" (.int fx)) :
    own_Con l Z (⟨"com/example/perenna/perenna/Visibility$Field", "fixed", "()Z"⟩ : MethodName) prog_19_method_12_code 1 (some .boolean) [] ({ frames := 0, cells := 0, slots := 0, locals := 0 } : Room) #[(.ref a)] h0 (fun rv rh rL => rv = some (.int (nar .boolean fx)) ∧ own_Fr Z rL ∧ h0 = rh) := by
  refine own_intro (plainFor_of_name (by first | (simp [plainName, overriddenIn]; done) | decide +kernel)) ?_
  intro p e s m below meth c s₁ G hx hby hml hown hnm hret hZ X0 e0 hG hR
  have N0 := Fr.nil Z.heap.size
  refine own_entry (Ls := #[.val (.ref a)]) (by first | (simp [entryFrame, mkF, argsToLocals, Value.category]; done) | rfl) ?_
  show G (s₁.setTop (mkF m 0 #[.val (.ref a)] []))
  refine hG _ _ (fun t k => XS.aloadN X0.here hx rfl (hb hby own_d15_0) rfl rfl k) ?_
  show G (s₁.setTop (mkF m 1 #[.val (.ref a)] [(.ref a)]))
  obtain ⟨T1, X1, e1, st1⟩ := getF X0 hx hZ hown (host := "") (Or.inl (hw _ (List.mem_of_getElem? (i := 55) rfl))) Via.refl e0 g0_F (g := (mkF m 1 #[.val (.ref a)] [(.ref a)])) rfl rfl (hb hby own_d15_1)
  refine hG _ _ st1 ?_
  show G (T1.setTop (mkF m 4 #[.val (.ref a)] [(.int fx)]))
  exact own_retN hR hret (by simp) X1 hx (hb hby own_d15_4) (by decide) (by decide) (by rw [e1]; exact ⟨rfl, N0, rfl⟩)
theorem own_pd12 : parseMethodDescriptor "(Ljava/lang/Object;)Z" = some ⟨[(.object "java/lang/Object")], some .boolean⟩ := by decide +kernel
set_option maxRecDepth 65536 in
set_option maxHeartbeats 40000000 in
theorem own_eqs (l : Launch) (Z : State) (a0 : Array Value) (hw : ∀ d ∈ tables_1, d.before a0 Z = true) (a : Addr) (h0 : Heap) (O0 : own_Old Z h0) :
    own_Con l Z (⟨"java/lang/String", "equals", "(Ljava/lang/Object;)Z"⟩ : MethodName) jdk_42_method_66_code 3 (some .boolean) [] ({ frames := 0, cells := 0, slots := 0, locals := 0 } : Room) #[(.ref a), (.ref a)] h0 (fun rv rh rL => rv = some (.int (1 : Int32)) ∧ own_Fr Z rL ∧ h0 = rh) := by
  refine own_intro (plainFor_of_name (by first | (simp [plainName, overriddenIn]; done) | decide +kernel)) ?_
  intro p e s m below meth c s₁ G hx hby hml hown hnm hret hZ X0 e0 hG hR
  have N0 := Fr.nil Z.heap.size
  refine own_entry (Ls := #[.val (.ref a), .val (.ref a), .unset]) (by first | (simp [entryFrame, mkF, argsToLocals, Value.category]; done) | rfl) ?_
  show G (s₁.setTop (mkF m 0 #[.val (.ref a), .val (.ref a), .unset] []))
  refine hG _ _ (fun t k => XS.aloadN X0.here hx rfl (hb hby own_d12_0) rfl rfl k) ?_
  show G (s₁.setTop (mkF m 1 #[.val (.ref a), .val (.ref a), .unset] [(.ref a)]))
  refine hG _ _ (fun t k => XS.aloadN X0.here hx rfl (hb hby own_d12_1) rfl rfl k) ?_
  show G (s₁.setTop (mkF m 2 #[.val (.ref a), .val (.ref a), .unset] [(.ref a), (.ref a)]))
  refine hG _ _ (fun t k => Jvm.RoadKit.acmp (g := (mkF m 2 #[.val (.ref a), .val (.ref a), .unset] [(.ref a), (.ref a)])) X0 hx rfl rfl rfl (pc0 := 2) (pc' := 5) (same := true) rfl (hb hby own_d12_2) rfl (decide_eq_true rfl) (by decide) (by decide) k) ?_
  show G (s₁.setTop (mkF m 5 #[.val (.ref a), .val (.ref a), .unset] []))
  refine hG _ _ (fun t k => XS.iconst X0.here hx rfl (hb hby own_d12_5) k) ?_
  show G (s₁.setTop (mkF m 6 #[.val (.ref a), .val (.ref a), .unset] [(.int (1 : Int32))]))
  exact own_retN hR hret (by simp) X0 hx (hb hby own_d12_6) (by decide) (by decide) (by rw [e0]; exact ⟨rfl, N0, rfl⟩)
theorem own_pd13 : parseMethodDescriptor "(IIII)Z" = some ⟨[.int, .int, .int, .int], some .boolean⟩ := by decide +kernel
set_option maxRecDepth 65536 in
set_option maxHeartbeats 40000000 in
theorem own_law (l : Launch) (Z : State) (a0 : Array Value) (hw : ∀ d ∈ tables_1, d.before a0 Z = true) (ws : List Jvm.Cond) (i0 : Int32) (i1 : Int32) (i2 : Int32) (i3 : Int32) (cpt : Int32) (w1 : Addr) (w2 : Addr) (h0 : Heap) (O0 : own_Old Z h0) (g0_S : Sta Z Z.heap "java/lang/String" "COMPACT_STRINGS" "Z" (.int cpt)) (g1_hcpt : ¬ (cpt = (0 : Int32))) (g2_S : Sta Z Z.heap "com/example/perenna/perenna/Visibility" "PRIVATE" "Lcom/example/perenna/perenna/Visibility;" (.ref w1)) (g3_S : Sta Z Z.heap "com/example/perenna/perenna/Visibility" "PUBLIC" "Lcom/example/perenna/perenna/Visibility;" (.ref w2)) :
    own_Con l Z x code maxLocals ret ws room_1 #[(.int i0), (.int i1), (.int i2), (.int i3)] h0 (fun rv rh rL => rv = some (.int (1 : Int32)) ∧ own_Fr Z rL ∧ Keep h0 rh []) := by
  refine own_intro (plainFor_of_name (by first | (simp [plainName, overriddenIn]; done) | decide +kernel)) ?_
  intro p e s m below meth c s₁ G hx hby hml hown hnm hret hZ X0 e0 hG hR
  have N0 := Fr.nil Z.heap.size
  refine own_entry (Ls := #[.val (.int i0), .val (.int i1), .val (.int i2), .val (.int i3), .unset, .unset, .unset, .unset, .unset, .unset, .unset]) (by first | (simp [entryFrame, mkF, argsToLocals, Value.category, maxLocals]; done) | rfl) ?_
  show G (s₁.setTop (mkF m 0 #[.val (.int i0), .val (.int i1), .val (.int i2), .val (.int i3), .unset, .unset, .unset, .unset, .unset, .unset, .unset] []))
  refine hG _ _ (fun t k => XS.iloadN X0.here hx rfl (hb hby at_0) rfl k) ?_
  show G (s₁.setTop (mkF m 1 #[.val (.int i0), .val (.int i1), .val (.int i2), .val (.int i3), .unset, .unset, .unset, .unset, .unset, .unset, .unset] [(.int i0)]))
  refine own_callS X0 hx hZ hG hown (hw _ (List.mem_of_getElem? (i := 0) rfl)) (hw _ (List.mem_of_getElem? (i := 1) rfl)) (hw _ (List.mem_of_getElem? (i := 2) rfl)) (hw _ (List.mem_of_getElem? (i := 3) rfl)) (by decide) 0 (own_mk l Z a0 hw i0 cpt h0 O0 g0_S g1_hcpt) (by decide) (by decide) e0 (by rw [hml]; rfl) (lenOf own_pd6 rfl) (argsL := [(.int i0)]) (rest := []) rfl rfl (Nat.le_of_eq rfl) (hb hby at_1) (by decide) (by decide) ?_
  intro T1 h1 v1 L1 X1 e1 q1
  obtain ⟨t_1, rfl, M1, J1, y1_0, r1_0⟩ := q1
  have N1 := Fr.app N0 M1
  have K1 : Keep h0 h1 [] := (Keep.refl h0 []).trans J1 all0
  have O1 : own_Old Z h1 := O0.keep J1 all0
  show G (T1.setTop (mkF m 4 #[.val (.int i0), .val (.int i1), .val (.int i2), .val (.int i3), .unset, .unset, .unset, .unset, .unset, .unset, .unset] [(.ref t_1)]))
  refine hG _ _ (fun t k => XS.astore X1.here hx rfl (hb hby at_4) rfl rfl (l' := #[.val (.int i0), .val (.int i1), .val (.int i2), .val (.int i3), .val (.ref t_1), .unset, .unset, .unset, .unset, .unset, .unset]) rfl k) ?_
  show G (T1.setTop (mkF m 6 #[.val (.int i0), .val (.int i1), .val (.int i2), .val (.int i3), .val (.ref t_1), .unset, .unset, .unset, .unset, .unset, .unset] []))
  refine hG _ _ (fun t k => XS.iloadN X1.here hx rfl (hb hby at_6) rfl k) ?_
  show G (T1.setTop (mkF m 7 #[.val (.int i0), .val (.int i1), .val (.int i2), .val (.int i3), .val (.ref t_1), .unset, .unset, .unset, .unset, .unset, .unset] [(.int i1)]))
  refine own_callS X1 hx hZ hG hown (hw _ (List.mem_of_getElem? (i := 0) rfl)) (hw _ (List.mem_of_getElem? (i := 1) rfl)) (hw _ (List.mem_of_getElem? (i := 2) rfl)) (hw _ (List.mem_of_getElem? (i := 3) rfl)) (by decide) 0 (own_mk l Z a0 hw i1 cpt h1 O1 g0_S g1_hcpt) (by decide) (by decide) e1 (by rw [hml]; rfl) (lenOf own_pd6 rfl) (argsL := [(.int i1)]) (rest := []) rfl rfl (Nat.le_of_eq rfl) (hb hby at_7) (by decide) (by decide) ?_
  intro T2 h2 v2 L2 X2 e2 q2
  obtain ⟨t_2, rfl, M2, J2, y2_0, r2_0⟩ := q2
  have N2 := Fr.app N1 M2
  have K2 : Keep h0 h2 [] := K1.trans J2 all0
  have O2 : own_Old Z h2 := O1.keep J2 all0
  show G (T2.setTop (mkF m 10 #[.val (.int i0), .val (.int i1), .val (.int i2), .val (.int i3), .val (.ref t_1), .unset, .unset, .unset, .unset, .unset, .unset] [(.ref t_2)]))
  refine hG _ _ (fun t k => XS.astore X2.here hx rfl (hb hby at_10) rfl rfl (l' := #[.val (.int i0), .val (.int i1), .val (.int i2), .val (.int i3), .val (.ref t_1), .val (.ref t_2), .unset, .unset, .unset, .unset, .unset]) rfl k) ?_
  show G (T2.setTop (mkF m 12 #[.val (.int i0), .val (.int i1), .val (.int i2), .val (.int i3), .val (.ref t_1), .val (.ref t_2), .unset, .unset, .unset, .unset, .unset] []))
  refine hG _ _ (fun t k => XS.iloadN X2.here hx rfl (hb hby at_12) rfl k) ?_
  show G (T2.setTop (mkF m 13 #[.val (.int i0), .val (.int i1), .val (.int i2), .val (.int i3), .val (.ref t_1), .val (.ref t_2), .unset, .unset, .unset, .unset, .unset] [(.int i2)]))
  refine own_callS X2 hx hZ hG hown (hw _ (List.mem_of_getElem? (i := 0) rfl)) (hw _ (List.mem_of_getElem? (i := 1) rfl)) (hw _ (List.mem_of_getElem? (i := 2) rfl)) (hw _ (List.mem_of_getElem? (i := 3) rfl)) (by decide) 0 (own_mk l Z a0 hw i2 cpt h2 O2 g0_S g1_hcpt) (by decide) (by decide) e2 (by rw [hml]; rfl) (lenOf own_pd6 rfl) (argsL := [(.int i2)]) (rest := []) rfl rfl (Nat.le_of_eq rfl) (hb hby at_13) (by decide) (by decide) ?_
  intro T3 h3 v3 L3 X3 e3 q3
  obtain ⟨t_3, rfl, M3, J3, y3_0, r3_0⟩ := q3
  have N3 := Fr.app N2 M3
  have K3 : Keep h0 h3 [] := K2.trans J3 all0
  have O3 : own_Old Z h3 := O2.keep J3 all0
  show G (T3.setTop (mkF m 16 #[.val (.int i0), .val (.int i1), .val (.int i2), .val (.int i3), .val (.ref t_1), .val (.ref t_2), .unset, .unset, .unset, .unset, .unset] [(.ref t_3)]))
  refine hG _ _ (fun t k => XS.astore X3.here hx rfl (hb hby at_16) rfl rfl (l' := #[.val (.int i0), .val (.int i1), .val (.int i2), .val (.int i3), .val (.ref t_1), .val (.ref t_2), .val (.ref t_3), .unset, .unset, .unset, .unset]) rfl k) ?_
  show G (T3.setTop (mkF m 18 #[.val (.int i0), .val (.int i1), .val (.int i2), .val (.int i3), .val (.ref t_1), .val (.ref t_2), .val (.ref t_3), .unset, .unset, .unset, .unset] []))
  refine hG _ _ (fun t k => XS.iloadN X3.here hx rfl (hb hby at_18) rfl k) ?_
  show G (T3.setTop (mkF m 19 #[.val (.int i0), .val (.int i1), .val (.int i2), .val (.int i3), .val (.ref t_1), .val (.ref t_2), .val (.ref t_3), .unset, .unset, .unset, .unset] [(.int i3)]))
  refine hG _ _ (fun t k => XS.iconst X3.here hx rfl (hb hby at_19) k) ?_
  show G (T3.setTop (mkF m 20 #[.val (.int i0), .val (.int i1), .val (.int i2), .val (.int i3), .val (.ref t_1), .val (.ref t_2), .val (.ref t_3), .unset, .unset, .unset, .unset] [(.int (1 : Int32)), (.int i3)]))
  refine hG _ _ (fun t k => XS.iand X3.here hx rfl (hb hby at_20) rfl k) ?_
  show G (T3.setTop (mkF m 21 #[.val (.int i0), .val (.int i1), .val (.int i2), .val (.int i3), .val (.ref t_1), .val (.ref t_2), .val (.ref t_3), .unset, .unset, .unset, .unset] [(.int (i3 &&& (1 : Int32)))]))
  by_cases hc21_4 : (i3 &&& (1 : Int32)) = (0 : Int32)
  · skip
    refine hG _ _ (fun t k => XS.ifYes X3.here hx rfl (pc0 := 21) (pc' := 30) rfl (hb hby at_21) rfl ((if0 _ _).trans (teq hc21_4).1) (by decide) (by decide) k) ?_
    show G (T3.setTop (mkF m 30 #[.val (.int i0), .val (.int i1), .val (.int i2), .val (.int i3), .val (.ref t_1), .val (.ref t_2), .val (.ref t_3), .unset, .unset, .unset, .unset] []))
    obtain ⟨T5, X5, e5, st5⟩ := getS2 X3 hx hZ hown (host := "") (Or.inl (hw _ (List.mem_of_getElem? (i := 89) rfl))) Via.refl e3 (own_sta g3_S O3) (g := (mkF m 30 #[.val (.int i0), .val (.int i1), .val (.int i2), .val (.int i3), .val (.ref t_1), .val (.ref t_2), .val (.ref t_3), .unset, .unset, .unset, .unset] [])) rfl (hb hby at_30)
    refine hG _ _ st5 ?_
    show G (T5.setTop (mkF m 33 #[.val (.int i0), .val (.int i1), .val (.int i2), .val (.int i3), .val (.ref t_1), .val (.ref t_2), .val (.ref t_3), .unset, .unset, .unset, .unset] [(.ref w2)]))
    refine hG _ _ (fun t k => XS.astore X5.here hx rfl (hb hby at_33) rfl rfl (l' := #[.val (.int i0), .val (.int i1), .val (.int i2), .val (.int i3), .val (.ref t_1), .val (.ref t_2), .val (.ref t_3), .val (.ref w2), .unset, .unset, .unset]) rfl k) ?_
    show G (T5.setTop (mkF m 35 #[.val (.int i0), .val (.int i1), .val (.int i2), .val (.int i3), .val (.ref t_1), .val (.ref t_2), .val (.ref t_3), .val (.ref w2), .unset, .unset, .unset] []))
    refine hG _ _ (fun t k => XS.iloadN X5.here hx rfl (hb hby at_35) rfl k) ?_
    show G (T5.setTop (mkF m 36 #[.val (.int i0), .val (.int i1), .val (.int i2), .val (.int i3), .val (.ref t_1), .val (.ref t_2), .val (.ref t_3), .val (.ref w2), .unset, .unset, .unset] [(.int i3)]))
    refine hG _ _ (fun t k => XS.iconst X5.here hx rfl (hb hby at_36) k) ?_
    show G (T5.setTop (mkF m 37 #[.val (.int i0), .val (.int i1), .val (.int i2), .val (.int i3), .val (.ref t_1), .val (.ref t_2), .val (.ref t_3), .val (.ref w2), .unset, .unset, .unset] [(.int (2 : Int32)), (.int i3)]))
    refine hG _ _ (fun t k => XS.iand X5.here hx rfl (hb hby at_37) rfl k) ?_
    show G (T5.setTop (mkF m 38 #[.val (.int i0), .val (.int i1), .val (.int i2), .val (.int i3), .val (.ref t_1), .val (.ref t_2), .val (.ref t_3), .val (.ref w2), .unset, .unset, .unset] [(.int (i3 &&& (2 : Int32)))]))
    by_cases hc38_6 : (i3 &&& (2 : Int32)) = (0 : Int32)
    · skip
      refine hG _ _ (fun t k => XS.ifYes X5.here hx rfl (pc0 := 38) (pc' := 45) rfl (hb hby at_38) rfl ((if0 _ _).trans (teq hc38_6).1) (by decide) (by decide) k) ?_
      show G (T5.setTop (mkF m 45 #[.val (.int i0), .val (.int i1), .val (.int i2), .val (.int i3), .val (.ref t_1), .val (.ref t_2), .val (.ref t_3), .val (.ref w2), .unset, .unset, .unset] []))
      refine hG _ _ (fun t k => XS.iconst X5.here hx rfl (hb hby at_45) k) ?_
      show G (T5.setTop (mkF m 46 #[.val (.int i0), .val (.int i1), .val (.int i2), .val (.int i3), .val (.ref t_1), .val (.ref t_2), .val (.ref t_3), .val (.ref w2), .unset, .unset, .unset] [(.int (0 : Int32))]))
      refine hG _ _ (fun t k => XS.istore X5.here hx rfl (hb hby at_46) rfl (l' := #[.val (.int i0), .val (.int i1), .val (.int i2), .val (.int i3), .val (.ref t_1), .val (.ref t_2), .val (.ref t_3), .val (.ref w2), .val (.int (0 : Int32)), .unset, .unset]) rfl k) ?_
      show G (T5.setTop (mkF m 48 #[.val (.int i0), .val (.int i1), .val (.int i2), .val (.int i3), .val (.ref t_1), .val (.ref t_2), .val (.ref t_3), .val (.ref w2), .val (.int (0 : Int32)), .unset, .unset] []))
      obtain ⟨T7, h7, X7, e7, E7, A7, D7, -, st7⟩ := newO X5 hx hZ hown (hw _ (List.mem_of_getElem? (i := 37) rfl)) (hw _ (List.mem_of_getElem? (i := 38) rfl)) (hw _ (List.mem_of_getElem? (i := 39) rfl)) e5 (g := (mkF m 48 #[.val (.int i0), .val (.int i1), .val (.int i2), .val (.int i3), .val (.ref t_1), .val (.ref t_2), .val (.ref t_3), .val (.ref w2), .val (.int (0 : Int32)), .unset, .unset] [])) rfl (hb hby at_48) (by decide) (by decide)
      obtain ⟨b7, z7⟩ : ∃ z, z = h3.size := ⟨_, rfl⟩
      rw [← z7] at A7 D7 st7
      refine hG _ _ st7 ?_
      have K7 : Keep h0 h7 [] := K3.ext E7
      have O7 : own_Old Z h7 := O3.ext E7
      show G (T7.setTop (mkF m 51 #[.val (.int i0), .val (.int i1), .val (.int i2), .val (.int i3), .val (.ref t_1), .val (.ref t_2), .val (.ref t_3), .val (.ref w2), .val (.int (0 : Int32)), .unset, .unset] [(.ref b7)]))
      refine hG _ _ (fun t k => XS.dup X7.here hx rfl (hb hby at_51) rfl rfl k) ?_
      show G (T7.setTop (mkF m 52 #[.val (.int i0), .val (.int i1), .val (.int i2), .val (.int i3), .val (.ref t_1), .val (.ref t_2), .val (.ref t_3), .val (.ref w2), .val (.int (0 : Int32)), .unset, .unset] [(.ref b7), (.ref b7)]))
      refine hG _ _ (fun t k => XS.aload X7.here hx rfl (hb hby at_52) rfl rfl k) ?_
      show G (T7.setTop (mkF m 54 #[.val (.int i0), .val (.int i1), .val (.int i2), .val (.int i3), .val (.ref t_1), .val (.ref t_2), .val (.ref t_3), .val (.ref w2), .val (.int (0 : Int32)), .unset, .unset] [(.ref t_1), (.ref b7), (.ref b7)]))
      refine hG _ _ (fun t k => XS.aload X7.here hx rfl (hb hby at_54) rfl rfl k) ?_
      show G (T7.setTop (mkF m 56 #[.val (.int i0), .val (.int i1), .val (.int i2), .val (.int i3), .val (.ref t_1), .val (.ref t_2), .val (.ref t_3), .val (.ref w2), .val (.int (0 : Int32)), .unset, .unset] [(.ref t_2), (.ref t_1), (.ref b7), (.ref b7)]))
      refine hG _ _ (fun t k => XS.aload X7.here hx rfl (hb hby at_56) rfl rfl k) ?_
      show G (T7.setTop (mkF m 58 #[.val (.int i0), .val (.int i1), .val (.int i2), .val (.int i3), .val (.ref t_1), .val (.ref t_2), .val (.ref t_3), .val (.ref w2), .val (.int (0 : Int32)), .unset, .unset] [(.ref w2), (.ref t_2), (.ref t_1), (.ref b7), (.ref b7)]))
      refine hG _ _ (fun t k => XS.iload X7.here hx rfl (hb hby at_58) rfl k) ?_
      show G (T7.setTop (mkF m 60 #[.val (.int i0), .val (.int i1), .val (.int i2), .val (.int i3), .val (.ref t_1), .val (.ref t_2), .val (.ref t_3), .val (.ref w2), .val (.int (0 : Int32)), .unset, .unset] [(.int (0 : Int32)), (.ref w2), (.ref t_2), (.ref t_1), (.ref b7), (.ref b7)]))
      refine own_callI X7 hx hZ hG hown rfl (hw _ (List.mem_of_getElem? (i := 40) rfl)) (hw _ (List.mem_of_getElem? (i := 41) rfl)) (hw _ (List.mem_of_getElem? (i := 39) rfl)) (hw _ (List.mem_of_getElem? (i := 42) rfl)) (by decide) 1 (own_finit l Z a0 hw b7 t_1 t_2 w2 (0 : Int32) .null .null .null (.int (0 : Int32)) h7 O7 A7 (own_ge O3 (Nat.le_of_eq z7.symm)) (D7 (Or.inr (hw _ (List.mem_of_getElem? (i := 50) rfl))) (ty := (.object "java/lang/String")) (by decide)) (D7 (Or.inr (hw _ (List.mem_of_getElem? (i := 52) rfl))) (ty := (.object "java/lang/String")) (by decide)) (D7 (Or.inr (hw _ (List.mem_of_getElem? (i := 54) rfl))) (ty := (.object "com/example/perenna/perenna/Visibility")) (by decide)) (D7 (Or.inr (hw _ (List.mem_of_getElem? (i := 56) rfl))) (ty := .boolean) (by decide))) (by decide) (by decide) e7 (by rw [hml]; rfl) (lenOf own_pd7 rfl) (argsL := [(.ref t_1), (.ref t_2), (.ref w2), (.int (0 : Int32))]) (rest := [(.ref b7)]) rfl rfl (Nat.le_of_eq rfl) (hb hby at_60) (by decide) (by decide) ?_
      intro T8 h8 v8 L8 X8 e8 q8
      obtain ⟨rfl, M8, J8, r8_0, r8_1, r8_2, r8_3, r8_4⟩ := q8
      have N8 := Fr.app N3 M8
      have K8 : Keep h0 h8 [] := K7.trans J8 (allS (Or.inr (Nat.le_trans K3.1 (Nat.le_of_eq z7.symm))) all0)
      have O8 : own_Old Z h8 := O7.keep J8 (allS (own_ge O3 (Nat.le_of_eq z7.symm)) all0)
      show G (T8.setTop (mkF m 63 #[.val (.int i0), .val (.int i1), .val (.int i2), .val (.int i3), .val (.ref t_1), .val (.ref t_2), .val (.ref t_3), .val (.ref w2), .val (.int (0 : Int32)), .unset, .unset] [(.ref b7)]))
      refine hG _ _ (fun t k => XS.astore X8.here hx rfl (hb hby at_63) rfl rfl (l' := #[.val (.int i0), .val (.int i1), .val (.int i2), .val (.int i3), .val (.ref t_1), .val (.ref t_2), .val (.ref t_3), .val (.ref w2), .val (.int (0 : Int32)), .val (.ref b7), .unset]) rfl k) ?_
      show G (T8.setTop (mkF m 65 #[.val (.int i0), .val (.int i1), .val (.int i2), .val (.int i3), .val (.ref t_1), .val (.ref t_2), .val (.ref t_3), .val (.ref w2), .val (.int (0 : Int32)), .val (.ref b7), .unset] []))
      refine hG _ _ (fun t k => XS.aload X8.here hx rfl (hb hby at_65) rfl rfl k) ?_
      show G (T8.setTop (mkF m 67 #[.val (.int i0), .val (.int i1), .val (.int i2), .val (.int i3), .val (.ref t_1), .val (.ref t_2), .val (.ref t_3), .val (.ref w2), .val (.int (0 : Int32)), .val (.ref b7), .unset] [(.ref b7)]))
      refine hG _ _ (fun t k => XS.aload X8.here hx rfl (hb hby at_67) rfl rfl k) ?_
      show G (T8.setTop (mkF m 69 #[.val (.int i0), .val (.int i1), .val (.int i2), .val (.int i3), .val (.ref t_1), .val (.ref t_2), .val (.ref t_3), .val (.ref w2), .val (.int (0 : Int32)), .val (.ref b7), .unset] [(.ref t_3), (.ref b7)]))
      refine own_callV (C := "com/example/perenna/perenna/Visibility$Field") X8 hx hZ hG hown (hw _ (List.mem_of_getElem? (i := 57) rfl)) (hw _ (List.mem_of_getElem? (i := 58) rfl)) (hw _ (List.mem_of_getElem? (i := 60) rfl)) (hw _ (List.mem_of_getElem? (i := 59) rfl)) (hw _ (List.mem_of_getElem? (i := 39) rfl)) (hw _ (List.mem_of_getElem? (i := 61) rfl)) (by decide) 0 (own_within l Z a0 hw b7 t_3 t_1 w2 (nar .boolean (0 : Int32)) h8 O8 r8_1 r8_3 r8_4) (by decide) (by decide) e8 r8_0 (by rw [hml]; rfl) (lenOf own_pd8 rfl) (argsL := [(.ref t_3)]) (rest := []) rfl rfl (Nat.le_of_eq rfl) (hb hby at_69) (by decide) (by decide) ?_
      intro T9 h9 v9 L9 X9 e9 q9
      obtain ⟨t_9, rfl, M9, J9, y9_0, r9_0, r9_1, r9_2, r9_3, r9_4⟩ := q9
      have N9 := Fr.app N8 M9
      have K9 : Keep h0 h9 [] := K8.trans J9 all0
      have O9 : own_Old Z h9 := O8.keep J9 all0
      show G (T9.setTop (mkF m 72 #[.val (.int i0), .val (.int i1), .val (.int i2), .val (.int i3), .val (.ref t_1), .val (.ref t_2), .val (.ref t_3), .val (.ref w2), .val (.int (0 : Int32)), .val (.ref b7), .unset] [(.ref t_9)]))
      refine hG _ _ (fun t k => XS.astore X9.here hx rfl (hb hby at_72) rfl rfl (l' := #[.val (.int i0), .val (.int i1), .val (.int i2), .val (.int i3), .val (.ref t_1), .val (.ref t_2), .val (.ref t_3), .val (.ref w2), .val (.int (0 : Int32)), .val (.ref b7), .val (.ref t_9)]) rfl k) ?_
      show G (T9.setTop (mkF m 74 #[.val (.int i0), .val (.int i1), .val (.int i2), .val (.int i3), .val (.ref t_1), .val (.ref t_2), .val (.ref t_3), .val (.ref w2), .val (.int (0 : Int32)), .val (.ref b7), .val (.ref t_9)] []))
      refine hG _ _ (fun t k => XS.aload X9.here hx rfl (hb hby at_74) rfl rfl k) ?_
      show G (T9.setTop (mkF m 76 #[.val (.int i0), .val (.int i1), .val (.int i2), .val (.int i3), .val (.ref t_1), .val (.ref t_2), .val (.ref t_3), .val (.ref w2), .val (.int (0 : Int32)), .val (.ref b7), .val (.ref t_9)] [(.ref t_9)]))
      refine own_callV (C := "com/example/perenna/perenna/Visibility$Field") X9 hx hZ hG hown (hw _ (List.mem_of_getElem? (i := 64) rfl)) (hw _ (List.mem_of_getElem? (i := 65) rfl)) (hw _ (List.mem_of_getElem? (i := 67) rfl)) (hw _ (List.mem_of_getElem? (i := 66) rfl)) (hw _ (List.mem_of_getElem? (i := 39) rfl)) (hw _ (List.mem_of_getElem? (i := 68) rfl)) (by decide) 0 (own_get_name l Z a0 hw t_9 t_1 h9 O9 r9_1) (by decide) (by decide) e9 r9_0 (by rw [hml]; rfl) (lenOf own_pd9 rfl) (argsL := []) (rest := []) rfl rfl (Nat.le_of_eq rfl) (hb hby at_76) (by decide) (by decide) ?_
      intro T10 h10 v10 L10 X10 e10 q10
      obtain ⟨rfl, M10, rfl⟩ := q10
      have N10 := Fr.app N9 M10
      show G (T10.setTop (mkF m 79 #[.val (.int i0), .val (.int i1), .val (.int i2), .val (.int i3), .val (.ref t_1), .val (.ref t_2), .val (.ref t_3), .val (.ref w2), .val (.int (0 : Int32)), .val (.ref b7), .val (.ref t_9)] [(.ref t_1)]))
      refine hG _ _ (fun t k => XS.aload X10.here hx rfl (hb hby at_79) rfl rfl k) ?_
      show G (T10.setTop (mkF m 81 #[.val (.int i0), .val (.int i1), .val (.int i2), .val (.int i3), .val (.ref t_1), .val (.ref t_2), .val (.ref t_3), .val (.ref w2), .val (.int (0 : Int32)), .val (.ref b7), .val (.ref t_9)] [(.ref t_1), (.ref t_1)]))
      have f12 := (((((r1_0.keep J2).keep J3).ext E7).keep J8).keep J9)
      refine own_callV (C := "java/lang/String") X10 hx hZ hG hown (hw _ (List.mem_of_getElem? (i := 69) rfl)) (hw _ (List.mem_of_getElem? (i := 70) rfl)) (hw _ (List.mem_of_getElem? (i := 72) rfl)) (hw _ (List.mem_of_getElem? (i := 71) rfl)) (hw _ (List.mem_of_getElem? (i := 7) rfl)) (hw _ (List.mem_of_getElem? (i := 73) rfl)) (by decide) 0 (own_eqs l Z a0 hw t_1 h9 O9) (by decide) (by decide) e10 f12 (by rw [hml]; rfl) (lenOf own_pd12 rfl) (argsL := [(.ref t_1)]) (rest := []) rfl rfl (Nat.le_of_eq rfl) (hb hby at_81) (by decide) (by decide) ?_
      intro T11 h11 v11 L11 X11 e11 q11
      obtain ⟨rfl, M11, rfl⟩ := q11
      have N11 := Fr.app N10 M11
      show G (T11.setTop (mkF m 84 #[.val (.int i0), .val (.int i1), .val (.int i2), .val (.int i3), .val (.ref t_1), .val (.ref t_2), .val (.ref t_3), .val (.ref w2), .val (.int (0 : Int32)), .val (.ref b7), .val (.ref t_9)] [(.int (1 : Int32))]))
      refine hG _ _ (fun t k => XS.ifNo X11.here hx rfl (hb hby at_84) rfl ((if0 _ _).trans (feq (by decide)).1) k) ?_
      show G (T11.setTop (mkF m 87 #[.val (.int i0), .val (.int i1), .val (.int i2), .val (.int i3), .val (.ref t_1), .val (.ref t_2), .val (.ref t_3), .val (.ref w2), .val (.int (0 : Int32)), .val (.ref b7), .val (.ref t_9)] []))
      refine hG _ _ (fun t k => XS.aload X11.here hx rfl (hb hby at_87) rfl rfl k) ?_
      show G (T11.setTop (mkF m 89 #[.val (.int i0), .val (.int i1), .val (.int i2), .val (.int i3), .val (.ref t_1), .val (.ref t_2), .val (.ref t_3), .val (.ref w2), .val (.int (0 : Int32)), .val (.ref b7), .val (.ref t_9)] [(.ref t_9)]))
      refine own_callV (C := "com/example/perenna/perenna/Visibility$Field") X11 hx hZ hG hown (hw _ (List.mem_of_getElem? (i := 74) rfl)) (hw _ (List.mem_of_getElem? (i := 75) rfl)) (hw _ (List.mem_of_getElem? (i := 77) rfl)) (hw _ (List.mem_of_getElem? (i := 76) rfl)) (hw _ (List.mem_of_getElem? (i := 39) rfl)) (hw _ (List.mem_of_getElem? (i := 78) rfl)) (by decide) 0 (own_get_member l Z a0 hw t_9 t_3 h9 O9 r9_2) (by decide) (by decide) e11 r9_0 (by rw [hml]; rfl) (lenOf own_pd9 rfl) (argsL := []) (rest := []) rfl rfl (Nat.le_of_eq rfl) (hb hby at_89) (by decide) (by decide) ?_
      intro T13 h13 v13 L13 X13 e13 q13
      obtain ⟨rfl, M13, rfl⟩ := q13
      have N13 := Fr.app N11 M13
      show G (T13.setTop (mkF m 92 #[.val (.int i0), .val (.int i1), .val (.int i2), .val (.int i3), .val (.ref t_1), .val (.ref t_2), .val (.ref t_3), .val (.ref w2), .val (.int (0 : Int32)), .val (.ref b7), .val (.ref t_9)] [(.ref t_3)]))
      refine hG _ _ (fun t k => XS.aload X13.here hx rfl (hb hby at_92) rfl rfl k) ?_
      show G (T13.setTop (mkF m 94 #[.val (.int i0), .val (.int i1), .val (.int i2), .val (.int i3), .val (.ref t_1), .val (.ref t_2), .val (.ref t_3), .val (.ref w2), .val (.int (0 : Int32)), .val (.ref b7), .val (.ref t_9)] [(.ref t_3), (.ref t_3)]))
      have f15 := (((r3_0.ext E7).keep J8).keep J9)
      refine own_callV (C := "java/lang/String") X13 hx hZ hG hown (hw _ (List.mem_of_getElem? (i := 69) rfl)) (hw _ (List.mem_of_getElem? (i := 70) rfl)) (hw _ (List.mem_of_getElem? (i := 72) rfl)) (hw _ (List.mem_of_getElem? (i := 71) rfl)) (hw _ (List.mem_of_getElem? (i := 7) rfl)) (hw _ (List.mem_of_getElem? (i := 73) rfl)) (by decide) 0 (own_eqs l Z a0 hw t_3 h9 O9) (by decide) (by decide) e13 f15 (by rw [hml]; rfl) (lenOf own_pd12 rfl) (argsL := [(.ref t_3)]) (rest := []) rfl rfl (Nat.le_of_eq rfl) (hb hby at_94) (by decide) (by decide) ?_
      intro T14 h14 v14 L14 X14 e14 q14
      obtain ⟨rfl, M14, rfl⟩ := q14
      have N14 := Fr.app N13 M14
      show G (T14.setTop (mkF m 97 #[.val (.int i0), .val (.int i1), .val (.int i2), .val (.int i3), .val (.ref t_1), .val (.ref t_2), .val (.ref t_3), .val (.ref w2), .val (.int (0 : Int32)), .val (.ref b7), .val (.ref t_9)] [(.int (1 : Int32))]))
      refine hG _ _ (fun t k => XS.ifNo X14.here hx rfl (hb hby at_97) rfl ((if0 _ _).trans (feq (by decide)).1) k) ?_
      show G (T14.setTop (mkF m 100 #[.val (.int i0), .val (.int i1), .val (.int i2), .val (.int i3), .val (.ref t_1), .val (.ref t_2), .val (.ref t_3), .val (.ref w2), .val (.int (0 : Int32)), .val (.ref b7), .val (.ref t_9)] []))
      refine hG _ _ (fun t k => XS.aload X14.here hx rfl (hb hby at_100) rfl rfl k) ?_
      show G (T14.setTop (mkF m 102 #[.val (.int i0), .val (.int i1), .val (.int i2), .val (.int i3), .val (.ref t_1), .val (.ref t_2), .val (.ref t_3), .val (.ref w2), .val (.int (0 : Int32)), .val (.ref b7), .val (.ref t_9)] [(.ref t_9)]))
      refine own_callV (C := "com/example/perenna/perenna/Visibility$Field") X14 hx hZ hG hown (hw _ (List.mem_of_getElem? (i := 79) rfl)) (hw _ (List.mem_of_getElem? (i := 80) rfl)) (hw _ (List.mem_of_getElem? (i := 82) rfl)) (hw _ (List.mem_of_getElem? (i := 81) rfl)) (hw _ (List.mem_of_getElem? (i := 39) rfl)) (hw _ (List.mem_of_getElem? (i := 83) rfl)) (by decide) 0 (own_get_byDefault l Z a0 hw t_9 w2 h9 O9 r9_3) (by decide) (by decide) e14 r9_0 (by rw [hml]; rfl) (lenOf own_pd10 rfl) (argsL := []) (rest := []) rfl rfl (Nat.le_of_eq rfl) (hb hby at_102) (by decide) (by decide) ?_
      intro T16 h16 v16 L16 X16 e16 q16
      obtain ⟨rfl, M16, rfl⟩ := q16
      have N16 := Fr.app N14 M16
      show G (T16.setTop (mkF m 105 #[.val (.int i0), .val (.int i1), .val (.int i2), .val (.int i3), .val (.ref t_1), .val (.ref t_2), .val (.ref t_3), .val (.ref w2), .val (.int (0 : Int32)), .val (.ref b7), .val (.ref t_9)] [(.ref w2)]))
      refine hG _ _ (fun t k => XS.aload X16.here hx rfl (hb hby at_105) rfl rfl k) ?_
      show G (T16.setTop (mkF m 107 #[.val (.int i0), .val (.int i1), .val (.int i2), .val (.int i3), .val (.ref t_1), .val (.ref t_2), .val (.ref t_3), .val (.ref w2), .val (.int (0 : Int32)), .val (.ref b7), .val (.ref t_9)] [(.ref w2), (.ref w2)]))
      refine hG _ _ (fun t k => Jvm.RoadKit.acmp (g := (mkF m 107 #[.val (.int i0), .val (.int i1), .val (.int i2), .val (.int i3), .val (.ref t_1), .val (.ref t_2), .val (.ref t_3), .val (.ref w2), .val (.int (0 : Int32)), .val (.ref b7), .val (.ref t_9)] [(.ref w2), (.ref w2)])) X16 hx rfl rfl rfl (pc0 := 107) (pc' := 110) (same := true) rfl (hb hby at_107) rfl (decide_eq_true rfl) (by decide) (by decide) k) ?_
      show G (T16.setTop (mkF m 110 #[.val (.int i0), .val (.int i1), .val (.int i2), .val (.int i3), .val (.ref t_1), .val (.ref t_2), .val (.ref t_3), .val (.ref w2), .val (.int (0 : Int32)), .val (.ref b7), .val (.ref t_9)] []))
      refine hG _ _ (fun t k => XS.aload X16.here hx rfl (hb hby at_110) rfl rfl k) ?_
      show G (T16.setTop (mkF m 112 #[.val (.int i0), .val (.int i1), .val (.int i2), .val (.int i3), .val (.ref t_1), .val (.ref t_2), .val (.ref t_3), .val (.ref w2), .val (.int (0 : Int32)), .val (.ref b7), .val (.ref t_9)] [(.ref t_9)]))
      refine own_callV (C := "com/example/perenna/perenna/Visibility$Field") X16 hx hZ hG hown (hw _ (List.mem_of_getElem? (i := 84) rfl)) (hw _ (List.mem_of_getElem? (i := 85) rfl)) (hw _ (List.mem_of_getElem? (i := 87) rfl)) (hw _ (List.mem_of_getElem? (i := 86) rfl)) (hw _ (List.mem_of_getElem? (i := 39) rfl)) (hw _ (List.mem_of_getElem? (i := 88) rfl)) (by decide) 0 (own_get_fixed l Z a0 hw t_9 (nar .boolean (nar .boolean (0 : Int32))) h9 O9 r9_4) (by decide) (by decide) e16 r9_0 (by rw [hml]; rfl) (lenOf own_pd11 rfl) (argsL := []) (rest := []) rfl rfl (Nat.le_of_eq rfl) (hb hby at_112) (by decide) (by decide) ?_
      intro T17 h17 v17 L17 X17 e17 q17
      obtain ⟨rfl, M17, rfl⟩ := q17
      have N17 := Fr.app N16 M17
      show G (T17.setTop (mkF m 115 #[.val (.int i0), .val (.int i1), .val (.int i2), .val (.int i3), .val (.ref t_1), .val (.ref t_2), .val (.ref t_3), .val (.ref w2), .val (.int (0 : Int32)), .val (.ref b7), .val (.ref t_9)] [(.int (nar .boolean (nar .boolean (nar .boolean (0 : Int32)))))]))
      refine hG _ _ (fun t k => XS.iload X17.here hx rfl (hb hby at_115) rfl k) ?_
      show G (T17.setTop (mkF m 117 #[.val (.int i0), .val (.int i1), .val (.int i2), .val (.int i3), .val (.ref t_1), .val (.ref t_2), .val (.ref t_3), .val (.ref w2), .val (.int (0 : Int32)), .val (.ref b7), .val (.ref t_9)] [(.int (0 : Int32)), (.int (nar .boolean (nar .boolean (nar .boolean (0 : Int32)))))]))
      refine hG _ _ (fun t k => XS.icmpNo X17.here hx rfl (hb hby at_117) rfl (teq (by decide)).2 k) ?_
      show G (T17.setTop (mkF m 120 #[.val (.int i0), .val (.int i1), .val (.int i2), .val (.int i3), .val (.ref t_1), .val (.ref t_2), .val (.ref t_3), .val (.ref w2), .val (.int (0 : Int32)), .val (.ref b7), .val (.ref t_9)] []))
      refine hG _ _ (fun t k => XS.aload X17.here hx rfl (hb hby at_120) rfl rfl k) ?_
      show G (T17.setTop (mkF m 122 #[.val (.int i0), .val (.int i1), .val (.int i2), .val (.int i3), .val (.ref t_1), .val (.ref t_2), .val (.ref t_3), .val (.ref w2), .val (.int (0 : Int32)), .val (.ref b7), .val (.ref t_9)] [(.ref b7)]))
      have f19 := (r8_1.keep J9 nin0)
      have f20 := (r8_0.keep J9)
      refine own_callV (C := "com/example/perenna/perenna/Visibility$Field") X17 hx hZ hG hown (hw _ (List.mem_of_getElem? (i := 64) rfl)) (hw _ (List.mem_of_getElem? (i := 65) rfl)) (hw _ (List.mem_of_getElem? (i := 67) rfl)) (hw _ (List.mem_of_getElem? (i := 66) rfl)) (hw _ (List.mem_of_getElem? (i := 39) rfl)) (hw _ (List.mem_of_getElem? (i := 68) rfl)) (by decide) 0 (own_get_name l Z a0 hw b7 t_1 h9 O9 f19) (by decide) (by decide) e17 f20 (by rw [hml]; rfl) (lenOf own_pd9 rfl) (argsL := []) (rest := []) rfl rfl (Nat.le_of_eq rfl) (hb hby at_122) (by decide) (by decide) ?_
      intro T18 h18 v18 L18 X18 e18 q18
      obtain ⟨rfl, M18, rfl⟩ := q18
      have N18 := Fr.app N17 M18
      show G (T18.setTop (mkF m 125 #[.val (.int i0), .val (.int i1), .val (.int i2), .val (.int i3), .val (.ref t_1), .val (.ref t_2), .val (.ref t_3), .val (.ref w2), .val (.int (0 : Int32)), .val (.ref b7), .val (.ref t_9)] [(.ref t_1)]))
      refine hG _ _ (fun t k => XS.aload X18.here hx rfl (hb hby at_125) rfl rfl k) ?_
      show G (T18.setTop (mkF m 127 #[.val (.int i0), .val (.int i1), .val (.int i2), .val (.int i3), .val (.ref t_1), .val (.ref t_2), .val (.ref t_3), .val (.ref w2), .val (.int (0 : Int32)), .val (.ref b7), .val (.ref t_9)] [(.ref t_1), (.ref t_1)]))
      refine own_callV (C := "java/lang/String") X18 hx hZ hG hown (hw _ (List.mem_of_getElem? (i := 69) rfl)) (hw _ (List.mem_of_getElem? (i := 70) rfl)) (hw _ (List.mem_of_getElem? (i := 72) rfl)) (hw _ (List.mem_of_getElem? (i := 71) rfl)) (hw _ (List.mem_of_getElem? (i := 7) rfl)) (hw _ (List.mem_of_getElem? (i := 73) rfl)) (by decide) 0 (own_eqs l Z a0 hw t_1 h9 O9) (by decide) (by decide) e18 f12 (by rw [hml]; rfl) (lenOf own_pd12 rfl) (argsL := [(.ref t_1)]) (rest := []) rfl rfl (Nat.le_of_eq rfl) (hb hby at_127) (by decide) (by decide) ?_
      intro T21 h21 v21 L21 X21 e21 q21
      obtain ⟨rfl, M21, rfl⟩ := q21
      have N21 := Fr.app N18 M21
      show G (T21.setTop (mkF m 130 #[.val (.int i0), .val (.int i1), .val (.int i2), .val (.int i3), .val (.ref t_1), .val (.ref t_2), .val (.ref t_3), .val (.ref w2), .val (.int (0 : Int32)), .val (.ref b7), .val (.ref t_9)] [(.int (1 : Int32))]))
      refine hG _ _ (fun t k => XS.ifNo X21.here hx rfl (hb hby at_130) rfl ((if0 _ _).trans (feq (by decide)).1) k) ?_
      show G (T21.setTop (mkF m 133 #[.val (.int i0), .val (.int i1), .val (.int i2), .val (.int i3), .val (.ref t_1), .val (.ref t_2), .val (.ref t_3), .val (.ref w2), .val (.int (0 : Int32)), .val (.ref b7), .val (.ref t_9)] []))
      refine hG _ _ (fun t k => XS.aload X21.here hx rfl (hb hby at_133) rfl rfl k) ?_
      show G (T21.setTop (mkF m 135 #[.val (.int i0), .val (.int i1), .val (.int i2), .val (.int i3), .val (.ref t_1), .val (.ref t_2), .val (.ref t_3), .val (.ref w2), .val (.int (0 : Int32)), .val (.ref b7), .val (.ref t_9)] [(.ref b7)]))
      have f23 := (r8_2.keep J9 nin0)
      refine own_callV (C := "com/example/perenna/perenna/Visibility$Field") X21 hx hZ hG hown (hw _ (List.mem_of_getElem? (i := 74) rfl)) (hw _ (List.mem_of_getElem? (i := 75) rfl)) (hw _ (List.mem_of_getElem? (i := 77) rfl)) (hw _ (List.mem_of_getElem? (i := 76) rfl)) (hw _ (List.mem_of_getElem? (i := 39) rfl)) (hw _ (List.mem_of_getElem? (i := 78) rfl)) (by decide) 0 (own_get_member l Z a0 hw b7 t_2 h9 O9 f23) (by decide) (by decide) e21 f20 (by rw [hml]; rfl) (lenOf own_pd9 rfl) (argsL := []) (rest := []) rfl rfl (Nat.le_of_eq rfl) (hb hby at_135) (by decide) (by decide) ?_
      intro T22 h22 v22 L22 X22 e22 q22
      obtain ⟨rfl, M22, rfl⟩ := q22
      have N22 := Fr.app N21 M22
      show G (T22.setTop (mkF m 138 #[.val (.int i0), .val (.int i1), .val (.int i2), .val (.int i3), .val (.ref t_1), .val (.ref t_2), .val (.ref t_3), .val (.ref w2), .val (.int (0 : Int32)), .val (.ref b7), .val (.ref t_9)] [(.ref t_2)]))
      refine hG _ _ (fun t k => XS.aload X22.here hx rfl (hb hby at_138) rfl rfl k) ?_
      show G (T22.setTop (mkF m 140 #[.val (.int i0), .val (.int i1), .val (.int i2), .val (.int i3), .val (.ref t_1), .val (.ref t_2), .val (.ref t_3), .val (.ref w2), .val (.int (0 : Int32)), .val (.ref b7), .val (.ref t_9)] [(.ref t_2), (.ref t_2)]))
      have f25 := ((((r2_0.keep J3).ext E7).keep J8).keep J9)
      refine own_callV (C := "java/lang/String") X22 hx hZ hG hown (hw _ (List.mem_of_getElem? (i := 69) rfl)) (hw _ (List.mem_of_getElem? (i := 70) rfl)) (hw _ (List.mem_of_getElem? (i := 72) rfl)) (hw _ (List.mem_of_getElem? (i := 71) rfl)) (hw _ (List.mem_of_getElem? (i := 7) rfl)) (hw _ (List.mem_of_getElem? (i := 73) rfl)) (by decide) 0 (own_eqs l Z a0 hw t_2 h9 O9) (by decide) (by decide) e22 f25 (by rw [hml]; rfl) (lenOf own_pd12 rfl) (argsL := [(.ref t_2)]) (rest := []) rfl rfl (Nat.le_of_eq rfl) (hb hby at_140) (by decide) (by decide) ?_
      intro T24 h24 v24 L24 X24 e24 q24
      obtain ⟨rfl, M24, rfl⟩ := q24
      have N24 := Fr.app N22 M24
      show G (T24.setTop (mkF m 143 #[.val (.int i0), .val (.int i1), .val (.int i2), .val (.int i3), .val (.ref t_1), .val (.ref t_2), .val (.ref t_3), .val (.ref w2), .val (.int (0 : Int32)), .val (.ref b7), .val (.ref t_9)] [(.int (1 : Int32))]))
      refine hG _ _ (fun t k => XS.ifNo X24.here hx rfl (hb hby at_143) rfl ((if0 _ _).trans (feq (by decide)).1) k) ?_
      show G (T24.setTop (mkF m 146 #[.val (.int i0), .val (.int i1), .val (.int i2), .val (.int i3), .val (.ref t_1), .val (.ref t_2), .val (.ref t_3), .val (.ref w2), .val (.int (0 : Int32)), .val (.ref b7), .val (.ref t_9)] []))
      refine hG _ _ (fun t k => XS.aload X24.here hx rfl (hb hby at_146) rfl rfl k) ?_
      show G (T24.setTop (mkF m 148 #[.val (.int i0), .val (.int i1), .val (.int i2), .val (.int i3), .val (.ref t_1), .val (.ref t_2), .val (.ref t_3), .val (.ref w2), .val (.int (0 : Int32)), .val (.ref b7), .val (.ref t_9)] [(.ref b7)]))
      have f27 := (r8_3.keep J9 nin0)
      refine own_callV (C := "com/example/perenna/perenna/Visibility$Field") X24 hx hZ hG hown (hw _ (List.mem_of_getElem? (i := 79) rfl)) (hw _ (List.mem_of_getElem? (i := 80) rfl)) (hw _ (List.mem_of_getElem? (i := 82) rfl)) (hw _ (List.mem_of_getElem? (i := 81) rfl)) (hw _ (List.mem_of_getElem? (i := 39) rfl)) (hw _ (List.mem_of_getElem? (i := 83) rfl)) (by decide) 0 (own_get_byDefault l Z a0 hw b7 w2 h9 O9 f27) (by decide) (by decide) e24 f20 (by rw [hml]; rfl) (lenOf own_pd10 rfl) (argsL := []) (rest := []) rfl rfl (Nat.le_of_eq rfl) (hb hby at_148) (by decide) (by decide) ?_
      intro T26 h26 v26 L26 X26 e26 q26
      obtain ⟨rfl, M26, rfl⟩ := q26
      have N26 := Fr.app N24 M26
      show G (T26.setTop (mkF m 151 #[.val (.int i0), .val (.int i1), .val (.int i2), .val (.int i3), .val (.ref t_1), .val (.ref t_2), .val (.ref t_3), .val (.ref w2), .val (.int (0 : Int32)), .val (.ref b7), .val (.ref t_9)] [(.ref w2)]))
      refine hG _ _ (fun t k => XS.aload X26.here hx rfl (hb hby at_151) rfl rfl k) ?_
      show G (T26.setTop (mkF m 153 #[.val (.int i0), .val (.int i1), .val (.int i2), .val (.int i3), .val (.ref t_1), .val (.ref t_2), .val (.ref t_3), .val (.ref w2), .val (.int (0 : Int32)), .val (.ref b7), .val (.ref t_9)] [(.ref w2), (.ref w2)]))
      refine hG _ _ (fun t k => Jvm.RoadKit.acmp (g := (mkF m 153 #[.val (.int i0), .val (.int i1), .val (.int i2), .val (.int i3), .val (.ref t_1), .val (.ref t_2), .val (.ref t_3), .val (.ref w2), .val (.int (0 : Int32)), .val (.ref b7), .val (.ref t_9)] [(.ref w2), (.ref w2)])) X26 hx rfl rfl rfl (pc0 := 153) (pc' := 156) (same := true) rfl (hb hby at_153) rfl (decide_eq_true rfl) (by decide) (by decide) k) ?_
      show G (T26.setTop (mkF m 156 #[.val (.int i0), .val (.int i1), .val (.int i2), .val (.int i3), .val (.ref t_1), .val (.ref t_2), .val (.ref t_3), .val (.ref w2), .val (.int (0 : Int32)), .val (.ref b7), .val (.ref t_9)] []))
      refine hG _ _ (fun t k => XS.aload X26.here hx rfl (hb hby at_156) rfl rfl k) ?_
      show G (T26.setTop (mkF m 158 #[.val (.int i0), .val (.int i1), .val (.int i2), .val (.int i3), .val (.ref t_1), .val (.ref t_2), .val (.ref t_3), .val (.ref w2), .val (.int (0 : Int32)), .val (.ref b7), .val (.ref t_9)] [(.ref b7)]))
      have f29 := (r8_4.keep J9 nin0)
      refine own_callV (C := "com/example/perenna/perenna/Visibility$Field") X26 hx hZ hG hown (hw _ (List.mem_of_getElem? (i := 84) rfl)) (hw _ (List.mem_of_getElem? (i := 85) rfl)) (hw _ (List.mem_of_getElem? (i := 87) rfl)) (hw _ (List.mem_of_getElem? (i := 86) rfl)) (hw _ (List.mem_of_getElem? (i := 39) rfl)) (hw _ (List.mem_of_getElem? (i := 88) rfl)) (by decide) 0 (own_get_fixed l Z a0 hw b7 (nar .boolean (0 : Int32)) h9 O9 f29) (by decide) (by decide) e26 f20 (by rw [hml]; rfl) (lenOf own_pd11 rfl) (argsL := []) (rest := []) rfl rfl (Nat.le_of_eq rfl) (hb hby at_158) (by decide) (by decide) ?_
      intro T28 h28 v28 L28 X28 e28 q28
      obtain ⟨rfl, M28, rfl⟩ := q28
      have N28 := Fr.app N26 M28
      show G (T28.setTop (mkF m 161 #[.val (.int i0), .val (.int i1), .val (.int i2), .val (.int i3), .val (.ref t_1), .val (.ref t_2), .val (.ref t_3), .val (.ref w2), .val (.int (0 : Int32)), .val (.ref b7), .val (.ref t_9)] [(.int (nar .boolean (nar .boolean (0 : Int32))))]))
      refine hG _ _ (fun t k => XS.iload X28.here hx rfl (hb hby at_161) rfl k) ?_
      show G (T28.setTop (mkF m 163 #[.val (.int i0), .val (.int i1), .val (.int i2), .val (.int i3), .val (.ref t_1), .val (.ref t_2), .val (.ref t_3), .val (.ref w2), .val (.int (0 : Int32)), .val (.ref b7), .val (.ref t_9)] [(.int (0 : Int32)), (.int (nar .boolean (nar .boolean (0 : Int32))))]))
      refine hG _ _ (fun t k => XS.icmpNo X28.here hx rfl (hb hby at_163) rfl (teq (by decide)).2 k) ?_
      show G (T28.setTop (mkF m 166 #[.val (.int i0), .val (.int i1), .val (.int i2), .val (.int i3), .val (.ref t_1), .val (.ref t_2), .val (.ref t_3), .val (.ref w2), .val (.int (0 : Int32)), .val (.ref b7), .val (.ref t_9)] []))
      refine hG _ _ (fun t k => XS.iconst X28.here hx rfl (hb hby at_166) k) ?_
      show G (T28.setTop (mkF m 167 #[.val (.int i0), .val (.int i1), .val (.int i2), .val (.int i3), .val (.ref t_1), .val (.ref t_2), .val (.ref t_3), .val (.ref w2), .val (.int (0 : Int32)), .val (.ref b7), .val (.ref t_9)] [(.int (1 : Int32))]))
      refine hG _ _ (fun t k => XS.goto X28.here hx rfl (pc0 := 167) (pc' := 171) rfl (hb hby at_167) (by decide) (by decide) k) ?_
      show G (T28.setTop (mkF m 171 #[.val (.int i0), .val (.int i1), .val (.int i2), .val (.int i3), .val (.ref t_1), .val (.ref t_2), .val (.ref t_3), .val (.ref w2), .val (.int (0 : Int32)), .val (.ref b7), .val (.ref t_9)] [(.int (1 : Int32))]))
      exact own_retN hR hret (by simp) X28 hx (hb hby at_171) (by decide) (by decide) (by rw [e28]; exact ⟨rfl, N28, K9⟩)
    · skip
      refine hG _ _ (fun t k => XS.ifNo X5.here hx rfl (hb hby at_38) rfl ((if0 _ _).trans (feq hc38_6).1) k) ?_
      show G (T5.setTop (mkF m 41 #[.val (.int i0), .val (.int i1), .val (.int i2), .val (.int i3), .val (.ref t_1), .val (.ref t_2), .val (.ref t_3), .val (.ref w2), .unset, .unset, .unset] []))
      refine hG _ _ (fun t k => XS.iconst X5.here hx rfl (hb hby at_41) k) ?_
      show G (T5.setTop (mkF m 42 #[.val (.int i0), .val (.int i1), .val (.int i2), .val (.int i3), .val (.ref t_1), .val (.ref t_2), .val (.ref t_3), .val (.ref w2), .unset, .unset, .unset] [(.int (1 : Int32))]))
      refine hG _ _ (fun t k => XS.goto X5.here hx rfl (pc0 := 42) (pc' := 46) rfl (hb hby at_42) (by decide) (by decide) k) ?_
      show G (T5.setTop (mkF m 46 #[.val (.int i0), .val (.int i1), .val (.int i2), .val (.int i3), .val (.ref t_1), .val (.ref t_2), .val (.ref t_3), .val (.ref w2), .unset, .unset, .unset] [(.int (1 : Int32))]))
      refine hG _ _ (fun t k => XS.istore X5.here hx rfl (hb hby at_46) rfl (l' := #[.val (.int i0), .val (.int i1), .val (.int i2), .val (.int i3), .val (.ref t_1), .val (.ref t_2), .val (.ref t_3), .val (.ref w2), .val (.int (1 : Int32)), .unset, .unset]) rfl k) ?_
      show G (T5.setTop (mkF m 48 #[.val (.int i0), .val (.int i1), .val (.int i2), .val (.int i3), .val (.ref t_1), .val (.ref t_2), .val (.ref t_3), .val (.ref w2), .val (.int (1 : Int32)), .unset, .unset] []))
      obtain ⟨T30, h30, X30, e30, E30, A30, D30, -, st30⟩ := newO X5 hx hZ hown (hw _ (List.mem_of_getElem? (i := 37) rfl)) (hw _ (List.mem_of_getElem? (i := 38) rfl)) (hw _ (List.mem_of_getElem? (i := 39) rfl)) e5 (g := (mkF m 48 #[.val (.int i0), .val (.int i1), .val (.int i2), .val (.int i3), .val (.ref t_1), .val (.ref t_2), .val (.ref t_3), .val (.ref w2), .val (.int (1 : Int32)), .unset, .unset] [])) rfl (hb hby at_48) (by decide) (by decide)
      obtain ⟨b30, z30⟩ : ∃ z, z = h3.size := ⟨_, rfl⟩
      rw [← z30] at A30 D30 st30
      refine hG _ _ st30 ?_
      have K30 : Keep h0 h30 [] := K3.ext E30
      have O30 : own_Old Z h30 := O3.ext E30
      show G (T30.setTop (mkF m 51 #[.val (.int i0), .val (.int i1), .val (.int i2), .val (.int i3), .val (.ref t_1), .val (.ref t_2), .val (.ref t_3), .val (.ref w2), .val (.int (1 : Int32)), .unset, .unset] [(.ref b30)]))
      refine hG _ _ (fun t k => XS.dup X30.here hx rfl (hb hby at_51) rfl rfl k) ?_
      show G (T30.setTop (mkF m 52 #[.val (.int i0), .val (.int i1), .val (.int i2), .val (.int i3), .val (.ref t_1), .val (.ref t_2), .val (.ref t_3), .val (.ref w2), .val (.int (1 : Int32)), .unset, .unset] [(.ref b30), (.ref b30)]))
      refine hG _ _ (fun t k => XS.aload X30.here hx rfl (hb hby at_52) rfl rfl k) ?_
      show G (T30.setTop (mkF m 54 #[.val (.int i0), .val (.int i1), .val (.int i2), .val (.int i3), .val (.ref t_1), .val (.ref t_2), .val (.ref t_3), .val (.ref w2), .val (.int (1 : Int32)), .unset, .unset] [(.ref t_1), (.ref b30), (.ref b30)]))
      refine hG _ _ (fun t k => XS.aload X30.here hx rfl (hb hby at_54) rfl rfl k) ?_
      show G (T30.setTop (mkF m 56 #[.val (.int i0), .val (.int i1), .val (.int i2), .val (.int i3), .val (.ref t_1), .val (.ref t_2), .val (.ref t_3), .val (.ref w2), .val (.int (1 : Int32)), .unset, .unset] [(.ref t_2), (.ref t_1), (.ref b30), (.ref b30)]))
      refine hG _ _ (fun t k => XS.aload X30.here hx rfl (hb hby at_56) rfl rfl k) ?_
      show G (T30.setTop (mkF m 58 #[.val (.int i0), .val (.int i1), .val (.int i2), .val (.int i3), .val (.ref t_1), .val (.ref t_2), .val (.ref t_3), .val (.ref w2), .val (.int (1 : Int32)), .unset, .unset] [(.ref w2), (.ref t_2), (.ref t_1), (.ref b30), (.ref b30)]))
      refine hG _ _ (fun t k => XS.iload X30.here hx rfl (hb hby at_58) rfl k) ?_
      show G (T30.setTop (mkF m 60 #[.val (.int i0), .val (.int i1), .val (.int i2), .val (.int i3), .val (.ref t_1), .val (.ref t_2), .val (.ref t_3), .val (.ref w2), .val (.int (1 : Int32)), .unset, .unset] [(.int (1 : Int32)), (.ref w2), (.ref t_2), (.ref t_1), (.ref b30), (.ref b30)]))
      refine own_callI X30 hx hZ hG hown rfl (hw _ (List.mem_of_getElem? (i := 40) rfl)) (hw _ (List.mem_of_getElem? (i := 41) rfl)) (hw _ (List.mem_of_getElem? (i := 39) rfl)) (hw _ (List.mem_of_getElem? (i := 42) rfl)) (by decide) 1 (own_finit l Z a0 hw b30 t_1 t_2 w2 (1 : Int32) .null .null .null (.int (0 : Int32)) h30 O30 A30 (own_ge O3 (Nat.le_of_eq z30.symm)) (D30 (Or.inr (hw _ (List.mem_of_getElem? (i := 50) rfl))) (ty := (.object "java/lang/String")) (by decide)) (D30 (Or.inr (hw _ (List.mem_of_getElem? (i := 52) rfl))) (ty := (.object "java/lang/String")) (by decide)) (D30 (Or.inr (hw _ (List.mem_of_getElem? (i := 54) rfl))) (ty := (.object "com/example/perenna/perenna/Visibility")) (by decide)) (D30 (Or.inr (hw _ (List.mem_of_getElem? (i := 56) rfl))) (ty := .boolean) (by decide))) (by decide) (by decide) e30 (by rw [hml]; rfl) (lenOf own_pd7 rfl) (argsL := [(.ref t_1), (.ref t_2), (.ref w2), (.int (1 : Int32))]) (rest := [(.ref b30)]) rfl rfl (Nat.le_of_eq rfl) (hb hby at_60) (by decide) (by decide) ?_
      intro T31 h31 v31 L31 X31 e31 q31
      obtain ⟨rfl, M31, J31, r31_0, r31_1, r31_2, r31_3, r31_4⟩ := q31
      have N31 := Fr.app N3 M31
      have K31 : Keep h0 h31 [] := K30.trans J31 (allS (Or.inr (Nat.le_trans K3.1 (Nat.le_of_eq z30.symm))) all0)
      have O31 : own_Old Z h31 := O30.keep J31 (allS (own_ge O3 (Nat.le_of_eq z30.symm)) all0)
      show G (T31.setTop (mkF m 63 #[.val (.int i0), .val (.int i1), .val (.int i2), .val (.int i3), .val (.ref t_1), .val (.ref t_2), .val (.ref t_3), .val (.ref w2), .val (.int (1 : Int32)), .unset, .unset] [(.ref b30)]))
      refine hG _ _ (fun t k => XS.astore X31.here hx rfl (hb hby at_63) rfl rfl (l' := #[.val (.int i0), .val (.int i1), .val (.int i2), .val (.int i3), .val (.ref t_1), .val (.ref t_2), .val (.ref t_3), .val (.ref w2), .val (.int (1 : Int32)), .val (.ref b30), .unset]) rfl k) ?_
      show G (T31.setTop (mkF m 65 #[.val (.int i0), .val (.int i1), .val (.int i2), .val (.int i3), .val (.ref t_1), .val (.ref t_2), .val (.ref t_3), .val (.ref w2), .val (.int (1 : Int32)), .val (.ref b30), .unset] []))
      refine hG _ _ (fun t k => XS.aload X31.here hx rfl (hb hby at_65) rfl rfl k) ?_
      show G (T31.setTop (mkF m 67 #[.val (.int i0), .val (.int i1), .val (.int i2), .val (.int i3), .val (.ref t_1), .val (.ref t_2), .val (.ref t_3), .val (.ref w2), .val (.int (1 : Int32)), .val (.ref b30), .unset] [(.ref b30)]))
      refine hG _ _ (fun t k => XS.aload X31.here hx rfl (hb hby at_67) rfl rfl k) ?_
      show G (T31.setTop (mkF m 69 #[.val (.int i0), .val (.int i1), .val (.int i2), .val (.int i3), .val (.ref t_1), .val (.ref t_2), .val (.ref t_3), .val (.ref w2), .val (.int (1 : Int32)), .val (.ref b30), .unset] [(.ref t_3), (.ref b30)]))
      refine own_callV (C := "com/example/perenna/perenna/Visibility$Field") X31 hx hZ hG hown (hw _ (List.mem_of_getElem? (i := 57) rfl)) (hw _ (List.mem_of_getElem? (i := 58) rfl)) (hw _ (List.mem_of_getElem? (i := 60) rfl)) (hw _ (List.mem_of_getElem? (i := 59) rfl)) (hw _ (List.mem_of_getElem? (i := 39) rfl)) (hw _ (List.mem_of_getElem? (i := 61) rfl)) (by decide) 0 (own_within l Z a0 hw b30 t_3 t_1 w2 (nar .boolean (1 : Int32)) h31 O31 r31_1 r31_3 r31_4) (by decide) (by decide) e31 r31_0 (by rw [hml]; rfl) (lenOf own_pd8 rfl) (argsL := [(.ref t_3)]) (rest := []) rfl rfl (Nat.le_of_eq rfl) (hb hby at_69) (by decide) (by decide) ?_
      intro T32 h32 v32 L32 X32 e32 q32
      obtain ⟨t_32, rfl, M32, J32, y32_0, r32_0, r32_1, r32_2, r32_3, r32_4⟩ := q32
      have N32 := Fr.app N31 M32
      have K32 : Keep h0 h32 [] := K31.trans J32 all0
      have O32 : own_Old Z h32 := O31.keep J32 all0
      show G (T32.setTop (mkF m 72 #[.val (.int i0), .val (.int i1), .val (.int i2), .val (.int i3), .val (.ref t_1), .val (.ref t_2), .val (.ref t_3), .val (.ref w2), .val (.int (1 : Int32)), .val (.ref b30), .unset] [(.ref t_32)]))
      refine hG _ _ (fun t k => XS.astore X32.here hx rfl (hb hby at_72) rfl rfl (l' := #[.val (.int i0), .val (.int i1), .val (.int i2), .val (.int i3), .val (.ref t_1), .val (.ref t_2), .val (.ref t_3), .val (.ref w2), .val (.int (1 : Int32)), .val (.ref b30), .val (.ref t_32)]) rfl k) ?_
      show G (T32.setTop (mkF m 74 #[.val (.int i0), .val (.int i1), .val (.int i2), .val (.int i3), .val (.ref t_1), .val (.ref t_2), .val (.ref t_3), .val (.ref w2), .val (.int (1 : Int32)), .val (.ref b30), .val (.ref t_32)] []))
      refine hG _ _ (fun t k => XS.aload X32.here hx rfl (hb hby at_74) rfl rfl k) ?_
      show G (T32.setTop (mkF m 76 #[.val (.int i0), .val (.int i1), .val (.int i2), .val (.int i3), .val (.ref t_1), .val (.ref t_2), .val (.ref t_3), .val (.ref w2), .val (.int (1 : Int32)), .val (.ref b30), .val (.ref t_32)] [(.ref t_32)]))
      refine own_callV (C := "com/example/perenna/perenna/Visibility$Field") X32 hx hZ hG hown (hw _ (List.mem_of_getElem? (i := 64) rfl)) (hw _ (List.mem_of_getElem? (i := 65) rfl)) (hw _ (List.mem_of_getElem? (i := 67) rfl)) (hw _ (List.mem_of_getElem? (i := 66) rfl)) (hw _ (List.mem_of_getElem? (i := 39) rfl)) (hw _ (List.mem_of_getElem? (i := 68) rfl)) (by decide) 0 (own_get_name l Z a0 hw t_32 t_1 h32 O32 r32_1) (by decide) (by decide) e32 r32_0 (by rw [hml]; rfl) (lenOf own_pd9 rfl) (argsL := []) (rest := []) rfl rfl (Nat.le_of_eq rfl) (hb hby at_76) (by decide) (by decide) ?_
      intro T33 h33 v33 L33 X33 e33 q33
      obtain ⟨rfl, M33, rfl⟩ := q33
      have N33 := Fr.app N32 M33
      show G (T33.setTop (mkF m 79 #[.val (.int i0), .val (.int i1), .val (.int i2), .val (.int i3), .val (.ref t_1), .val (.ref t_2), .val (.ref t_3), .val (.ref w2), .val (.int (1 : Int32)), .val (.ref b30), .val (.ref t_32)] [(.ref t_1)]))
      refine hG _ _ (fun t k => XS.aload X33.here hx rfl (hb hby at_79) rfl rfl k) ?_
      show G (T33.setTop (mkF m 81 #[.val (.int i0), .val (.int i1), .val (.int i2), .val (.int i3), .val (.ref t_1), .val (.ref t_2), .val (.ref t_3), .val (.ref w2), .val (.int (1 : Int32)), .val (.ref b30), .val (.ref t_32)] [(.ref t_1), (.ref t_1)]))
      have f35 := (((((r1_0.keep J2).keep J3).ext E30).keep J31).keep J32)
      refine own_callV (C := "java/lang/String") X33 hx hZ hG hown (hw _ (List.mem_of_getElem? (i := 69) rfl)) (hw _ (List.mem_of_getElem? (i := 70) rfl)) (hw _ (List.mem_of_getElem? (i := 72) rfl)) (hw _ (List.mem_of_getElem? (i := 71) rfl)) (hw _ (List.mem_of_getElem? (i := 7) rfl)) (hw _ (List.mem_of_getElem? (i := 73) rfl)) (by decide) 0 (own_eqs l Z a0 hw t_1 h32 O32) (by decide) (by decide) e33 f35 (by rw [hml]; rfl) (lenOf own_pd12 rfl) (argsL := [(.ref t_1)]) (rest := []) rfl rfl (Nat.le_of_eq rfl) (hb hby at_81) (by decide) (by decide) ?_
      intro T34 h34 v34 L34 X34 e34 q34
      obtain ⟨rfl, M34, rfl⟩ := q34
      have N34 := Fr.app N33 M34
      show G (T34.setTop (mkF m 84 #[.val (.int i0), .val (.int i1), .val (.int i2), .val (.int i3), .val (.ref t_1), .val (.ref t_2), .val (.ref t_3), .val (.ref w2), .val (.int (1 : Int32)), .val (.ref b30), .val (.ref t_32)] [(.int (1 : Int32))]))
      refine hG _ _ (fun t k => XS.ifNo X34.here hx rfl (hb hby at_84) rfl ((if0 _ _).trans (feq (by decide)).1) k) ?_
      show G (T34.setTop (mkF m 87 #[.val (.int i0), .val (.int i1), .val (.int i2), .val (.int i3), .val (.ref t_1), .val (.ref t_2), .val (.ref t_3), .val (.ref w2), .val (.int (1 : Int32)), .val (.ref b30), .val (.ref t_32)] []))
      refine hG _ _ (fun t k => XS.aload X34.here hx rfl (hb hby at_87) rfl rfl k) ?_
      show G (T34.setTop (mkF m 89 #[.val (.int i0), .val (.int i1), .val (.int i2), .val (.int i3), .val (.ref t_1), .val (.ref t_2), .val (.ref t_3), .val (.ref w2), .val (.int (1 : Int32)), .val (.ref b30), .val (.ref t_32)] [(.ref t_32)]))
      refine own_callV (C := "com/example/perenna/perenna/Visibility$Field") X34 hx hZ hG hown (hw _ (List.mem_of_getElem? (i := 74) rfl)) (hw _ (List.mem_of_getElem? (i := 75) rfl)) (hw _ (List.mem_of_getElem? (i := 77) rfl)) (hw _ (List.mem_of_getElem? (i := 76) rfl)) (hw _ (List.mem_of_getElem? (i := 39) rfl)) (hw _ (List.mem_of_getElem? (i := 78) rfl)) (by decide) 0 (own_get_member l Z a0 hw t_32 t_3 h32 O32 r32_2) (by decide) (by decide) e34 r32_0 (by rw [hml]; rfl) (lenOf own_pd9 rfl) (argsL := []) (rest := []) rfl rfl (Nat.le_of_eq rfl) (hb hby at_89) (by decide) (by decide) ?_
      intro T36 h36 v36 L36 X36 e36 q36
      obtain ⟨rfl, M36, rfl⟩ := q36
      have N36 := Fr.app N34 M36
      show G (T36.setTop (mkF m 92 #[.val (.int i0), .val (.int i1), .val (.int i2), .val (.int i3), .val (.ref t_1), .val (.ref t_2), .val (.ref t_3), .val (.ref w2), .val (.int (1 : Int32)), .val (.ref b30), .val (.ref t_32)] [(.ref t_3)]))
      refine hG _ _ (fun t k => XS.aload X36.here hx rfl (hb hby at_92) rfl rfl k) ?_
      show G (T36.setTop (mkF m 94 #[.val (.int i0), .val (.int i1), .val (.int i2), .val (.int i3), .val (.ref t_1), .val (.ref t_2), .val (.ref t_3), .val (.ref w2), .val (.int (1 : Int32)), .val (.ref b30), .val (.ref t_32)] [(.ref t_3), (.ref t_3)]))
      have f38 := (((r3_0.ext E30).keep J31).keep J32)
      refine own_callV (C := "java/lang/String") X36 hx hZ hG hown (hw _ (List.mem_of_getElem? (i := 69) rfl)) (hw _ (List.mem_of_getElem? (i := 70) rfl)) (hw _ (List.mem_of_getElem? (i := 72) rfl)) (hw _ (List.mem_of_getElem? (i := 71) rfl)) (hw _ (List.mem_of_getElem? (i := 7) rfl)) (hw _ (List.mem_of_getElem? (i := 73) rfl)) (by decide) 0 (own_eqs l Z a0 hw t_3 h32 O32) (by decide) (by decide) e36 f38 (by rw [hml]; rfl) (lenOf own_pd12 rfl) (argsL := [(.ref t_3)]) (rest := []) rfl rfl (Nat.le_of_eq rfl) (hb hby at_94) (by decide) (by decide) ?_
      intro T37 h37 v37 L37 X37 e37 q37
      obtain ⟨rfl, M37, rfl⟩ := q37
      have N37 := Fr.app N36 M37
      show G (T37.setTop (mkF m 97 #[.val (.int i0), .val (.int i1), .val (.int i2), .val (.int i3), .val (.ref t_1), .val (.ref t_2), .val (.ref t_3), .val (.ref w2), .val (.int (1 : Int32)), .val (.ref b30), .val (.ref t_32)] [(.int (1 : Int32))]))
      refine hG _ _ (fun t k => XS.ifNo X37.here hx rfl (hb hby at_97) rfl ((if0 _ _).trans (feq (by decide)).1) k) ?_
      show G (T37.setTop (mkF m 100 #[.val (.int i0), .val (.int i1), .val (.int i2), .val (.int i3), .val (.ref t_1), .val (.ref t_2), .val (.ref t_3), .val (.ref w2), .val (.int (1 : Int32)), .val (.ref b30), .val (.ref t_32)] []))
      refine hG _ _ (fun t k => XS.aload X37.here hx rfl (hb hby at_100) rfl rfl k) ?_
      show G (T37.setTop (mkF m 102 #[.val (.int i0), .val (.int i1), .val (.int i2), .val (.int i3), .val (.ref t_1), .val (.ref t_2), .val (.ref t_3), .val (.ref w2), .val (.int (1 : Int32)), .val (.ref b30), .val (.ref t_32)] [(.ref t_32)]))
      refine own_callV (C := "com/example/perenna/perenna/Visibility$Field") X37 hx hZ hG hown (hw _ (List.mem_of_getElem? (i := 79) rfl)) (hw _ (List.mem_of_getElem? (i := 80) rfl)) (hw _ (List.mem_of_getElem? (i := 82) rfl)) (hw _ (List.mem_of_getElem? (i := 81) rfl)) (hw _ (List.mem_of_getElem? (i := 39) rfl)) (hw _ (List.mem_of_getElem? (i := 83) rfl)) (by decide) 0 (own_get_byDefault l Z a0 hw t_32 w2 h32 O32 r32_3) (by decide) (by decide) e37 r32_0 (by rw [hml]; rfl) (lenOf own_pd10 rfl) (argsL := []) (rest := []) rfl rfl (Nat.le_of_eq rfl) (hb hby at_102) (by decide) (by decide) ?_
      intro T39 h39 v39 L39 X39 e39 q39
      obtain ⟨rfl, M39, rfl⟩ := q39
      have N39 := Fr.app N37 M39
      show G (T39.setTop (mkF m 105 #[.val (.int i0), .val (.int i1), .val (.int i2), .val (.int i3), .val (.ref t_1), .val (.ref t_2), .val (.ref t_3), .val (.ref w2), .val (.int (1 : Int32)), .val (.ref b30), .val (.ref t_32)] [(.ref w2)]))
      refine hG _ _ (fun t k => XS.aload X39.here hx rfl (hb hby at_105) rfl rfl k) ?_
      show G (T39.setTop (mkF m 107 #[.val (.int i0), .val (.int i1), .val (.int i2), .val (.int i3), .val (.ref t_1), .val (.ref t_2), .val (.ref t_3), .val (.ref w2), .val (.int (1 : Int32)), .val (.ref b30), .val (.ref t_32)] [(.ref w2), (.ref w2)]))
      refine hG _ _ (fun t k => Jvm.RoadKit.acmp (g := (mkF m 107 #[.val (.int i0), .val (.int i1), .val (.int i2), .val (.int i3), .val (.ref t_1), .val (.ref t_2), .val (.ref t_3), .val (.ref w2), .val (.int (1 : Int32)), .val (.ref b30), .val (.ref t_32)] [(.ref w2), (.ref w2)])) X39 hx rfl rfl rfl (pc0 := 107) (pc' := 110) (same := true) rfl (hb hby at_107) rfl (decide_eq_true rfl) (by decide) (by decide) k) ?_
      show G (T39.setTop (mkF m 110 #[.val (.int i0), .val (.int i1), .val (.int i2), .val (.int i3), .val (.ref t_1), .val (.ref t_2), .val (.ref t_3), .val (.ref w2), .val (.int (1 : Int32)), .val (.ref b30), .val (.ref t_32)] []))
      refine hG _ _ (fun t k => XS.aload X39.here hx rfl (hb hby at_110) rfl rfl k) ?_
      show G (T39.setTop (mkF m 112 #[.val (.int i0), .val (.int i1), .val (.int i2), .val (.int i3), .val (.ref t_1), .val (.ref t_2), .val (.ref t_3), .val (.ref w2), .val (.int (1 : Int32)), .val (.ref b30), .val (.ref t_32)] [(.ref t_32)]))
      refine own_callV (C := "com/example/perenna/perenna/Visibility$Field") X39 hx hZ hG hown (hw _ (List.mem_of_getElem? (i := 84) rfl)) (hw _ (List.mem_of_getElem? (i := 85) rfl)) (hw _ (List.mem_of_getElem? (i := 87) rfl)) (hw _ (List.mem_of_getElem? (i := 86) rfl)) (hw _ (List.mem_of_getElem? (i := 39) rfl)) (hw _ (List.mem_of_getElem? (i := 88) rfl)) (by decide) 0 (own_get_fixed l Z a0 hw t_32 (nar .boolean (nar .boolean (1 : Int32))) h32 O32 r32_4) (by decide) (by decide) e39 r32_0 (by rw [hml]; rfl) (lenOf own_pd11 rfl) (argsL := []) (rest := []) rfl rfl (Nat.le_of_eq rfl) (hb hby at_112) (by decide) (by decide) ?_
      intro T40 h40 v40 L40 X40 e40 q40
      obtain ⟨rfl, M40, rfl⟩ := q40
      have N40 := Fr.app N39 M40
      show G (T40.setTop (mkF m 115 #[.val (.int i0), .val (.int i1), .val (.int i2), .val (.int i3), .val (.ref t_1), .val (.ref t_2), .val (.ref t_3), .val (.ref w2), .val (.int (1 : Int32)), .val (.ref b30), .val (.ref t_32)] [(.int (nar .boolean (nar .boolean (nar .boolean (1 : Int32)))))]))
      refine hG _ _ (fun t k => XS.iload X40.here hx rfl (hb hby at_115) rfl k) ?_
      show G (T40.setTop (mkF m 117 #[.val (.int i0), .val (.int i1), .val (.int i2), .val (.int i3), .val (.ref t_1), .val (.ref t_2), .val (.ref t_3), .val (.ref w2), .val (.int (1 : Int32)), .val (.ref b30), .val (.ref t_32)] [(.int (1 : Int32)), (.int (nar .boolean (nar .boolean (nar .boolean (1 : Int32)))))]))
      refine hG _ _ (fun t k => XS.icmpNo X40.here hx rfl (hb hby at_117) rfl (teq (by decide)).2 k) ?_
      show G (T40.setTop (mkF m 120 #[.val (.int i0), .val (.int i1), .val (.int i2), .val (.int i3), .val (.ref t_1), .val (.ref t_2), .val (.ref t_3), .val (.ref w2), .val (.int (1 : Int32)), .val (.ref b30), .val (.ref t_32)] []))
      refine hG _ _ (fun t k => XS.aload X40.here hx rfl (hb hby at_120) rfl rfl k) ?_
      show G (T40.setTop (mkF m 122 #[.val (.int i0), .val (.int i1), .val (.int i2), .val (.int i3), .val (.ref t_1), .val (.ref t_2), .val (.ref t_3), .val (.ref w2), .val (.int (1 : Int32)), .val (.ref b30), .val (.ref t_32)] [(.ref b30)]))
      have f42 := (r31_1.keep J32 nin0)
      have f43 := (r31_0.keep J32)
      refine own_callV (C := "com/example/perenna/perenna/Visibility$Field") X40 hx hZ hG hown (hw _ (List.mem_of_getElem? (i := 64) rfl)) (hw _ (List.mem_of_getElem? (i := 65) rfl)) (hw _ (List.mem_of_getElem? (i := 67) rfl)) (hw _ (List.mem_of_getElem? (i := 66) rfl)) (hw _ (List.mem_of_getElem? (i := 39) rfl)) (hw _ (List.mem_of_getElem? (i := 68) rfl)) (by decide) 0 (own_get_name l Z a0 hw b30 t_1 h32 O32 f42) (by decide) (by decide) e40 f43 (by rw [hml]; rfl) (lenOf own_pd9 rfl) (argsL := []) (rest := []) rfl rfl (Nat.le_of_eq rfl) (hb hby at_122) (by decide) (by decide) ?_
      intro T41 h41 v41 L41 X41 e41 q41
      obtain ⟨rfl, M41, rfl⟩ := q41
      have N41 := Fr.app N40 M41
      show G (T41.setTop (mkF m 125 #[.val (.int i0), .val (.int i1), .val (.int i2), .val (.int i3), .val (.ref t_1), .val (.ref t_2), .val (.ref t_3), .val (.ref w2), .val (.int (1 : Int32)), .val (.ref b30), .val (.ref t_32)] [(.ref t_1)]))
      refine hG _ _ (fun t k => XS.aload X41.here hx rfl (hb hby at_125) rfl rfl k) ?_
      show G (T41.setTop (mkF m 127 #[.val (.int i0), .val (.int i1), .val (.int i2), .val (.int i3), .val (.ref t_1), .val (.ref t_2), .val (.ref t_3), .val (.ref w2), .val (.int (1 : Int32)), .val (.ref b30), .val (.ref t_32)] [(.ref t_1), (.ref t_1)]))
      refine own_callV (C := "java/lang/String") X41 hx hZ hG hown (hw _ (List.mem_of_getElem? (i := 69) rfl)) (hw _ (List.mem_of_getElem? (i := 70) rfl)) (hw _ (List.mem_of_getElem? (i := 72) rfl)) (hw _ (List.mem_of_getElem? (i := 71) rfl)) (hw _ (List.mem_of_getElem? (i := 7) rfl)) (hw _ (List.mem_of_getElem? (i := 73) rfl)) (by decide) 0 (own_eqs l Z a0 hw t_1 h32 O32) (by decide) (by decide) e41 f35 (by rw [hml]; rfl) (lenOf own_pd12 rfl) (argsL := [(.ref t_1)]) (rest := []) rfl rfl (Nat.le_of_eq rfl) (hb hby at_127) (by decide) (by decide) ?_
      intro T44 h44 v44 L44 X44 e44 q44
      obtain ⟨rfl, M44, rfl⟩ := q44
      have N44 := Fr.app N41 M44
      show G (T44.setTop (mkF m 130 #[.val (.int i0), .val (.int i1), .val (.int i2), .val (.int i3), .val (.ref t_1), .val (.ref t_2), .val (.ref t_3), .val (.ref w2), .val (.int (1 : Int32)), .val (.ref b30), .val (.ref t_32)] [(.int (1 : Int32))]))
      refine hG _ _ (fun t k => XS.ifNo X44.here hx rfl (hb hby at_130) rfl ((if0 _ _).trans (feq (by decide)).1) k) ?_
      show G (T44.setTop (mkF m 133 #[.val (.int i0), .val (.int i1), .val (.int i2), .val (.int i3), .val (.ref t_1), .val (.ref t_2), .val (.ref t_3), .val (.ref w2), .val (.int (1 : Int32)), .val (.ref b30), .val (.ref t_32)] []))
      refine hG _ _ (fun t k => XS.aload X44.here hx rfl (hb hby at_133) rfl rfl k) ?_
      show G (T44.setTop (mkF m 135 #[.val (.int i0), .val (.int i1), .val (.int i2), .val (.int i3), .val (.ref t_1), .val (.ref t_2), .val (.ref t_3), .val (.ref w2), .val (.int (1 : Int32)), .val (.ref b30), .val (.ref t_32)] [(.ref b30)]))
      have f46 := (r31_2.keep J32 nin0)
      refine own_callV (C := "com/example/perenna/perenna/Visibility$Field") X44 hx hZ hG hown (hw _ (List.mem_of_getElem? (i := 74) rfl)) (hw _ (List.mem_of_getElem? (i := 75) rfl)) (hw _ (List.mem_of_getElem? (i := 77) rfl)) (hw _ (List.mem_of_getElem? (i := 76) rfl)) (hw _ (List.mem_of_getElem? (i := 39) rfl)) (hw _ (List.mem_of_getElem? (i := 78) rfl)) (by decide) 0 (own_get_member l Z a0 hw b30 t_2 h32 O32 f46) (by decide) (by decide) e44 f43 (by rw [hml]; rfl) (lenOf own_pd9 rfl) (argsL := []) (rest := []) rfl rfl (Nat.le_of_eq rfl) (hb hby at_135) (by decide) (by decide) ?_
      intro T45 h45 v45 L45 X45 e45 q45
      obtain ⟨rfl, M45, rfl⟩ := q45
      have N45 := Fr.app N44 M45
      show G (T45.setTop (mkF m 138 #[.val (.int i0), .val (.int i1), .val (.int i2), .val (.int i3), .val (.ref t_1), .val (.ref t_2), .val (.ref t_3), .val (.ref w2), .val (.int (1 : Int32)), .val (.ref b30), .val (.ref t_32)] [(.ref t_2)]))
      refine hG _ _ (fun t k => XS.aload X45.here hx rfl (hb hby at_138) rfl rfl k) ?_
      show G (T45.setTop (mkF m 140 #[.val (.int i0), .val (.int i1), .val (.int i2), .val (.int i3), .val (.ref t_1), .val (.ref t_2), .val (.ref t_3), .val (.ref w2), .val (.int (1 : Int32)), .val (.ref b30), .val (.ref t_32)] [(.ref t_2), (.ref t_2)]))
      have f48 := ((((r2_0.keep J3).ext E30).keep J31).keep J32)
      refine own_callV (C := "java/lang/String") X45 hx hZ hG hown (hw _ (List.mem_of_getElem? (i := 69) rfl)) (hw _ (List.mem_of_getElem? (i := 70) rfl)) (hw _ (List.mem_of_getElem? (i := 72) rfl)) (hw _ (List.mem_of_getElem? (i := 71) rfl)) (hw _ (List.mem_of_getElem? (i := 7) rfl)) (hw _ (List.mem_of_getElem? (i := 73) rfl)) (by decide) 0 (own_eqs l Z a0 hw t_2 h32 O32) (by decide) (by decide) e45 f48 (by rw [hml]; rfl) (lenOf own_pd12 rfl) (argsL := [(.ref t_2)]) (rest := []) rfl rfl (Nat.le_of_eq rfl) (hb hby at_140) (by decide) (by decide) ?_
      intro T47 h47 v47 L47 X47 e47 q47
      obtain ⟨rfl, M47, rfl⟩ := q47
      have N47 := Fr.app N45 M47
      show G (T47.setTop (mkF m 143 #[.val (.int i0), .val (.int i1), .val (.int i2), .val (.int i3), .val (.ref t_1), .val (.ref t_2), .val (.ref t_3), .val (.ref w2), .val (.int (1 : Int32)), .val (.ref b30), .val (.ref t_32)] [(.int (1 : Int32))]))
      refine hG _ _ (fun t k => XS.ifNo X47.here hx rfl (hb hby at_143) rfl ((if0 _ _).trans (feq (by decide)).1) k) ?_
      show G (T47.setTop (mkF m 146 #[.val (.int i0), .val (.int i1), .val (.int i2), .val (.int i3), .val (.ref t_1), .val (.ref t_2), .val (.ref t_3), .val (.ref w2), .val (.int (1 : Int32)), .val (.ref b30), .val (.ref t_32)] []))
      refine hG _ _ (fun t k => XS.aload X47.here hx rfl (hb hby at_146) rfl rfl k) ?_
      show G (T47.setTop (mkF m 148 #[.val (.int i0), .val (.int i1), .val (.int i2), .val (.int i3), .val (.ref t_1), .val (.ref t_2), .val (.ref t_3), .val (.ref w2), .val (.int (1 : Int32)), .val (.ref b30), .val (.ref t_32)] [(.ref b30)]))
      have f50 := (r31_3.keep J32 nin0)
      refine own_callV (C := "com/example/perenna/perenna/Visibility$Field") X47 hx hZ hG hown (hw _ (List.mem_of_getElem? (i := 79) rfl)) (hw _ (List.mem_of_getElem? (i := 80) rfl)) (hw _ (List.mem_of_getElem? (i := 82) rfl)) (hw _ (List.mem_of_getElem? (i := 81) rfl)) (hw _ (List.mem_of_getElem? (i := 39) rfl)) (hw _ (List.mem_of_getElem? (i := 83) rfl)) (by decide) 0 (own_get_byDefault l Z a0 hw b30 w2 h32 O32 f50) (by decide) (by decide) e47 f43 (by rw [hml]; rfl) (lenOf own_pd10 rfl) (argsL := []) (rest := []) rfl rfl (Nat.le_of_eq rfl) (hb hby at_148) (by decide) (by decide) ?_
      intro T49 h49 v49 L49 X49 e49 q49
      obtain ⟨rfl, M49, rfl⟩ := q49
      have N49 := Fr.app N47 M49
      show G (T49.setTop (mkF m 151 #[.val (.int i0), .val (.int i1), .val (.int i2), .val (.int i3), .val (.ref t_1), .val (.ref t_2), .val (.ref t_3), .val (.ref w2), .val (.int (1 : Int32)), .val (.ref b30), .val (.ref t_32)] [(.ref w2)]))
      refine hG _ _ (fun t k => XS.aload X49.here hx rfl (hb hby at_151) rfl rfl k) ?_
      show G (T49.setTop (mkF m 153 #[.val (.int i0), .val (.int i1), .val (.int i2), .val (.int i3), .val (.ref t_1), .val (.ref t_2), .val (.ref t_3), .val (.ref w2), .val (.int (1 : Int32)), .val (.ref b30), .val (.ref t_32)] [(.ref w2), (.ref w2)]))
      refine hG _ _ (fun t k => Jvm.RoadKit.acmp (g := (mkF m 153 #[.val (.int i0), .val (.int i1), .val (.int i2), .val (.int i3), .val (.ref t_1), .val (.ref t_2), .val (.ref t_3), .val (.ref w2), .val (.int (1 : Int32)), .val (.ref b30), .val (.ref t_32)] [(.ref w2), (.ref w2)])) X49 hx rfl rfl rfl (pc0 := 153) (pc' := 156) (same := true) rfl (hb hby at_153) rfl (decide_eq_true rfl) (by decide) (by decide) k) ?_
      show G (T49.setTop (mkF m 156 #[.val (.int i0), .val (.int i1), .val (.int i2), .val (.int i3), .val (.ref t_1), .val (.ref t_2), .val (.ref t_3), .val (.ref w2), .val (.int (1 : Int32)), .val (.ref b30), .val (.ref t_32)] []))
      refine hG _ _ (fun t k => XS.aload X49.here hx rfl (hb hby at_156) rfl rfl k) ?_
      show G (T49.setTop (mkF m 158 #[.val (.int i0), .val (.int i1), .val (.int i2), .val (.int i3), .val (.ref t_1), .val (.ref t_2), .val (.ref t_3), .val (.ref w2), .val (.int (1 : Int32)), .val (.ref b30), .val (.ref t_32)] [(.ref b30)]))
      have f52 := (r31_4.keep J32 nin0)
      refine own_callV (C := "com/example/perenna/perenna/Visibility$Field") X49 hx hZ hG hown (hw _ (List.mem_of_getElem? (i := 84) rfl)) (hw _ (List.mem_of_getElem? (i := 85) rfl)) (hw _ (List.mem_of_getElem? (i := 87) rfl)) (hw _ (List.mem_of_getElem? (i := 86) rfl)) (hw _ (List.mem_of_getElem? (i := 39) rfl)) (hw _ (List.mem_of_getElem? (i := 88) rfl)) (by decide) 0 (own_get_fixed l Z a0 hw b30 (nar .boolean (1 : Int32)) h32 O32 f52) (by decide) (by decide) e49 f43 (by rw [hml]; rfl) (lenOf own_pd11 rfl) (argsL := []) (rest := []) rfl rfl (Nat.le_of_eq rfl) (hb hby at_158) (by decide) (by decide) ?_
      intro T51 h51 v51 L51 X51 e51 q51
      obtain ⟨rfl, M51, rfl⟩ := q51
      have N51 := Fr.app N49 M51
      show G (T51.setTop (mkF m 161 #[.val (.int i0), .val (.int i1), .val (.int i2), .val (.int i3), .val (.ref t_1), .val (.ref t_2), .val (.ref t_3), .val (.ref w2), .val (.int (1 : Int32)), .val (.ref b30), .val (.ref t_32)] [(.int (nar .boolean (nar .boolean (1 : Int32))))]))
      refine hG _ _ (fun t k => XS.iload X51.here hx rfl (hb hby at_161) rfl k) ?_
      show G (T51.setTop (mkF m 163 #[.val (.int i0), .val (.int i1), .val (.int i2), .val (.int i3), .val (.ref t_1), .val (.ref t_2), .val (.ref t_3), .val (.ref w2), .val (.int (1 : Int32)), .val (.ref b30), .val (.ref t_32)] [(.int (1 : Int32)), (.int (nar .boolean (nar .boolean (1 : Int32))))]))
      refine hG _ _ (fun t k => XS.icmpNo X51.here hx rfl (hb hby at_163) rfl (teq (by decide)).2 k) ?_
      show G (T51.setTop (mkF m 166 #[.val (.int i0), .val (.int i1), .val (.int i2), .val (.int i3), .val (.ref t_1), .val (.ref t_2), .val (.ref t_3), .val (.ref w2), .val (.int (1 : Int32)), .val (.ref b30), .val (.ref t_32)] []))
      refine hG _ _ (fun t k => XS.iconst X51.here hx rfl (hb hby at_166) k) ?_
      show G (T51.setTop (mkF m 167 #[.val (.int i0), .val (.int i1), .val (.int i2), .val (.int i3), .val (.ref t_1), .val (.ref t_2), .val (.ref t_3), .val (.ref w2), .val (.int (1 : Int32)), .val (.ref b30), .val (.ref t_32)] [(.int (1 : Int32))]))
      refine hG _ _ (fun t k => XS.goto X51.here hx rfl (pc0 := 167) (pc' := 171) rfl (hb hby at_167) (by decide) (by decide) k) ?_
      show G (T51.setTop (mkF m 171 #[.val (.int i0), .val (.int i1), .val (.int i2), .val (.int i3), .val (.ref t_1), .val (.ref t_2), .val (.ref t_3), .val (.ref w2), .val (.int (1 : Int32)), .val (.ref b30), .val (.ref t_32)] [(.int (1 : Int32))]))
      exact own_retN hR hret (by simp) X51 hx (hb hby at_171) (by decide) (by decide) (by rw [e51]; exact ⟨rfl, N51, K32⟩)
  · skip
    refine hG _ _ (fun t k => XS.ifNo X3.here hx rfl (hb hby at_21) rfl ((if0 _ _).trans (feq hc21_4).1) k) ?_
    show G (T3.setTop (mkF m 24 #[.val (.int i0), .val (.int i1), .val (.int i2), .val (.int i3), .val (.ref t_1), .val (.ref t_2), .val (.ref t_3), .unset, .unset, .unset, .unset] []))
    obtain ⟨T53, X53, e53, st53⟩ := getS2 X3 hx hZ hown (host := "") (Or.inl (hw _ (List.mem_of_getElem? (i := 34) rfl))) Via.refl e3 (own_sta g2_S O3) (g := (mkF m 24 #[.val (.int i0), .val (.int i1), .val (.int i2), .val (.int i3), .val (.ref t_1), .val (.ref t_2), .val (.ref t_3), .unset, .unset, .unset, .unset] [])) rfl (hb hby at_24)
    refine hG _ _ st53 ?_
    show G (T53.setTop (mkF m 27 #[.val (.int i0), .val (.int i1), .val (.int i2), .val (.int i3), .val (.ref t_1), .val (.ref t_2), .val (.ref t_3), .unset, .unset, .unset, .unset] [(.ref w1)]))
    refine hG _ _ (fun t k => XS.goto X53.here hx rfl (pc0 := 27) (pc' := 33) rfl (hb hby at_27) (by decide) (by decide) k) ?_
    show G (T53.setTop (mkF m 33 #[.val (.int i0), .val (.int i1), .val (.int i2), .val (.int i3), .val (.ref t_1), .val (.ref t_2), .val (.ref t_3), .unset, .unset, .unset, .unset] [(.ref w1)]))
    refine hG _ _ (fun t k => XS.astore X53.here hx rfl (hb hby at_33) rfl rfl (l' := #[.val (.int i0), .val (.int i1), .val (.int i2), .val (.int i3), .val (.ref t_1), .val (.ref t_2), .val (.ref t_3), .val (.ref w1), .unset, .unset, .unset]) rfl k) ?_
    show G (T53.setTop (mkF m 35 #[.val (.int i0), .val (.int i1), .val (.int i2), .val (.int i3), .val (.ref t_1), .val (.ref t_2), .val (.ref t_3), .val (.ref w1), .unset, .unset, .unset] []))
    refine hG _ _ (fun t k => XS.iloadN X53.here hx rfl (hb hby at_35) rfl k) ?_
    show G (T53.setTop (mkF m 36 #[.val (.int i0), .val (.int i1), .val (.int i2), .val (.int i3), .val (.ref t_1), .val (.ref t_2), .val (.ref t_3), .val (.ref w1), .unset, .unset, .unset] [(.int i3)]))
    refine hG _ _ (fun t k => XS.iconst X53.here hx rfl (hb hby at_36) k) ?_
    show G (T53.setTop (mkF m 37 #[.val (.int i0), .val (.int i1), .val (.int i2), .val (.int i3), .val (.ref t_1), .val (.ref t_2), .val (.ref t_3), .val (.ref w1), .unset, .unset, .unset] [(.int (2 : Int32)), (.int i3)]))
    refine hG _ _ (fun t k => XS.iand X53.here hx rfl (hb hby at_37) rfl k) ?_
    show G (T53.setTop (mkF m 38 #[.val (.int i0), .val (.int i1), .val (.int i2), .val (.int i3), .val (.ref t_1), .val (.ref t_2), .val (.ref t_3), .val (.ref w1), .unset, .unset, .unset] [(.int (i3 &&& (2 : Int32)))]))
    by_cases hc38_54 : (i3 &&& (2 : Int32)) = (0 : Int32)
    · skip
      refine hG _ _ (fun t k => XS.ifYes X53.here hx rfl (pc0 := 38) (pc' := 45) rfl (hb hby at_38) rfl ((if0 _ _).trans (teq hc38_54).1) (by decide) (by decide) k) ?_
      show G (T53.setTop (mkF m 45 #[.val (.int i0), .val (.int i1), .val (.int i2), .val (.int i3), .val (.ref t_1), .val (.ref t_2), .val (.ref t_3), .val (.ref w1), .unset, .unset, .unset] []))
      refine hG _ _ (fun t k => XS.iconst X53.here hx rfl (hb hby at_45) k) ?_
      show G (T53.setTop (mkF m 46 #[.val (.int i0), .val (.int i1), .val (.int i2), .val (.int i3), .val (.ref t_1), .val (.ref t_2), .val (.ref t_3), .val (.ref w1), .unset, .unset, .unset] [(.int (0 : Int32))]))
      refine hG _ _ (fun t k => XS.istore X53.here hx rfl (hb hby at_46) rfl (l' := #[.val (.int i0), .val (.int i1), .val (.int i2), .val (.int i3), .val (.ref t_1), .val (.ref t_2), .val (.ref t_3), .val (.ref w1), .val (.int (0 : Int32)), .unset, .unset]) rfl k) ?_
      show G (T53.setTop (mkF m 48 #[.val (.int i0), .val (.int i1), .val (.int i2), .val (.int i3), .val (.ref t_1), .val (.ref t_2), .val (.ref t_3), .val (.ref w1), .val (.int (0 : Int32)), .unset, .unset] []))
      obtain ⟨T55, h55, X55, e55, E55, A55, D55, -, st55⟩ := newO X53 hx hZ hown (hw _ (List.mem_of_getElem? (i := 37) rfl)) (hw _ (List.mem_of_getElem? (i := 38) rfl)) (hw _ (List.mem_of_getElem? (i := 39) rfl)) e53 (g := (mkF m 48 #[.val (.int i0), .val (.int i1), .val (.int i2), .val (.int i3), .val (.ref t_1), .val (.ref t_2), .val (.ref t_3), .val (.ref w1), .val (.int (0 : Int32)), .unset, .unset] [])) rfl (hb hby at_48) (by decide) (by decide)
      obtain ⟨b55, z55⟩ : ∃ z, z = h3.size := ⟨_, rfl⟩
      rw [← z55] at A55 D55 st55
      refine hG _ _ st55 ?_
      have K55 : Keep h0 h55 [] := K3.ext E55
      have O55 : own_Old Z h55 := O3.ext E55
      show G (T55.setTop (mkF m 51 #[.val (.int i0), .val (.int i1), .val (.int i2), .val (.int i3), .val (.ref t_1), .val (.ref t_2), .val (.ref t_3), .val (.ref w1), .val (.int (0 : Int32)), .unset, .unset] [(.ref b55)]))
      refine hG _ _ (fun t k => XS.dup X55.here hx rfl (hb hby at_51) rfl rfl k) ?_
      show G (T55.setTop (mkF m 52 #[.val (.int i0), .val (.int i1), .val (.int i2), .val (.int i3), .val (.ref t_1), .val (.ref t_2), .val (.ref t_3), .val (.ref w1), .val (.int (0 : Int32)), .unset, .unset] [(.ref b55), (.ref b55)]))
      refine hG _ _ (fun t k => XS.aload X55.here hx rfl (hb hby at_52) rfl rfl k) ?_
      show G (T55.setTop (mkF m 54 #[.val (.int i0), .val (.int i1), .val (.int i2), .val (.int i3), .val (.ref t_1), .val (.ref t_2), .val (.ref t_3), .val (.ref w1), .val (.int (0 : Int32)), .unset, .unset] [(.ref t_1), (.ref b55), (.ref b55)]))
      refine hG _ _ (fun t k => XS.aload X55.here hx rfl (hb hby at_54) rfl rfl k) ?_
      show G (T55.setTop (mkF m 56 #[.val (.int i0), .val (.int i1), .val (.int i2), .val (.int i3), .val (.ref t_1), .val (.ref t_2), .val (.ref t_3), .val (.ref w1), .val (.int (0 : Int32)), .unset, .unset] [(.ref t_2), (.ref t_1), (.ref b55), (.ref b55)]))
      refine hG _ _ (fun t k => XS.aload X55.here hx rfl (hb hby at_56) rfl rfl k) ?_
      show G (T55.setTop (mkF m 58 #[.val (.int i0), .val (.int i1), .val (.int i2), .val (.int i3), .val (.ref t_1), .val (.ref t_2), .val (.ref t_3), .val (.ref w1), .val (.int (0 : Int32)), .unset, .unset] [(.ref w1), (.ref t_2), (.ref t_1), (.ref b55), (.ref b55)]))
      refine hG _ _ (fun t k => XS.iload X55.here hx rfl (hb hby at_58) rfl k) ?_
      show G (T55.setTop (mkF m 60 #[.val (.int i0), .val (.int i1), .val (.int i2), .val (.int i3), .val (.ref t_1), .val (.ref t_2), .val (.ref t_3), .val (.ref w1), .val (.int (0 : Int32)), .unset, .unset] [(.int (0 : Int32)), (.ref w1), (.ref t_2), (.ref t_1), (.ref b55), (.ref b55)]))
      refine own_callI X55 hx hZ hG hown rfl (hw _ (List.mem_of_getElem? (i := 40) rfl)) (hw _ (List.mem_of_getElem? (i := 41) rfl)) (hw _ (List.mem_of_getElem? (i := 39) rfl)) (hw _ (List.mem_of_getElem? (i := 42) rfl)) (by decide) 1 (own_finit l Z a0 hw b55 t_1 t_2 w1 (0 : Int32) .null .null .null (.int (0 : Int32)) h55 O55 A55 (own_ge O3 (Nat.le_of_eq z55.symm)) (D55 (Or.inr (hw _ (List.mem_of_getElem? (i := 50) rfl))) (ty := (.object "java/lang/String")) (by decide)) (D55 (Or.inr (hw _ (List.mem_of_getElem? (i := 52) rfl))) (ty := (.object "java/lang/String")) (by decide)) (D55 (Or.inr (hw _ (List.mem_of_getElem? (i := 54) rfl))) (ty := (.object "com/example/perenna/perenna/Visibility")) (by decide)) (D55 (Or.inr (hw _ (List.mem_of_getElem? (i := 56) rfl))) (ty := .boolean) (by decide))) (by decide) (by decide) e55 (by rw [hml]; rfl) (lenOf own_pd7 rfl) (argsL := [(.ref t_1), (.ref t_2), (.ref w1), (.int (0 : Int32))]) (rest := [(.ref b55)]) rfl rfl (Nat.le_of_eq rfl) (hb hby at_60) (by decide) (by decide) ?_
      intro T56 h56 v56 L56 X56 e56 q56
      obtain ⟨rfl, M56, J56, r56_0, r56_1, r56_2, r56_3, r56_4⟩ := q56
      have N56 := Fr.app N3 M56
      have K56 : Keep h0 h56 [] := K55.trans J56 (allS (Or.inr (Nat.le_trans K3.1 (Nat.le_of_eq z55.symm))) all0)
      have O56 : own_Old Z h56 := O55.keep J56 (allS (own_ge O3 (Nat.le_of_eq z55.symm)) all0)
      show G (T56.setTop (mkF m 63 #[.val (.int i0), .val (.int i1), .val (.int i2), .val (.int i3), .val (.ref t_1), .val (.ref t_2), .val (.ref t_3), .val (.ref w1), .val (.int (0 : Int32)), .unset, .unset] [(.ref b55)]))
      refine hG _ _ (fun t k => XS.astore X56.here hx rfl (hb hby at_63) rfl rfl (l' := #[.val (.int i0), .val (.int i1), .val (.int i2), .val (.int i3), .val (.ref t_1), .val (.ref t_2), .val (.ref t_3), .val (.ref w1), .val (.int (0 : Int32)), .val (.ref b55), .unset]) rfl k) ?_
      show G (T56.setTop (mkF m 65 #[.val (.int i0), .val (.int i1), .val (.int i2), .val (.int i3), .val (.ref t_1), .val (.ref t_2), .val (.ref t_3), .val (.ref w1), .val (.int (0 : Int32)), .val (.ref b55), .unset] []))
      refine hG _ _ (fun t k => XS.aload X56.here hx rfl (hb hby at_65) rfl rfl k) ?_
      show G (T56.setTop (mkF m 67 #[.val (.int i0), .val (.int i1), .val (.int i2), .val (.int i3), .val (.ref t_1), .val (.ref t_2), .val (.ref t_3), .val (.ref w1), .val (.int (0 : Int32)), .val (.ref b55), .unset] [(.ref b55)]))
      refine hG _ _ (fun t k => XS.aload X56.here hx rfl (hb hby at_67) rfl rfl k) ?_
      show G (T56.setTop (mkF m 69 #[.val (.int i0), .val (.int i1), .val (.int i2), .val (.int i3), .val (.ref t_1), .val (.ref t_2), .val (.ref t_3), .val (.ref w1), .val (.int (0 : Int32)), .val (.ref b55), .unset] [(.ref t_3), (.ref b55)]))
      refine own_callV (C := "com/example/perenna/perenna/Visibility$Field") X56 hx hZ hG hown (hw _ (List.mem_of_getElem? (i := 57) rfl)) (hw _ (List.mem_of_getElem? (i := 58) rfl)) (hw _ (List.mem_of_getElem? (i := 60) rfl)) (hw _ (List.mem_of_getElem? (i := 59) rfl)) (hw _ (List.mem_of_getElem? (i := 39) rfl)) (hw _ (List.mem_of_getElem? (i := 61) rfl)) (by decide) 0 (own_within l Z a0 hw b55 t_3 t_1 w1 (nar .boolean (0 : Int32)) h56 O56 r56_1 r56_3 r56_4) (by decide) (by decide) e56 r56_0 (by rw [hml]; rfl) (lenOf own_pd8 rfl) (argsL := [(.ref t_3)]) (rest := []) rfl rfl (Nat.le_of_eq rfl) (hb hby at_69) (by decide) (by decide) ?_
      intro T57 h57 v57 L57 X57 e57 q57
      obtain ⟨t_57, rfl, M57, J57, y57_0, r57_0, r57_1, r57_2, r57_3, r57_4⟩ := q57
      have N57 := Fr.app N56 M57
      have K57 : Keep h0 h57 [] := K56.trans J57 all0
      have O57 : own_Old Z h57 := O56.keep J57 all0
      show G (T57.setTop (mkF m 72 #[.val (.int i0), .val (.int i1), .val (.int i2), .val (.int i3), .val (.ref t_1), .val (.ref t_2), .val (.ref t_3), .val (.ref w1), .val (.int (0 : Int32)), .val (.ref b55), .unset] [(.ref t_57)]))
      refine hG _ _ (fun t k => XS.astore X57.here hx rfl (hb hby at_72) rfl rfl (l' := #[.val (.int i0), .val (.int i1), .val (.int i2), .val (.int i3), .val (.ref t_1), .val (.ref t_2), .val (.ref t_3), .val (.ref w1), .val (.int (0 : Int32)), .val (.ref b55), .val (.ref t_57)]) rfl k) ?_
      show G (T57.setTop (mkF m 74 #[.val (.int i0), .val (.int i1), .val (.int i2), .val (.int i3), .val (.ref t_1), .val (.ref t_2), .val (.ref t_3), .val (.ref w1), .val (.int (0 : Int32)), .val (.ref b55), .val (.ref t_57)] []))
      refine hG _ _ (fun t k => XS.aload X57.here hx rfl (hb hby at_74) rfl rfl k) ?_
      show G (T57.setTop (mkF m 76 #[.val (.int i0), .val (.int i1), .val (.int i2), .val (.int i3), .val (.ref t_1), .val (.ref t_2), .val (.ref t_3), .val (.ref w1), .val (.int (0 : Int32)), .val (.ref b55), .val (.ref t_57)] [(.ref t_57)]))
      refine own_callV (C := "com/example/perenna/perenna/Visibility$Field") X57 hx hZ hG hown (hw _ (List.mem_of_getElem? (i := 64) rfl)) (hw _ (List.mem_of_getElem? (i := 65) rfl)) (hw _ (List.mem_of_getElem? (i := 67) rfl)) (hw _ (List.mem_of_getElem? (i := 66) rfl)) (hw _ (List.mem_of_getElem? (i := 39) rfl)) (hw _ (List.mem_of_getElem? (i := 68) rfl)) (by decide) 0 (own_get_name l Z a0 hw t_57 t_1 h57 O57 r57_1) (by decide) (by decide) e57 r57_0 (by rw [hml]; rfl) (lenOf own_pd9 rfl) (argsL := []) (rest := []) rfl rfl (Nat.le_of_eq rfl) (hb hby at_76) (by decide) (by decide) ?_
      intro T58 h58 v58 L58 X58 e58 q58
      obtain ⟨rfl, M58, rfl⟩ := q58
      have N58 := Fr.app N57 M58
      show G (T58.setTop (mkF m 79 #[.val (.int i0), .val (.int i1), .val (.int i2), .val (.int i3), .val (.ref t_1), .val (.ref t_2), .val (.ref t_3), .val (.ref w1), .val (.int (0 : Int32)), .val (.ref b55), .val (.ref t_57)] [(.ref t_1)]))
      refine hG _ _ (fun t k => XS.aload X58.here hx rfl (hb hby at_79) rfl rfl k) ?_
      show G (T58.setTop (mkF m 81 #[.val (.int i0), .val (.int i1), .val (.int i2), .val (.int i3), .val (.ref t_1), .val (.ref t_2), .val (.ref t_3), .val (.ref w1), .val (.int (0 : Int32)), .val (.ref b55), .val (.ref t_57)] [(.ref t_1), (.ref t_1)]))
      have f60 := (((((r1_0.keep J2).keep J3).ext E55).keep J56).keep J57)
      refine own_callV (C := "java/lang/String") X58 hx hZ hG hown (hw _ (List.mem_of_getElem? (i := 69) rfl)) (hw _ (List.mem_of_getElem? (i := 70) rfl)) (hw _ (List.mem_of_getElem? (i := 72) rfl)) (hw _ (List.mem_of_getElem? (i := 71) rfl)) (hw _ (List.mem_of_getElem? (i := 7) rfl)) (hw _ (List.mem_of_getElem? (i := 73) rfl)) (by decide) 0 (own_eqs l Z a0 hw t_1 h57 O57) (by decide) (by decide) e58 f60 (by rw [hml]; rfl) (lenOf own_pd12 rfl) (argsL := [(.ref t_1)]) (rest := []) rfl rfl (Nat.le_of_eq rfl) (hb hby at_81) (by decide) (by decide) ?_
      intro T59 h59 v59 L59 X59 e59 q59
      obtain ⟨rfl, M59, rfl⟩ := q59
      have N59 := Fr.app N58 M59
      show G (T59.setTop (mkF m 84 #[.val (.int i0), .val (.int i1), .val (.int i2), .val (.int i3), .val (.ref t_1), .val (.ref t_2), .val (.ref t_3), .val (.ref w1), .val (.int (0 : Int32)), .val (.ref b55), .val (.ref t_57)] [(.int (1 : Int32))]))
      refine hG _ _ (fun t k => XS.ifNo X59.here hx rfl (hb hby at_84) rfl ((if0 _ _).trans (feq (by decide)).1) k) ?_
      show G (T59.setTop (mkF m 87 #[.val (.int i0), .val (.int i1), .val (.int i2), .val (.int i3), .val (.ref t_1), .val (.ref t_2), .val (.ref t_3), .val (.ref w1), .val (.int (0 : Int32)), .val (.ref b55), .val (.ref t_57)] []))
      refine hG _ _ (fun t k => XS.aload X59.here hx rfl (hb hby at_87) rfl rfl k) ?_
      show G (T59.setTop (mkF m 89 #[.val (.int i0), .val (.int i1), .val (.int i2), .val (.int i3), .val (.ref t_1), .val (.ref t_2), .val (.ref t_3), .val (.ref w1), .val (.int (0 : Int32)), .val (.ref b55), .val (.ref t_57)] [(.ref t_57)]))
      refine own_callV (C := "com/example/perenna/perenna/Visibility$Field") X59 hx hZ hG hown (hw _ (List.mem_of_getElem? (i := 74) rfl)) (hw _ (List.mem_of_getElem? (i := 75) rfl)) (hw _ (List.mem_of_getElem? (i := 77) rfl)) (hw _ (List.mem_of_getElem? (i := 76) rfl)) (hw _ (List.mem_of_getElem? (i := 39) rfl)) (hw _ (List.mem_of_getElem? (i := 78) rfl)) (by decide) 0 (own_get_member l Z a0 hw t_57 t_3 h57 O57 r57_2) (by decide) (by decide) e59 r57_0 (by rw [hml]; rfl) (lenOf own_pd9 rfl) (argsL := []) (rest := []) rfl rfl (Nat.le_of_eq rfl) (hb hby at_89) (by decide) (by decide) ?_
      intro T61 h61 v61 L61 X61 e61 q61
      obtain ⟨rfl, M61, rfl⟩ := q61
      have N61 := Fr.app N59 M61
      show G (T61.setTop (mkF m 92 #[.val (.int i0), .val (.int i1), .val (.int i2), .val (.int i3), .val (.ref t_1), .val (.ref t_2), .val (.ref t_3), .val (.ref w1), .val (.int (0 : Int32)), .val (.ref b55), .val (.ref t_57)] [(.ref t_3)]))
      refine hG _ _ (fun t k => XS.aload X61.here hx rfl (hb hby at_92) rfl rfl k) ?_
      show G (T61.setTop (mkF m 94 #[.val (.int i0), .val (.int i1), .val (.int i2), .val (.int i3), .val (.ref t_1), .val (.ref t_2), .val (.ref t_3), .val (.ref w1), .val (.int (0 : Int32)), .val (.ref b55), .val (.ref t_57)] [(.ref t_3), (.ref t_3)]))
      have f63 := (((r3_0.ext E55).keep J56).keep J57)
      refine own_callV (C := "java/lang/String") X61 hx hZ hG hown (hw _ (List.mem_of_getElem? (i := 69) rfl)) (hw _ (List.mem_of_getElem? (i := 70) rfl)) (hw _ (List.mem_of_getElem? (i := 72) rfl)) (hw _ (List.mem_of_getElem? (i := 71) rfl)) (hw _ (List.mem_of_getElem? (i := 7) rfl)) (hw _ (List.mem_of_getElem? (i := 73) rfl)) (by decide) 0 (own_eqs l Z a0 hw t_3 h57 O57) (by decide) (by decide) e61 f63 (by rw [hml]; rfl) (lenOf own_pd12 rfl) (argsL := [(.ref t_3)]) (rest := []) rfl rfl (Nat.le_of_eq rfl) (hb hby at_94) (by decide) (by decide) ?_
      intro T62 h62 v62 L62 X62 e62 q62
      obtain ⟨rfl, M62, rfl⟩ := q62
      have N62 := Fr.app N61 M62
      show G (T62.setTop (mkF m 97 #[.val (.int i0), .val (.int i1), .val (.int i2), .val (.int i3), .val (.ref t_1), .val (.ref t_2), .val (.ref t_3), .val (.ref w1), .val (.int (0 : Int32)), .val (.ref b55), .val (.ref t_57)] [(.int (1 : Int32))]))
      refine hG _ _ (fun t k => XS.ifNo X62.here hx rfl (hb hby at_97) rfl ((if0 _ _).trans (feq (by decide)).1) k) ?_
      show G (T62.setTop (mkF m 100 #[.val (.int i0), .val (.int i1), .val (.int i2), .val (.int i3), .val (.ref t_1), .val (.ref t_2), .val (.ref t_3), .val (.ref w1), .val (.int (0 : Int32)), .val (.ref b55), .val (.ref t_57)] []))
      refine hG _ _ (fun t k => XS.aload X62.here hx rfl (hb hby at_100) rfl rfl k) ?_
      show G (T62.setTop (mkF m 102 #[.val (.int i0), .val (.int i1), .val (.int i2), .val (.int i3), .val (.ref t_1), .val (.ref t_2), .val (.ref t_3), .val (.ref w1), .val (.int (0 : Int32)), .val (.ref b55), .val (.ref t_57)] [(.ref t_57)]))
      refine own_callV (C := "com/example/perenna/perenna/Visibility$Field") X62 hx hZ hG hown (hw _ (List.mem_of_getElem? (i := 79) rfl)) (hw _ (List.mem_of_getElem? (i := 80) rfl)) (hw _ (List.mem_of_getElem? (i := 82) rfl)) (hw _ (List.mem_of_getElem? (i := 81) rfl)) (hw _ (List.mem_of_getElem? (i := 39) rfl)) (hw _ (List.mem_of_getElem? (i := 83) rfl)) (by decide) 0 (own_get_byDefault l Z a0 hw t_57 w1 h57 O57 r57_3) (by decide) (by decide) e62 r57_0 (by rw [hml]; rfl) (lenOf own_pd10 rfl) (argsL := []) (rest := []) rfl rfl (Nat.le_of_eq rfl) (hb hby at_102) (by decide) (by decide) ?_
      intro T64 h64 v64 L64 X64 e64 q64
      obtain ⟨rfl, M64, rfl⟩ := q64
      have N64 := Fr.app N62 M64
      show G (T64.setTop (mkF m 105 #[.val (.int i0), .val (.int i1), .val (.int i2), .val (.int i3), .val (.ref t_1), .val (.ref t_2), .val (.ref t_3), .val (.ref w1), .val (.int (0 : Int32)), .val (.ref b55), .val (.ref t_57)] [(.ref w1)]))
      refine hG _ _ (fun t k => XS.aload X64.here hx rfl (hb hby at_105) rfl rfl k) ?_
      show G (T64.setTop (mkF m 107 #[.val (.int i0), .val (.int i1), .val (.int i2), .val (.int i3), .val (.ref t_1), .val (.ref t_2), .val (.ref t_3), .val (.ref w1), .val (.int (0 : Int32)), .val (.ref b55), .val (.ref t_57)] [(.ref w1), (.ref w1)]))
      refine hG _ _ (fun t k => Jvm.RoadKit.acmp (g := (mkF m 107 #[.val (.int i0), .val (.int i1), .val (.int i2), .val (.int i3), .val (.ref t_1), .val (.ref t_2), .val (.ref t_3), .val (.ref w1), .val (.int (0 : Int32)), .val (.ref b55), .val (.ref t_57)] [(.ref w1), (.ref w1)])) X64 hx rfl rfl rfl (pc0 := 107) (pc' := 110) (same := true) rfl (hb hby at_107) rfl (decide_eq_true rfl) (by decide) (by decide) k) ?_
      show G (T64.setTop (mkF m 110 #[.val (.int i0), .val (.int i1), .val (.int i2), .val (.int i3), .val (.ref t_1), .val (.ref t_2), .val (.ref t_3), .val (.ref w1), .val (.int (0 : Int32)), .val (.ref b55), .val (.ref t_57)] []))
      refine hG _ _ (fun t k => XS.aload X64.here hx rfl (hb hby at_110) rfl rfl k) ?_
      show G (T64.setTop (mkF m 112 #[.val (.int i0), .val (.int i1), .val (.int i2), .val (.int i3), .val (.ref t_1), .val (.ref t_2), .val (.ref t_3), .val (.ref w1), .val (.int (0 : Int32)), .val (.ref b55), .val (.ref t_57)] [(.ref t_57)]))
      refine own_callV (C := "com/example/perenna/perenna/Visibility$Field") X64 hx hZ hG hown (hw _ (List.mem_of_getElem? (i := 84) rfl)) (hw _ (List.mem_of_getElem? (i := 85) rfl)) (hw _ (List.mem_of_getElem? (i := 87) rfl)) (hw _ (List.mem_of_getElem? (i := 86) rfl)) (hw _ (List.mem_of_getElem? (i := 39) rfl)) (hw _ (List.mem_of_getElem? (i := 88) rfl)) (by decide) 0 (own_get_fixed l Z a0 hw t_57 (nar .boolean (nar .boolean (0 : Int32))) h57 O57 r57_4) (by decide) (by decide) e64 r57_0 (by rw [hml]; rfl) (lenOf own_pd11 rfl) (argsL := []) (rest := []) rfl rfl (Nat.le_of_eq rfl) (hb hby at_112) (by decide) (by decide) ?_
      intro T65 h65 v65 L65 X65 e65 q65
      obtain ⟨rfl, M65, rfl⟩ := q65
      have N65 := Fr.app N64 M65
      show G (T65.setTop (mkF m 115 #[.val (.int i0), .val (.int i1), .val (.int i2), .val (.int i3), .val (.ref t_1), .val (.ref t_2), .val (.ref t_3), .val (.ref w1), .val (.int (0 : Int32)), .val (.ref b55), .val (.ref t_57)] [(.int (nar .boolean (nar .boolean (nar .boolean (0 : Int32)))))]))
      refine hG _ _ (fun t k => XS.iload X65.here hx rfl (hb hby at_115) rfl k) ?_
      show G (T65.setTop (mkF m 117 #[.val (.int i0), .val (.int i1), .val (.int i2), .val (.int i3), .val (.ref t_1), .val (.ref t_2), .val (.ref t_3), .val (.ref w1), .val (.int (0 : Int32)), .val (.ref b55), .val (.ref t_57)] [(.int (0 : Int32)), (.int (nar .boolean (nar .boolean (nar .boolean (0 : Int32)))))]))
      refine hG _ _ (fun t k => XS.icmpNo X65.here hx rfl (hb hby at_117) rfl (teq (by decide)).2 k) ?_
      show G (T65.setTop (mkF m 120 #[.val (.int i0), .val (.int i1), .val (.int i2), .val (.int i3), .val (.ref t_1), .val (.ref t_2), .val (.ref t_3), .val (.ref w1), .val (.int (0 : Int32)), .val (.ref b55), .val (.ref t_57)] []))
      refine hG _ _ (fun t k => XS.aload X65.here hx rfl (hb hby at_120) rfl rfl k) ?_
      show G (T65.setTop (mkF m 122 #[.val (.int i0), .val (.int i1), .val (.int i2), .val (.int i3), .val (.ref t_1), .val (.ref t_2), .val (.ref t_3), .val (.ref w1), .val (.int (0 : Int32)), .val (.ref b55), .val (.ref t_57)] [(.ref b55)]))
      have f67 := (r56_1.keep J57 nin0)
      have f68 := (r56_0.keep J57)
      refine own_callV (C := "com/example/perenna/perenna/Visibility$Field") X65 hx hZ hG hown (hw _ (List.mem_of_getElem? (i := 64) rfl)) (hw _ (List.mem_of_getElem? (i := 65) rfl)) (hw _ (List.mem_of_getElem? (i := 67) rfl)) (hw _ (List.mem_of_getElem? (i := 66) rfl)) (hw _ (List.mem_of_getElem? (i := 39) rfl)) (hw _ (List.mem_of_getElem? (i := 68) rfl)) (by decide) 0 (own_get_name l Z a0 hw b55 t_1 h57 O57 f67) (by decide) (by decide) e65 f68 (by rw [hml]; rfl) (lenOf own_pd9 rfl) (argsL := []) (rest := []) rfl rfl (Nat.le_of_eq rfl) (hb hby at_122) (by decide) (by decide) ?_
      intro T66 h66 v66 L66 X66 e66 q66
      obtain ⟨rfl, M66, rfl⟩ := q66
      have N66 := Fr.app N65 M66
      show G (T66.setTop (mkF m 125 #[.val (.int i0), .val (.int i1), .val (.int i2), .val (.int i3), .val (.ref t_1), .val (.ref t_2), .val (.ref t_3), .val (.ref w1), .val (.int (0 : Int32)), .val (.ref b55), .val (.ref t_57)] [(.ref t_1)]))
      refine hG _ _ (fun t k => XS.aload X66.here hx rfl (hb hby at_125) rfl rfl k) ?_
      show G (T66.setTop (mkF m 127 #[.val (.int i0), .val (.int i1), .val (.int i2), .val (.int i3), .val (.ref t_1), .val (.ref t_2), .val (.ref t_3), .val (.ref w1), .val (.int (0 : Int32)), .val (.ref b55), .val (.ref t_57)] [(.ref t_1), (.ref t_1)]))
      refine own_callV (C := "java/lang/String") X66 hx hZ hG hown (hw _ (List.mem_of_getElem? (i := 69) rfl)) (hw _ (List.mem_of_getElem? (i := 70) rfl)) (hw _ (List.mem_of_getElem? (i := 72) rfl)) (hw _ (List.mem_of_getElem? (i := 71) rfl)) (hw _ (List.mem_of_getElem? (i := 7) rfl)) (hw _ (List.mem_of_getElem? (i := 73) rfl)) (by decide) 0 (own_eqs l Z a0 hw t_1 h57 O57) (by decide) (by decide) e66 f60 (by rw [hml]; rfl) (lenOf own_pd12 rfl) (argsL := [(.ref t_1)]) (rest := []) rfl rfl (Nat.le_of_eq rfl) (hb hby at_127) (by decide) (by decide) ?_
      intro T69 h69 v69 L69 X69 e69 q69
      obtain ⟨rfl, M69, rfl⟩ := q69
      have N69 := Fr.app N66 M69
      show G (T69.setTop (mkF m 130 #[.val (.int i0), .val (.int i1), .val (.int i2), .val (.int i3), .val (.ref t_1), .val (.ref t_2), .val (.ref t_3), .val (.ref w1), .val (.int (0 : Int32)), .val (.ref b55), .val (.ref t_57)] [(.int (1 : Int32))]))
      refine hG _ _ (fun t k => XS.ifNo X69.here hx rfl (hb hby at_130) rfl ((if0 _ _).trans (feq (by decide)).1) k) ?_
      show G (T69.setTop (mkF m 133 #[.val (.int i0), .val (.int i1), .val (.int i2), .val (.int i3), .val (.ref t_1), .val (.ref t_2), .val (.ref t_3), .val (.ref w1), .val (.int (0 : Int32)), .val (.ref b55), .val (.ref t_57)] []))
      refine hG _ _ (fun t k => XS.aload X69.here hx rfl (hb hby at_133) rfl rfl k) ?_
      show G (T69.setTop (mkF m 135 #[.val (.int i0), .val (.int i1), .val (.int i2), .val (.int i3), .val (.ref t_1), .val (.ref t_2), .val (.ref t_3), .val (.ref w1), .val (.int (0 : Int32)), .val (.ref b55), .val (.ref t_57)] [(.ref b55)]))
      have f71 := (r56_2.keep J57 nin0)
      refine own_callV (C := "com/example/perenna/perenna/Visibility$Field") X69 hx hZ hG hown (hw _ (List.mem_of_getElem? (i := 74) rfl)) (hw _ (List.mem_of_getElem? (i := 75) rfl)) (hw _ (List.mem_of_getElem? (i := 77) rfl)) (hw _ (List.mem_of_getElem? (i := 76) rfl)) (hw _ (List.mem_of_getElem? (i := 39) rfl)) (hw _ (List.mem_of_getElem? (i := 78) rfl)) (by decide) 0 (own_get_member l Z a0 hw b55 t_2 h57 O57 f71) (by decide) (by decide) e69 f68 (by rw [hml]; rfl) (lenOf own_pd9 rfl) (argsL := []) (rest := []) rfl rfl (Nat.le_of_eq rfl) (hb hby at_135) (by decide) (by decide) ?_
      intro T70 h70 v70 L70 X70 e70 q70
      obtain ⟨rfl, M70, rfl⟩ := q70
      have N70 := Fr.app N69 M70
      show G (T70.setTop (mkF m 138 #[.val (.int i0), .val (.int i1), .val (.int i2), .val (.int i3), .val (.ref t_1), .val (.ref t_2), .val (.ref t_3), .val (.ref w1), .val (.int (0 : Int32)), .val (.ref b55), .val (.ref t_57)] [(.ref t_2)]))
      refine hG _ _ (fun t k => XS.aload X70.here hx rfl (hb hby at_138) rfl rfl k) ?_
      show G (T70.setTop (mkF m 140 #[.val (.int i0), .val (.int i1), .val (.int i2), .val (.int i3), .val (.ref t_1), .val (.ref t_2), .val (.ref t_3), .val (.ref w1), .val (.int (0 : Int32)), .val (.ref b55), .val (.ref t_57)] [(.ref t_2), (.ref t_2)]))
      have f73 := ((((r2_0.keep J3).ext E55).keep J56).keep J57)
      refine own_callV (C := "java/lang/String") X70 hx hZ hG hown (hw _ (List.mem_of_getElem? (i := 69) rfl)) (hw _ (List.mem_of_getElem? (i := 70) rfl)) (hw _ (List.mem_of_getElem? (i := 72) rfl)) (hw _ (List.mem_of_getElem? (i := 71) rfl)) (hw _ (List.mem_of_getElem? (i := 7) rfl)) (hw _ (List.mem_of_getElem? (i := 73) rfl)) (by decide) 0 (own_eqs l Z a0 hw t_2 h57 O57) (by decide) (by decide) e70 f73 (by rw [hml]; rfl) (lenOf own_pd12 rfl) (argsL := [(.ref t_2)]) (rest := []) rfl rfl (Nat.le_of_eq rfl) (hb hby at_140) (by decide) (by decide) ?_
      intro T72 h72 v72 L72 X72 e72 q72
      obtain ⟨rfl, M72, rfl⟩ := q72
      have N72 := Fr.app N70 M72
      show G (T72.setTop (mkF m 143 #[.val (.int i0), .val (.int i1), .val (.int i2), .val (.int i3), .val (.ref t_1), .val (.ref t_2), .val (.ref t_3), .val (.ref w1), .val (.int (0 : Int32)), .val (.ref b55), .val (.ref t_57)] [(.int (1 : Int32))]))
      refine hG _ _ (fun t k => XS.ifNo X72.here hx rfl (hb hby at_143) rfl ((if0 _ _).trans (feq (by decide)).1) k) ?_
      show G (T72.setTop (mkF m 146 #[.val (.int i0), .val (.int i1), .val (.int i2), .val (.int i3), .val (.ref t_1), .val (.ref t_2), .val (.ref t_3), .val (.ref w1), .val (.int (0 : Int32)), .val (.ref b55), .val (.ref t_57)] []))
      refine hG _ _ (fun t k => XS.aload X72.here hx rfl (hb hby at_146) rfl rfl k) ?_
      show G (T72.setTop (mkF m 148 #[.val (.int i0), .val (.int i1), .val (.int i2), .val (.int i3), .val (.ref t_1), .val (.ref t_2), .val (.ref t_3), .val (.ref w1), .val (.int (0 : Int32)), .val (.ref b55), .val (.ref t_57)] [(.ref b55)]))
      have f75 := (r56_3.keep J57 nin0)
      refine own_callV (C := "com/example/perenna/perenna/Visibility$Field") X72 hx hZ hG hown (hw _ (List.mem_of_getElem? (i := 79) rfl)) (hw _ (List.mem_of_getElem? (i := 80) rfl)) (hw _ (List.mem_of_getElem? (i := 82) rfl)) (hw _ (List.mem_of_getElem? (i := 81) rfl)) (hw _ (List.mem_of_getElem? (i := 39) rfl)) (hw _ (List.mem_of_getElem? (i := 83) rfl)) (by decide) 0 (own_get_byDefault l Z a0 hw b55 w1 h57 O57 f75) (by decide) (by decide) e72 f68 (by rw [hml]; rfl) (lenOf own_pd10 rfl) (argsL := []) (rest := []) rfl rfl (Nat.le_of_eq rfl) (hb hby at_148) (by decide) (by decide) ?_
      intro T74 h74 v74 L74 X74 e74 q74
      obtain ⟨rfl, M74, rfl⟩ := q74
      have N74 := Fr.app N72 M74
      show G (T74.setTop (mkF m 151 #[.val (.int i0), .val (.int i1), .val (.int i2), .val (.int i3), .val (.ref t_1), .val (.ref t_2), .val (.ref t_3), .val (.ref w1), .val (.int (0 : Int32)), .val (.ref b55), .val (.ref t_57)] [(.ref w1)]))
      refine hG _ _ (fun t k => XS.aload X74.here hx rfl (hb hby at_151) rfl rfl k) ?_
      show G (T74.setTop (mkF m 153 #[.val (.int i0), .val (.int i1), .val (.int i2), .val (.int i3), .val (.ref t_1), .val (.ref t_2), .val (.ref t_3), .val (.ref w1), .val (.int (0 : Int32)), .val (.ref b55), .val (.ref t_57)] [(.ref w1), (.ref w1)]))
      refine hG _ _ (fun t k => Jvm.RoadKit.acmp (g := (mkF m 153 #[.val (.int i0), .val (.int i1), .val (.int i2), .val (.int i3), .val (.ref t_1), .val (.ref t_2), .val (.ref t_3), .val (.ref w1), .val (.int (0 : Int32)), .val (.ref b55), .val (.ref t_57)] [(.ref w1), (.ref w1)])) X74 hx rfl rfl rfl (pc0 := 153) (pc' := 156) (same := true) rfl (hb hby at_153) rfl (decide_eq_true rfl) (by decide) (by decide) k) ?_
      show G (T74.setTop (mkF m 156 #[.val (.int i0), .val (.int i1), .val (.int i2), .val (.int i3), .val (.ref t_1), .val (.ref t_2), .val (.ref t_3), .val (.ref w1), .val (.int (0 : Int32)), .val (.ref b55), .val (.ref t_57)] []))
      refine hG _ _ (fun t k => XS.aload X74.here hx rfl (hb hby at_156) rfl rfl k) ?_
      show G (T74.setTop (mkF m 158 #[.val (.int i0), .val (.int i1), .val (.int i2), .val (.int i3), .val (.ref t_1), .val (.ref t_2), .val (.ref t_3), .val (.ref w1), .val (.int (0 : Int32)), .val (.ref b55), .val (.ref t_57)] [(.ref b55)]))
      have f77 := (r56_4.keep J57 nin0)
      refine own_callV (C := "com/example/perenna/perenna/Visibility$Field") X74 hx hZ hG hown (hw _ (List.mem_of_getElem? (i := 84) rfl)) (hw _ (List.mem_of_getElem? (i := 85) rfl)) (hw _ (List.mem_of_getElem? (i := 87) rfl)) (hw _ (List.mem_of_getElem? (i := 86) rfl)) (hw _ (List.mem_of_getElem? (i := 39) rfl)) (hw _ (List.mem_of_getElem? (i := 88) rfl)) (by decide) 0 (own_get_fixed l Z a0 hw b55 (nar .boolean (0 : Int32)) h57 O57 f77) (by decide) (by decide) e74 f68 (by rw [hml]; rfl) (lenOf own_pd11 rfl) (argsL := []) (rest := []) rfl rfl (Nat.le_of_eq rfl) (hb hby at_158) (by decide) (by decide) ?_
      intro T76 h76 v76 L76 X76 e76 q76
      obtain ⟨rfl, M76, rfl⟩ := q76
      have N76 := Fr.app N74 M76
      show G (T76.setTop (mkF m 161 #[.val (.int i0), .val (.int i1), .val (.int i2), .val (.int i3), .val (.ref t_1), .val (.ref t_2), .val (.ref t_3), .val (.ref w1), .val (.int (0 : Int32)), .val (.ref b55), .val (.ref t_57)] [(.int (nar .boolean (nar .boolean (0 : Int32))))]))
      refine hG _ _ (fun t k => XS.iload X76.here hx rfl (hb hby at_161) rfl k) ?_
      show G (T76.setTop (mkF m 163 #[.val (.int i0), .val (.int i1), .val (.int i2), .val (.int i3), .val (.ref t_1), .val (.ref t_2), .val (.ref t_3), .val (.ref w1), .val (.int (0 : Int32)), .val (.ref b55), .val (.ref t_57)] [(.int (0 : Int32)), (.int (nar .boolean (nar .boolean (0 : Int32))))]))
      refine hG _ _ (fun t k => XS.icmpNo X76.here hx rfl (hb hby at_163) rfl (teq (by decide)).2 k) ?_
      show G (T76.setTop (mkF m 166 #[.val (.int i0), .val (.int i1), .val (.int i2), .val (.int i3), .val (.ref t_1), .val (.ref t_2), .val (.ref t_3), .val (.ref w1), .val (.int (0 : Int32)), .val (.ref b55), .val (.ref t_57)] []))
      refine hG _ _ (fun t k => XS.iconst X76.here hx rfl (hb hby at_166) k) ?_
      show G (T76.setTop (mkF m 167 #[.val (.int i0), .val (.int i1), .val (.int i2), .val (.int i3), .val (.ref t_1), .val (.ref t_2), .val (.ref t_3), .val (.ref w1), .val (.int (0 : Int32)), .val (.ref b55), .val (.ref t_57)] [(.int (1 : Int32))]))
      refine hG _ _ (fun t k => XS.goto X76.here hx rfl (pc0 := 167) (pc' := 171) rfl (hb hby at_167) (by decide) (by decide) k) ?_
      show G (T76.setTop (mkF m 171 #[.val (.int i0), .val (.int i1), .val (.int i2), .val (.int i3), .val (.ref t_1), .val (.ref t_2), .val (.ref t_3), .val (.ref w1), .val (.int (0 : Int32)), .val (.ref b55), .val (.ref t_57)] [(.int (1 : Int32))]))
      exact own_retN hR hret (by simp) X76 hx (hb hby at_171) (by decide) (by decide) (by rw [e76]; exact ⟨rfl, N76, K57⟩)
    · skip
      refine hG _ _ (fun t k => XS.ifNo X53.here hx rfl (hb hby at_38) rfl ((if0 _ _).trans (feq hc38_54).1) k) ?_
      show G (T53.setTop (mkF m 41 #[.val (.int i0), .val (.int i1), .val (.int i2), .val (.int i3), .val (.ref t_1), .val (.ref t_2), .val (.ref t_3), .val (.ref w1), .unset, .unset, .unset] []))
      refine hG _ _ (fun t k => XS.iconst X53.here hx rfl (hb hby at_41) k) ?_
      show G (T53.setTop (mkF m 42 #[.val (.int i0), .val (.int i1), .val (.int i2), .val (.int i3), .val (.ref t_1), .val (.ref t_2), .val (.ref t_3), .val (.ref w1), .unset, .unset, .unset] [(.int (1 : Int32))]))
      refine hG _ _ (fun t k => XS.goto X53.here hx rfl (pc0 := 42) (pc' := 46) rfl (hb hby at_42) (by decide) (by decide) k) ?_
      show G (T53.setTop (mkF m 46 #[.val (.int i0), .val (.int i1), .val (.int i2), .val (.int i3), .val (.ref t_1), .val (.ref t_2), .val (.ref t_3), .val (.ref w1), .unset, .unset, .unset] [(.int (1 : Int32))]))
      refine hG _ _ (fun t k => XS.istore X53.here hx rfl (hb hby at_46) rfl (l' := #[.val (.int i0), .val (.int i1), .val (.int i2), .val (.int i3), .val (.ref t_1), .val (.ref t_2), .val (.ref t_3), .val (.ref w1), .val (.int (1 : Int32)), .unset, .unset]) rfl k) ?_
      show G (T53.setTop (mkF m 48 #[.val (.int i0), .val (.int i1), .val (.int i2), .val (.int i3), .val (.ref t_1), .val (.ref t_2), .val (.ref t_3), .val (.ref w1), .val (.int (1 : Int32)), .unset, .unset] []))
      obtain ⟨T78, h78, X78, e78, E78, A78, D78, -, st78⟩ := newO X53 hx hZ hown (hw _ (List.mem_of_getElem? (i := 37) rfl)) (hw _ (List.mem_of_getElem? (i := 38) rfl)) (hw _ (List.mem_of_getElem? (i := 39) rfl)) e53 (g := (mkF m 48 #[.val (.int i0), .val (.int i1), .val (.int i2), .val (.int i3), .val (.ref t_1), .val (.ref t_2), .val (.ref t_3), .val (.ref w1), .val (.int (1 : Int32)), .unset, .unset] [])) rfl (hb hby at_48) (by decide) (by decide)
      obtain ⟨b78, z78⟩ : ∃ z, z = h3.size := ⟨_, rfl⟩
      rw [← z78] at A78 D78 st78
      refine hG _ _ st78 ?_
      have K78 : Keep h0 h78 [] := K3.ext E78
      have O78 : own_Old Z h78 := O3.ext E78
      show G (T78.setTop (mkF m 51 #[.val (.int i0), .val (.int i1), .val (.int i2), .val (.int i3), .val (.ref t_1), .val (.ref t_2), .val (.ref t_3), .val (.ref w1), .val (.int (1 : Int32)), .unset, .unset] [(.ref b78)]))
      refine hG _ _ (fun t k => XS.dup X78.here hx rfl (hb hby at_51) rfl rfl k) ?_
      show G (T78.setTop (mkF m 52 #[.val (.int i0), .val (.int i1), .val (.int i2), .val (.int i3), .val (.ref t_1), .val (.ref t_2), .val (.ref t_3), .val (.ref w1), .val (.int (1 : Int32)), .unset, .unset] [(.ref b78), (.ref b78)]))
      refine hG _ _ (fun t k => XS.aload X78.here hx rfl (hb hby at_52) rfl rfl k) ?_
      show G (T78.setTop (mkF m 54 #[.val (.int i0), .val (.int i1), .val (.int i2), .val (.int i3), .val (.ref t_1), .val (.ref t_2), .val (.ref t_3), .val (.ref w1), .val (.int (1 : Int32)), .unset, .unset] [(.ref t_1), (.ref b78), (.ref b78)]))
      refine hG _ _ (fun t k => XS.aload X78.here hx rfl (hb hby at_54) rfl rfl k) ?_
      show G (T78.setTop (mkF m 56 #[.val (.int i0), .val (.int i1), .val (.int i2), .val (.int i3), .val (.ref t_1), .val (.ref t_2), .val (.ref t_3), .val (.ref w1), .val (.int (1 : Int32)), .unset, .unset] [(.ref t_2), (.ref t_1), (.ref b78), (.ref b78)]))
      refine hG _ _ (fun t k => XS.aload X78.here hx rfl (hb hby at_56) rfl rfl k) ?_
      show G (T78.setTop (mkF m 58 #[.val (.int i0), .val (.int i1), .val (.int i2), .val (.int i3), .val (.ref t_1), .val (.ref t_2), .val (.ref t_3), .val (.ref w1), .val (.int (1 : Int32)), .unset, .unset] [(.ref w1), (.ref t_2), (.ref t_1), (.ref b78), (.ref b78)]))
      refine hG _ _ (fun t k => XS.iload X78.here hx rfl (hb hby at_58) rfl k) ?_
      show G (T78.setTop (mkF m 60 #[.val (.int i0), .val (.int i1), .val (.int i2), .val (.int i3), .val (.ref t_1), .val (.ref t_2), .val (.ref t_3), .val (.ref w1), .val (.int (1 : Int32)), .unset, .unset] [(.int (1 : Int32)), (.ref w1), (.ref t_2), (.ref t_1), (.ref b78), (.ref b78)]))
      refine own_callI X78 hx hZ hG hown rfl (hw _ (List.mem_of_getElem? (i := 40) rfl)) (hw _ (List.mem_of_getElem? (i := 41) rfl)) (hw _ (List.mem_of_getElem? (i := 39) rfl)) (hw _ (List.mem_of_getElem? (i := 42) rfl)) (by decide) 1 (own_finit l Z a0 hw b78 t_1 t_2 w1 (1 : Int32) .null .null .null (.int (0 : Int32)) h78 O78 A78 (own_ge O3 (Nat.le_of_eq z78.symm)) (D78 (Or.inr (hw _ (List.mem_of_getElem? (i := 50) rfl))) (ty := (.object "java/lang/String")) (by decide)) (D78 (Or.inr (hw _ (List.mem_of_getElem? (i := 52) rfl))) (ty := (.object "java/lang/String")) (by decide)) (D78 (Or.inr (hw _ (List.mem_of_getElem? (i := 54) rfl))) (ty := (.object "com/example/perenna/perenna/Visibility")) (by decide)) (D78 (Or.inr (hw _ (List.mem_of_getElem? (i := 56) rfl))) (ty := .boolean) (by decide))) (by decide) (by decide) e78 (by rw [hml]; rfl) (lenOf own_pd7 rfl) (argsL := [(.ref t_1), (.ref t_2), (.ref w1), (.int (1 : Int32))]) (rest := [(.ref b78)]) rfl rfl (Nat.le_of_eq rfl) (hb hby at_60) (by decide) (by decide) ?_
      intro T79 h79 v79 L79 X79 e79 q79
      obtain ⟨rfl, M79, J79, r79_0, r79_1, r79_2, r79_3, r79_4⟩ := q79
      have N79 := Fr.app N3 M79
      have K79 : Keep h0 h79 [] := K78.trans J79 (allS (Or.inr (Nat.le_trans K3.1 (Nat.le_of_eq z78.symm))) all0)
      have O79 : own_Old Z h79 := O78.keep J79 (allS (own_ge O3 (Nat.le_of_eq z78.symm)) all0)
      show G (T79.setTop (mkF m 63 #[.val (.int i0), .val (.int i1), .val (.int i2), .val (.int i3), .val (.ref t_1), .val (.ref t_2), .val (.ref t_3), .val (.ref w1), .val (.int (1 : Int32)), .unset, .unset] [(.ref b78)]))
      refine hG _ _ (fun t k => XS.astore X79.here hx rfl (hb hby at_63) rfl rfl (l' := #[.val (.int i0), .val (.int i1), .val (.int i2), .val (.int i3), .val (.ref t_1), .val (.ref t_2), .val (.ref t_3), .val (.ref w1), .val (.int (1 : Int32)), .val (.ref b78), .unset]) rfl k) ?_
      show G (T79.setTop (mkF m 65 #[.val (.int i0), .val (.int i1), .val (.int i2), .val (.int i3), .val (.ref t_1), .val (.ref t_2), .val (.ref t_3), .val (.ref w1), .val (.int (1 : Int32)), .val (.ref b78), .unset] []))
      refine hG _ _ (fun t k => XS.aload X79.here hx rfl (hb hby at_65) rfl rfl k) ?_
      show G (T79.setTop (mkF m 67 #[.val (.int i0), .val (.int i1), .val (.int i2), .val (.int i3), .val (.ref t_1), .val (.ref t_2), .val (.ref t_3), .val (.ref w1), .val (.int (1 : Int32)), .val (.ref b78), .unset] [(.ref b78)]))
      refine hG _ _ (fun t k => XS.aload X79.here hx rfl (hb hby at_67) rfl rfl k) ?_
      show G (T79.setTop (mkF m 69 #[.val (.int i0), .val (.int i1), .val (.int i2), .val (.int i3), .val (.ref t_1), .val (.ref t_2), .val (.ref t_3), .val (.ref w1), .val (.int (1 : Int32)), .val (.ref b78), .unset] [(.ref t_3), (.ref b78)]))
      refine own_callV (C := "com/example/perenna/perenna/Visibility$Field") X79 hx hZ hG hown (hw _ (List.mem_of_getElem? (i := 57) rfl)) (hw _ (List.mem_of_getElem? (i := 58) rfl)) (hw _ (List.mem_of_getElem? (i := 60) rfl)) (hw _ (List.mem_of_getElem? (i := 59) rfl)) (hw _ (List.mem_of_getElem? (i := 39) rfl)) (hw _ (List.mem_of_getElem? (i := 61) rfl)) (by decide) 0 (own_within l Z a0 hw b78 t_3 t_1 w1 (nar .boolean (1 : Int32)) h79 O79 r79_1 r79_3 r79_4) (by decide) (by decide) e79 r79_0 (by rw [hml]; rfl) (lenOf own_pd8 rfl) (argsL := [(.ref t_3)]) (rest := []) rfl rfl (Nat.le_of_eq rfl) (hb hby at_69) (by decide) (by decide) ?_
      intro T80 h80 v80 L80 X80 e80 q80
      obtain ⟨t_80, rfl, M80, J80, y80_0, r80_0, r80_1, r80_2, r80_3, r80_4⟩ := q80
      have N80 := Fr.app N79 M80
      have K80 : Keep h0 h80 [] := K79.trans J80 all0
      have O80 : own_Old Z h80 := O79.keep J80 all0
      show G (T80.setTop (mkF m 72 #[.val (.int i0), .val (.int i1), .val (.int i2), .val (.int i3), .val (.ref t_1), .val (.ref t_2), .val (.ref t_3), .val (.ref w1), .val (.int (1 : Int32)), .val (.ref b78), .unset] [(.ref t_80)]))
      refine hG _ _ (fun t k => XS.astore X80.here hx rfl (hb hby at_72) rfl rfl (l' := #[.val (.int i0), .val (.int i1), .val (.int i2), .val (.int i3), .val (.ref t_1), .val (.ref t_2), .val (.ref t_3), .val (.ref w1), .val (.int (1 : Int32)), .val (.ref b78), .val (.ref t_80)]) rfl k) ?_
      show G (T80.setTop (mkF m 74 #[.val (.int i0), .val (.int i1), .val (.int i2), .val (.int i3), .val (.ref t_1), .val (.ref t_2), .val (.ref t_3), .val (.ref w1), .val (.int (1 : Int32)), .val (.ref b78), .val (.ref t_80)] []))
      refine hG _ _ (fun t k => XS.aload X80.here hx rfl (hb hby at_74) rfl rfl k) ?_
      show G (T80.setTop (mkF m 76 #[.val (.int i0), .val (.int i1), .val (.int i2), .val (.int i3), .val (.ref t_1), .val (.ref t_2), .val (.ref t_3), .val (.ref w1), .val (.int (1 : Int32)), .val (.ref b78), .val (.ref t_80)] [(.ref t_80)]))
      refine own_callV (C := "com/example/perenna/perenna/Visibility$Field") X80 hx hZ hG hown (hw _ (List.mem_of_getElem? (i := 64) rfl)) (hw _ (List.mem_of_getElem? (i := 65) rfl)) (hw _ (List.mem_of_getElem? (i := 67) rfl)) (hw _ (List.mem_of_getElem? (i := 66) rfl)) (hw _ (List.mem_of_getElem? (i := 39) rfl)) (hw _ (List.mem_of_getElem? (i := 68) rfl)) (by decide) 0 (own_get_name l Z a0 hw t_80 t_1 h80 O80 r80_1) (by decide) (by decide) e80 r80_0 (by rw [hml]; rfl) (lenOf own_pd9 rfl) (argsL := []) (rest := []) rfl rfl (Nat.le_of_eq rfl) (hb hby at_76) (by decide) (by decide) ?_
      intro T81 h81 v81 L81 X81 e81 q81
      obtain ⟨rfl, M81, rfl⟩ := q81
      have N81 := Fr.app N80 M81
      show G (T81.setTop (mkF m 79 #[.val (.int i0), .val (.int i1), .val (.int i2), .val (.int i3), .val (.ref t_1), .val (.ref t_2), .val (.ref t_3), .val (.ref w1), .val (.int (1 : Int32)), .val (.ref b78), .val (.ref t_80)] [(.ref t_1)]))
      refine hG _ _ (fun t k => XS.aload X81.here hx rfl (hb hby at_79) rfl rfl k) ?_
      show G (T81.setTop (mkF m 81 #[.val (.int i0), .val (.int i1), .val (.int i2), .val (.int i3), .val (.ref t_1), .val (.ref t_2), .val (.ref t_3), .val (.ref w1), .val (.int (1 : Int32)), .val (.ref b78), .val (.ref t_80)] [(.ref t_1), (.ref t_1)]))
      have f83 := (((((r1_0.keep J2).keep J3).ext E78).keep J79).keep J80)
      refine own_callV (C := "java/lang/String") X81 hx hZ hG hown (hw _ (List.mem_of_getElem? (i := 69) rfl)) (hw _ (List.mem_of_getElem? (i := 70) rfl)) (hw _ (List.mem_of_getElem? (i := 72) rfl)) (hw _ (List.mem_of_getElem? (i := 71) rfl)) (hw _ (List.mem_of_getElem? (i := 7) rfl)) (hw _ (List.mem_of_getElem? (i := 73) rfl)) (by decide) 0 (own_eqs l Z a0 hw t_1 h80 O80) (by decide) (by decide) e81 f83 (by rw [hml]; rfl) (lenOf own_pd12 rfl) (argsL := [(.ref t_1)]) (rest := []) rfl rfl (Nat.le_of_eq rfl) (hb hby at_81) (by decide) (by decide) ?_
      intro T82 h82 v82 L82 X82 e82 q82
      obtain ⟨rfl, M82, rfl⟩ := q82
      have N82 := Fr.app N81 M82
      show G (T82.setTop (mkF m 84 #[.val (.int i0), .val (.int i1), .val (.int i2), .val (.int i3), .val (.ref t_1), .val (.ref t_2), .val (.ref t_3), .val (.ref w1), .val (.int (1 : Int32)), .val (.ref b78), .val (.ref t_80)] [(.int (1 : Int32))]))
      refine hG _ _ (fun t k => XS.ifNo X82.here hx rfl (hb hby at_84) rfl ((if0 _ _).trans (feq (by decide)).1) k) ?_
      show G (T82.setTop (mkF m 87 #[.val (.int i0), .val (.int i1), .val (.int i2), .val (.int i3), .val (.ref t_1), .val (.ref t_2), .val (.ref t_3), .val (.ref w1), .val (.int (1 : Int32)), .val (.ref b78), .val (.ref t_80)] []))
      refine hG _ _ (fun t k => XS.aload X82.here hx rfl (hb hby at_87) rfl rfl k) ?_
      show G (T82.setTop (mkF m 89 #[.val (.int i0), .val (.int i1), .val (.int i2), .val (.int i3), .val (.ref t_1), .val (.ref t_2), .val (.ref t_3), .val (.ref w1), .val (.int (1 : Int32)), .val (.ref b78), .val (.ref t_80)] [(.ref t_80)]))
      refine own_callV (C := "com/example/perenna/perenna/Visibility$Field") X82 hx hZ hG hown (hw _ (List.mem_of_getElem? (i := 74) rfl)) (hw _ (List.mem_of_getElem? (i := 75) rfl)) (hw _ (List.mem_of_getElem? (i := 77) rfl)) (hw _ (List.mem_of_getElem? (i := 76) rfl)) (hw _ (List.mem_of_getElem? (i := 39) rfl)) (hw _ (List.mem_of_getElem? (i := 78) rfl)) (by decide) 0 (own_get_member l Z a0 hw t_80 t_3 h80 O80 r80_2) (by decide) (by decide) e82 r80_0 (by rw [hml]; rfl) (lenOf own_pd9 rfl) (argsL := []) (rest := []) rfl rfl (Nat.le_of_eq rfl) (hb hby at_89) (by decide) (by decide) ?_
      intro T84 h84 v84 L84 X84 e84 q84
      obtain ⟨rfl, M84, rfl⟩ := q84
      have N84 := Fr.app N82 M84
      show G (T84.setTop (mkF m 92 #[.val (.int i0), .val (.int i1), .val (.int i2), .val (.int i3), .val (.ref t_1), .val (.ref t_2), .val (.ref t_3), .val (.ref w1), .val (.int (1 : Int32)), .val (.ref b78), .val (.ref t_80)] [(.ref t_3)]))
      refine hG _ _ (fun t k => XS.aload X84.here hx rfl (hb hby at_92) rfl rfl k) ?_
      show G (T84.setTop (mkF m 94 #[.val (.int i0), .val (.int i1), .val (.int i2), .val (.int i3), .val (.ref t_1), .val (.ref t_2), .val (.ref t_3), .val (.ref w1), .val (.int (1 : Int32)), .val (.ref b78), .val (.ref t_80)] [(.ref t_3), (.ref t_3)]))
      have f86 := (((r3_0.ext E78).keep J79).keep J80)
      refine own_callV (C := "java/lang/String") X84 hx hZ hG hown (hw _ (List.mem_of_getElem? (i := 69) rfl)) (hw _ (List.mem_of_getElem? (i := 70) rfl)) (hw _ (List.mem_of_getElem? (i := 72) rfl)) (hw _ (List.mem_of_getElem? (i := 71) rfl)) (hw _ (List.mem_of_getElem? (i := 7) rfl)) (hw _ (List.mem_of_getElem? (i := 73) rfl)) (by decide) 0 (own_eqs l Z a0 hw t_3 h80 O80) (by decide) (by decide) e84 f86 (by rw [hml]; rfl) (lenOf own_pd12 rfl) (argsL := [(.ref t_3)]) (rest := []) rfl rfl (Nat.le_of_eq rfl) (hb hby at_94) (by decide) (by decide) ?_
      intro T85 h85 v85 L85 X85 e85 q85
      obtain ⟨rfl, M85, rfl⟩ := q85
      have N85 := Fr.app N84 M85
      show G (T85.setTop (mkF m 97 #[.val (.int i0), .val (.int i1), .val (.int i2), .val (.int i3), .val (.ref t_1), .val (.ref t_2), .val (.ref t_3), .val (.ref w1), .val (.int (1 : Int32)), .val (.ref b78), .val (.ref t_80)] [(.int (1 : Int32))]))
      refine hG _ _ (fun t k => XS.ifNo X85.here hx rfl (hb hby at_97) rfl ((if0 _ _).trans (feq (by decide)).1) k) ?_
      show G (T85.setTop (mkF m 100 #[.val (.int i0), .val (.int i1), .val (.int i2), .val (.int i3), .val (.ref t_1), .val (.ref t_2), .val (.ref t_3), .val (.ref w1), .val (.int (1 : Int32)), .val (.ref b78), .val (.ref t_80)] []))
      refine hG _ _ (fun t k => XS.aload X85.here hx rfl (hb hby at_100) rfl rfl k) ?_
      show G (T85.setTop (mkF m 102 #[.val (.int i0), .val (.int i1), .val (.int i2), .val (.int i3), .val (.ref t_1), .val (.ref t_2), .val (.ref t_3), .val (.ref w1), .val (.int (1 : Int32)), .val (.ref b78), .val (.ref t_80)] [(.ref t_80)]))
      refine own_callV (C := "com/example/perenna/perenna/Visibility$Field") X85 hx hZ hG hown (hw _ (List.mem_of_getElem? (i := 79) rfl)) (hw _ (List.mem_of_getElem? (i := 80) rfl)) (hw _ (List.mem_of_getElem? (i := 82) rfl)) (hw _ (List.mem_of_getElem? (i := 81) rfl)) (hw _ (List.mem_of_getElem? (i := 39) rfl)) (hw _ (List.mem_of_getElem? (i := 83) rfl)) (by decide) 0 (own_get_byDefault l Z a0 hw t_80 w1 h80 O80 r80_3) (by decide) (by decide) e85 r80_0 (by rw [hml]; rfl) (lenOf own_pd10 rfl) (argsL := []) (rest := []) rfl rfl (Nat.le_of_eq rfl) (hb hby at_102) (by decide) (by decide) ?_
      intro T87 h87 v87 L87 X87 e87 q87
      obtain ⟨rfl, M87, rfl⟩ := q87
      have N87 := Fr.app N85 M87
      show G (T87.setTop (mkF m 105 #[.val (.int i0), .val (.int i1), .val (.int i2), .val (.int i3), .val (.ref t_1), .val (.ref t_2), .val (.ref t_3), .val (.ref w1), .val (.int (1 : Int32)), .val (.ref b78), .val (.ref t_80)] [(.ref w1)]))
      refine hG _ _ (fun t k => XS.aload X87.here hx rfl (hb hby at_105) rfl rfl k) ?_
      show G (T87.setTop (mkF m 107 #[.val (.int i0), .val (.int i1), .val (.int i2), .val (.int i3), .val (.ref t_1), .val (.ref t_2), .val (.ref t_3), .val (.ref w1), .val (.int (1 : Int32)), .val (.ref b78), .val (.ref t_80)] [(.ref w1), (.ref w1)]))
      refine hG _ _ (fun t k => Jvm.RoadKit.acmp (g := (mkF m 107 #[.val (.int i0), .val (.int i1), .val (.int i2), .val (.int i3), .val (.ref t_1), .val (.ref t_2), .val (.ref t_3), .val (.ref w1), .val (.int (1 : Int32)), .val (.ref b78), .val (.ref t_80)] [(.ref w1), (.ref w1)])) X87 hx rfl rfl rfl (pc0 := 107) (pc' := 110) (same := true) rfl (hb hby at_107) rfl (decide_eq_true rfl) (by decide) (by decide) k) ?_
      show G (T87.setTop (mkF m 110 #[.val (.int i0), .val (.int i1), .val (.int i2), .val (.int i3), .val (.ref t_1), .val (.ref t_2), .val (.ref t_3), .val (.ref w1), .val (.int (1 : Int32)), .val (.ref b78), .val (.ref t_80)] []))
      refine hG _ _ (fun t k => XS.aload X87.here hx rfl (hb hby at_110) rfl rfl k) ?_
      show G (T87.setTop (mkF m 112 #[.val (.int i0), .val (.int i1), .val (.int i2), .val (.int i3), .val (.ref t_1), .val (.ref t_2), .val (.ref t_3), .val (.ref w1), .val (.int (1 : Int32)), .val (.ref b78), .val (.ref t_80)] [(.ref t_80)]))
      refine own_callV (C := "com/example/perenna/perenna/Visibility$Field") X87 hx hZ hG hown (hw _ (List.mem_of_getElem? (i := 84) rfl)) (hw _ (List.mem_of_getElem? (i := 85) rfl)) (hw _ (List.mem_of_getElem? (i := 87) rfl)) (hw _ (List.mem_of_getElem? (i := 86) rfl)) (hw _ (List.mem_of_getElem? (i := 39) rfl)) (hw _ (List.mem_of_getElem? (i := 88) rfl)) (by decide) 0 (own_get_fixed l Z a0 hw t_80 (nar .boolean (nar .boolean (1 : Int32))) h80 O80 r80_4) (by decide) (by decide) e87 r80_0 (by rw [hml]; rfl) (lenOf own_pd11 rfl) (argsL := []) (rest := []) rfl rfl (Nat.le_of_eq rfl) (hb hby at_112) (by decide) (by decide) ?_
      intro T88 h88 v88 L88 X88 e88 q88
      obtain ⟨rfl, M88, rfl⟩ := q88
      have N88 := Fr.app N87 M88
      show G (T88.setTop (mkF m 115 #[.val (.int i0), .val (.int i1), .val (.int i2), .val (.int i3), .val (.ref t_1), .val (.ref t_2), .val (.ref t_3), .val (.ref w1), .val (.int (1 : Int32)), .val (.ref b78), .val (.ref t_80)] [(.int (nar .boolean (nar .boolean (nar .boolean (1 : Int32)))))]))
      refine hG _ _ (fun t k => XS.iload X88.here hx rfl (hb hby at_115) rfl k) ?_
      show G (T88.setTop (mkF m 117 #[.val (.int i0), .val (.int i1), .val (.int i2), .val (.int i3), .val (.ref t_1), .val (.ref t_2), .val (.ref t_3), .val (.ref w1), .val (.int (1 : Int32)), .val (.ref b78), .val (.ref t_80)] [(.int (1 : Int32)), (.int (nar .boolean (nar .boolean (nar .boolean (1 : Int32)))))]))
      refine hG _ _ (fun t k => XS.icmpNo X88.here hx rfl (hb hby at_117) rfl (teq (by decide)).2 k) ?_
      show G (T88.setTop (mkF m 120 #[.val (.int i0), .val (.int i1), .val (.int i2), .val (.int i3), .val (.ref t_1), .val (.ref t_2), .val (.ref t_3), .val (.ref w1), .val (.int (1 : Int32)), .val (.ref b78), .val (.ref t_80)] []))
      refine hG _ _ (fun t k => XS.aload X88.here hx rfl (hb hby at_120) rfl rfl k) ?_
      show G (T88.setTop (mkF m 122 #[.val (.int i0), .val (.int i1), .val (.int i2), .val (.int i3), .val (.ref t_1), .val (.ref t_2), .val (.ref t_3), .val (.ref w1), .val (.int (1 : Int32)), .val (.ref b78), .val (.ref t_80)] [(.ref b78)]))
      have f90 := (r79_1.keep J80 nin0)
      have f91 := (r79_0.keep J80)
      refine own_callV (C := "com/example/perenna/perenna/Visibility$Field") X88 hx hZ hG hown (hw _ (List.mem_of_getElem? (i := 64) rfl)) (hw _ (List.mem_of_getElem? (i := 65) rfl)) (hw _ (List.mem_of_getElem? (i := 67) rfl)) (hw _ (List.mem_of_getElem? (i := 66) rfl)) (hw _ (List.mem_of_getElem? (i := 39) rfl)) (hw _ (List.mem_of_getElem? (i := 68) rfl)) (by decide) 0 (own_get_name l Z a0 hw b78 t_1 h80 O80 f90) (by decide) (by decide) e88 f91 (by rw [hml]; rfl) (lenOf own_pd9 rfl) (argsL := []) (rest := []) rfl rfl (Nat.le_of_eq rfl) (hb hby at_122) (by decide) (by decide) ?_
      intro T89 h89 v89 L89 X89 e89 q89
      obtain ⟨rfl, M89, rfl⟩ := q89
      have N89 := Fr.app N88 M89
      show G (T89.setTop (mkF m 125 #[.val (.int i0), .val (.int i1), .val (.int i2), .val (.int i3), .val (.ref t_1), .val (.ref t_2), .val (.ref t_3), .val (.ref w1), .val (.int (1 : Int32)), .val (.ref b78), .val (.ref t_80)] [(.ref t_1)]))
      refine hG _ _ (fun t k => XS.aload X89.here hx rfl (hb hby at_125) rfl rfl k) ?_
      show G (T89.setTop (mkF m 127 #[.val (.int i0), .val (.int i1), .val (.int i2), .val (.int i3), .val (.ref t_1), .val (.ref t_2), .val (.ref t_3), .val (.ref w1), .val (.int (1 : Int32)), .val (.ref b78), .val (.ref t_80)] [(.ref t_1), (.ref t_1)]))
      refine own_callV (C := "java/lang/String") X89 hx hZ hG hown (hw _ (List.mem_of_getElem? (i := 69) rfl)) (hw _ (List.mem_of_getElem? (i := 70) rfl)) (hw _ (List.mem_of_getElem? (i := 72) rfl)) (hw _ (List.mem_of_getElem? (i := 71) rfl)) (hw _ (List.mem_of_getElem? (i := 7) rfl)) (hw _ (List.mem_of_getElem? (i := 73) rfl)) (by decide) 0 (own_eqs l Z a0 hw t_1 h80 O80) (by decide) (by decide) e89 f83 (by rw [hml]; rfl) (lenOf own_pd12 rfl) (argsL := [(.ref t_1)]) (rest := []) rfl rfl (Nat.le_of_eq rfl) (hb hby at_127) (by decide) (by decide) ?_
      intro T92 h92 v92 L92 X92 e92 q92
      obtain ⟨rfl, M92, rfl⟩ := q92
      have N92 := Fr.app N89 M92
      show G (T92.setTop (mkF m 130 #[.val (.int i0), .val (.int i1), .val (.int i2), .val (.int i3), .val (.ref t_1), .val (.ref t_2), .val (.ref t_3), .val (.ref w1), .val (.int (1 : Int32)), .val (.ref b78), .val (.ref t_80)] [(.int (1 : Int32))]))
      refine hG _ _ (fun t k => XS.ifNo X92.here hx rfl (hb hby at_130) rfl ((if0 _ _).trans (feq (by decide)).1) k) ?_
      show G (T92.setTop (mkF m 133 #[.val (.int i0), .val (.int i1), .val (.int i2), .val (.int i3), .val (.ref t_1), .val (.ref t_2), .val (.ref t_3), .val (.ref w1), .val (.int (1 : Int32)), .val (.ref b78), .val (.ref t_80)] []))
      refine hG _ _ (fun t k => XS.aload X92.here hx rfl (hb hby at_133) rfl rfl k) ?_
      show G (T92.setTop (mkF m 135 #[.val (.int i0), .val (.int i1), .val (.int i2), .val (.int i3), .val (.ref t_1), .val (.ref t_2), .val (.ref t_3), .val (.ref w1), .val (.int (1 : Int32)), .val (.ref b78), .val (.ref t_80)] [(.ref b78)]))
      have f94 := (r79_2.keep J80 nin0)
      refine own_callV (C := "com/example/perenna/perenna/Visibility$Field") X92 hx hZ hG hown (hw _ (List.mem_of_getElem? (i := 74) rfl)) (hw _ (List.mem_of_getElem? (i := 75) rfl)) (hw _ (List.mem_of_getElem? (i := 77) rfl)) (hw _ (List.mem_of_getElem? (i := 76) rfl)) (hw _ (List.mem_of_getElem? (i := 39) rfl)) (hw _ (List.mem_of_getElem? (i := 78) rfl)) (by decide) 0 (own_get_member l Z a0 hw b78 t_2 h80 O80 f94) (by decide) (by decide) e92 f91 (by rw [hml]; rfl) (lenOf own_pd9 rfl) (argsL := []) (rest := []) rfl rfl (Nat.le_of_eq rfl) (hb hby at_135) (by decide) (by decide) ?_
      intro T93 h93 v93 L93 X93 e93 q93
      obtain ⟨rfl, M93, rfl⟩ := q93
      have N93 := Fr.app N92 M93
      show G (T93.setTop (mkF m 138 #[.val (.int i0), .val (.int i1), .val (.int i2), .val (.int i3), .val (.ref t_1), .val (.ref t_2), .val (.ref t_3), .val (.ref w1), .val (.int (1 : Int32)), .val (.ref b78), .val (.ref t_80)] [(.ref t_2)]))
      refine hG _ _ (fun t k => XS.aload X93.here hx rfl (hb hby at_138) rfl rfl k) ?_
      show G (T93.setTop (mkF m 140 #[.val (.int i0), .val (.int i1), .val (.int i2), .val (.int i3), .val (.ref t_1), .val (.ref t_2), .val (.ref t_3), .val (.ref w1), .val (.int (1 : Int32)), .val (.ref b78), .val (.ref t_80)] [(.ref t_2), (.ref t_2)]))
      have f96 := ((((r2_0.keep J3).ext E78).keep J79).keep J80)
      refine own_callV (C := "java/lang/String") X93 hx hZ hG hown (hw _ (List.mem_of_getElem? (i := 69) rfl)) (hw _ (List.mem_of_getElem? (i := 70) rfl)) (hw _ (List.mem_of_getElem? (i := 72) rfl)) (hw _ (List.mem_of_getElem? (i := 71) rfl)) (hw _ (List.mem_of_getElem? (i := 7) rfl)) (hw _ (List.mem_of_getElem? (i := 73) rfl)) (by decide) 0 (own_eqs l Z a0 hw t_2 h80 O80) (by decide) (by decide) e93 f96 (by rw [hml]; rfl) (lenOf own_pd12 rfl) (argsL := [(.ref t_2)]) (rest := []) rfl rfl (Nat.le_of_eq rfl) (hb hby at_140) (by decide) (by decide) ?_
      intro T95 h95 v95 L95 X95 e95 q95
      obtain ⟨rfl, M95, rfl⟩ := q95
      have N95 := Fr.app N93 M95
      show G (T95.setTop (mkF m 143 #[.val (.int i0), .val (.int i1), .val (.int i2), .val (.int i3), .val (.ref t_1), .val (.ref t_2), .val (.ref t_3), .val (.ref w1), .val (.int (1 : Int32)), .val (.ref b78), .val (.ref t_80)] [(.int (1 : Int32))]))
      refine hG _ _ (fun t k => XS.ifNo X95.here hx rfl (hb hby at_143) rfl ((if0 _ _).trans (feq (by decide)).1) k) ?_
      show G (T95.setTop (mkF m 146 #[.val (.int i0), .val (.int i1), .val (.int i2), .val (.int i3), .val (.ref t_1), .val (.ref t_2), .val (.ref t_3), .val (.ref w1), .val (.int (1 : Int32)), .val (.ref b78), .val (.ref t_80)] []))
      refine hG _ _ (fun t k => XS.aload X95.here hx rfl (hb hby at_146) rfl rfl k) ?_
      show G (T95.setTop (mkF m 148 #[.val (.int i0), .val (.int i1), .val (.int i2), .val (.int i3), .val (.ref t_1), .val (.ref t_2), .val (.ref t_3), .val (.ref w1), .val (.int (1 : Int32)), .val (.ref b78), .val (.ref t_80)] [(.ref b78)]))
      have f98 := (r79_3.keep J80 nin0)
      refine own_callV (C := "com/example/perenna/perenna/Visibility$Field") X95 hx hZ hG hown (hw _ (List.mem_of_getElem? (i := 79) rfl)) (hw _ (List.mem_of_getElem? (i := 80) rfl)) (hw _ (List.mem_of_getElem? (i := 82) rfl)) (hw _ (List.mem_of_getElem? (i := 81) rfl)) (hw _ (List.mem_of_getElem? (i := 39) rfl)) (hw _ (List.mem_of_getElem? (i := 83) rfl)) (by decide) 0 (own_get_byDefault l Z a0 hw b78 w1 h80 O80 f98) (by decide) (by decide) e95 f91 (by rw [hml]; rfl) (lenOf own_pd10 rfl) (argsL := []) (rest := []) rfl rfl (Nat.le_of_eq rfl) (hb hby at_148) (by decide) (by decide) ?_
      intro T97 h97 v97 L97 X97 e97 q97
      obtain ⟨rfl, M97, rfl⟩ := q97
      have N97 := Fr.app N95 M97
      show G (T97.setTop (mkF m 151 #[.val (.int i0), .val (.int i1), .val (.int i2), .val (.int i3), .val (.ref t_1), .val (.ref t_2), .val (.ref t_3), .val (.ref w1), .val (.int (1 : Int32)), .val (.ref b78), .val (.ref t_80)] [(.ref w1)]))
      refine hG _ _ (fun t k => XS.aload X97.here hx rfl (hb hby at_151) rfl rfl k) ?_
      show G (T97.setTop (mkF m 153 #[.val (.int i0), .val (.int i1), .val (.int i2), .val (.int i3), .val (.ref t_1), .val (.ref t_2), .val (.ref t_3), .val (.ref w1), .val (.int (1 : Int32)), .val (.ref b78), .val (.ref t_80)] [(.ref w1), (.ref w1)]))
      refine hG _ _ (fun t k => Jvm.RoadKit.acmp (g := (mkF m 153 #[.val (.int i0), .val (.int i1), .val (.int i2), .val (.int i3), .val (.ref t_1), .val (.ref t_2), .val (.ref t_3), .val (.ref w1), .val (.int (1 : Int32)), .val (.ref b78), .val (.ref t_80)] [(.ref w1), (.ref w1)])) X97 hx rfl rfl rfl (pc0 := 153) (pc' := 156) (same := true) rfl (hb hby at_153) rfl (decide_eq_true rfl) (by decide) (by decide) k) ?_
      show G (T97.setTop (mkF m 156 #[.val (.int i0), .val (.int i1), .val (.int i2), .val (.int i3), .val (.ref t_1), .val (.ref t_2), .val (.ref t_3), .val (.ref w1), .val (.int (1 : Int32)), .val (.ref b78), .val (.ref t_80)] []))
      refine hG _ _ (fun t k => XS.aload X97.here hx rfl (hb hby at_156) rfl rfl k) ?_
      show G (T97.setTop (mkF m 158 #[.val (.int i0), .val (.int i1), .val (.int i2), .val (.int i3), .val (.ref t_1), .val (.ref t_2), .val (.ref t_3), .val (.ref w1), .val (.int (1 : Int32)), .val (.ref b78), .val (.ref t_80)] [(.ref b78)]))
      have f100 := (r79_4.keep J80 nin0)
      refine own_callV (C := "com/example/perenna/perenna/Visibility$Field") X97 hx hZ hG hown (hw _ (List.mem_of_getElem? (i := 84) rfl)) (hw _ (List.mem_of_getElem? (i := 85) rfl)) (hw _ (List.mem_of_getElem? (i := 87) rfl)) (hw _ (List.mem_of_getElem? (i := 86) rfl)) (hw _ (List.mem_of_getElem? (i := 39) rfl)) (hw _ (List.mem_of_getElem? (i := 88) rfl)) (by decide) 0 (own_get_fixed l Z a0 hw b78 (nar .boolean (1 : Int32)) h80 O80 f100) (by decide) (by decide) e97 f91 (by rw [hml]; rfl) (lenOf own_pd11 rfl) (argsL := []) (rest := []) rfl rfl (Nat.le_of_eq rfl) (hb hby at_158) (by decide) (by decide) ?_
      intro T99 h99 v99 L99 X99 e99 q99
      obtain ⟨rfl, M99, rfl⟩ := q99
      have N99 := Fr.app N97 M99
      show G (T99.setTop (mkF m 161 #[.val (.int i0), .val (.int i1), .val (.int i2), .val (.int i3), .val (.ref t_1), .val (.ref t_2), .val (.ref t_3), .val (.ref w1), .val (.int (1 : Int32)), .val (.ref b78), .val (.ref t_80)] [(.int (nar .boolean (nar .boolean (1 : Int32))))]))
      refine hG _ _ (fun t k => XS.iload X99.here hx rfl (hb hby at_161) rfl k) ?_
      show G (T99.setTop (mkF m 163 #[.val (.int i0), .val (.int i1), .val (.int i2), .val (.int i3), .val (.ref t_1), .val (.ref t_2), .val (.ref t_3), .val (.ref w1), .val (.int (1 : Int32)), .val (.ref b78), .val (.ref t_80)] [(.int (1 : Int32)), (.int (nar .boolean (nar .boolean (1 : Int32))))]))
      refine hG _ _ (fun t k => XS.icmpNo X99.here hx rfl (hb hby at_163) rfl (teq (by decide)).2 k) ?_
      show G (T99.setTop (mkF m 166 #[.val (.int i0), .val (.int i1), .val (.int i2), .val (.int i3), .val (.ref t_1), .val (.ref t_2), .val (.ref t_3), .val (.ref w1), .val (.int (1 : Int32)), .val (.ref b78), .val (.ref t_80)] []))
      refine hG _ _ (fun t k => XS.iconst X99.here hx rfl (hb hby at_166) k) ?_
      show G (T99.setTop (mkF m 167 #[.val (.int i0), .val (.int i1), .val (.int i2), .val (.int i3), .val (.ref t_1), .val (.ref t_2), .val (.ref t_3), .val (.ref w1), .val (.int (1 : Int32)), .val (.ref b78), .val (.ref t_80)] [(.int (1 : Int32))]))
      refine hG _ _ (fun t k => XS.goto X99.here hx rfl (pc0 := 167) (pc' := 171) rfl (hb hby at_167) (by decide) (by decide) k) ?_
      show G (T99.setTop (mkF m 171 #[.val (.int i0), .val (.int i1), .val (.int i2), .val (.int i3), .val (.ref t_1), .val (.ref t_2), .val (.ref t_3), .val (.ref w1), .val (.int (1 : Int32)), .val (.ref b78), .val (.ref t_80)] [(.int (1 : Int32))]))
      exact own_retN hR hret (by simp) X99 hx (hb hby at_171) (by decide) (by decide) (by rw [e99]; exact ⟨rfl, N99, K80⟩)
set_option maxRecDepth 65536 in
set_option maxHeartbeats 40000000 in
theorem own_comes {Post : Tables → Env → Array Value → State → Outcome → State → Prop} (hpost : ∀ tb e args s v u, (limb_1_1.after args s (.returned v) u = true ∧ limb_1_2.after args s (.returned v) u = true ∧ True) → FrameEnd s (.returned v) u (Jvm.fieldLocs frame_1_writes args s ++ Jvm.arrayLocs frame_1_arrays args s ++ Jvm.staticLocs frame_1_statics s) 32 128 → Post tb e args s (.returned v) u) :
    ArmFor flags0 classFile x code maxLocals ret World_1 tables_1 room_1 Calls_1 rest_1 Pre_1 Post := by
  intro l hfl _ _ p e ha hc hk s m args below hf hA hF happ hP
  obtain ⟨hcalls, hrest, hpre⟩ := hP
  obtain ⟨-, -, -, hnamed, -, -, -, hat⟩ := (Spec.applies_iff hf).mp happ
  obtain ⟨hg, hn⟩ := and_e (Cond.before_iff.mp (show (Jvm.Cond.and given_1 narrow_1).before args s = true from hpre))
  obtain ⟨hcnt, hg⟩ := and_e hg
  obtain ⟨g0, hg⟩ := and_e hg
  obtain ⟨g1, hg⟩ := and_e hg
  obtain ⟨g2, hg⟩ := and_e hg
  have g3 := hg
  obtain ⟨w0, w1, w2, w3, rfl⟩ : ∃ w0 w1 w2 w3 : Value, args = #[w0, w1, w2, w3] := by
    have hs : args.size = 4 := by simpa [Cond.value, given_1] using hcnt
    obtain ⟨L⟩ := args
    match L, hs with
    | [w0, w1, w2, w3], _ => exact ⟨w0, w1, w2, w3, rfl⟩
  have hw := fun d (hd : d ∈ tables_1) => atoms_spec (ws := Jvm.Cond.code x code maxLocals ret :: tables_1) hat d (List.mem_cons_of_mem _ hd)
  have hfit : Fit s := fun {y c} hc i hi => by
    obtain ⟨ha, rfl⟩ := Array.getElem?_eq_some_iff.mp hc
    have q := List.all_eq_true.mp ((Array.all_eq_true_iff_forall_mem.mp hF) _ (Array.getElem_mem ha)) i (List.mem_range.mpr hi)
    simpa [Array.getElem?_eq_getElem hi] using q
  obtain ⟨hsets, hown0⟩ := atoms_of _ (rest_1_c_eq ▸ (show rest_1_c.before _ s = true from hrest))
  have hr0 := Cond.before_iff.mp hown0
  obtain ⟨i0, ei0⟩ := is_v g0
  obtain rfl : w0 = (.int i0) := Option.some.inj ei0
  obtain ⟨i1, ei1⟩ := is_v g1
  obtain rfl : w1 = (.int i1) := Option.some.inj ei1
  obtain ⟨i2, ei2⟩ := is_v g2
  obtain rfl : w2 = (.int i2) := Option.some.inj ei2
  obtain ⟨i3, ei3⟩ := is_v g3
  obtain rfl : w3 = (.int i3) := Option.some.inj ei3
  obtain ⟨cpt, ecpt⟩ := is_v (Cond.before_iff.mp (hsets _ (List.mem_of_getElem? (i := 1) rfl)))
  have S_cpt : Sta s s.heap "java/lang/String" "COMPACT_STRINGS" "Z" (.int cpt) := Sta.start ecpt (Or.inl (hsets _ (List.mem_of_getElem? (i := 0) rfl)))
  have h_cpt : ¬ (cpt = (0 : Int32)) := gotF (Cond.eq_ints ecpt (Term.int_eval (0))) (not_v (Cond.before_iff.mp (hsets _ (List.mem_of_getElem? (i := 2) rfl))))
  obtain ⟨m1, m2⟩ := and_e hn
  obtain ⟨w1', ew1⟩ := exa_v m1
  have S1 : Sta s s.heap "com/example/perenna/perenna/Visibility" "PRIVATE" "Lcom/example/perenna/perenna/Visibility;" (.ref w1') := Sta.start ew1 (Or.inr ⟨(hw _ (List.mem_of_getElem? (i := 35) rfl)), (hw _ (List.mem_of_getElem? (i := 36) rfl))⟩)
  obtain ⟨w2', ew2⟩ := exa_v m2
  have S2 : Sta s s.heap "com/example/perenna/perenna/Visibility" "PUBLIC" "Lcom/example/perenna/perenna/Visibility;" (.ref w2') := Sta.start ew2 (Or.inr ⟨(hw _ (List.mem_of_getElem? (i := 35) rfl)), (hw _ (List.mem_of_getElem? (i := 90) rfl))⟩)
  obtain ⟨n, o, h1, h2, h3, _, L, rfl, ⟨rfl, N, K⟩, hq⟩ := own_law l s _ hw tables_1 i0 i1 i2 i3 cpt w1' w2' s.heap (Old.start s) S_cpt h_cpt S1 S2 p e ha hc hk s m _ below hf ((Spec.applies_iff_loose hf).mp happ).1 ⟨rfl, State.Warmed39.refl s, rfl⟩ trivial
  refine ⟨n, _, h1, h2, h3, hpost _ _ _ _ _ _ ⟨Cond.after_iff.mpr rfl, Cond.after_iff.mpr (eq_i res_at (Term.int_eval (1)) rfl), trivial⟩ ⟨hq.1, hq.2.1, (hq.2.2.sift fun y hy => Or.inr (N y hy)).mono (by decide) (by decide)⟩⟩
theorem main_1_1 : Claimed_1_1 := own_comes fun _ _ _ _ _ _ h hF => ⟨h.1, hF⟩
theorem main_1_2 : Claimed_1_2 := own_comes fun _ _ _ _ _ _ h hF => ⟨h.2.1, hF⟩
end Jvm.Pilot.@@N@@
namespace Jvm.Pilot.@@N@@
open Jvm Jvm.ClassFile Sem Op Lib Jvm.Free Jvm.Stand Jvm.Pilot.@@N@@.Jvm.D
/-! MADE BY PROGRAM (witnessworld.py) out of the Statement's table words and the real class files: 24 classes; the members and pool entries that the words name. The judged class is class 1, her method 2. -/
namespace start1
open Jvm.ClassFile
def u (s : String) : CpInfo := .utf8 (stringToUtf16 s)
/-- a pool by its gaps: so many unusable entries, then the entry; so many at the end -/
def gap : Nat → List CpInfo → List CpInfo
  | 0, r => r
  | n + 1, r => .unusable :: gap n r
def poolList (es : List (Nat × CpInfo)) (last : Nat) : List CpInfo := es.foldr (fun e r => gap e.1 (e.2 :: r)) (gap last [])
def pool (es : List (Nat × CpInfo)) (last : Nat) : Array CpInfo := ⟨poolList es last⟩
def fileOf (pool : Array CpInfo) (this : Nat) (attrs : Array Attribute := #[]) (ms : Array MethodInfo := #[]) (fl : Nat := 33) (sup : Nat := 0) (ifs : Array Nat := #[]) (fds : Array FieldInfo := #[]) : ClassFile where
  minorVersion := 0
  majorVersion := 65
  constantPool := pool
  accessFlags := fl
  thisClass := this
  superClass := sup
  interfaces := ifs
  fields := fds
  methods := ms
  attributes := attrs
def plain (name : String) (sup : Option ClassId) : Class where
  name := name
  kind := .ordinary
  loader := none
  accessFlags := 33
  super := sup
  interfaces := #[]
  cf := none
  fields := #[]
  methods := #[]
  instanceTypes := #[]
  staticTypes := #[]
  resolved := #[]
  callSites := []
  init := .initialized
  statics := none
  mirror := none

def pool0 : Array CpInfo := pool [(5, u "<init>"), (0, u "()V"), (1, .class_ 10), (1, u "java/lang/Object")] 113

def k0c0 : Code := { maxStack := 0, maxLocals := 1, code := object_method_1_code, exceptionTable := #[], attributes := #[] }
def k0m0 : Method := { name := "<init>", desc := "()V", sig := { parameters := [], returnType := none }, accessFlags := 1, code := some k0c0 }
/-- java/lang/Object -/
def k0 : Class := { plain "java/lang/Object" none with
  accessFlags := 33
  interfaces := #[]
  cf := some (fileOf pool0 8 #[] #[{ accessFlags := 1, nameIndex := 5, descriptorIndex := 6, attributes := #[] }] 33 0 #[] #[])
  fields := #[]
  methods := #[k0m0]
  instanceTypes := #[]
  staticTypes := #[]
  resolved := Array.replicate 124 none
  statics := none }

def pool1 : Array CpInfo := pool [(2, .class_ 4), (1, u "java/lang/Object"), (0, u "<init>"), (0, u "()V"), (0, .class_ 8), (0, u "java/lang/String"), (0, .methodref 7 10), (0, .nameAndType 5 11), (0, u "([C)V"), (0, .methodref 13 14), (0, .class_ 15), (0, .nameAndType 16 17), (0, u "com/example/perenna/perenna/FieldWithinPinLaw"), (0, u "str"), (0, u "(I)Ljava/lang/String;"), (0, .fieldref 19 20), (0, .class_ 21), (0, .nameAndType 22 23), (0, u "com/example/perenna/perenna/Visibility"), (0, u "PRIVATE"), (0, u "Lcom/example/perenna/perenna/Visibility;"), (0, .fieldref 19 25), (0, .nameAndType 26 23), (0, u "PUBLIC"), (0, .class_ 28), (0, u "com/example/perenna/perenna/Visibility$Field"), (0, .methodref 27 30), (0, .nameAndType 5 31), (0, u "(Ljava/lang/String;Ljava/lang/String;Lcom/example/perenna/perenna/Visibility;Z)V"), (0, .methodref 27 33), (0, .nameAndType 34 35), (0, u "within"), (0, u "(Ljava/lang/String;)Lcom/example/perenna/perenna/Visibility$Field;"), (0, .methodref 27 37), (0, .nameAndType 38 39), (0, u "name"), (0, u "()Ljava/lang/String;"), (0, .methodref 7 41), (0, .nameAndType 42 43), (0, u "equals"), (0, u "(Ljava/lang/Object;)Z"), (0, .methodref 27 45), (0, .nameAndType 46 39), (0, u "member"), (0, .methodref 27 48), (0, .nameAndType 49 50), (0, u "byDefault"), (0, u "()Lcom/example/perenna/perenna/Visibility;"), (0, .methodref 27 52), (0, .nameAndType 53 54), (0, u "fixed"), (0, u "()Z"), (2, u "law"), (0, u "(IIII)Z")] 5

def k1m0 : Method := { name := "<init>", desc := "()V", sig := { parameters := [], returnType := none }, accessFlags := 1, code := none }
def k1c1 : Code := { maxStack := 4, maxLocals := 2, code := method_2_code, exceptionTable := #[], attributes := #[] }
def k1m1 : Method := { name := "str", desc := "(I)Ljava/lang/String;", sig := { parameters := [.int], returnType := some (.object "java/lang/String") }, accessFlags := 10, code := some k1c1 }
def k1c2 : Code := { maxStack := 6, maxLocals := 11, code := code, exceptionTable := #[], attributes := #[] }
def k1m2 : Method := { name := "law", desc := "(IIII)Z", sig := { parameters := [.int, .int, .int, .int], returnType := some .boolean }, accessFlags := 9, code := some k1c2 }
/-- com/example/perenna/perenna/FieldWithinPinLaw -/
def k1 : Class := { plain "com/example/perenna/perenna/FieldWithinPinLaw" (some 0) with
  accessFlags := 49
  interfaces := #[]
  cf := some (fileOf pool1 13 #[] #[{ accessFlags := 1, nameIndex := 5, descriptorIndex := 6, attributes := #[] }, { accessFlags := 10, nameIndex := 16, descriptorIndex := 17, attributes := #[] }, { accessFlags := 9, nameIndex := 57, descriptorIndex := 58, attributes := #[] }] 49 2 #[] #[])
  fields := #[]
  methods := #[k1m0, k1m1, k1m2]
  instanceTypes := #[]
  staticTypes := #[]
  resolved := Array.replicate 64 none
  statics := none }

def pool2 : Array CpInfo := pool [(1, .class_ 2), (0, u "java/io/Serializable"), (0, .class_ 4), (0, u "java/lang/Object")] 2

/-- java/io/Serializable -/
def k2 : Class := { plain "java/io/Serializable" (some 0) with
  accessFlags := 1537
  interfaces := #[]
  cf := some (fileOf pool2 1 #[] #[] 1537 3 #[] #[])
  fields := #[]
  methods := #[]
  instanceTypes := #[]
  staticTypes := #[]
  resolved := Array.replicate 7 none
  statics := none }

def pool3 : Array CpInfo := pool [(1, .class_ 2), (0, u "java/lang/Comparable"), (0, .class_ 4), (0, u "java/lang/Object")] 7

/-- java/lang/Comparable -/
def k3 : Class := { plain "java/lang/Comparable" (some 0) with
  accessFlags := 1537
  interfaces := #[]
  cf := some (fileOf pool3 1 #[] #[] 1537 3 #[] #[])
  fields := #[]
  methods := #[]
  instanceTypes := #[]
  staticTypes := #[]
  resolved := Array.replicate 12 none
  statics := none }

def pool4 : Array CpInfo := pool [(2, .class_ 4), (1, u "java/lang/CharSequence"), (42, .class_ 48), (0, u "java/lang/CharSequence$1CodePointIterator"), (10, .class_ 60), (0, u "java/lang/CharSequence$1CharIterator"), (5, .class_ 67), (0, u "java/lang/Object")] 63

/-- java/lang/CharSequence -/
def k4 : Class := { plain "java/lang/CharSequence" (some 0) with
  accessFlags := 1537
  interfaces := #[]
  cf := some (fileOf pool4 2 #[.nestMembers #[47, 59]] #[] 1537 66 #[] #[])
  fields := #[]
  methods := #[]
  instanceTypes := #[]
  staticTypes := #[]
  resolved := Array.replicate 131 none
  statics := none }

def pool5 : Array CpInfo := pool [(1, .class_ 2), (0, u "java/lang/constant/Constable"), (0, .class_ 4), (0, u "java/lang/Object")] 6

/-- java/lang/constant/Constable -/
def k5 : Class := { plain "java/lang/constant/Constable" (some 0) with
  accessFlags := 1537
  interfaces := #[]
  cf := some (fileOf pool5 1 #[] #[] 1537 3 #[] #[])
  fields := #[]
  methods := #[]
  instanceTypes := #[]
  staticTypes := #[]
  resolved := Array.replicate 11 none
  statics := none }

def pool6 : Array CpInfo := pool [(1, .class_ 2), (0, u "java/lang/constant/ConstantDesc"), (0, .class_ 4), (0, u "java/lang/Object")] 32

/-- java/lang/constant/ConstantDesc -/
def k6 : Class := { plain "java/lang/constant/ConstantDesc" (some 0) with
  accessFlags := 1537
  interfaces := #[]
  cf := some (fileOf pool6 1 #[] #[] 1537 3 #[] #[])
  fields := #[]
  methods := #[]
  instanceTypes := #[]
  staticTypes := #[]
  resolved := Array.replicate 37 none
  statics := none }

def pool7 : Array CpInfo := pool [(1, .methodref 2 3), (0, .class_ 4), (0, .nameAndType 5 6), (0, u "java/lang/Object"), (0, u "<init>"), (0, u "()V"), (2, .fieldref 10 11), (0, .class_ 12), (0, .nameAndType 13 14), (0, u "java/lang/String"), (0, u "value"), (0, u "[B"), (0, .fieldref 10 16), (0, .nameAndType 17 18), (0, u "coder"), (0, u "B"), (2, u "hash"), (0, u "I"), (2, u "hashIsZero"), (0, u "Z"), (0, .methodref 10 28), (0, .nameAndType 5 29), (0, u "([CIILjava/lang/Void;)V"), (8, .fieldref 10 39), (0, .nameAndType 40 26), (0, u "COMPACT_STRINGS"), (1, .class_ 44), (1, u "java/lang/StringUTF16"), (0, u "compress"), (1, .methodref 42 48), (0, .nameAndType 49 50), (0, u "coderFromArrayLen"), (0, u "([BI)B"), (126, .methodref 42 178), (0, .nameAndType 45 179), (0, u "([CII)[B"), (363, u "equals"), (29, u "(Ljava/lang/Object;)Z"), (1, .class_ 576), (0, u "java/lang/CharSequence"), (22, u "CASE_INSENSITIVE_ORDER"), (0, u "Ljava/util/Comparator;"), (409, u "([C)V"), (90, u "serialPersistentFields"), (0, u "[Ljava/io/ObjectStreamField;"), (0, .class_ 1104), (0, u "java/lang/String$CaseInsensitiveComparator"), (1, .class_ 1107), (0, u "java/io/Serializable"), (0, .class_ 1109), (0, u "java/lang/Comparable"), (0, .class_ 1111), (0, u "java/lang/constant/Constable"), (0, .class_ 1113), (0, u "java/lang/constant/ConstantDesc"), (2, u "serialVersionUID"), (0, u "J"), (3, u "REPL"), (0, u "C"), (2, u "LATIN1"), (1, u "UTF16")] 323

def k7m0 : Method := { name := "<init>", desc := "()V", sig := { parameters := [], returnType := none }, accessFlags := 1, code := none }
def k7c1 : Code := { maxStack := 5, maxLocals := 2, code := jdk_42_method_3_code, exceptionTable := #[], attributes := #[] }
def k7m1 : Method := { name := "<init>", desc := "([C)V", sig := { parameters := [(.array .char)], returnType := none }, accessFlags := 1, code := some k7c1 }
def k7c2 : Code := { maxStack := 2, maxLocals := 3, code := jdk_42_method_66_code, exceptionTable := #[], attributes := #[] }
def k7m2 : Method := { name := "equals", desc := "(Ljava/lang/Object;)Z", sig := { parameters := [(.object "java/lang/Object")], returnType := some .boolean }, accessFlags := 1, code := some k7c2 }
def k7c3 : Code := { maxStack := 4, maxLocals := 6, code := jdk_42_method_149_code, exceptionTable := #[], attributes := #[] }
def k7m3 : Method := { name := "<init>", desc := "([CIILjava/lang/Void;)V", sig := { parameters := [(.array .char), .int, .int, (.object "java/lang/Void")], returnType := none }, accessFlags := 2, code := some k7c3 }
/-- java/lang/String -/
def k7 : Class := { plain "java/lang/String" (some 0) with
  accessFlags := 49
  interfaces := #[2, 3, 4, 5, 6]
  cf := some (fileOf pool7 10 #[.nestMembers #[1103]] #[{ accessFlags := 1, nameIndex := 5, descriptorIndex := 6, attributes := #[] }, { accessFlags := 1, nameIndex := 5, descriptorIndex := 1010, attributes := #[] }, { accessFlags := 1, nameIndex := 543, descriptorIndex := 573, attributes := #[] }, { accessFlags := 2, nameIndex := 5, descriptorIndex := 29, attributes := #[] }] 49 2 #[1106, 1108, 575, 1110, 1112] #[{ accessFlags := 18, nameIndex := 13, descriptorIndex := 14, attributes := #[] }, { accessFlags := 18, nameIndex := 17, descriptorIndex := 18, attributes := #[] }, { accessFlags := 2, nameIndex := 21, descriptorIndex := 22, attributes := #[] }, { accessFlags := 2, nameIndex := 25, descriptorIndex := 26, attributes := #[] }, { accessFlags := 26, nameIndex := 1116, descriptorIndex := 1117, attributes := #[] }, { accessFlags := 24, nameIndex := 40, descriptorIndex := 26, attributes := #[] }, { accessFlags := 26, nameIndex := 1101, descriptorIndex := 1102, attributes := #[] }, { accessFlags := 26, nameIndex := 1121, descriptorIndex := 1122, attributes := #[] }, { accessFlags := 25, nameIndex := 599, descriptorIndex := 600, attributes := #[] }, { accessFlags := 24, nameIndex := 1125, descriptorIndex := 18, attributes := #[] }, { accessFlags := 24, nameIndex := 1127, descriptorIndex := 18, attributes := #[] }])
  fields := #[{ name := "value", type := (.array .byte), accessFlags := 18, slot := 0, constantValue := 0 }, { name := "coder", type := .byte, accessFlags := 18, slot := 1, constantValue := 0 }, { name := "hash", type := .int, accessFlags := 2, slot := 2, constantValue := 0 }, { name := "hashIsZero", type := .boolean, accessFlags := 2, slot := 3, constantValue := 0 }, { name := "serialVersionUID", type := .long, accessFlags := 26, slot := 0, constantValue := 0 }, { name := "COMPACT_STRINGS", type := .boolean, accessFlags := 24, slot := 1, constantValue := 0 }, { name := "serialPersistentFields", type := (.array (.object "java/io/ObjectStreamField")), accessFlags := 26, slot := 2, constantValue := 0 }, { name := "REPL", type := .char, accessFlags := 26, slot := 3, constantValue := 0 }, { name := "CASE_INSENSITIVE_ORDER", type := (.object "java/util/Comparator"), accessFlags := 25, slot := 4, constantValue := 0 }, { name := "LATIN1", type := .byte, accessFlags := 24, slot := 5, constantValue := 0 }, { name := "UTF16", type := .byte, accessFlags := 24, slot := 6, constantValue := 0 }]
  methods := #[k7m0, k7m1, k7m2, k7m3]
  instanceTypes := #[(.array .byte), .byte, .int, .boolean]
  staticTypes := #[.long, .boolean, (.array (.object "java/io/ObjectStreamField")), .char, (.object "java/util/Comparator"), .byte, .byte]
  resolved := Array.replicate 1451 none
  statics := some 0 }

def pool8 : Array CpInfo := pool [(6, .class_ 8), (1, u "java/lang/Object"), (0, u "<init>"), (0, u "()V"), (1, .class_ 14), (1, u "java/lang/StringUTF16"), (31, u "$assertionsDisabled"), (0, u "Z"), (13, u "HI_BYTE_SHIFT"), (0, u "I"), (2, u "LO_BYTE_SHIFT"), (49, .methodref 12 116), (0, .nameAndType 117 118), (0, u "compress"), (0, u "([CI[BII)I"), (3, u "([CII)[B"), (138, u "coderFromArrayLen"), (0, u "([BI)B"), (106, .class_ 371), (1, u "java/lang/StringUTF16$LinesSpliterator"), (58, u "MAX_LENGTH"), (196, .class_ 628), (0, u "java/lang/StringUTF16$CodePointsSpliterator"), (0, .class_ 630), (0, u "java/lang/StringUTF16$CharsSpliterator")] 4

def k8m0 : Method := { name := "<init>", desc := "()V", sig := { parameters := [], returnType := none }, accessFlags := 0, code := none }
def k8c1 : Code := { maxStack := 2, maxLocals := 2, code := jdk_52_method_15_code, exceptionTable := #[], attributes := #[] }
def k8m1 : Method := { name := "coderFromArrayLen", desc := "([BI)B", sig := { parameters := [(.array .byte), .int], returnType := some .byte }, accessFlags := 8, code := some k8c1 }
def k8c2 : Code := { maxStack := 5, maxLocals := 6, code := jdk_52_method_16_code, exceptionTable := #[], attributes := #[] }
def k8m2 : Method := { name := "compress", desc := "([CII)[B", sig := { parameters := [(.array .char), .int, .int], returnType := some (.array .byte) }, accessFlags := 9, code := some k8c2 }
def k8c3 : Code := { maxStack := 3, maxLocals := 7, code := jdk_52_method_21_code, exceptionTable := #[], attributes := #[] }
def k8m3 : Method := { name := "compress", desc := "([CI[BII)I", sig := { parameters := [(.array .char), .int, (.array .byte), .int, .int], returnType := some .int }, accessFlags := 9, code := some k8c3 }
/-- java/lang/StringUTF16 -/
def k8 : Class := { plain "java/lang/StringUTF16" (some 0) with
  accessFlags := 48
  interfaces := #[]
  cf := some (fileOf pool8 12 #[.nestMembers #[627, 629, 369]] #[{ accessFlags := 0, nameIndex := 9, descriptorIndex := 10, attributes := #[] }, { accessFlags := 8, nameIndex := 261, descriptorIndex := 262, attributes := #[] }, { accessFlags := 9, nameIndex := 117, descriptorIndex := 122, attributes := #[] }, { accessFlags := 9, nameIndex := 117, descriptorIndex := 118, attributes := #[] }] 48 6 #[] #[{ accessFlags := 26, nameIndex := 61, descriptorIndex := 62, attributes := #[] }, { accessFlags := 26, nameIndex := 65, descriptorIndex := 62, attributes := #[] }, { accessFlags := 24, nameIndex := 430, descriptorIndex := 62, attributes := #[] }, { accessFlags := 4120, nameIndex := 46, descriptorIndex := 47, attributes := #[] }])
  fields := #[{ name := "HI_BYTE_SHIFT", type := .int, accessFlags := 26, slot := 0, constantValue := 0 }, { name := "LO_BYTE_SHIFT", type := .int, accessFlags := 26, slot := 1, constantValue := 0 }, { name := "MAX_LENGTH", type := .int, accessFlags := 24, slot := 2, constantValue := 0 }, { name := "$assertionsDisabled", type := .boolean, accessFlags := 4120, slot := 3, constantValue := 0 }]
  methods := #[k8m0, k8m1, k8m2, k8m3]
  instanceTypes := #[]
  staticTypes := #[.int, .int, .int, .boolean]
  resolved := Array.replicate 635 none
  statics := none }

def pool9 : Array CpInfo := pool [(2, .class_ 4), (1, u "java/lang/Enum"), (0, u "name"), (0, u "Ljava/lang/String;"), (2, u "ordinal"), (0, u "I"), (1, .class_ 14), (1, u "java/lang/Object"), (4, u "hash"), (86, .class_ 108), (1, u "java/lang/Enum$EnumDesc"), (2, .class_ 112), (0, u "java/lang/constant/Constable"), (0, .class_ 114), (0, u "java/lang/Comparable"), (0, .class_ 116), (0, u "java/io/Serializable")] 87

/-- java/lang/Enum -/
def k9 : Class := { plain "java/lang/Enum" (some 0) with
  accessFlags := 1057
  interfaces := #[5, 3, 2]
  cf := some (fileOf pool9 2 #[.nestMembers #[106]] #[] 1057 12 #[111, 113, 115] #[{ accessFlags := 18, nameIndex := 5, descriptorIndex := 6, attributes := #[] }, { accessFlags := 18, nameIndex := 9, descriptorIndex := 10, attributes := #[] }, { accessFlags := 2, nameIndex := 19, descriptorIndex := 10, attributes := #[] }])
  fields := #[{ name := "name", type := (.object "java/lang/String"), accessFlags := 18, slot := 0, constantValue := 0 }, { name := "ordinal", type := .int, accessFlags := 18, slot := 1, constantValue := 0 }, { name := "hash", type := .int, accessFlags := 2, slot := 2, constantValue := 0 }]
  methods := #[]
  instanceTypes := #[(.object "java/lang/String"), .int, .int]
  staticTypes := #[]
  resolved := Array.replicate 204 none
  statics := none }

def pool10 : Array CpInfo := pool [(2, .class_ 4), (1, u "com/example/perenna/perenna/Labelled"), (55, .class_ 61), (0, u "java/lang/Object")] 26

/-- com/example/perenna/perenna/Labelled -/
def k10 : Class := { plain "com/example/perenna/perenna/Labelled" (some 0) with
  accessFlags := 1536
  interfaces := #[]
  cf := some (fileOf pool10 2 #[] #[] 1536 60 #[] #[])
  fields := #[]
  methods := #[]
  instanceTypes := #[]
  staticTypes := #[]
  resolved := Array.replicate 88 none
  statics := none }

def pool11 : Array CpInfo := pool [(1, .class_ 2), (0, u "com/example/perenna/perenna/Visibility"), (2, u "PUBLIC"), (0, u "Lcom/example/perenna/perenna/Visibility;"), (2, u "PRIVATE"), (2, u "$VALUES"), (0, u "[Lcom/example/perenna/perenna/Visibility;"), (6, .class_ 22), (1, u "java/lang/Enum"), (13, .class_ 37), (0, u "com/example/perenna/perenna/Labelled"), (12, .class_ 51), (0, u "com/example/perenna/perenna/Visibility$Field")] 2

/-- com/example/perenna/perenna/Visibility -/
def k11 : Class := { plain "com/example/perenna/perenna/Visibility" (some 9) with
  accessFlags := 16432
  interfaces := #[10]
  cf := some (fileOf pool11 1 #[.nestMembers #[50]] #[] 16432 20 #[36] #[{ accessFlags := 16409, nameIndex := 5, descriptorIndex := 6, attributes := #[] }, { accessFlags := 16409, nameIndex := 9, descriptorIndex := 6, attributes := #[] }, { accessFlags := 4122, nameIndex := 12, descriptorIndex := 13, attributes := #[] }])
  fields := #[{ name := "PUBLIC", type := (.object "com/example/perenna/perenna/Visibility"), accessFlags := 16409, slot := 0, constantValue := 0 }, { name := "PRIVATE", type := (.object "com/example/perenna/perenna/Visibility"), accessFlags := 16409, slot := 1, constantValue := 0 }, { name := "$VALUES", type := (.array (.object "com/example/perenna/perenna/Visibility")), accessFlags := 4122, slot := 2, constantValue := 0 }]
  methods := #[]
  instanceTypes := #[(.object "java/lang/String"), .int, .int]
  staticTypes := #[(.object "com/example/perenna/perenna/Visibility"), (.object "com/example/perenna/perenna/Visibility"), (.array (.object "com/example/perenna/perenna/Visibility"))]
  resolved := Array.replicate 54 none
  statics := some 1 }

def pool12 : Array CpInfo := pool [(1, .methodref 2 3), (0, .class_ 4), (0, .nameAndType 5 6), (0, u "java/lang/Object"), (0, u "<init>"), (0, u "()V"), (0, .class_ 8), (0, u "java/lang/Record")] 13

def k12c0 : Code := { maxStack := 1, maxLocals := 1, code := jdk_30_method_1_code, exceptionTable := #[], attributes := #[] }
def k12m0 : Method := { name := "<init>", desc := "()V", sig := { parameters := [], returnType := none }, accessFlags := 4, code := some k12c0 }
/-- java/lang/Record -/
def k12 : Class := { plain "java/lang/Record" (some 0) with
  accessFlags := 1057
  interfaces := #[]
  cf := some (fileOf pool12 7 #[] #[{ accessFlags := 4, nameIndex := 5, descriptorIndex := 6, attributes := #[] }] 1057 2 #[] #[])
  fields := #[]
  methods := #[k12m0]
  instanceTypes := #[]
  staticTypes := #[]
  resolved := Array.replicate 22 none
  statics := none }

def pool13 : Array CpInfo := pool [(1, .methodref 2 3), (0, .class_ 4), (0, .nameAndType 5 6), (0, u "java/lang/Record"), (0, u "<init>"), (0, u "()V"), (0, .fieldref 8 9), (0, .class_ 10), (0, .nameAndType 11 12), (0, u "com/example/perenna/perenna/Visibility$Field"), (0, u "name"), (0, u "Ljava/lang/String;"), (0, .fieldref 8 14), (0, .nameAndType 15 12), (0, u "member"), (0, .fieldref 8 17), (0, .nameAndType 18 19), (0, u "byDefault"), (0, u "Lcom/example/perenna/perenna/Visibility;"), (0, .fieldref 8 21), (0, .nameAndType 22 23), (0, u "fixed"), (0, u "Z"), (1, .class_ 27), (1, u "com/example/perenna/perenna/Visibility"), (1, .methodref 8 30), (0, .nameAndType 5 31), (0, u "(Ljava/lang/String;Ljava/lang/String;Lcom/example/perenna/perenna/Visibility;Z)V"), (19, u "(Ljava/lang/String;)Lcom/example/perenna/perenna/Visibility$Field;"), (2, u "within"), (0, u "()Ljava/lang/String;"), (2, u "()Lcom/example/perenna/perenna/Visibility;"), (0, u "()Z")] 25

def k13c0 : Code := { maxStack := 2, maxLocals := 5, code := prog_19_method_1_code, exceptionTable := #[], attributes := #[] }
def k13m0 : Method := { name := "<init>", desc := "(Ljava/lang/String;Ljava/lang/String;Lcom/example/perenna/perenna/Visibility;Z)V", sig := { parameters := [(.object "java/lang/String"), (.object "java/lang/String"), (.object "com/example/perenna/perenna/Visibility"), .boolean], returnType := none }, accessFlags := 0, code := some k13c0 }
def k13c1 : Code := { maxStack := 6, maxLocals := 2, code := prog_19_method_5_code, exceptionTable := #[], attributes := #[] }
def k13m1 : Method := { name := "within", desc := "(Ljava/lang/String;)Lcom/example/perenna/perenna/Visibility$Field;", sig := { parameters := [(.object "java/lang/String")], returnType := some (.object "com/example/perenna/perenna/Visibility$Field") }, accessFlags := 0, code := some k13c1 }
def k13c2 : Code := { maxStack := 1, maxLocals := 1, code := prog_19_method_9_code, exceptionTable := #[], attributes := #[] }
def k13m2 : Method := { name := "name", desc := "()Ljava/lang/String;", sig := { parameters := [], returnType := some (.object "java/lang/String") }, accessFlags := 1, code := some k13c2 }
def k13c3 : Code := { maxStack := 1, maxLocals := 1, code := prog_19_method_10_code, exceptionTable := #[], attributes := #[] }
def k13m3 : Method := { name := "member", desc := "()Ljava/lang/String;", sig := { parameters := [], returnType := some (.object "java/lang/String") }, accessFlags := 1, code := some k13c3 }
def k13c4 : Code := { maxStack := 1, maxLocals := 1, code := prog_19_method_11_code, exceptionTable := #[], attributes := #[] }
def k13m4 : Method := { name := "byDefault", desc := "()Lcom/example/perenna/perenna/Visibility;", sig := { parameters := [], returnType := some (.object "com/example/perenna/perenna/Visibility") }, accessFlags := 1, code := some k13c4 }
def k13c5 : Code := { maxStack := 1, maxLocals := 1, code := prog_19_method_12_code, exceptionTable := #[], attributes := #[] }
def k13m5 : Method := { name := "fixed", desc := "()Z", sig := { parameters := [], returnType := some .boolean }, accessFlags := 1, code := some k13c5 }
/-- com/example/perenna/perenna/Visibility$Field -/
def k13 : Class := { plain "com/example/perenna/perenna/Visibility$Field" (some 12) with
  accessFlags := 48
  interfaces := #[]
  cf := some (fileOf pool13 8 #[.nestHost 25] #[{ accessFlags := 0, nameIndex := 5, descriptorIndex := 31, attributes := #[] }, { accessFlags := 0, nameIndex := 54, descriptorIndex := 51, attributes := #[] }, { accessFlags := 1, nameIndex := 11, descriptorIndex := 55, attributes := #[] }, { accessFlags := 1, nameIndex := 15, descriptorIndex := 55, attributes := #[] }, { accessFlags := 1, nameIndex := 18, descriptorIndex := 58, attributes := #[] }, { accessFlags := 1, nameIndex := 22, descriptorIndex := 59, attributes := #[] }] 48 2 #[] #[{ accessFlags := 18, nameIndex := 11, descriptorIndex := 12, attributes := #[] }, { accessFlags := 18, nameIndex := 15, descriptorIndex := 12, attributes := #[] }, { accessFlags := 18, nameIndex := 18, descriptorIndex := 19, attributes := #[] }, { accessFlags := 18, nameIndex := 22, descriptorIndex := 23, attributes := #[] }])
  fields := #[{ name := "name", type := (.object "java/lang/String"), accessFlags := 18, slot := 0, constantValue := 0 }, { name := "member", type := (.object "java/lang/String"), accessFlags := 18, slot := 1, constantValue := 0 }, { name := "byDefault", type := (.object "com/example/perenna/perenna/Visibility"), accessFlags := 18, slot := 2, constantValue := 0 }, { name := "fixed", type := .boolean, accessFlags := 18, slot := 3, constantValue := 0 }]
  methods := #[k13m0, k13m1, k13m2, k13m3, k13m4, k13m5]
  instanceTypes := #[(.object "java/lang/String"), (.object "java/lang/String"), (.object "com/example/perenna/perenna/Visibility"), .boolean]
  staticTypes := #[]
  resolved := Array.replicate 85 none
  statics := none }

def pool14 : Array CpInfo := pool [(4, .class_ 6), (1, u "java/lang/Object"), (0, u "<init>"), (0, u "()V"), (5, .class_ 16), (1, u "java/lang/StringLatin1"), (104, u "$assertionsDisabled"), (0, u "Z"), (98, .class_ 223), (1, u "java/lang/StringLatin1$LinesSpliterator"), (166, .class_ 391), (0, u "java/lang/StringLatin1$CharsSpliterator")] 3

def k14m0 : Method := { name := "<init>", desc := "()V", sig := { parameters := [], returnType := none }, accessFlags := 0, code := none }
/-- java/lang/StringLatin1 -/
def k14 : Class := { plain "java/lang/StringLatin1" (some 0) with
  accessFlags := 48
  interfaces := #[]
  cf := some (fileOf pool14 14 #[.nestMembers #[390, 221]] #[{ accessFlags := 0, nameIndex := 7, descriptorIndex := 8, attributes := #[] }] 48 4 #[] #[{ accessFlags := 4120, nameIndex := 121, descriptorIndex := 122, attributes := #[] }])
  fields := #[{ name := "$assertionsDisabled", type := .boolean, accessFlags := 4120, slot := 0, constantValue := 0 }]
  methods := #[k14m0]
  instanceTypes := #[]
  staticTypes := #[.boolean]
  resolved := Array.replicate 395 none
  statics := none }

def pool15 : Array CpInfo := pool [(2, .class_ 4), (1, u "java/lang/Object"), (0, u "<init>"), (0, u "()V"), (17, .class_ 26), (1, u "jdk/internal/util/Preconditions"), (28, .class_ 56), (0, u "jdk/internal/util/Preconditions$4"), (57, .class_ 115), (0, u "jdk/internal/util/Preconditions$1"), (7, u "SIOOBE_FORMATTER"), (0, u "Ljava/util/function/BiFunction;"), (0, .class_ 126), (0, u "jdk/internal/util/Preconditions$2"), (3, u "AIOOBE_FORMATTER"), (0, .class_ 132), (0, u "jdk/internal/util/Preconditions$3"), (3, u "IOOBE_FORMATTER")] 57

def k15m0 : Method := { name := "<init>", desc := "()V", sig := { parameters := [], returnType := none }, accessFlags := 1, code := none }
/-- jdk/internal/util/Preconditions -/
def k15 : Class := { plain "jdk/internal/util/Preconditions" (some 0) with
  accessFlags := 33
  interfaces := #[]
  cf := some (fileOf pool15 24 #[.nestMembers #[55, 131, 125, 114]] #[{ accessFlags := 1, nameIndex := 5, descriptorIndex := 6, attributes := #[] }] 33 2 #[] #[{ accessFlags := 25, nameIndex := 123, descriptorIndex := 124, attributes := #[] }, { accessFlags := 25, nameIndex := 130, descriptorIndex := 124, attributes := #[] }, { accessFlags := 25, nameIndex := 136, descriptorIndex := 124, attributes := #[] }])
  fields := #[{ name := "SIOOBE_FORMATTER", type := (.object "java/util/function/BiFunction"), accessFlags := 25, slot := 0, constantValue := 0 }, { name := "AIOOBE_FORMATTER", type := (.object "java/util/function/BiFunction"), accessFlags := 25, slot := 1, constantValue := 0 }, { name := "IOOBE_FORMATTER", type := (.object "java/util/function/BiFunction"), accessFlags := 25, slot := 2, constantValue := 0 }]
  methods := #[k15m0]
  instanceTypes := #[]
  staticTypes := #[(.object "java/util/function/BiFunction"), (.object "java/util/function/BiFunction"), (.object "java/util/function/BiFunction")]
  resolved := Array.replicate 194 none
  statics := some 2 }

def pool16 : Array CpInfo := pool [(9, u "<init>"), (6, .class_ 18), (1, u "java/lang/Object"), (0, u "()V"), (1, .class_ 23), (1, u "jdk/internal/util/ArraysSupport"), (0, u "LOG2_ARRAY_LONG_INDEX_SCALE"), (0, u "I"), (2, u "U"), (0, u "Ljdk/internal/misc/Unsafe;"), (8, u "BIG_ENDIAN"), (0, u "Z"), (8, u "LOG2_BYTE_BIT_SIZE"), (4, u "LOG2_ARRAY_INT_INDEX_SCALE"), (54, u "JLA"), (0, u "Ljdk/internal/access/JavaLangAccess;"), (11, u "LOG2_ARRAY_BOOLEAN_INDEX_SCALE"), (9, u "LOG2_ARRAY_BYTE_INDEX_SCALE"), (5, u "LOG2_ARRAY_CHAR_INDEX_SCALE"), (5, u "LOG2_ARRAY_SHORT_INDEX_SCALE"), (18, u "LOG2_ARRAY_FLOAT_INDEX_SCALE"), (24, u "LOG2_ARRAY_DOUBLE_INDEX_SCALE"), (89, u "T_BOOLEAN"), (2, u "T_CHAR"), (1, u "T_FLOAT"), (1, u "T_DOUBLE"), (1, u "T_BYTE"), (1, u "T_SHORT"), (1, u "T_INT"), (1, u "T_LONG"), (1, u "SOFT_MAX_ARRAY_LENGTH")] 83

def k16m0 : Method := { name := "<init>", desc := "()V", sig := { parameters := [], returnType := none }, accessFlags := 2, code := none }
/-- jdk/internal/util/ArraysSupport -/
def k16 : Class := { plain "jdk/internal/util/ArraysSupport" (some 0) with
  accessFlags := 33
  interfaces := #[]
  cf := some (fileOf pool16 21 #[] #[{ accessFlags := 2, nameIndex := 9, descriptorIndex := 19, attributes := #[] }] 33 16 #[] #[{ accessFlags := 24, nameIndex := 28, descriptorIndex := 29, attributes := #[] }, { accessFlags := 26, nameIndex := 38, descriptorIndex := 39, attributes := #[] }, { accessFlags := 25, nameIndex := 121, descriptorIndex := 25, attributes := #[] }, { accessFlags := 25, nameIndex := 131, descriptorIndex := 25, attributes := #[] }, { accessFlags := 25, nameIndex := 137, descriptorIndex := 25, attributes := #[] }, { accessFlags := 25, nameIndex := 143, descriptorIndex := 25, attributes := #[] }, { accessFlags := 25, nameIndex := 53, descriptorIndex := 25, attributes := #[] }, { accessFlags := 25, nameIndex := 24, descriptorIndex := 25, attributes := #[] }, { accessFlags := 25, nameIndex := 162, descriptorIndex := 25, attributes := #[] }, { accessFlags := 25, nameIndex := 187, descriptorIndex := 25, attributes := #[] }, { accessFlags := 26, nameIndex := 48, descriptorIndex := 25, attributes := #[] }, { accessFlags := 25, nameIndex := 277, descriptorIndex := 25, attributes := #[] }, { accessFlags := 25, nameIndex := 280, descriptorIndex := 25, attributes := #[] }, { accessFlags := 25, nameIndex := 282, descriptorIndex := 25, attributes := #[] }, { accessFlags := 25, nameIndex := 284, descriptorIndex := 25, attributes := #[] }, { accessFlags := 25, nameIndex := 286, descriptorIndex := 25, attributes := #[] }, { accessFlags := 25, nameIndex := 288, descriptorIndex := 25, attributes := #[] }, { accessFlags := 25, nameIndex := 290, descriptorIndex := 25, attributes := #[] }, { accessFlags := 25, nameIndex := 292, descriptorIndex := 25, attributes := #[] }, { accessFlags := 26, nameIndex := 108, descriptorIndex := 109, attributes := #[] }, { accessFlags := 25, nameIndex := 294, descriptorIndex := 25, attributes := #[] }])
  fields := #[{ name := "U", type := (.object "jdk/internal/misc/Unsafe"), accessFlags := 24, slot := 0, constantValue := 0 }, { name := "BIG_ENDIAN", type := .boolean, accessFlags := 26, slot := 1, constantValue := 0 }, { name := "LOG2_ARRAY_BOOLEAN_INDEX_SCALE", type := .int, accessFlags := 25, slot := 2, constantValue := 0 }, { name := "LOG2_ARRAY_BYTE_INDEX_SCALE", type := .int, accessFlags := 25, slot := 3, constantValue := 0 }, { name := "LOG2_ARRAY_CHAR_INDEX_SCALE", type := .int, accessFlags := 25, slot := 4, constantValue := 0 }, { name := "LOG2_ARRAY_SHORT_INDEX_SCALE", type := .int, accessFlags := 25, slot := 5, constantValue := 0 }, { name := "LOG2_ARRAY_INT_INDEX_SCALE", type := .int, accessFlags := 25, slot := 6, constantValue := 0 }, { name := "LOG2_ARRAY_LONG_INDEX_SCALE", type := .int, accessFlags := 25, slot := 7, constantValue := 0 }, { name := "LOG2_ARRAY_FLOAT_INDEX_SCALE", type := .int, accessFlags := 25, slot := 8, constantValue := 0 }, { name := "LOG2_ARRAY_DOUBLE_INDEX_SCALE", type := .int, accessFlags := 25, slot := 9, constantValue := 0 }, { name := "LOG2_BYTE_BIT_SIZE", type := .int, accessFlags := 26, slot := 10, constantValue := 0 }, { name := "T_BOOLEAN", type := .int, accessFlags := 25, slot := 11, constantValue := 0 }, { name := "T_CHAR", type := .int, accessFlags := 25, slot := 12, constantValue := 0 }, { name := "T_FLOAT", type := .int, accessFlags := 25, slot := 13, constantValue := 0 }, { name := "T_DOUBLE", type := .int, accessFlags := 25, slot := 14, constantValue := 0 }, { name := "T_BYTE", type := .int, accessFlags := 25, slot := 15, constantValue := 0 }, { name := "T_SHORT", type := .int, accessFlags := 25, slot := 16, constantValue := 0 }, { name := "T_INT", type := .int, accessFlags := 25, slot := 17, constantValue := 0 }, { name := "T_LONG", type := .int, accessFlags := 25, slot := 18, constantValue := 0 }, { name := "JLA", type := (.object "jdk/internal/access/JavaLangAccess"), accessFlags := 26, slot := 19, constantValue := 0 }, { name := "SOFT_MAX_ARRAY_LENGTH", type := .int, accessFlags := 25, slot := 20, constantValue := 0 }]
  methods := #[k16m0]
  instanceTypes := #[]
  staticTypes := #[(.object "jdk/internal/misc/Unsafe"), .boolean, .int, .int, .int, .int, .int, .int, .int, .int, .int, .int, .int, .int, .int, .int, .int, .int, .int, (.object "jdk/internal/access/JavaLangAccess"), .int]
  resolved := Array.replicate 378 none
  statics := none }

def pool17 : Array CpInfo := pool [(1, u "java/lang/Cloneable"), (0, .class_ 1), (0, u "java/lang/Object"), (0, .class_ 3)] 3

/-- java/lang/Cloneable -/
def k17 : Class := { plain "java/lang/Cloneable" (some 0) with
  accessFlags := 1537
  interfaces := #[]
  cf := some (fileOf pool17 2 #[] #[] 1537 4 #[] #[])
  fields := #[]
  methods := #[]
  instanceTypes := #[]
  staticTypes := #[]
  resolved := Array.replicate 8 none
  statics := none }

/-- the primitive byte -/
def k18 : Class := { plain "byte" none with kind := .primitive 'B', accessFlags := 0x411 }
/-- [B -/
def k19 : Class := { plain "[B" (some 0) with kind := .array 18 .byte, interfaces := #[17, 2], accessFlags := 1041 }

/-- the primitive char -/
def k20 : Class := { plain "char" none with kind := .primitive 'C', accessFlags := 0x411 }
/-- [C -/
def k21 : Class := { plain "[C" (some 0) with kind := .array 20 .char, interfaces := #[17, 2], accessFlags := 1041 }

/-- the primitive int -/
def k22 : Class := { plain "int" none with kind := .primitive 'I', accessFlags := 0x411 }
/-- [I -/
def k23 : Class := { plain "[I" (some 0) with kind := .array 22 .int, interfaces := #[17, 2], accessFlags := 1041 }

def heap : Heap := #[{ cls := 7, slots := #[.long 0, .int 1, .null, .int 0, .null, .int 0, .int 0], vm := .statics 7 },
  { cls := 11, slots := #[.ref 3, .ref 3, .null], vm := .statics 11 },
  { cls := 15, slots := #[.null, .null, .null], vm := .statics 15 },
  { cls := 11, slots := #[.null, .int 0, .int 0], vm := .none }]
def classes : Array Class := #[k0, k1, k2, k3, k4, k5, k6, k7, k8, k9, k10, k11, k12, k13, k14, k15, k16, k17, k18, k19, k20, k21, k22, k23]
def interned : List (Array UInt16 × Addr) := []
def slotsUsed : Nat := 16
def theMethod : MethodId := ⟨1, 2⟩
def args0 : Array Value := #[.int 5, .int 6, .int 7, .int 3]
def aboutOver (below : List Frame) : State where
  vm := { classes := classes, interned := interned.toArray }
  heap := heap
  slotsUsed := slotsUsed
  threads := #[{ frames := .invoking theMethod args0 :: below }]
def below0 : List Frame := [.native { method := ⟨0, 0⟩, args := #[] }]
def about1 : State := aboutOver below0
def p0 : Program := .bare "" "" ""
def e0 : Env := launch0.env 0 0 0
theorem w_frames : about1.frames = Frame.invoking theMethod args0 :: below0 := rfl
set_option maxRecDepth 65536 in
theorem w_args : argsFit about1.vm theMethod args0 = true := by decide +kernel
set_option maxRecDepth 65536 in
theorem w_heap : heapFits about1 = true := by decide +kernel
set_option maxRecDepth 65536 in
theorem w_runnable : about1.curStatus? = some .runnable := by decide +kernel
set_option maxRecDepth 65536 in
theorem w_alone : about1.alone = true := by decide +kernel
set_option maxRecDepth 65536 in
theorem w_named : about1.methodNamed? x = some theMethod := by decide +kernel
set_option maxRecDepth 65536 in
theorem w_hears : about1.hears theMethod below0 = true := by decide +kernel
set_option maxRecDepth 65536 in
theorem w_ripe : about1.ripe theMethod args0 below0 = true := by decide +kernel
theorem w_running : about1.status = .running := rfl
set_option maxRecDepth 65536 in
theorem w_room : about1.hasRoom e0.platform room_1 = true :=
  launch0.hasRoom_least _ room_1 (by decide +kernel) (by decide +kernel) (by decide +kernel) (by decide +kernel) (by decide +kernel) (by decide +kernel)
theorem allAtoms_all (ts : List Jvm.Cond) (a : Array Jvm.Value) (st : Jvm.State) : (allAtoms ts).before a st = ts.all (fun c => c.before a st) := by
  induction ts with
  | nil => rfl
  | cons c t ih =>
    show (Jvm.Cond.and c (allAtoms t)).before a st = _
    rw [Jvm.Cond.before_and, ih, List.all_cons]
def words1 : List Jvm.Cond := Jvm.Cond.code x code maxLocals ret :: tables_1
/-- a 'code' word, met by the world's own term for the bytes: nothing is compared byte by byte -/
theorem code_word {y : MethodName} {bytes : ByteArray} {mx : Nat} {rt : Option FieldType} {a : Array Value} {s : State} {m : MethodId} {meth : Method} {c : Code} (h1 : s.methodNamed? y = some m) (h2 : s.vm.method? m = some meth) (h3 : meth.code = some c) (h4 : c.code = bytes)
    (h5 : (c.maxLocals == mx && c.exceptionTable.isEmpty && decide (c.maxStack ≤ mostOperands) && decide (meth.sig.returnType = rt) && !meth.locks && decide (parseMethodDescriptor y.desc = some meth.sig)) = true) : (Jvm.Cond.code y bytes mx rt).before a s = true := by
  simp only [Bool.and_eq_true, beq_iff_eq, Bool.not_eq_true', decide_eq_true_eq] at h5
  obtain ⟨⟨⟨⟨⟨g1, g2⟩, g3⟩, g4⟩, g5⟩, g6⟩ := h5
  simp [Cond.before, Cond.holds, Cond.value, h1, h2, h3, h4, g1, g2, g3, g4, g5, g6]
def isCode : Jvm.Cond → Bool
  | .code _ _ _ _ => true
  | _ => false
theorem all_split {L : List Jvm.Cond} {P : Jvm.Cond → Bool} (h1 : L.all (fun c => isCode c || P c) = true) (h2 : ∀ c ∈ L.filter isCode, P c = true) : L.all P = true := by
  refine List.all_eq_true.mpr fun c hc => ?_
  have h := List.all_eq_true.mp h1 c hc
  rcases Bool.eq_false_or_eq_true (isCode c) with hi | hi
  · exact h2 c (List.mem_filter.mpr ⟨hc, hi⟩)
  · simpa [hi] using h
set_option maxRecDepth 65536 in
theorem w_c0 : (Jvm.Cond.code x code maxLocals ret).before args0 about1 = true := code_word (m := ⟨1, 2⟩) (meth := k1m2) (c := k1c2) (by decide +kernel) rfl rfl rfl (by decide +kernel)
set_option maxRecDepth 65536 in
theorem w_c1 : (Jvm.Cond.code ({ cls := "com/example/perenna/perenna/FieldWithinPinLaw", name := "str", desc := "(I)Ljava/lang/String;" } : Jvm.MethodName) method_2_code (2 : Nat) (Option.some (Jvm.ClassFile.FieldType.object "java/lang/String"))).before args0 about1 = true := code_word (m := ⟨1, 1⟩) (meth := k1m1) (c := k1c1) (by decide +kernel) rfl rfl rfl (by decide +kernel)
set_option maxRecDepth 65536 in
theorem w_c2 : (Jvm.Cond.code ({ cls := "java/lang/String", name := "<init>", desc := "([C)V" } : Jvm.MethodName) jdk_42_method_3_code (2 : Nat) (Option.none : Option Jvm.ClassFile.FieldType)).before args0 about1 = true := code_word (m := ⟨7, 1⟩) (meth := k7m1) (c := k7c1) (by decide +kernel) rfl rfl rfl (by decide +kernel)
set_option maxRecDepth 65536 in
theorem w_c3 : (Jvm.Cond.code ({ cls := "java/lang/String", name := "<init>", desc := "([CIILjava/lang/Void;)V" } : Jvm.MethodName) jdk_42_method_149_code (6 : Nat) (Option.none : Option Jvm.ClassFile.FieldType)).before args0 about1 = true := code_word (m := ⟨7, 3⟩) (meth := k7m3) (c := k7c3) (by decide +kernel) rfl rfl rfl (by decide +kernel)
set_option maxRecDepth 65536 in
theorem w_c4 : (Jvm.Cond.code ({ cls := "java/lang/Object", name := "<init>", desc := "()V" } : Jvm.MethodName) object_method_1_code (1 : Nat) (Option.none : Option Jvm.ClassFile.FieldType)).before args0 about1 = true := code_word (m := ⟨0, 0⟩) (meth := k0m0) (c := k0c0) (by decide +kernel) rfl rfl rfl (by decide +kernel)
set_option maxRecDepth 65536 in
theorem w_c5 : (Jvm.Cond.code ({ cls := "java/lang/StringUTF16", name := "compress", desc := "([CII)[B" } : Jvm.MethodName) jdk_52_method_16_code (6 : Nat) (Option.some (Jvm.ClassFile.FieldType.array Jvm.ClassFile.FieldType.byte))).before args0 about1 = true := code_word (m := ⟨8, 2⟩) (meth := k8m2) (c := k8c2) (by decide +kernel) rfl rfl rfl (by decide +kernel)
set_option maxRecDepth 65536 in
theorem w_c6 : (Jvm.Cond.code ({ cls := "java/lang/StringUTF16", name := "compress", desc := "([CI[BII)I" } : Jvm.MethodName) jdk_52_method_21_code (7 : Nat) (Option.some Jvm.ClassFile.FieldType.int)).before args0 about1 = true := code_word (m := ⟨8, 3⟩) (meth := k8m3) (c := k8c3) (by decide +kernel) rfl rfl rfl (by decide +kernel)
set_option maxRecDepth 65536 in
theorem w_c7 : (Jvm.Cond.code ({ cls := "java/lang/StringUTF16", name := "coderFromArrayLen", desc := "([BI)B" } : Jvm.MethodName) jdk_52_method_15_code (2 : Nat) (Option.some Jvm.ClassFile.FieldType.byte)).before args0 about1 = true := code_word (m := ⟨8, 1⟩) (meth := k8m1) (c := k8c1) (by decide +kernel) rfl rfl rfl (by decide +kernel)
set_option maxRecDepth 65536 in
theorem w_c8 : (Jvm.Cond.code ({ cls := "com/example/perenna/perenna/Visibility$Field", name := "<init>", desc := "(Ljava/lang/String;Ljava/lang/String;Lcom/example/perenna/perenna/Visibility;Z)V" } : Jvm.MethodName) prog_19_method_1_code (5 : Nat) (Option.none : Option Jvm.ClassFile.FieldType)).before args0 about1 = true := code_word (m := ⟨13, 0⟩) (meth := k13m0) (c := k13c0) (by decide +kernel) rfl rfl rfl (by decide +kernel)
set_option maxRecDepth 65536 in
theorem w_c9 : (Jvm.Cond.code ({ cls := "java/lang/Record", name := "<init>", desc := "()V" } : Jvm.MethodName) jdk_30_method_1_code (1 : Nat) (Option.none : Option Jvm.ClassFile.FieldType)).before args0 about1 = true := code_word (m := ⟨12, 0⟩) (meth := k12m0) (c := k12c0) (by decide +kernel) rfl rfl rfl (by decide +kernel)
set_option maxRecDepth 65536 in
theorem w_c10 : (Jvm.Cond.code ({ cls := "com/example/perenna/perenna/Visibility$Field", name := "within", desc := "(Ljava/lang/String;)Lcom/example/perenna/perenna/Visibility$Field;" } : Jvm.MethodName) prog_19_method_5_code (2 : Nat) (Option.some (Jvm.ClassFile.FieldType.object "com/example/perenna/perenna/Visibility$Field"))).before args0 about1 = true := code_word (m := ⟨13, 1⟩) (meth := k13m1) (c := k13c1) (by decide +kernel) rfl rfl rfl (by decide +kernel)
set_option maxRecDepth 65536 in
theorem w_c11 : (Jvm.Cond.code ({ cls := "com/example/perenna/perenna/Visibility$Field", name := "name", desc := "()Ljava/lang/String;" } : Jvm.MethodName) prog_19_method_9_code (1 : Nat) (Option.some (Jvm.ClassFile.FieldType.object "java/lang/String"))).before args0 about1 = true := code_word (m := ⟨13, 2⟩) (meth := k13m2) (c := k13c2) (by decide +kernel) rfl rfl rfl (by decide +kernel)
set_option maxRecDepth 65536 in
theorem w_c12 : (Jvm.Cond.code ({ cls := "java/lang/String", name := "equals", desc := "(Ljava/lang/Object;)Z" } : Jvm.MethodName) jdk_42_method_66_code (3 : Nat) (Option.some Jvm.ClassFile.FieldType.boolean)).before args0 about1 = true := code_word (m := ⟨7, 2⟩) (meth := k7m2) (c := k7c2) (by decide +kernel) rfl rfl rfl (by decide +kernel)
set_option maxRecDepth 65536 in
theorem w_c13 : (Jvm.Cond.code ({ cls := "com/example/perenna/perenna/Visibility$Field", name := "member", desc := "()Ljava/lang/String;" } : Jvm.MethodName) prog_19_method_10_code (1 : Nat) (Option.some (Jvm.ClassFile.FieldType.object "java/lang/String"))).before args0 about1 = true := code_word (m := ⟨13, 3⟩) (meth := k13m3) (c := k13c3) (by decide +kernel) rfl rfl rfl (by decide +kernel)
set_option maxRecDepth 65536 in
theorem w_c14 : (Jvm.Cond.code ({ cls := "com/example/perenna/perenna/Visibility$Field", name := "byDefault", desc := "()Lcom/example/perenna/perenna/Visibility;" } : Jvm.MethodName) prog_19_method_11_code (1 : Nat) (Option.some (Jvm.ClassFile.FieldType.object "com/example/perenna/perenna/Visibility"))).before args0 about1 = true := code_word (m := ⟨13, 4⟩) (meth := k13m4) (c := k13c4) (by decide +kernel) rfl rfl rfl (by decide +kernel)
set_option maxRecDepth 65536 in
theorem w_c15 : (Jvm.Cond.code ({ cls := "com/example/perenna/perenna/Visibility$Field", name := "fixed", desc := "()Z" } : Jvm.MethodName) prog_19_method_12_code (1 : Nat) (Option.some Jvm.ClassFile.FieldType.boolean)).before args0 about1 = true := code_word (m := ⟨13, 5⟩) (meth := k13m5) (c := k13c5) (by decide +kernel) rfl rfl rfl (by decide +kernel)
def codes1 : List Jvm.Cond := [Jvm.Cond.code x code maxLocals ret, Jvm.Cond.code ({ cls := "com/example/perenna/perenna/FieldWithinPinLaw", name := "str", desc := "(I)Ljava/lang/String;" } : Jvm.MethodName) method_2_code (2 : Nat) (Option.some (Jvm.ClassFile.FieldType.object "java/lang/String")), Jvm.Cond.code ({ cls := "java/lang/String", name := "<init>", desc := "([C)V" } : Jvm.MethodName) jdk_42_method_3_code (2 : Nat) (Option.none : Option Jvm.ClassFile.FieldType), Jvm.Cond.code ({ cls := "java/lang/String", name := "<init>", desc := "([CIILjava/lang/Void;)V" } : Jvm.MethodName) jdk_42_method_149_code (6 : Nat) (Option.none : Option Jvm.ClassFile.FieldType), Jvm.Cond.code ({ cls := "java/lang/Object", name := "<init>", desc := "()V" } : Jvm.MethodName) object_method_1_code (1 : Nat) (Option.none : Option Jvm.ClassFile.FieldType), Jvm.Cond.code ({ cls := "java/lang/StringUTF16", name := "compress", desc := "([CII)[B" } : Jvm.MethodName) jdk_52_method_16_code (6 : Nat) (Option.some (Jvm.ClassFile.FieldType.array Jvm.ClassFile.FieldType.byte)), Jvm.Cond.code ({ cls := "java/lang/StringUTF16", name := "compress", desc := "([CI[BII)I" } : Jvm.MethodName) jdk_52_method_21_code (7 : Nat) (Option.some Jvm.ClassFile.FieldType.int), Jvm.Cond.code ({ cls := "java/lang/StringUTF16", name := "coderFromArrayLen", desc := "([BI)B" } : Jvm.MethodName) jdk_52_method_15_code (2 : Nat) (Option.some Jvm.ClassFile.FieldType.byte), Jvm.Cond.code ({ cls := "com/example/perenna/perenna/Visibility$Field", name := "<init>", desc := "(Ljava/lang/String;Ljava/lang/String;Lcom/example/perenna/perenna/Visibility;Z)V" } : Jvm.MethodName) prog_19_method_1_code (5 : Nat) (Option.none : Option Jvm.ClassFile.FieldType), Jvm.Cond.code ({ cls := "java/lang/Record", name := "<init>", desc := "()V" } : Jvm.MethodName) jdk_30_method_1_code (1 : Nat) (Option.none : Option Jvm.ClassFile.FieldType), Jvm.Cond.code ({ cls := "com/example/perenna/perenna/Visibility$Field", name := "within", desc := "(Ljava/lang/String;)Lcom/example/perenna/perenna/Visibility$Field;" } : Jvm.MethodName) prog_19_method_5_code (2 : Nat) (Option.some (Jvm.ClassFile.FieldType.object "com/example/perenna/perenna/Visibility$Field")), Jvm.Cond.code ({ cls := "com/example/perenna/perenna/Visibility$Field", name := "name", desc := "()Ljava/lang/String;" } : Jvm.MethodName) prog_19_method_9_code (1 : Nat) (Option.some (Jvm.ClassFile.FieldType.object "java/lang/String")), Jvm.Cond.code ({ cls := "java/lang/String", name := "equals", desc := "(Ljava/lang/Object;)Z" } : Jvm.MethodName) jdk_42_method_66_code (3 : Nat) (Option.some Jvm.ClassFile.FieldType.boolean), Jvm.Cond.code ({ cls := "com/example/perenna/perenna/Visibility$Field", name := "member", desc := "()Ljava/lang/String;" } : Jvm.MethodName) prog_19_method_10_code (1 : Nat) (Option.some (Jvm.ClassFile.FieldType.object "java/lang/String")), Jvm.Cond.code ({ cls := "com/example/perenna/perenna/Visibility$Field", name := "byDefault", desc := "()Lcom/example/perenna/perenna/Visibility;" } : Jvm.MethodName) prog_19_method_11_code (1 : Nat) (Option.some (Jvm.ClassFile.FieldType.object "com/example/perenna/perenna/Visibility")), Jvm.Cond.code ({ cls := "com/example/perenna/perenna/Visibility$Field", name := "fixed", desc := "()Z" } : Jvm.MethodName) prog_19_method_12_code (1 : Nat) (Option.some Jvm.ClassFile.FieldType.boolean)]
set_option maxRecDepth 65536 in
theorem codes_eq : words1.filter isCode = codes1 := rfl
theorem w_codes : ∀ c ∈ words1.filter isCode, c.before args0 about1 = true := by
  rw [codes_eq]
  intro c hc
  simp only [codes1, List.mem_cons, List.not_mem_nil, or_false] at hc
  rcases hc with rfl | rfl | rfl | rfl | rfl | rfl | rfl | rfl | rfl | rfl | rfl | rfl | rfl | rfl | rfl | rfl
  · exact w_c0
  · exact w_c1
  · exact w_c2
  · exact w_c3
  · exact w_c4
  · exact w_c5
  · exact w_c6
  · exact w_c7
  · exact w_c8
  · exact w_c9
  · exact w_c10
  · exact w_c11
  · exact w_c12
  · exact w_c13
  · exact w_c14
  · exact w_c15
set_option maxRecDepth 65536 in
theorem w_t1 : (words1.take 24).all (fun c => isCode c || c.before args0 about1) = true := by decide +kernel
set_option maxRecDepth 65536 in
theorem w_t2 : ((words1.drop 24).take 24).all (fun c => isCode c || c.before args0 about1) = true := by decide +kernel
set_option maxRecDepth 65536 in
theorem w_t3 : (((words1.drop 24).drop 24).take 24).all (fun c => isCode c || c.before args0 about1) = true := by decide +kernel
set_option maxRecDepth 65536 in
theorem w_t4 : (((words1.drop 24).drop 24).drop 24).all (fun c => isCode c || c.before args0 about1) = true := by decide +kernel
theorem w_tables : (allAtoms (Jvm.Cond.code x code maxLocals ret :: tables_1)).before args0 about1 = true := by
  rw [allAtoms_all]
  show words1.all (fun c => c.before args0 about1) = true
  refine all_split ?_ w_codes
  rw [← List.take_append_drop 24 words1, List.all_append, w_t1, ← List.take_append_drop 24 (words1.drop 24), List.all_append, w_t2, ← List.take_append_drop 24 ((words1.drop 24).drop 24), List.all_append, w_t3, w_t4]
  rfl
set_option maxRecDepth 65536 in
theorem w_rest : rest_1_c.before args0 about1 = true := by decide +kernel
set_option maxRecDepth 65536 in
theorem w_case : (Jvm.Cond.and given_1 narrow_1).before args0 about1 = true := by decide +kernel
theorem w_applies : (headSpec (Jvm.Cond.code x code maxLocals ret :: tables_1) room_1).applies x e0.platform about1 = true :=
  (Spec.applies_iff w_frames).mpr ⟨w_running, w_runnable, w_alone, w_named, w_hears, w_ripe, w_room, w_tables⟩
theorem atStart : AtStart classFile x code maxLocals ret World_1 tables_1 room_1 Calls_1 rest_1 Pre_1 launch0 p0 e0 about1 theMethod args0 below0 :=
  ⟨lists_1, trivial, launch0.admits_env _ _ _, launch0.least_env, fairChoices_fair.cas, fairChoices_fair.clock, w_frames, w_args, w_heap, w_applies, trivial, w_rest, w_case⟩
end start1
theorem witness_1 : WitnessClaimed_1 := ⟨start1.p0, start1.e0, start1.about1, start1.theMethod, start1.args0, start1.below0, start1.atStart⟩
end Jvm.Pilot.@@N@@
