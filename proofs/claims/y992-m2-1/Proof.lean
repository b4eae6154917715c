import JvmDerived
import JvmDerived.Pilot.@@N@@Statement
import JvmDerived.Pilot.@@N@@Code
set_option linter.unusedVariables false
set_option linter.unusedSimpArgs false
namespace Jvm.Pilot.@@N@@
open Jvm Jvm.ClassFile Sem Op Lib Jvm.Free Jvm.Stand Jvm.LawKit Jvm.RoadKit Bundle Jvm.Pilot.@@N@@.Jvm.D
section OwnKit
variable {p : Program} {l : Launch} {e : Env} {R : Room} {s : State} {m : MethodId} {args : Array Value} {below : List Frame} {meth : Method} {c : Code} {T : State} {locs : List Loc} {cells slots : Nat}
/-- the contract of a body at given arguments and a given heap -/
def own_Con (l : Launch) (Z : State) (y : MethodName) (bytes : ByteArray) (maxL : Nat) (ret : Option FieldType) (ws : List Jvm.Cond) (rm : Room) (as' : Array Value) (h0 : Heap) (Q : Option Value → Heap → List Loc → Prop) : Prop :=
  MetFree l y (head1 (Jvm.Cond.code y bytes maxL ret :: ws) rm) (fun a U => a = as' ∧ Z.Warmed39 U.vm ∧ U.heap = h0) (fun _ _ _ _ _ => True) (fun _ U o U' => ∃ v L, o = .returned v ∧ Q v U'.heap L ∧ FrameEnd U o U' L rm.cells rm.slots)
/-- G holds of a state where the walk is owed; it goes backwards over steps -/
def own_Bk (p : Program) (e : Env) (below : List Frame) (G : State → Prop) : Prop := ∀ S S', (∀ t, Steps p.tables e below S' t → Steps p.tables e below S t) → G S' → G S
/-- a walk may end where its body returns -/
def own_Rt (p : Program) (l : Launch) (e : Env) (rm : Room) (s : State) (m : MethodId) (as' : Array Value) (below : List Frame) (meth : Method) (c : Code) (ret : Option FieldType) (Q : Option Value → Heap → List Loc → Prop) (G : State → Prop) : Prop :=
  ∀ T locs cells slots v S, Stand p l e rm s m as' below meth c T locs cells slots → cells ≤ rm.cells → slots ≤ rm.slots → (ret = none → v = none) → Q v T.heap locs →
    (∀ fs, (∀ (f : JFrame) (acts : List Action), f.method = m → f.locked = none → f.entered = [] → (doReturn e (T.setTop f) acts v).1 = T.setFrames fs) → Steps p.tables e below S (T.setFrames fs)) → G S
theorem own_intro {Z : State} {y : MethodName} {bytes : ByteArray} {maxL : Nat} {ret : Option FieldType} {ws : List Jvm.Cond} {rm : Room} {as' : Array Value} {h0 : Heap} {Q : Option Value → Heap → List Loc → Prop} (hpn : plainFor y = true)
    (H : ∀ (p : Program) (e : Env) (s : State) (m : MethodId) (below : List Frame) (meth : Method) (c : Code) (s₁ : State) (G : State → Prop), p.tables.exec = Jvm.exec → c.code = bytes → c.maxLocals = maxL → s.vm.findClass y.cls = some m.cls → meth.name = y.name → meth.sig.returnType = ret → Z.Warmed39 s.vm →
      Stand p l e rm s m as' below meth c s₁ [] 0 0 → s₁.heap = h0 → own_Bk p e below G → own_Rt p l e rm s m as' below meth c ret Q G → G (s₁.setTop (entryFrame m as' maxL))) : own_Con l Z y bytes maxL ret ws rm as' h0 Q := by
  refine MetFree.of_bodySF hpn hisR ?_
  intro p e s m args below meth c s₁ Bd hml hP hK
  obtain ⟨rfl, hZ, hh⟩ := hP
  refine H p e s m below meth c s₁ (fun S => ∃ s₂ o, Steps p.tables e below S s₂ ∧ s₂.status = .running ∧ Ended s₂ below o ∧ ∃ v L, o = .returned v ∧ Q v s₂.heap L ∧ FrameEnd s o s₂ L rm.cells rm.slots) Bd.exec Bd.bytes hml (findClass_of_methodNamed Bd.named) (name_of_methodNamed Bd.named Bd.method).1 Bd.returns hZ (Stand.of_body Bd) (by rw [← hh, Bd.state]; rfl) ?_ ?_
  · rintro S S' st ⟨s₂, o, h1, h2⟩
    exact ⟨s₂, o, st _ h1, h2⟩
  · intro T locs cells slots v S X hc hs hv hQ hst
    obtain ⟨fs, hr, hrun, hended, hW, hsame⟩ := X.leave (v := v) (fun h => hv (Bd.returns ▸ h))
    exact ⟨_, _, hst fs hr, hrun, hended, v, locs, rfl, hQ, ⟨_, rfl⟩, hW, hsame.mono hc hs⟩
section Rets
variable {Q : Option Value → Heap → List Loc → Prop} {G : State → Prop} {ret : Option FieldType} {pc : Nat} {Ls : Array Slot} {rest : List Value}
theorem own_retV (hR : own_Rt p l e R s m args below meth c none Q G) (hret : meth.sig.returnType = none) (X : Stand p l e R s m args below meth c T locs cells slots) (hx : p.tables.exec = Jvm.exec) (hd : decode c.code pc = .ok (.return_, 1)) (hc : cells ≤ R.cells) (hs : slots ≤ R.slots) (hQ : Q none T.heap locs) : G (T.setTop (mkF m pc Ls [])) :=
  hR T locs cells slots none _ X hc hs (fun _ => rfl) hQ fun fs hr => X.returnOut hx hret hd hr
theorem own_retA {t : FieldType} {v : Value} (hR : own_Rt p l e R s m args below meth c (some t) Q G) (hret : meth.sig.returnType = some t) (ht : t.isReference = true) (hv : v.isRef = true) (X : Stand p l e R s m args below meth c T locs cells slots) (hx : p.tables.exec = Jvm.exec) (hd : decode c.code pc = .ok (.areturn, 1)) (hc : cells ≤ R.cells) (hs : slots ≤ R.slots) (hQ : Q (some v) T.heap locs) : G (T.setTop (mkF m pc Ls (v :: rest))) :=
  hR T locs cells slots (some v) _ X hc hs (fun h => nomatch h) hQ fun fs hr => retOut X hx hret (by cases t <;> simp_all [FieldType.isReference, narrow]) (Or.inr (Or.inr (Or.inr (Or.inr ⟨rfl, ht, hv⟩)))) hd hr
theorem own_retI {z : Int32} (hR : own_Rt p l e R s m args below meth c (some .int) Q G) (hret : meth.sig.returnType = some .int) (X : Stand p l e R s m args below meth c T locs cells slots) (hx : p.tables.exec = Jvm.exec) (hd : decode c.code pc = .ok (.ireturn, 1)) (hc : cells ≤ R.cells) (hs : slots ≤ R.slots) (hQ : Q (some (.int z)) T.heap locs) : G (T.setTop (mkF m pc Ls (.int z :: rest))) :=
  hR T locs cells slots (some (.int z)) _ X hc hs (fun h => nomatch h) hQ fun fs hr => retOut X hx hret rfl (Or.inl ⟨rfl, Or.inl rfl, z, rfl⟩) hd hr
theorem own_retL {z : Int64} (hR : own_Rt p l e R s m args below meth c (some .long) Q G) (hret : meth.sig.returnType = some .long) (X : Stand p l e R s m args below meth c T locs cells slots) (hx : p.tables.exec = Jvm.exec) (hd : decode c.code pc = .ok (.lreturn, 1)) (hc : cells ≤ R.cells) (hs : slots ≤ R.slots) (hQ : Q (some (.long z)) T.heap locs) : G (T.setTop (mkF m pc Ls (.long z :: rest))) :=
  hR T locs cells slots (some (.long z)) _ X hc hs (fun h => nomatch h) hQ fun fs hr => retOut X hx hret rfl (Or.inr (Or.inl ⟨rfl, rfl, z, rfl⟩)) hd hr
theorem own_retN {z : Int32} {t : FieldType} (hR : own_Rt p l e R s m args below meth c (some t) Q G) (hret : meth.sig.returnType = some t) (ht : t = .boolean ∨ t = .byte ∨ t = .char ∨ t = .short) (X : Stand p l e R s m args below meth c T locs cells slots) (hx : p.tables.exec = Jvm.exec) (hd : decode c.code pc = .ok (.ireturn, 1)) (hc : cells ≤ R.cells) (hs : slots ≤ R.slots) (hQ : Q (some (.int (nar t z))) T.heap locs) : G (T.setTop (mkF m pc Ls (.int z :: rest))) :=
  hR T locs cells slots (some (.int (nar t z))) _ X hc hs (fun h => nomatch h) hQ fun fs hr => retN X hx hret ht hd hr
end Rets
section Calls
variable {Z : State} {a0 : Array Value} {own : String} {index : Nat} {y z : MethodName} {bytes : ByteArray} {maxL : Nat} {ret : Option FieldType} {rm : Room} {as' : Array Value} {h : Heap} {Q : Option Value → Heap → List Loc → Prop} {G : State → Prop} {pc : Nat} {Ls : Array Slot} {stk argsL rest : List Value}
theorem own_callS (X : Stand p l e R s m args below meth c T locs cells slots) (hx : p.tables.exec = Jvm.exec) (hZ : Z.Warmed39 s.vm) (hG : own_Bk p e below G) (hown : s.vm.findClass own = some m.cls)
    (w1 : (Jvm.Cond.methodLink own index y).before a0 Z = true) (w2 : (Jvm.Cond.static y).before a0 Z = true) (w3 : (Jvm.Cond.initialized y.cls).before a0 Z = true) (w4 : (Jvm.Cond.code y bytes maxL ret).before a0 Z = true)
    (hy : y.cls ≠ "java/lang/invoke/MethodHandle" ∧ y.cls ≠ "java/lang/invoke/VarHandle") (W : Nat) (hM : own_Con l Z y bytes maxL ret [] rm as' h Q) (hf : rm.frames + 1 ≤ R.frames) (hlo : W + (maxL + 11) + rm.locals ≤ R.locals) (eT : T.heap = h)
    (hsize : Ls.size = c.maxLocals) (hlen : ∀ sig, parseMethodDescriptor y.desc = some sig → argsL.length = sig.parameters.length) (has : argsL.toArray = as') (hst : stk = argsL.reverse ++ rest) (hW : (rest.map fun v => v.category).sum ≤ W)
    (hd : decode c.code pc = .ok (.invokestatic index, 3)) (hc : cells + rm.cells ≤ R.cells) (hs : slots + rm.slots ≤ R.slots)
    (k : ∀ T' h' v L, Stand p l e R s m args below meth c T' (locs ++ L) (cells + rm.cells) (slots + rm.slots) → T'.heap = h' → Q v h' L → G (T'.setTop (mkF m (pc + 3) Ls (v.toList ++ rest)))) : G (T.setTop (mkF m pc Ls stk)) := by
  obtain ⟨v, _, ⟨T1, L1, k1, n1⟩, -, X1, ⟨L, hQ, rfl, rfl, rfl⟩, st⟩ := Jvm.LawKit.callS X hx (y := y) hown (mvT hZ w1) (mvT hZ w2) (mvT hZ w3) (mvT hZ w4) hy (backOf (W := W) hM hZ w4 w3 hf hlo) (g := mkF m pc Ls stk) rfl hsize (argsL := argsL) (rest := rest) hlen hst (by show 2 * 0 + _ ≤ _; rw [Nat.mul_zero, Nat.zero_add]; exact hW) hd (fun _ _ => ⟨has, eT, hc, hs⟩)
  exact hG _ _ st (k T1 _ v L X1 rfl hQ)
theorem own_callI (X : Stand p l e R s m args below meth c T locs cells slots) (hx : p.tables.exec = Jvm.exec) (hZ : Z.Warmed39 s.vm) (hG : own_Bk p e below G) (hown : s.vm.findClass own = some m.cls) (hy1 : y.name = "<init>")
    (w1 : (Jvm.Cond.methodLink own index y).before a0 Z = true) (w2 : (Jvm.Cond.instanceMethod y).before a0 Z = true) (w3 : (Jvm.Cond.initialized y.cls).before a0 Z = true) (w4 : (Jvm.Cond.code y bytes maxL none).before a0 Z = true)
    (hy : y.cls ≠ "java/lang/invoke/MethodHandle" ∧ y.cls ≠ "java/lang/invoke/VarHandle") (W : Nat) (hM : own_Con l Z y bytes maxL none [] rm as' h Q) (hf : rm.frames + 1 ≤ R.frames) (hlo : W + (maxL + 11) + rm.locals ≤ R.locals) (eT : T.heap = h)
    (hsize : Ls.size = c.maxLocals) (hlen : ∀ sig, parseMethodDescriptor y.desc = some sig → argsL.length = sig.parameters.length) {a : Addr} (has : (.ref a :: argsL).toArray = as') (hst : stk = argsL.reverse ++ .ref a :: rest) (hW : (rest.map fun v => v.category).sum ≤ W)
    (hd : decode c.code pc = .ok (.invokespecial index, 3)) (hc : cells + rm.cells ≤ R.cells) (hs : slots + rm.slots ≤ R.slots)
    (k : ∀ T' h' v L, Stand p l e R s m args below meth c T' (locs ++ L) (cells + rm.cells) (slots + rm.slots) → T'.heap = h' → Q v h' L → G (T'.setTop (mkF m (pc + 3) Ls (v.toList ++ rest)))) : G (T.setTop (mkF m pc Ls stk)) := by
  obtain ⟨v, _, ⟨T1, L1, k1, n1⟩, -, X1, ⟨L, hQ, rfl, rfl, rfl⟩, st⟩ := X.specialBack hx (y := y) hy1 hown (mvT hZ w1) (mvT hZ w2) (mvT hZ w4) hy (backOf (W := W) hM hZ w4 w3 hf hlo) (g := mkF m pc Ls stk) rfl hsize (Steps.refl _) (a := a) (argsL := argsL) (rest := rest) hlen hst (by show 2 * 0 + _ ≤ _; rw [Nat.mul_zero, Nat.zero_add]; exact hW) hd (fun _ _ => ⟨has, eT, hc, hs⟩)
  exact hG _ _ (fun t kk => st.trans kk) (k T1 _ v L X1 rfl hQ)
theorem own_callV {C : String} (X : Stand p l e R s m args below meth c T locs cells slots) (hx : p.tables.exec = Jvm.exec) (hZ : Z.Warmed39 s.vm) (hG : own_Bk p e below G) (hown : s.vm.findClass own = some m.cls)
    (w1 : (Jvm.Cond.methodLink own index y).before a0 Z = true) (w2 : (Jvm.Cond.declares y).before a0 Z = true) (w3 : (Jvm.Cond.selects C y y).before a0 Z = true) (w4 : (Jvm.Cond.instanceMethod y).before a0 Z = true) (w5 : (Jvm.Cond.initialized y.cls).before a0 Z = true) (w6 : (Jvm.Cond.code y bytes maxL ret).before a0 Z = true)
    (hy : y.cls ≠ "java/lang/invoke/MethodHandle" ∧ y.cls ≠ "java/lang/invoke/VarHandle") (W : Nat) (hM : own_Con l Z y bytes maxL ret [] rm as' h Q) (hf : rm.frames + 1 ≤ R.frames) (hlo : W + (maxL + 11) + rm.locals ≤ R.locals) (eT : T.heap = h) {b : Addr} (E : Exa Z h b C)
    (hsize : Ls.size = c.maxLocals) (hlen : ∀ sig, parseMethodDescriptor y.desc = some sig → argsL.length = sig.parameters.length) (has : (.ref b :: argsL).toArray = as') (hst : stk = argsL.reverse ++ .ref b :: rest) (hW : (rest.map fun v => v.category).sum ≤ W)
    (hd : decode c.code pc = .ok (.invokevirtual index, 3)) (hc : cells + rm.cells ≤ R.cells) (hs : slots + rm.slots ≤ R.slots)
    (k : ∀ T' h' v L, Stand p l e R s m args below meth c T' (locs ++ L) (cells + rm.cells) (slots + rm.slots) → T'.heap = h' → Q v h' L → G (T'.setTop (mkF m (pc + 3) Ls (v.toList ++ rest)))) : G (T.setTop (mkF m pc Ls stk)) := by
  obtain ⟨cq, kq, qa, qb, qc⟩ := isOf hZ eT E
  obtain ⟨v, _, ⟨T1, L1, k1, n1⟩, -, X1, ⟨L, hQ, rfl, rfl, rfl⟩, st⟩ := X.virtualBack hx (y := y) (z := y) hown (mvT hZ w1) (mvT hZ w2) (notFace_of_selects (args := #[]) (mvT hZ w3)) (mvT hZ w3) (mvT hZ w4) hy (backOf (W := W) hM hZ w6 w5 hf hlo) qa qc (g := mkF m pc Ls stk) rfl hsize (Steps.refl _) (argsL := argsL) (rest := rest) hlen hst (by show 2 * 0 + _ ≤ _; rw [Nat.mul_zero, Nat.zero_add]; exact hW) hd (fun _ _ => ⟨has, eT, hc, hs⟩)
  exact hG _ _ (fun t kk => st.trans kk) (k T1 _ v L X1 rfl hQ)
theorem own_callP (X : Stand p l e R s m args below meth c T locs cells slots) (hx : p.tables.exec = Jvm.exec) (hZ : Z.Warmed39 s.vm) (hG : own_Bk p e below G) (hown : s.vm.findClass own = some m.cls)
    (w1 : (Jvm.Cond.methodLink own index y).before a0 Z = true) (w2 : (Jvm.Cond.instanceMethod y).before a0 Z = true) (w3 : (Jvm.Cond.selects y.cls y y).before a0 Z = true) (wp : (Jvm.Cond.privateMethod y).before a0 Z = true) (w5 : (Jvm.Cond.initialized y.cls).before a0 Z = true) (w6 : (Jvm.Cond.code y bytes maxL ret).before a0 Z = true)
    (hy : y.cls ≠ "java/lang/invoke/MethodHandle" ∧ y.cls ≠ "java/lang/invoke/VarHandle") (W : Nat) (hM : own_Con l Z y bytes maxL ret [] rm as' h Q) (hf : rm.frames + 1 ≤ R.frames) (hlo : W + (maxL + 11) + rm.locals ≤ R.locals) (eT : T.heap = h) {b : Addr} {C : String} (E : Exa Z h b C)
    (hsize : Ls.size = c.maxLocals) (hlen : ∀ sig, parseMethodDescriptor y.desc = some sig → argsL.length = sig.parameters.length) (has : (.ref b :: argsL).toArray = as') (hst : stk = argsL.reverse ++ .ref b :: rest) (hW : (rest.map fun v => v.category).sum ≤ W)
    (hd : decode c.code pc = .ok (.invokevirtual index, 3)) (hc : cells + rm.cells ≤ R.cells) (hs : slots + rm.slots ≤ R.slots)
    (k : ∀ T' h' v L, Stand p l e R s m args below meth c T' (locs ++ L) (cells + rm.cells) (slots + rm.slots) → T'.heap = h' → Q v h' L → G (T'.setTop (mkF m (pc + 3) Ls (v.toList ++ rest)))) : G (T.setTop (mkF m pc Ls stk)) := by
  obtain ⟨cell, hc1, hc2⟩ := (Ins.self E).cell
  obtain ⟨v, _, ⟨T1, L1, k1, n1⟩, -, X1, ⟨L, hQ, rfl, rfl, rfl⟩, st⟩ := X.privateBack hx (y := y) hown (mvT hZ w1) (mvT hZ w2) (mvT hZ w3) (Cond.privateMethod_at (mvP hZ wp (args := #[]))) (mvT hZ w6) hy (backOf (W := W) hM hZ w6 w5 hf hlo) (g := mkF m pc Ls stk) rfl hsize (Steps.refl _) (a := b) (by rw [eT]; exact hc1) hc2 (argsL := argsL) (rest := rest) hlen hst (by show 2 * 0 + _ ≤ _; rw [Nat.mul_zero, Nat.zero_add]; exact hW) hd (fun _ _ => ⟨has, eT, hc, hs⟩)
  exact hG _ _ (fun t kk => st.trans kk) (k T1 _ v L X1 rfl hQ)
theorem own_callF {C : String} {count : Nat} (X : Stand p l e R s m args below meth c T locs cells slots) (hx : p.tables.exec = Jvm.exec) (hZ : Z.Warmed39 s.vm) (hG : own_Bk p e below G) (hown : s.vm.findClass own = some m.cls)
    (w1 : (Jvm.Cond.methodLink own index z).before a0 Z = true) (w2 : (Jvm.Cond.declares z).before a0 Z = true) (wf : ∀ s' : State, Z.Warmed39 s'.vm → (Jvm.Cond.interfaceMethod z.cls z.cls z.name z.desc).before args s' = true) (w3 : (Jvm.Cond.selects C z y).before a0 Z = true) (w4 : (Jvm.Cond.instanceMethod y).before a0 Z = true) (wp : (Jvm.Cond.publicMethod y).before a0 Z = true) (wu : (Jvm.Cond.unhidden C z.name z.desc).before a0 Z = true) (wc : (Jvm.Cond.castable C z.cls).before a0 Z = true) (w5 : (Jvm.Cond.initialized y.cls).before a0 Z = true) (w6 : (Jvm.Cond.code y bytes maxL ret).before a0 Z = true)
    (hy : z.cls ≠ "java/lang/invoke/MethodHandle" ∧ z.cls ≠ "java/lang/invoke/VarHandle") (W : Nat) (hM : own_Con l Z y bytes maxL ret [] rm as' h Q) (hf : rm.frames + 1 ≤ R.frames) (hlo : W + (maxL + 11) + rm.locals ≤ R.locals) (eT : T.heap = h) {b : Addr} (E : Exa Z h b C)
    (hsize : Ls.size = c.maxLocals) (hlen : ∀ sig, parseMethodDescriptor z.desc = some sig → argsL.length = sig.parameters.length) (has : (.ref b :: argsL).toArray = as') (hst : stk = argsL.reverse ++ .ref b :: rest) (hW : (rest.map fun v => v.category).sum ≤ W)
    (hd : decode c.code pc = .ok (.invokeinterface index count, 5)) (hc : cells + rm.cells ≤ R.cells) (hs : slots + rm.slots ≤ R.slots)
    (k : ∀ T' h' v L, Stand p l e R s m args below meth c T' (locs ++ L) (cells + rm.cells) (slots + rm.slots) → T'.heap = h' → Q v h' L → G (T'.setTop (mkF m (pc + 5) Ls (v.toList ++ rest)))) : G (T.setTop (mkF m pc Ls stk)) := by
  obtain ⟨cq, kq, qa, qb, qc⟩ := isOf hZ eT E
  obtain ⟨v, _, ⟨T1, L1, k1, n1⟩, -, X1, ⟨L, hQ, rfl, rfl, rfl⟩, st⟩ := X.interfaceBack hx (xi := z) (y := y) hown (mvT hZ w1) (mvT hZ w2) (wf s hZ) (mvT hZ w3) (mvT hZ w4) (mvT hZ wp) (mvT hZ wu) (mvT hZ wc) hy (backOf (W := W) hM hZ w6 w5 hf hlo) qa qb qc (g := mkF m pc Ls stk) rfl hsize (Steps.refl _) (argsL := argsL) (rest := rest) hlen hst (by show 2 * 0 + _ ≤ _; rw [Nat.mul_zero, Nat.zero_add]; exact hW) hd (fun _ _ => ⟨has, eT, hc, hs⟩)
  exact hG _ _ (fun t kk => st.trans kk) (k T1 _ v L X1 rfl hQ)
end Calls
theorem own_entry {G : State → Prop} {n : Nat} {Ls : Array Slot} (q : entryFrame m args n = mkF m 0 Ls []) (k : G (T.setTop (mkF m 0 Ls []))) : G (T.setTop (entryFrame m args n)) := q ▸ k
abbrev own_Old (Z : State) (h : Heap) : Prop := Old Z Z.heap.size h
abbrev own_Fr (Z : State) (L : List Loc) : Prop := Fr Z.heap.size L
theorem own_ge {Z : State} {h : Heap} (O : own_Old Z h) {b : Addr} (q : h.size ≤ b) : Z.heap.size ≤ b := Nat.le_trans O.2.1 q
theorem own_sta {Z : State} {h : Heap} {C n d : String} {v : Value} (S : Sta Z Z.heap C n d v) (O : own_Old Z h) : Sta Z h C n d v := S.ext O.2
theorem own_ne {h : Heap} {a b : Addr} (q : a < h.size) (r : h.size ≤ b) : a ≠ b := Nat.ne_of_lt (Nat.lt_of_lt_of_le q r)
end OwnKit
theorem own_toInt {i : Nat} (h : i < 2147483648) : (Int32.ofNat i).toInt = i := Int32.toInt_ofNat_of_lt (by omega)
theorem own_clamp {i : Nat} (h : i < 2147483648) : (Int32.ofNat i).toNatClampNeg = i := by
  show ((Int32.ofNat i).toInt).toNat = i
  rw [own_toInt h]; rfl
theorem own_inc (i : Nat) : Int32.ofNat i + 1 = Int32.ofNat (i + 1) := (Int32.ofNat_add i 1).symm
theorem own_nn {i : Nat} (h : i < 2147483648) : ¬ Int32.ofNat i < 0 := by
  rw [Int32.lt_iff_toInt_lt, own_toInt h]; simp
theorem own_lt {i n : Nat} (h : i < n) (hn : n < 2147483648) : Int32.ofNat i < Int32.ofNat n := by
  rw [Int32.lt_iff_toInt_lt, own_toInt (by omega), own_toInt hn]; omega
theorem own_nlt {i n : Nat} (h : n ≤ i) (hi : i < 2147483648) : ¬ Int32.ofNat i < Int32.ofNat n := by
  rw [Int32.lt_iff_toInt_lt, own_toInt hi, own_toInt (by omega)]; omega
theorem own_ofNat_inj {i n : Nat} (hi : i < 2147483648) (hn : n < 2147483648) (h : Int32.ofNat i = Int32.ofNat n) : i = n := by
  have := congrArg Int32.toInt h
  rw [own_toInt hi, own_toInt hn] at this; omega
theorem own_getD_set {α : Type} (vs : List α) (i j : Nat) (x d : α) (h : i < vs.length) : (vs.set i x).getD j d = if j = i then x else vs.getD j d := by
  simp only [List.getD_eq_getElem?_getD, List.getElem?_set]
  by_cases e : i = j
  · subst e; simp [h]
  · simp [e, Ne.symm e]
theorem own_getD_map {α β : Type} (f : α → β) (cs : List α) (j : Nat) (d : β) (e : α) (h : j < cs.length) : (cs.map f).getD j d = f (cs.getD j e) := by
  simp [List.getD_eq_getElem?_getD, List.getElem?_map, h]
theorem own_mapEq {α β : Type} (f : α → β) (cs : List α) (vs : List β) (d : β) (e : α) (hl : vs.length = cs.length) (h : ∀ j, j < cs.length → vs.getD j d = f (cs.getD j e)) : vs = cs.map f := by
  apply List.ext_getElem (by simpa using hl)
  intro j h1 h2
  have q := h j (by simpa using h2)
  have h3 : j < cs.length := by simpa using h2
  simp [List.getD_eq_getElem?_getD, h1, h3] at q
  simpa using q
theorem own_narR {t : FieldType} {v : Value} (ht : t.isReference = true) (hv : v.isRef = true) : narrow t v = v := by cases t <;> simp_all [FieldType.isReference, narrow]
theorem own_nb (x : Int32) : nar .byte x.toInt8.toInt32 = x.toInt8.toInt32 := by
  show x.toInt8.toInt32.toInt8.toInt32 = _
  rw [Int8.toInt8_toInt32]
theorem own_nc (x : Int32) : nar .char x.toUInt32.toUInt16.toUInt32.toInt32 = x.toUInt32.toUInt16.toUInt32.toInt32 := by
  simp only [nar, UInt32.toUInt32_toInt32, UInt16.toUInt16_toUInt32]
theorem own_getD_mem {α : Type} (cs : List α) (i : Nat) (d : α) (h : i < cs.length) : cs.getD i d ∈ cs := by
  rw [List.getD_eq_getElem?_getD, List.getElem?_eq_getElem h]; exact List.getElem_mem h
theorem own_alln {α : Type} {P : α → Prop} : ∀ c ∈ ([] : List α), P c := fun _ q => nomatch q
theorem own_allc {α : Type} {P : α → Prop} {x : α} {L : List α} (q : P x) (r : ∀ c ∈ L, P c) : ∀ c ∈ x :: L, P c := fun c z => (List.mem_cons.mp z).elim (fun u => u ▸ q) (r c)
theorem own_and255 (x : Int32) : 0 ≤ (x &&& 255).toInt ∧ (x &&& 255).toInt ≤ 255 := by
  rw [c_mask x 255 8 (by decide) (by decide)]
  have h1 := Int.emod_nonneg x.toInt (show ((2 ^ 8 : Nat) : Int) ≠ 0 by decide)
  have h2 := Int.emod_lt_of_pos x.toInt (show (0 : Int) < ((2 ^ 8 : Nat) : Int) by decide)
  omega
theorem own_mask8 {x c : Int32} (h : (x &&& 255).toUInt32.toUInt16.toUInt32.toInt32 = c) : 0 ≤ c.toInt ∧ c.toInt ≤ 255 := by
  rw [i2c_mask] at h; subst h; exact own_and255 x
theorem own_narC {c : Int32} (h : 0 ≤ c.toInt ∧ c.toInt ≤ 65535) : nar .char c = c := by
  apply Int32.toInt_inj.mp
  have q := c_i2c c
  show c.toUInt32.toUInt16.toUInt32.toInt32.toInt = c.toInt
  omega
theorem own_le255 {c : Int32} (h : 0 ≤ c.toInt ∧ c.toInt ≤ 255) : ¬ ((255 : Int32) < c) := by
  rw [Int32.lt_iff_toInt_lt]
  have : (255 : Int32).toInt = 255 := by decide
  omega
theorem own_nar8 {c : Int32} (h : 0 ≤ c.toInt ∧ c.toInt ≤ 255) : ¬ ((255 : Int32) < nar .char c) := by
  rw [own_narC ⟨h.1, by omega⟩]; exact own_le255 h
theorem own_setNext {vs : List Value} {cs : List Int32} {i : Nat} (f : Int32 → Value) (d x : Value) (hi : i < vs.length) (hx : x = f (cs.getD i 0)) (hv : ∀ j, j < i → vs.getD j d = f (cs.getD j 0)) : ∀ j, j < i + 1 → (vs.set i x).getD j d = f (cs.getD j 0) := by
  intro j hj
  rw [own_getD_set _ _ _ _ _ hi]
  by_cases e : j = i
  · subst e; rw [if_pos rfl]; exact hx
  · rw [if_neg e]; exact hv j (by omega)
theorem own_fitR {t : FieldType} {v : Value} (ht : t.isReference = true) (hv : v.isRef = true) : fits t v = true := by
  rcases ref_cases hv with rfl | ⟨a, rfl⟩ <;> cases t <;> simp_all [FieldType.isReference, fits]
theorem own_fitC {c : Int32} (h : 0 ≤ c.toInt ∧ c.toInt ≤ 65535) : fits .char (.int c) = true := by
  have q := fits_nar_char c
  rw [own_narC h] at q; exact q
theorem own_zero1 : (0 : Int32) + (1 : Int32) = (1 : Int32) := by decide
theorem own_emptyArv {s : State} {args : Array Value} {t : Term} {a : Addr} {cl : Cell} {ty : FieldType} {dv : Value} (hf : Fit s) (ev : t.eval args s none [] s = some (.ref a)) (A : Arr s s.heap a cl ty) (hl : (Term.length t).eval args s none [] s = some (.int (0 : Int32))) : Arv s s.heap a cl.cls ty (0 : Int32) [] dv := by
  obtain ⟨x, cl', e1, e2, -⟩ := Term.length_spec hl
  cases ev.symm.trans e1
  have hc : s.arrayAt? a = some cl := A.fin (Vm.Alike.refl _)
  cases e2.symm.trans hc
  have h31 := Jvm.Free.SBG.length_lt e1 hc hl
  have e : (Term.length t).eval args s none [] s = some (.int (Int32.ofNat cl.slots.size)) := by simp [Term.eval, e1, hc, h31]
  have q : Int32.ofNat cl.slots.size = (0 : Int32) := by simpa using Option.some.inj (e.symm.trans hl)
  exact Arv.start hf A h31 q (by decide) rfl trivial
theorem own_sz {x n : Int32} (h : ((1 : Int32) + (x &&& (3 : Int32))) = n) : 1 ≤ n.toInt ∧ n.toInt ≤ 4 := by
  have q : (x &&& (3 : Int32)).toInt = x.toInt % (2 ^ 2 : Nat) := c_mask x 3 2 (by decide) (by decide)
  have e := c_iadd 1 (x &&& (3 : Int32)); rw [h] at e
  have e1 : (1 : Int32).toInt = 1 := by decide
  have r := rng32 n
  omega
theorem own_sz0 {n : Int32} (h : 1 ≤ n.toInt ∧ n.toInt ≤ 4) : n ≠ 0 := fun e => by rw [e] at h; exact absurd h.1 (by decide)
theorem own_ixr {x n r : Int32} (h : 1 ≤ n.toInt ∧ n.toInt ≤ 4) (hr : ((x &&& (2147483647 : Int32)) % n) = r) : 0 ≤ r.toInt ∧ r.toInt < n.toInt := by
  have q := c_and x 2147483647 (by decide)
  have c := (c_iremV (x &&& 2147483647) n).1 q.1 (by omega)
  rw [hr] at c
  exact ⟨c.1, c.2.1⟩
theorem own_szb {n k : Int32} {m : Int} (h : ¬ (k < n)) (hk : k.toInt = m) : n.toInt ≤ m := by
  rw [Int32.lt_iff_toInt_lt] at h; omega
theorem own_ix1 {i n : Int32} (h0 : 0 ≤ i.toInt) (h1 : i.toInt < n.toInt) (h2 : n.toInt ≤ 1) : i = (0 : Int32) := Int32.toInt_inj.mp (by have : (0 : Int32).toInt = 0 := (by decide); omega)
theorem own_ix2 {i n : Int32} (h0 : 0 ≤ i.toInt) (h1 : i.toInt < n.toInt) (h2 : n.toInt ≤ 2) : i = (0 : Int32) ∨ i = (1 : Int32) := by
  have e0 : (0 : Int32).toInt = 0 := by decide
  have e1 : (1 : Int32).toInt = 1 := by decide
  simp only [← Int32.toInt_inj]; omega
theorem own_ix3 {i n : Int32} (h0 : 0 ≤ i.toInt) (h1 : i.toInt < n.toInt) (h2 : n.toInt ≤ 3) : i = (0 : Int32) ∨ i = (1 : Int32) ∨ i = (2 : Int32) := by
  have e0 : (0 : Int32).toInt = 0 := by decide
  have e1 : (1 : Int32).toInt = 1 := by decide
  have e2 : (2 : Int32).toInt = 2 := by decide
  simp only [← Int32.toInt_inj]; omega
theorem own_ix4 {i n : Int32} (h0 : 0 ≤ i.toInt) (h1 : i.toInt < n.toInt) (h2 : n.toInt ≤ 4) : i = (0 : Int32) ∨ i = (1 : Int32) ∨ i = (2 : Int32) ∨ i = (3 : Int32) := by
  have e0 : (0 : Int32).toInt = 0 := by decide
  have e1 : (1 : Int32).toInt = 1 := by decide
  have e2 : (2 : Int32).toInt = 2 := by decide
  have e3 : (3 : Int32).toInt = 3 := by decide
  simp only [← Int32.toInt_inj]; omega
theorem ow {Z : State} {a0 : Array Value} (hw : ∀ d ∈ tables_1, d.before a0 Z = true) (i : Nat) {d : Jvm.Cond} (h : tables_1[i]? = some d) : d.before a0 Z = true := hw d (List.mem_of_getElem? h)
section OwnKitW
variable {p : Program} {l : Launch} {e : Env} {R : Room} {s : State} {m : MethodId} {args : Array Value} {below : List Frame} {meth : Method} {c : Code} {T : State} {locs : List Loc} {cells slots : Nat} {EL : List (String × Nat)} {Z : State} {a0 : Array Value}
/-- the contract of a body that may load String constants -/
def own_ConW (l : Launch) (Z : State) (EL : List (String × Nat)) (y : MethodName) (bytes : ByteArray) (maxL : Nat) (ret : Option FieldType) (ws : List Jvm.Cond) (rm : Room) (as' : Array Value) (h0 : Heap) (Q : Option Value → Heap → List Loc → Prop) : Prop :=
  MetFree l y (head1 (Jvm.Cond.code y bytes maxL ret :: ws) rm) (fun a U => a = as' ∧ Z.Warmed39 U.vm ∧ U.heap = h0 ∧ CHv Z EL U.vm h0) (fun _ _ _ _ _ => True) (fun _ U o U' => ∃ v L, o = .returned v ∧ Q v U'.heap L ∧ CHr Z EL U.vm U.heap U'.vm U'.heap ∧ ReturnedEndW U o U' L rm.cells rm.slots)
def own_RtW (p : Program) (l : Launch) (e : Env) (Z : State) (EL : List (String × Nat)) (rm : Room) (s : State) (m : MethodId) (as' : Array Value) (below : List Frame) (meth : Method) (c : Code) (ret : Option FieldType) (h0 : Heap) (Q : Option Value → Heap → List Loc → Prop) (G : State → Prop) : Prop :=
  ∀ T locs cells slots v S vm0 k0, Stand p l e rm (s.setVm vm0) m as' below meth c T locs cells slots → s.Since vm0 k0 → k0 ≤ T.heap.size → Z.Warmed39 vm0 → CHr Z EL s.vm h0 vm0 T.heap → cells ≤ rm.cells → slots ≤ rm.slots → (ret = none → v = none) → Q v T.heap locs →
    (∀ fs, (∀ (f : JFrame) (acts : List Action), f.method = m → f.locked = none → f.entered = [] → (doReturn e (T.setTop f) acts v).1 = T.setFrames fs) → Steps p.tables e below S (T.setFrames fs)) → G S
theorem own_introW {y : MethodName} {bytes : ByteArray} {maxL : Nat} {ret : Option FieldType} {ws : List Jvm.Cond} {rm : Room} {as' : Array Value} {h0 : Heap} {Q : Option Value → Heap → List Loc → Prop} (hEL : EW Z a0 EL) (hpn : plainFor y = true)
    (H : ∀ (p : Program) (e : Env) (s : State) (m : MethodId) (below : List Frame) (meth : Method) (c : Code) (s₁ : State) (G : State → Prop), p.tables.exec = Jvm.exec → c.code = bytes → c.maxLocals = maxL → (s.setVm s.vm).vm.findClass y.cls = some m.cls → meth.name = y.name → meth.sig.returnType = ret → Z.Warmed39 (s.setVm s.vm).vm →
      Stand p l e rm (s.setVm s.vm) m as' below meth c s₁ [] 0 0 → s₁.heap = h0 → CHv Z EL s.vm h0 → s.Since s.vm h0.size → own_Bk p e below G → own_RtW p l e Z EL rm s m as' below meth c ret h0 Q G → G (s₁.setTop (entryFrame m as' maxL))) : own_ConW l Z EL y bytes maxL ret ws rm as' h0 Q := by
  refine MetFree.of_bodySF hpn hisR ?_
  intro p e s m args below meth c s₁ Bd hml hP hK
  obtain ⟨rfl, hZ, hh, hC⟩ := hP
  refine H p e s m below meth c s₁ (fun S => ∃ s₂ o, Steps p.tables e below S s₂ ∧ s₂.status = .running ∧ Ended s₂ below o ∧ ∃ v L, o = .returned v ∧ Q v s₂.heap L ∧ CHr Z EL s.vm s.heap s₂.vm s₂.heap ∧ ReturnedEndW s o s₂ L rm.cells rm.slots) Bd.exec Bd.bytes hml (findClass_of_methodNamed Bd.named) (name_of_methodNamed Bd.named Bd.method).1 Bd.returns hZ (Stand.of_body Bd) (by rw [← hh, Bd.state]; rfl) hC ((State.WarmedH.refl s).since _) ?_ ?_
  · rintro S S' st ⟨s₂, o, h1, h2⟩
    exact ⟨s₂, o, st _ h1, h2⟩
  · intro T locs cells slots v S vm0 k0 X hS hk hZ0 hC0 hc hs hv hQ hst
    obtain ⟨fs, hr, hrun, hended, hW, hsame⟩ := X.leave (v := v) (fun h => hv (Bd.returns ▸ h)) Bd.notSynchronized
    obtain ⟨q1, q2, q3⟩ := hS.ended (U := T.setFrames fs) hW hk hsame
    have hA : CHr Z EL vm0 T.heap T.vm T.heap := CHv.at X hZ0 hEL hC0.1
    refine ⟨_, _, hst fs hr, hrun, hended, v, locs, rfl, hQ, ?_, ⟨_, rfl⟩, q1, q2, q3.mono hc hs⟩
    rw [hh]
    exact hC0.trans hA
section Rets
variable {Q : Option Value → Heap → List Loc → Prop} {G : State → Prop} {pc : Nat} {Ls : Array Slot} {rest : List Value} {h0 h : Heap} {vm0 : Vm} {k0 : Nat}
theorem own_retVW (hR : own_RtW p l e Z EL R s m args below meth c none h0 Q G) (hret : meth.sig.returnType = none) (X : Stand p l e R (s.setVm vm0) m args below meth c T locs cells slots) (hx : p.tables.exec = Jvm.exec) (hd : decode c.code pc = .ok (.return_, 1)) (eT : T.heap = h) (hS : s.Since vm0 k0) (hk : k0 ≤ h.size) (hZ : Z.Warmed39 (s.setVm vm0).vm) (hC : CHr Z EL s.vm h0 vm0 h) (hc : cells ≤ R.cells) (hs : slots ≤ R.slots) (hQ : Q none h locs) : G (T.setTop (mkF m pc Ls [])) :=
  hR T locs cells slots none _ vm0 k0 X hS (by rw [eT]; exact hk) hZ (by rw [eT]; exact hC) hc hs (fun _ => rfl) (by rw [eT]; exact hQ) fun fs hr => X.returnOut hx hret hd hr
theorem own_retAW {t : FieldType} {v : Value} (hR : own_RtW p l e Z EL R s m args below meth c (some t) h0 Q G) (hret : meth.sig.returnType = some t) (ht : t.isReference = true) (hv : v.isRef = true) (X : Stand p l e R (s.setVm vm0) m args below meth c T locs cells slots) (hx : p.tables.exec = Jvm.exec) (hd : decode c.code pc = .ok (.areturn, 1)) (eT : T.heap = h) (hS : s.Since vm0 k0) (hk : k0 ≤ h.size) (hZ : Z.Warmed39 (s.setVm vm0).vm) (hC : CHr Z EL s.vm h0 vm0 h) (hc : cells ≤ R.cells) (hs : slots ≤ R.slots) (hQ : Q (some v) h locs) : G (T.setTop (mkF m pc Ls (v :: rest))) :=
  hR T locs cells slots (some v) _ vm0 k0 X hS (by rw [eT]; exact hk) hZ (by rw [eT]; exact hC) hc hs (fun h => nomatch h) (by rw [eT]; exact hQ) fun fs hr => retOut X hx hret (by cases t <;> simp_all [FieldType.isReference, narrow]) (Or.inr (Or.inr (Or.inr (Or.inr ⟨rfl, ht, hv⟩)))) hd hr
theorem own_retNW {z : Int32} {t : FieldType} (hR : own_RtW p l e Z EL R s m args below meth c (some t) h0 Q G) (hret : meth.sig.returnType = some t) (ht : t = .boolean ∨ t = .byte ∨ t = .char ∨ t = .short) (X : Stand p l e R (s.setVm vm0) m args below meth c T locs cells slots) (hx : p.tables.exec = Jvm.exec) (hd : decode c.code pc = .ok (.ireturn, 1)) (eT : T.heap = h) (hS : s.Since vm0 k0) (hk : k0 ≤ h.size) (hZ : Z.Warmed39 (s.setVm vm0).vm) (hC : CHr Z EL s.vm h0 vm0 h) (hc : cells ≤ R.cells) (hs : slots ≤ R.slots) (hQ : Q (some (.int (nar t z))) h locs) : G (T.setTop (mkF m pc Ls (.int z :: rest))) :=
  hR T locs cells slots (some (.int (nar t z))) _ vm0 k0 X hS (by rw [eT]; exact hk) hZ (by rw [eT]; exact hC) hc hs (fun h => nomatch h) (by rw [eT]; exact hQ) fun fs hr => retN X hx hret ht hd hr
end Rets
section Calls
variable {own : String} {index : Nat} {y : MethodName} {bytes : ByteArray} {maxL : Nat} {ret : Option FieldType} {rm : Room} {as' : Array Value} {h : Heap} {Q : Option Value → Heap → List Loc → Prop} {G : State → Prop} {pc : Nat} {Ls : Array Slot} {stk argsL rest : List Value} {vm0 : Vm} {k0 : Nat}
theorem own_callSW (X : Stand p l e R (s.setVm vm0) m args below meth c T locs cells slots) (hx : p.tables.exec = Jvm.exec) (hZ : Z.Warmed39 (s.setVm vm0).vm) (hG : own_Bk p e below G) (hown : (s.setVm vm0).vm.findClass own = some m.cls)
    (w1 : (Jvm.Cond.methodLink own index y).before a0 Z = true) (w2 : (Jvm.Cond.static y).before a0 Z = true) (w3 : (Jvm.Cond.initialized y.cls).before a0 Z = true) (w4 : (Jvm.Cond.code y bytes maxL ret).before a0 Z = true)
    (hy : y.cls ≠ "java/lang/invoke/MethodHandle" ∧ y.cls ≠ "java/lang/invoke/VarHandle") (W : Nat) (hM : own_ConW l Z EL y bytes maxL ret [] rm as' h Q) (hf : rm.frames + 1 ≤ R.frames) (hlo : W + (maxL + 11) + rm.locals ≤ R.locals) (eT : T.heap = h)
    (hS : s.Since vm0 k0) (hk : k0 ≤ h.size) (hEL : EW Z a0 EL) (H : CHv Z EL vm0 h)
    (hsize : Ls.size = c.maxLocals) (hlen : ∀ sig, parseMethodDescriptor y.desc = some sig → argsL.length = sig.parameters.length) (has : argsL.toArray = as') (hst : stk = argsL.reverse ++ rest) (hW : (rest.map fun v => v.category).sum ≤ W)
    (hd : decode c.code pc = .ok (.invokestatic index, 3)) (hc : cells + rm.cells ≤ R.cells) (hs : slots + rm.slots ≤ R.slots)
    (k : ∀ T' h' v L, Stand p l e R (s.setVm T'.vm) m args below meth c T' (locs ++ L) (cells + rm.cells) (slots + rm.slots) → T'.heap = h' → s.Since T'.vm h'.size → Z.Warmed39 (s.setVm T'.vm).vm → (s.setVm T'.vm).vm.findClass own = some m.cls → CHr Z EL vm0 h T'.vm h' → Q v h' L → G (T'.setTop (mkF m (pc + 3) Ls (v.toList ++ rest)))) : G (T.setTop (mkF m pc Ls stk)) := by
  obtain ⟨v, _, ⟨T1, L1, k1, n1⟩, -, X1, hS1, hg1, ⟨L, hQ, rfl, rfl, rfl, hC⟩, st⟩ := callSS X hx (y := y) hown (mvT hZ w1) (mvT hZ w2) (mvT hZ w3) (mvT hZ w4) hy (backOfSH (W := W) hM hZ w4 w3 hf hlo hEL H) (g := mkF m pc Ls stk) rfl hsize (argsL := argsL) (rest := rest) hlen hst (by show 2 * 0 + _ ≤ _; rw [Nat.mul_zero, Nat.zero_add]; exact hW) hd (fun _ _ => ⟨has, eT, hc, hs⟩)
  obtain ⟨X2, hS2, hZ2, hown2⟩ := rebS hS (by rw [eT]; exact hk) X1 hS1 hg1 hZ hown
  exact hG _ _ (fun t kk => st.trans kk) (k T1 _ v L X2 rfl hS2 hZ2 hown2 hC hQ)
theorem own_callIW (X : Stand p l e R (s.setVm vm0) m args below meth c T locs cells slots) (hx : p.tables.exec = Jvm.exec) (hZ : Z.Warmed39 (s.setVm vm0).vm) (hG : own_Bk p e below G) (hown : (s.setVm vm0).vm.findClass own = some m.cls) (hy1 : y.name = "<init>")
    (w1 : (Jvm.Cond.methodLink own index y).before a0 Z = true) (w2 : (Jvm.Cond.instanceMethod y).before a0 Z = true) (w3 : (Jvm.Cond.initialized y.cls).before a0 Z = true) (w4 : (Jvm.Cond.code y bytes maxL none).before a0 Z = true)
    (hy : y.cls ≠ "java/lang/invoke/MethodHandle" ∧ y.cls ≠ "java/lang/invoke/VarHandle") (W : Nat) (hM : own_ConW l Z EL y bytes maxL none [] rm as' h Q) (hf : rm.frames + 1 ≤ R.frames) (hlo : W + (maxL + 11) + rm.locals ≤ R.locals) (eT : T.heap = h)
    (hS : s.Since vm0 k0) (hk : k0 ≤ h.size) (hEL : EW Z a0 EL) (H : CHv Z EL vm0 h)
    (hsize : Ls.size = c.maxLocals) (hlen : ∀ sig, parseMethodDescriptor y.desc = some sig → argsL.length = sig.parameters.length) {a : Addr} (has : (.ref a :: argsL).toArray = as') (hst : stk = argsL.reverse ++ .ref a :: rest) (hW : (rest.map fun v => v.category).sum ≤ W)
    (hd : decode c.code pc = .ok (.invokespecial index, 3)) (hc : cells + rm.cells ≤ R.cells) (hs : slots + rm.slots ≤ R.slots)
    (k : ∀ T' h' v L, Stand p l e R (s.setVm T'.vm) m args below meth c T' (locs ++ L) (cells + rm.cells) (slots + rm.slots) → T'.heap = h' → s.Since T'.vm h'.size → Z.Warmed39 (s.setVm T'.vm).vm → (s.setVm T'.vm).vm.findClass own = some m.cls → CHr Z EL vm0 h T'.vm h' → Q v h' L → G (T'.setTop (mkF m (pc + 3) Ls (v.toList ++ rest)))) : G (T.setTop (mkF m pc Ls stk)) := by
  obtain ⟨v, _, ⟨T1, L1, k1, n1⟩, -, X1, hS1, hg1, ⟨L, hQ, rfl, rfl, rfl, hC⟩, st⟩ := X.specialBackS hx (y := y) hy1 hown (mvT hZ w1) (mvT hZ w2) (mvT hZ w4) hy (backOfSH (W := W) hM hZ w4 w3 hf hlo hEL H) (g := mkF m pc Ls stk) rfl hsize (Steps.refl _) (a := a) (argsL := argsL) (rest := rest) hlen hst (by show 2 * 0 + _ ≤ _; rw [Nat.mul_zero, Nat.zero_add]; exact hW) hd (fun _ _ => ⟨has, eT, hc, hs⟩)
  obtain ⟨X2, hS2, hZ2, hown2⟩ := rebS hS (by rw [eT]; exact hk) X1 hS1 hg1 hZ hown
  exact hG _ _ (fun t kk => st.trans kk) (k T1 _ v L X2 rfl hS2 hZ2 hown2 hC hQ)
theorem own_callVW {C : String} (X : Stand p l e R (s.setVm vm0) m args below meth c T locs cells slots) (hx : p.tables.exec = Jvm.exec) (hZ : Z.Warmed39 (s.setVm vm0).vm) (hG : own_Bk p e below G) (hown : (s.setVm vm0).vm.findClass own = some m.cls)
    (w1 : (Jvm.Cond.methodLink own index y).before a0 Z = true) (w2 : (Jvm.Cond.declares y).before a0 Z = true) (w3 : (Jvm.Cond.selects C y y).before a0 Z = true) (w4 : (Jvm.Cond.instanceMethod y).before a0 Z = true) (w5 : (Jvm.Cond.initialized y.cls).before a0 Z = true) (w6 : (Jvm.Cond.code y bytes maxL ret).before a0 Z = true)
    (hy : y.cls ≠ "java/lang/invoke/MethodHandle" ∧ y.cls ≠ "java/lang/invoke/VarHandle") (W : Nat) (hM : own_ConW l Z EL y bytes maxL ret [] rm as' h Q) (hf : rm.frames + 1 ≤ R.frames) (hlo : W + (maxL + 11) + rm.locals ≤ R.locals) (eT : T.heap = h)
    (hS : s.Since vm0 k0) (hk : k0 ≤ h.size) (hEL : EW Z a0 EL) (H : CHv Z EL vm0 h) {b : Addr} (E : Exa Z h b C)
    (hsize : Ls.size = c.maxLocals) (hlen : ∀ sig, parseMethodDescriptor y.desc = some sig → argsL.length = sig.parameters.length) (has : (.ref b :: argsL).toArray = as') (hst : stk = argsL.reverse ++ .ref b :: rest) (hW : (rest.map fun v => v.category).sum ≤ W)
    (hd : decode c.code pc = .ok (.invokevirtual index, 3)) (hc : cells + rm.cells ≤ R.cells) (hs : slots + rm.slots ≤ R.slots)
    (k : ∀ T' h' v L, Stand p l e R (s.setVm T'.vm) m args below meth c T' (locs ++ L) (cells + rm.cells) (slots + rm.slots) → T'.heap = h' → s.Since T'.vm h'.size → Z.Warmed39 (s.setVm T'.vm).vm → (s.setVm T'.vm).vm.findClass own = some m.cls → CHr Z EL vm0 h T'.vm h' → Q v h' L → G (T'.setTop (mkF m (pc + 3) Ls (v.toList ++ rest)))) : G (T.setTop (mkF m pc Ls stk)) := by
  obtain ⟨cq, kq, qa, qb, qc⟩ := isOf hZ eT E
  obtain ⟨v, _, ⟨T1, L1, k1, n1⟩, -, X1, hS1, hg1, ⟨L, hQ, rfl, rfl, rfl, hC⟩, st⟩ := X.virtualBackS hx (y := y) (z := y) hown (mvT hZ w1) (mvT hZ w2) (notFace_of_selects (args := #[]) (mvT hZ w3)) (mvT hZ w3) (mvT hZ w4) hy (backOfSH (W := W) hM hZ w6 w5 hf hlo hEL H) qa qc (g := mkF m pc Ls stk) rfl hsize (Steps.refl _) (argsL := argsL) (rest := rest) hlen hst (by show 2 * 0 + _ ≤ _; rw [Nat.mul_zero, Nat.zero_add]; exact hW) hd (fun _ _ => ⟨has, eT, hc, hs⟩)
  obtain ⟨X2, hS2, hZ2, hown2⟩ := rebS hS (by rw [eT]; exact hk) X1 hS1 hg1 hZ hown
  exact hG _ _ (fun t kk => st.trans kk) (k T1 _ v L X2 rfl hS2 hZ2 hown2 hC hQ)
end Calls
/-- a String whose value is still null is none that the JVM holds for a constant -/
theorem own_safeStr {vm : Vm} {h : Heap} {a : Addr} (hal : Z.vm.Alike vm) (E : Exa Z h a "java/lang/String") (F : Fld Z h a "java/lang/String" "value" "[B" .null) : Safe Z EL vm h a := fun B => by
  obtain ⟨p0, hp0, u, a', hb, q, hqa, S, hy⟩ := B
  obtain ⟨cS, ⟨⟨s1, s2, s3, ⟨cv, kv, iv, s4, s4'⟩, ⟨cc, kc, ic, s5, s5'⟩, s6, s7, s8, s9, s10, -⟩, hfS, hcS⟩, -, hB, -⟩ := S
  obtain ⟨kv', z4⟩ := ff_back (U := Wst Z vm h) hal s4
  rcases hy with rfl | rfl
  · have G : Fld Z h q.sa "java/lang/String" "value" "[B" (.ref q.sd) := ⟨q.sC, cv, kv', iv, q.fSV, s1, z4, s6, s2, s3, by rw [← hal.assignable]; exact s4', s8⟩
    exact Fld.ne F G (by simp) rfl
  · obtain ⟨cell, k, e1, e2, -⟩ := E
    have s10' : h[q.sd]? = some q.SA := s10
    cases s10'.symm.trans e1
    have hB' : vm.findClass "[B" = some q.SA.cls := hB
    have hBZ : Z.vm.findClass "[B" = some q.SA.cls := by rw [← hal.findClass]; exact hB'
    obtain ⟨k1, x1, x2⟩ := Vm.findClass_spec e2
    obtain ⟨k2, y1, y2⟩ := Vm.findClass_spec hBZ
    cases x1.symm.trans y1
    exact absurd (x2.symm.trans y2) (by decide)
theorem own_safeArv {vm : Vm} {h : Heap} {a : Addr} {k : ClassId} {ty : FieldType} {z : Int32} {vs : List Value} {d : Value} (hal : Z.vm.Alike vm) (A : Arv Z h a k ty z vs d) (ht : ty ≠ .byte) : Safe Z EL vm h a := by
  obtain ⟨cl, Ar, -⟩ := A
  exact Safe.arr hal Ar ht
end OwnKitW

def own_lo (ch : Int32) : Int32 := nar .byte ((ch >>> ((0 : Int32) &&& 31)).toInt8.toInt32)
def own_hi (ch : Int32) : Int32 := nar .byte ((ch >>> ((8 : Int32) &&& 31)).toInt8.toInt32)
def own_join (x y : Int32) : Int32 := nar .char ((((x &&& (255 : Int32)) <<< ((0 : Int32) &&& 31)) ||| ((y &&& (255 : Int32)) <<< ((8 : Int32) &&& 31))).toUInt32.toUInt16.toUInt32.toInt32)
def own_is16 (cs : List Int32) (vs : List Value) : Prop := vs.length = 2 * cs.length ∧ ∀ j, j < cs.length → vs.getD (2 * j) (.int 0) = .int (own_lo (cs.getD j 0)) ∧ vs.getD (2 * j + 1) (.int 0) = .int (own_hi (cs.getD j 0))
/-- the bytes of a String of these chars -/
def own_enc (cs : List Int32) (cd nb : Int32) (vs : List Value) : Prop :=
  ((∀ c ∈ cs, ¬ ((255 : Int32) < c)) ∧ cd = 0 ∧ nb = Int32.ofNat cs.length ∧ vs = (cs.map fun c => Value.int c.toInt8.toInt32)) ∨
    ((∃ k, k < cs.length ∧ (255 : Int32) < cs.getD k 0) ∧ cd = 1 ∧ nb = Int32.ofNat (2 * cs.length) ∧ own_is16 cs vs)
theorem own_shl1 (i : Nat) : Int32.ofNat i <<< ((1 : Int32) &&& 31) = Int32.ofNat (2 * i) := by
  rw [shlm (x := Int32.ofNat i) (k := 1) (m := 2) (by decide), Nat.mul_comm, Int32.ofNat_mul]; rfl
theorem own_lo_rng (ch : Int32) : (own_lo ch).toInt % 256 = ch.toInt % 256 := by
  have h0 : (ch >>> ((0 : Int32) &&& 31)).toInt = ch.toInt / (2 ^ 0 : Nat) := c_ishr ch 0 0 (by decide)
  have h1 := c_i2b (ch >>> ((0 : Int32) &&& 31))
  show (nar .byte _).toInt % 256 = _
  rw [own_nb]
  omega
theorem own_hi_rng (ch : Int32) : (own_hi ch).toInt % 256 = (ch.toInt / 256) % 256 := by
  have h0 : (ch >>> ((8 : Int32) &&& 31)).toInt = ch.toInt / (2 ^ 8 : Nat) := c_ishr ch 8 8 (by decide)
  have h1 := c_i2b (ch >>> ((8 : Int32) &&& 31))
  show (nar .byte _).toInt % 256 = _
  rw [own_nb]
  omega
theorem own_join_eq {ch : Int32} (h : 0 ≤ ch.toInt ∧ ch.toInt ≤ 65535) : own_join (own_lo ch) (own_hi ch) = ch := by
  have l := own_lo_rng ch; have g := own_hi_rng ch
  unfold own_join
  rw [own_nc]
  generalize own_lo ch = x at *
  generalize own_hi ch = y at *
  have m1 : (x &&& (255 : Int32)).toInt = x.toInt % 256 := c_mask x 255 8 (by decide) (by decide)
  have m2 : (y &&& (255 : Int32)).toInt = y.toInt % 256 := c_mask y 255 8 (by decide) (by decide)
  have s1 : ((x &&& (255 : Int32)) <<< ((0 : Int32) &&& 31)) = (x &&& (255 : Int32)) := by
    rw [shlm (m := 1) (by decide)]; simp
  have s2 := c_ishl (y &&& (255 : Int32)) 8 8 (by decide)
  rw [s1]
  generalize (x &&& (255 : Int32)) = X at *
  generalize ((y &&& (255 : Int32)) <<< ((8 : Int32) &&& 31)) = Y at *
  have rY := rng32 Y
  have eY : Y.toInt = (y.toInt % 256) * 256 := by omega
  have o := c_or' X Y 8 (by decide) 256 rfl (by omega) (by omega) (by omega)
  have rO := rng32 (X ||| Y)
  have c2 := c_i2c (X ||| Y)
  apply Int32.toInt_inj.mp
  omega
theorem own_coder0 (n : Int32) : nar .byte ((((n - n).toUInt32 >>> ((31 : Int32) &&& 31).toUInt32).toInt32).toInt8.toInt32) = 0 := by rw [Int32.sub_self]; rfl
theorem own_coder1 {n : Nat} (h0 : 0 < n) (h : n < 536870912) : nar .byte ((((Int32.ofNat n - Int32.ofNat (2 * n)).toUInt32 >>> ((31 : Int32) &&& 31).toUInt32).toInt32).toInt8.toInt32) = 1 := by
  have e := c_isub (Int32.ofNat n) (Int32.ofNat (2 * n))
  rw [own_toInt (by omega), own_toInt (by omega)] at e
  have r := rng32 (Int32.ofNat n - Int32.ofNat (2 * n))
  have s := c_iushr (Int32.ofNat n - Int32.ofNat (2 * n)) 31 31 (by decide) (by decide)
  generalize Int32.ofNat n - Int32.ofNat (2 * n) = D at *
  generalize ((D.toUInt32 >>> ((31 : Int32) &&& 31).toUInt32).toInt32) = S at *
  have hS : S.toInt = 1 := by rw [s]; omega
  have : S = 1 := Int32.toInt_inj.mp (by rw [hS]; rfl)
  rw [this]; rfl
theorem own_mask16 {x c : Int32} (h : (x &&& 65535).toUInt32.toUInt16.toUInt32.toInt32 = c) : 0 ≤ c.toInt ∧ c.toInt ≤ 65535 := by
  have q := c_i2c (x &&& 65535); rw [h] at q; omega
theorem own_i2c16 {x c : Int32} (h : x.toUInt32.toUInt16.toUInt32.toInt32 = c) : 0 ≤ c.toInt ∧ c.toInt ≤ 65535 := by
  have q := c_i2c x; rw [h] at q; omega
theorem own_nar16 {c : Int32} (h : 0 ≤ c.toInt ∧ c.toInt ≤ 65535) : 0 ≤ (nar .char c).toInt ∧ (nar .char c).toInt ≤ 65535 := by rw [own_narC h]; exact h
theorem own_ltK {n : Nat} (h : n < 1073741823) : Int32.ofNat n < (1073741823 : Int32) := by
  rw [Int32.lt_iff_toInt_lt, own_toInt (by omega)]
  have : (1073741823 : Int32).toInt = 1073741823 := by decide
  omega
theorem own_ofNat_ne {i n : Nat} (h : i < n) (hn : n < 2147483648) : ¬ (Int32.ofNat i = Int32.ofNat n) := fun e => by
  have := own_ofNat_inj (by omega) hn e; omega
theorem own_set16 {cs : List Int32} {vs : List Value} {i : Nat} (hl : vs.length = 2 * cs.length) (hi : i < cs.length)
    (hv : ∀ j, j < i → vs.getD (2 * j) (.int 0) = .int (own_lo (cs.getD j 0)) ∧ vs.getD (2 * j + 1) (.int 0) = .int (own_hi (cs.getD j 0))) :
    ∀ j, j < i + 1 → ((vs.set (2 * i) (.int (own_lo (cs.getD i 0)))).set (2 * i + 1) (.int (own_hi (cs.getD i 0)))).getD (2 * j) (.int 0) = .int (own_lo (cs.getD j 0)) ∧ ((vs.set (2 * i) (.int (own_lo (cs.getD i 0)))).set (2 * i + 1) (.int (own_hi (cs.getD i 0)))).getD (2 * j + 1) (.int 0) = .int (own_hi (cs.getD j 0)) := by
  intro j hj
  have h1 : 2 * i + 1 < (vs.set (2 * i) (Value.int (own_lo (cs.getD i 0)))).length := by rw [List.length_set]; omega
  have h2 : 2 * i < vs.length := by omega
  rw [own_getD_set _ _ _ _ _ h1, own_getD_set _ _ _ _ _ h2, own_getD_set _ _ _ _ _ h1, own_getD_set _ _ _ _ _ h2]
  by_cases e : j = i
  · subst e
    rw [if_neg (by omega), if_pos rfl, if_pos rfl]; exact ⟨rfl, rfl⟩
  · rw [if_neg (by omega), if_neg (by omega), if_neg (by omega), if_neg (by omega)]; exact hv j (by omega)
theorem own_allD {α : Type} {P : α → Prop} (cs : List α) (d : α) (h : ∀ j, j < cs.length → P (cs.getD j d)) : ∀ c ∈ cs, P c := by
  intro c hc
  obtain ⟨j, hj, rfl⟩ := List.getElem_of_mem hc
  have q := h j hj
  rw [List.getD_eq_getElem?_getD, List.getElem?_eq_getElem hj] at q
  exact q
theorem own_nextD {P : Int32 → Prop} {cs : List Int32} {i : Nat} (h : ∀ j, j < i → P (cs.getD j 0)) (q : P (cs.getD i 0)) : ∀ j, j < i + 1 → P (cs.getD j 0) := by
  intro j hj
  by_cases e : j = i
  · subst e; exact q
  · exact h j (by omega)
theorem own_is16_1 (ch : Int32) : own_is16 [ch] [.int (own_lo ch), .int (own_hi ch)] := ⟨rfl, fun j hj => by
  have e : j = 0 := by simpa using hj
  subst e; exact ⟨rfl, rfl⟩⟩
theorem own_enc_lat1 {ch : Int32} (h : ¬ ((255 : Int32) < ch)) : own_enc [ch] 0 (1 : Int32) [.int (nar .byte (ch.toInt8.toInt32))] :=
  Or.inl ⟨own_allc h own_alln, rfl, rfl, by rw [own_nb]; rfl⟩
theorem own_enc_u1 {ch : Int32} (h : (255 : Int32) < ch) : own_enc [ch] 1 (2 : Int32) [.int (own_lo ch), .int (own_hi ch)] :=
  Or.inr ⟨⟨0, Nat.zero_lt_one, h⟩, rfl, rfl, own_is16_1 ch⟩
theorem own_enc_nil : own_enc [] 0 (0 : Int32) [] := Or.inl ⟨own_alln, rfl, rfl, rfl⟩
theorem own_8to16 {c : Int32} (h : 0 ≤ c.toInt ∧ c.toInt ≤ 255) : 0 ≤ c.toInt ∧ c.toInt ≤ 65535 := ⟨h.1, by omega⟩
theorem own_narrng (x : Int32) : 0 ≤ (nar .char x).toInt ∧ (nar .char x).toInt ≤ 65535 := by
  have q := c_i2c x
  show 0 ≤ x.toUInt32.toUInt16.toUInt32.toInt32.toInt ∧ x.toUInt32.toUInt16.toUInt32.toInt32.toInt ≤ 65535
  omega
theorem own_shr0 (x : Int32) : x >>> ((0 : Int32) &&& 31) = x := Int32.toInt_inj.mp (by rw [c_ishr x 0 0 (by decide)]; simp)
theorem own_shr1 {n : Nat} (h : n < 1073741824) : Int32.ofNat (2 * n) >>> ((1 : Int32) &&& 31) = Int32.ofNat n := by
  apply Int32.toInt_inj.mp
  rw [c_ishr _ 1 1 (by decide), own_toInt (by omega), own_toInt (by omega)]
  omega
theorem own_byteEq {c d : Int32} (hc : 0 ≤ c.toInt ∧ c.toInt ≤ 255) (hd : 0 ≤ d.toInt ∧ d.toInt ≤ 255) : c.toInt8.toInt32 = d.toInt8.toInt32 ↔ c = d := by
  constructor
  · intro h
    have h1 := c_i2b c; have h2 := c_i2b d
    rw [h] at h1
    exact Int32.toInt_inj.mp (by omega)
  · intro h; rw [h]
theorem own_lat_rng {cs : List Int32} (hall : ∀ c ∈ cs, ¬ ((255 : Int32) < c)) (h16 : ∀ c ∈ cs, 0 ≤ c.toInt ∧ c.toInt ≤ 65535) : ∀ c ∈ cs, 0 ≤ c.toInt ∧ c.toInt ≤ 255 := fun c hc => by
  have q := hall c hc; have r := h16 c hc
  rw [Int32.lt_iff_toInt_lt] at q
  have : (255 : Int32).toInt = 255 := by decide
  omega
theorem own_m1 {P : Int32 → Prop} {cs : List Int32} (h : cs.length = 0) : (-1 : Int32) < (0 : Int32) ↔ ∀ c ∈ cs, P c :=
  ⟨fun _ => by rw [List.eq_nil_of_length_eq_zero h]; exact own_alln, fun _ => by decide⟩
theorem own_pos0 {n : Nat} (h : ¬ (0 : Int32) < Int32.ofNat n) (hn : n < 2147483648) : n = 0 := by
  rcases Nat.eq_zero_or_pos n with e | e
  · exact e
  · exact absurd (own_lt (i := 0) e hn) h
theorem own_n3 {x n : Int32} (h : (x &&& (3 : Int32)) = n) (h0 : ¬ (n = (0 : Int32))) (h1 : ¬ (n = (1 : Int32))) (h2 : ¬ (n = (2 : Int32))) : n = (3 : Int32) := by
  have q : (x &&& (3 : Int32)).toInt = x.toInt % (2 ^ 2 : Nat) := c_mask x 3 2 (by decide) (by decide)
  rw [h] at q
  have a0 := mt Int32.toInt_inj.mp h0; have a1 := mt Int32.toInt_inj.mp h1; have a2 := mt Int32.toInt_inj.mp h2
  have e0 : (0 : Int32).toInt = 0 := by decide
  have e1 : (1 : Int32).toInt = 1 := by decide
  have e2 : (2 : Int32).toInt = 2 := by decide
  have e3 : (3 : Int32).toInt = 3 := by decide
  apply Int32.toInt_inj.mp
  omega

theorem own_byteBack {c : Int32} (h : 0 ≤ c.toInt ∧ c.toInt ≤ 255) : nar .char ((c.toInt8.toInt32 &&& (255 : Int32)).toUInt32.toUInt16.toUInt32.toInt32) = c := by
  have h1 := c_i2b c
  have m1 : (c.toInt8.toInt32 &&& (255 : Int32)).toInt = c.toInt8.toInt32.toInt % 256 := c_mask _ 255 8 (by decide) (by decide)
  rw [i2c_mask, own_narC (by omega)]
  exact Int32.toInt_inj.mp (by omega)
theorem own_getD_rng {cs : List Int32} (h : ∀ c ∈ cs, 0 ≤ c.toInt ∧ c.toInt ≤ 65535) (i : Nat) : 0 ≤ (cs.getD i 0).toInt ∧ (cs.getD i 0).toInt ≤ 65535 := by
  by_cases hi : i < cs.length
  · exact h _ (own_getD_mem cs i 0 hi)
  · rw [List.getD_eq_getElem?_getD, List.getElem?_eq_none (by omega)]; decide

def own_lc (cs : List Int32) (i : Nat) : Prop := (cs.getD i 0 = (97 : Int32) ∨ cs.getD i 0 = (65 : Int32)) ∧ (cs.getD (i + 1) 0 = (114 : Int32) ∨ cs.getD (i + 1) 0 = (82 : Int32)) ∧ (cs.getD (i + 2) 0 = (107 : Int32) ∨ cs.getD (i + 2) 0 = (75 : Int32)) ∧ cs.getD (i + 3) 0 = (58 : Int32)
def own_lab (cs : List Int32) (k : Int32) : Prop := 0 ≤ k.toInt ∧ k.toInt + 4 ≤ cs.length ∧ own_lc cs k.toNatClampNeg
/-- what toLowerCase says -/
def own_lw (c r : Int32) : Prop := (r = (97 : Int32) ↔ c = (97 : Int32) ∨ c = (65 : Int32)) ∧ (r = (114 : Int32) ↔ c = (114 : Int32) ∨ c = (82 : Int32)) ∧ (r = (107 : Int32) ↔ c = (107 : Int32) ∨ c = (75 : Int32)) ∧ (r = (58 : Int32) ↔ c = (58 : Int32))
theorem own_lw1 {c : Int32} (h1 : ¬ (c < (65 : Int32))) (h2 : ¬ ((90 : Int32) < c)) : own_lw c (nar .char ((c + (32 : Int32)).toUInt32.toUInt16.toUInt32.toInt32)) := by
  rw [Int32.lt_iff_toInt_lt] at h1 h2
  have e1 : (65 : Int32).toInt = 65 := by decide
  have e2 : (90 : Int32).toInt = 90 := by decide
  have e3 : (32 : Int32).toInt = 32 := by decide
  have e4 : (97 : Int32).toInt = 97 := by decide
  have e5 : (114 : Int32).toInt = 114 := by decide
  have e6 : (82 : Int32).toInt = 82 := by decide
  have e7 : (107 : Int32).toInt = 107 := by decide
  have e8 : (75 : Int32).toInt = 75 := by decide
  have e9 : (58 : Int32).toInt = 58 := by decide
  have a := c_iadd c 32
  have r := rng32 (c + 32)
  have q := c_i2c (c + 32)
  have eq : ((c + (32 : Int32)).toUInt32.toUInt16.toUInt32.toInt32).toInt = c.toInt + 32 := by omega
  rw [own_narC (by omega)]
  unfold own_lw
  simp only [← Int32.toInt_inj]
  omega
theorem own_lw0 {c : Int32} (hc : 0 ≤ c.toInt ∧ c.toInt ≤ 65535) (h : c < (65 : Int32) ∨ (90 : Int32) < c) : own_lw c (nar .char c) := by
  rw [own_narC hc]
  rw [Int32.lt_iff_toInt_lt, Int32.lt_iff_toInt_lt] at h
  have e1 : (65 : Int32).toInt = 65 := by decide
  have e2 : (90 : Int32).toInt = 90 := by decide
  have e4 : (97 : Int32).toInt = 97 := by decide
  have e5 : (114 : Int32).toInt = 114 := by decide
  have e6 : (82 : Int32).toInt = 82 := by decide
  have e7 : (107 : Int32).toInt = 107 := by decide
  have e8 : (75 : Int32).toInt = 75 := by decide
  have e9 : (58 : Int32).toInt = 58 := by decide
  unfold own_lw
  simp only [← Int32.toInt_inj, e4, e5, e6, e7, e8, e9, e1]
  refine ⟨⟨fun q => Or.inl q, ?_⟩, ⟨fun q => Or.inl q, ?_⟩, ⟨fun q => Or.inl q, ?_⟩, trivial⟩
  all_goals (rintro (q | q) <;> omega)
theorem own_labN {cs : List Int32} {k : Int32} (h : k < (0 : Int32)) : ¬ own_lab cs k := fun q => by
  rw [Int32.lt_iff_toInt_lt] at h
  have e : (0 : Int32).toInt = 0 := by decide
  have := q.1
  omega
theorem own_labL {cs : List Int32} {k : Int32} (h0 : ¬ (k < (0 : Int32))) (hk : k.toInt ≤ 2147483643) (hl : cs.length < 2147483648) : (Int32.ofNat cs.length < k + (4 : Int32)) ↔ ¬ (k.toInt + 4 ≤ cs.length) := by
  rw [Int32.lt_iff_toInt_lt] at h0 ⊢
  have e : (0 : Int32).toInt = 0 := by decide
  have e4 : (4 : Int32).toInt = 4 := by decide
  have a := c_iadd k 4
  have r := rng32 (k + 4)
  rw [own_toInt hl]
  omega
theorem own_labI {cs : List Int32} {k : Int32} (h0 : ¬ (k < (0 : Int32))) (h4 : k.toInt + 4 ≤ cs.length) (hl : cs.length < 2147483648) : ∃ i : Nat, k = Int32.ofNat i ∧ i + 4 ≤ cs.length ∧ (own_lab cs k ↔ own_lc cs i) := by
  rw [Int32.lt_iff_toInt_lt] at h0
  have e : (0 : Int32).toInt = 0 := by decide
  refine ⟨k.toInt.toNat, ?_, by omega, ?_⟩
  · apply Int32.toInt_inj.mp; rw [own_toInt (by omega)]; omega
  · have hk : k.toNatClampNeg = k.toInt.toNat := rfl
    unfold own_lab
    rw [hk]
    exact ⟨fun q => q.2.2, fun q => ⟨by omega, h4, q⟩⟩
theorem own_addN (i j : Nat) : Int32.ofNat i + Int32.ofNat j = Int32.ofNat (i + j) := (Int32.ofNat_add i j).symm
theorem own_n7 {x n : Int32} (h : (x &&& (7 : Int32)) = n) : 0 ≤ n.toInt ∧ n.toInt ≤ 7 := by
  have q : (x &&& (7 : Int32)).toInt = x.toInt % (2 ^ 3 : Nat) := c_mask x 7 3 (by decide) (by decide)
  rw [h] at q
  omega
theorem own_is7 {n : Int32} (h : 0 ≤ n.toInt ∧ n.toInt ≤ 7) (h0 : ¬ (n = (0 : Int32))) (h1 : ¬ (n = (1 : Int32))) (h2 : ¬ (n = (2 : Int32))) (h3 : ¬ (n = (3 : Int32))) (h4 : ¬ (n = (4 : Int32))) (h5 : ¬ (n = (5 : Int32))) (h6 : ¬ (n = (6 : Int32))) : n = (7 : Int32) := by
  simp only [← Int32.toInt_inj] at *
  have e0 : (0 : Int32).toInt = 0 := by decide
  have e1 : (1 : Int32).toInt = 1 := by decide
  have e2 : (2 : Int32).toInt = 2 := by decide
  have e3 : (3 : Int32).toInt = 3 := by decide
  have e4 : (4 : Int32).toInt = 4 := by decide
  have e5 : (5 : Int32).toInt = 5 := by decide
  have e6 : (6 : Int32).toInt = 6 := by decide
  have e7 : (7 : Int32).toInt = 7 := by decide
  omega
theorem own_lcT {xs : List Int32} {m i : Nat} (h : i + 4 ≤ m) : own_lc (xs.take m) i ↔ own_lc xs i := by
  have g : ∀ j, j < m → (xs.take m).getD j 0 = xs.getD j 0 := fun j hj => by
    rw [List.getD_eq_getElem?_getD, List.getD_eq_getElem?_getD, List.getElem?_take_of_lt hj]
  unfold own_lc
  rw [g i (by omega), g (i + 1) (by omega), g (i + 2) (by omega), g (i + 3) (by omega)]
/-- a length n of at most 7 of nine chars -/
theorem own_labT {xs : List Int32} {n k : Int32} (hx : xs.length = 9) (hn : 0 ≤ n.toInt ∧ n.toInt ≤ 7) : own_lab (xs.take n.toNatClampNeg) k ↔ ¬ (k < (0 : Int32)) ∧ ¬ (n - (4 : Int32) < k) ∧ own_lc xs k.toNatClampNeg := by
  have e : (0 : Int32).toInt = 0 := by decide
  have e4 : (4 : Int32).toInt = 4 := by decide
  have a := c_isub n 4
  have r := rng32 (n - 4)
  have hc : n.toNatClampNeg = n.toInt.toNat := rfl
  have hk : k.toNatClampNeg = k.toInt.toNat := rfl
  rw [Int32.lt_iff_toInt_lt, Int32.lt_iff_toInt_lt, e]
  unfold own_lab
  rw [List.length_take, hx, hc, hk]
  constructor
  · rintro ⟨q1, q2, q3⟩
    exact ⟨by omega, by omega, (own_lcT (by omega)).mp q3⟩
  · rintro ⟨q1, q2, q3⟩
    exact ⟨by omega, by omega, (own_lcT (by omega)).mpr q3⟩
theorem own_in3 {n k : Int32} (hn : 0 ≤ n.toInt ∧ n.toInt ≤ 7) (h0 : ¬ (k < (0 : Int32))) (h1 : ¬ (n - (4 : Int32) < k)) : k = (0 : Int32) ∨ k = (1 : Int32) ∨ k = (2 : Int32) ∨ k = (3 : Int32) := by
  rw [Int32.lt_iff_toInt_lt] at h0 h1
  have e : (4 : Int32).toInt = 4 := by decide
  have a := c_isub n 4
  have r := rng32 (n - 4)
  have e0 : (0 : Int32).toInt = 0 := by decide
  have e1 : (1 : Int32).toInt = 1 := by decide
  have e2 : (2 : Int32).toInt = 2 := by decide
  have e3 : (3 : Int32).toInt = 3 := by decide
  simp only [← Int32.toInt_inj]; omega
theorem own_top {k : Int32} (h : ¬ ((2147483643 : Int32) < k)) : k.toInt ≤ 2147483643 := by
  rw [Int32.lt_iff_toInt_lt] at h
  have e : (2147483643 : Int32).toInt = 2147483643 := by decide
  omega

theorem d1_0 : decode method_2_code 0 = .ok (.lload_n 0, 1) := by decide +kernel
theorem d1_1 : decode method_2_code 1 = .ok (.ldc2_w 7, 3) := by decide +kernel
theorem d1_4 : decode method_2_code 4 = .ok (.land, 1) := by decide +kernel
theorem d1_5 : decode method_2_code 5 = .ok (.l2i, 1) := by decide +kernel
theorem d1_6 : decode method_2_code 6 = .ok (.istore_n 2, 1) := by decide +kernel
theorem d1_7 : decode method_2_code 7 = .ok (.iload_n 2, 1) := by decide +kernel
theorem d1_8 : decode method_2_code 8 = .ok (.ifCond .ne 6, 3) := by decide +kernel
theorem d1_11 : decode method_2_code 11 = .ok (.bipush 97, 2) := by decide +kernel
theorem d1_13 : decode method_2_code 13 = .ok (.ireturn, 1) := by decide +kernel
theorem d1_14 : decode method_2_code 14 = .ok (.iload_n 2, 1) := by decide +kernel
theorem d1_15 : decode method_2_code 15 = .ok (.iconst 1, 1) := by decide +kernel
theorem d1_16 : decode method_2_code 16 = .ok (.if_icmp .ne 6, 3) := by decide +kernel
theorem d1_19 : decode method_2_code 19 = .ok (.bipush 65, 2) := by decide +kernel
theorem d1_21 : decode method_2_code 21 = .ok (.ireturn, 1) := by decide +kernel
theorem d1_22 : decode method_2_code 22 = .ok (.iload_n 2, 1) := by decide +kernel
theorem d1_23 : decode method_2_code 23 = .ok (.iconst 2, 1) := by decide +kernel
theorem d1_24 : decode method_2_code 24 = .ok (.if_icmp .ne 6, 3) := by decide +kernel
theorem d1_27 : decode method_2_code 27 = .ok (.bipush 114, 2) := by decide +kernel
theorem d1_29 : decode method_2_code 29 = .ok (.ireturn, 1) := by decide +kernel
theorem d1_30 : decode method_2_code 30 = .ok (.iload_n 2, 1) := by decide +kernel
theorem d1_31 : decode method_2_code 31 = .ok (.iconst 3, 1) := by decide +kernel
theorem d1_32 : decode method_2_code 32 = .ok (.if_icmp .ne 6, 3) := by decide +kernel
theorem d1_35 : decode method_2_code 35 = .ok (.bipush 82, 2) := by decide +kernel
theorem d1_37 : decode method_2_code 37 = .ok (.ireturn, 1) := by decide +kernel
theorem d1_38 : decode method_2_code 38 = .ok (.iload_n 2, 1) := by decide +kernel
theorem d1_39 : decode method_2_code 39 = .ok (.iconst 4, 1) := by decide +kernel
theorem d1_40 : decode method_2_code 40 = .ok (.if_icmp .ne 6, 3) := by decide +kernel
theorem d1_43 : decode method_2_code 43 = .ok (.bipush 107, 2) := by decide +kernel
theorem d1_45 : decode method_2_code 45 = .ok (.ireturn, 1) := by decide +kernel
theorem d1_46 : decode method_2_code 46 = .ok (.iload_n 2, 1) := by decide +kernel
theorem d1_47 : decode method_2_code 47 = .ok (.iconst 5, 1) := by decide +kernel
theorem d1_48 : decode method_2_code 48 = .ok (.if_icmp .ne 6, 3) := by decide +kernel
theorem d1_51 : decode method_2_code 51 = .ok (.bipush 75, 2) := by decide +kernel
theorem d1_53 : decode method_2_code 53 = .ok (.ireturn, 1) := by decide +kernel
theorem d1_54 : decode method_2_code 54 = .ok (.iload_n 2, 1) := by decide +kernel
theorem d1_55 : decode method_2_code 55 = .ok (.bipush 6, 2) := by decide +kernel
theorem d1_57 : decode method_2_code 57 = .ok (.if_icmp .ne 6, 3) := by decide +kernel
theorem d1_60 : decode method_2_code 60 = .ok (.bipush 58, 2) := by decide +kernel
theorem d1_62 : decode method_2_code 62 = .ok (.ireturn, 1) := by decide +kernel
theorem d1_63 : decode method_2_code 63 = .ok (.iload_n 2, 1) := by decide +kernel
theorem d1_64 : decode method_2_code 64 = .ok (.bipush 7, 2) := by decide +kernel
theorem d1_66 : decode method_2_code 66 = .ok (.if_icmp .ne 7, 3) := by decide +kernel
theorem d1_69 : decode method_2_code 69 = .ok (.sipush 8490, 3) := by decide +kernel
theorem d1_72 : decode method_2_code 72 = .ok (.ireturn, 1) := by decide +kernel
theorem d1_73 : decode method_2_code 73 = .ok (.lload_n 0, 1) := by decide +kernel
theorem d1_74 : decode method_2_code 74 = .ok (.iconst 4, 1) := by decide +kernel
theorem d1_75 : decode method_2_code 75 = .ok (.lushr, 1) := by decide +kernel
theorem d1_76 : decode method_2_code 76 = .ok (.ldc2_w 9, 3) := by decide +kernel
theorem d1_79 : decode method_2_code 79 = .ok (.land, 1) := by decide +kernel
theorem d1_80 : decode method_2_code 80 = .ok (.l2i, 1) := by decide +kernel
theorem d1_81 : decode method_2_code 81 = .ok (.i2c, 1) := by decide +kernel
theorem d1_82 : decode method_2_code 82 = .ok (.ireturn, 1) := by decide +kernel
theorem d2_0 : decode method_3_code 0 = .ok (.iload_n 1, 1) := by decide +kernel
theorem d2_1 : decode method_3_code 1 = .ok (.ifCond .ne 14, 3) := by decide +kernel
theorem d2_4 : decode method_3_code 4 = .ok (.new 11, 3) := by decide +kernel
theorem d2_7 : decode method_3_code 7 = .ok (.dup, 1) := by decide +kernel
theorem d2_8 : decode method_3_code 8 = .ok (.iconst 0, 1) := by decide +kernel
theorem d2_9 : decode method_3_code 9 = .ok (.newarray .char, 2) := by decide +kernel
theorem d2_11 : decode method_3_code 11 = .ok (.invokespecial 13, 3) := by decide +kernel
theorem d2_14 : decode method_3_code 14 = .ok (.areturn, 1) := by decide +kernel
theorem d2_15 : decode method_3_code 15 = .ok (.iload_n 1, 1) := by decide +kernel
theorem d2_16 : decode method_3_code 16 = .ok (.iconst 1, 1) := by decide +kernel
theorem d2_17 : decode method_3_code 17 = .ok (.if_icmp .ne 20, 3) := by decide +kernel
theorem d2_20 : decode method_3_code 20 = .ok (.new 11, 3) := by decide +kernel
theorem d2_23 : decode method_3_code 23 = .ok (.dup, 1) := by decide +kernel
theorem d2_24 : decode method_3_code 24 = .ok (.iconst 1, 1) := by decide +kernel
theorem d2_25 : decode method_3_code 25 = .ok (.newarray .char, 2) := by decide +kernel
theorem d2_27 : decode method_3_code 27 = .ok (.dup, 1) := by decide +kernel
theorem d2_28 : decode method_3_code 28 = .ok (.iconst 0, 1) := by decide +kernel
theorem d2_29 : decode method_3_code 29 = .ok (.aload_n 0, 1) := by decide +kernel
theorem d2_30 : decode method_3_code 30 = .ok (.iconst 0, 1) := by decide +kernel
theorem d2_31 : decode method_3_code 31 = .ok (.caload, 1) := by decide +kernel
theorem d2_32 : decode method_3_code 32 = .ok (.castore, 1) := by decide +kernel
theorem d2_33 : decode method_3_code 33 = .ok (.invokespecial 13, 3) := by decide +kernel
theorem d2_36 : decode method_3_code 36 = .ok (.areturn, 1) := by decide +kernel
theorem d2_37 : decode method_3_code 37 = .ok (.iload_n 1, 1) := by decide +kernel
theorem d2_38 : decode method_3_code 38 = .ok (.iconst 2, 1) := by decide +kernel
theorem d2_39 : decode method_3_code 39 = .ok (.if_icmp .ne 26, 3) := by decide +kernel
theorem d2_42 : decode method_3_code 42 = .ok (.new 11, 3) := by decide +kernel
theorem d2_45 : decode method_3_code 45 = .ok (.dup, 1) := by decide +kernel
theorem d2_46 : decode method_3_code 46 = .ok (.iconst 2, 1) := by decide +kernel
theorem d2_47 : decode method_3_code 47 = .ok (.newarray .char, 2) := by decide +kernel
theorem d2_49 : decode method_3_code 49 = .ok (.dup, 1) := by decide +kernel
theorem d2_50 : decode method_3_code 50 = .ok (.iconst 0, 1) := by decide +kernel
theorem d2_51 : decode method_3_code 51 = .ok (.aload_n 0, 1) := by decide +kernel
theorem d2_52 : decode method_3_code 52 = .ok (.iconst 0, 1) := by decide +kernel
theorem d2_53 : decode method_3_code 53 = .ok (.caload, 1) := by decide +kernel
theorem d2_54 : decode method_3_code 54 = .ok (.castore, 1) := by decide +kernel
theorem d2_55 : decode method_3_code 55 = .ok (.dup, 1) := by decide +kernel
theorem d2_56 : decode method_3_code 56 = .ok (.iconst 1, 1) := by decide +kernel
theorem d2_57 : decode method_3_code 57 = .ok (.aload_n 0, 1) := by decide +kernel
theorem d2_58 : decode method_3_code 58 = .ok (.iconst 1, 1) := by decide +kernel
theorem d2_59 : decode method_3_code 59 = .ok (.caload, 1) := by decide +kernel
theorem d2_60 : decode method_3_code 60 = .ok (.castore, 1) := by decide +kernel
theorem d2_61 : decode method_3_code 61 = .ok (.invokespecial 13, 3) := by decide +kernel
theorem d2_64 : decode method_3_code 64 = .ok (.areturn, 1) := by decide +kernel
theorem d2_65 : decode method_3_code 65 = .ok (.iload_n 1, 1) := by decide +kernel
theorem d2_66 : decode method_3_code 66 = .ok (.iconst 3, 1) := by decide +kernel
theorem d2_67 : decode method_3_code 67 = .ok (.if_icmp .ne 32, 3) := by decide +kernel
theorem d2_70 : decode method_3_code 70 = .ok (.new 11, 3) := by decide +kernel
theorem d2_73 : decode method_3_code 73 = .ok (.dup, 1) := by decide +kernel
theorem d2_74 : decode method_3_code 74 = .ok (.iconst 3, 1) := by decide +kernel
theorem d2_75 : decode method_3_code 75 = .ok (.newarray .char, 2) := by decide +kernel
theorem d2_77 : decode method_3_code 77 = .ok (.dup, 1) := by decide +kernel
theorem d2_78 : decode method_3_code 78 = .ok (.iconst 0, 1) := by decide +kernel
theorem d2_79 : decode method_3_code 79 = .ok (.aload_n 0, 1) := by decide +kernel
theorem d2_80 : decode method_3_code 80 = .ok (.iconst 0, 1) := by decide +kernel
theorem d2_81 : decode method_3_code 81 = .ok (.caload, 1) := by decide +kernel
theorem d2_82 : decode method_3_code 82 = .ok (.castore, 1) := by decide +kernel
theorem d2_83 : decode method_3_code 83 = .ok (.dup, 1) := by decide +kernel
theorem d2_84 : decode method_3_code 84 = .ok (.iconst 1, 1) := by decide +kernel
theorem d2_85 : decode method_3_code 85 = .ok (.aload_n 0, 1) := by decide +kernel
theorem d2_86 : decode method_3_code 86 = .ok (.iconst 1, 1) := by decide +kernel
theorem d2_87 : decode method_3_code 87 = .ok (.caload, 1) := by decide +kernel
theorem d2_88 : decode method_3_code 88 = .ok (.castore, 1) := by decide +kernel
theorem d2_89 : decode method_3_code 89 = .ok (.dup, 1) := by decide +kernel
theorem d2_90 : decode method_3_code 90 = .ok (.iconst 2, 1) := by decide +kernel
theorem d2_91 : decode method_3_code 91 = .ok (.aload_n 0, 1) := by decide +kernel
theorem d2_92 : decode method_3_code 92 = .ok (.iconst 2, 1) := by decide +kernel
theorem d2_93 : decode method_3_code 93 = .ok (.caload, 1) := by decide +kernel
theorem d2_94 : decode method_3_code 94 = .ok (.castore, 1) := by decide +kernel
theorem d2_95 : decode method_3_code 95 = .ok (.invokespecial 13, 3) := by decide +kernel
theorem d2_98 : decode method_3_code 98 = .ok (.areturn, 1) := by decide +kernel
theorem d2_99 : decode method_3_code 99 = .ok (.iload_n 1, 1) := by decide +kernel
theorem d2_100 : decode method_3_code 100 = .ok (.iconst 4, 1) := by decide +kernel
theorem d2_101 : decode method_3_code 101 = .ok (.if_icmp .ne 38, 3) := by decide +kernel
theorem d2_104 : decode method_3_code 104 = .ok (.new 11, 3) := by decide +kernel
theorem d2_107 : decode method_3_code 107 = .ok (.dup, 1) := by decide +kernel
theorem d2_108 : decode method_3_code 108 = .ok (.iconst 4, 1) := by decide +kernel
theorem d2_109 : decode method_3_code 109 = .ok (.newarray .char, 2) := by decide +kernel
theorem d2_111 : decode method_3_code 111 = .ok (.dup, 1) := by decide +kernel
theorem d2_112 : decode method_3_code 112 = .ok (.iconst 0, 1) := by decide +kernel
theorem d2_113 : decode method_3_code 113 = .ok (.aload_n 0, 1) := by decide +kernel
theorem d2_114 : decode method_3_code 114 = .ok (.iconst 0, 1) := by decide +kernel
theorem d2_115 : decode method_3_code 115 = .ok (.caload, 1) := by decide +kernel
theorem d2_116 : decode method_3_code 116 = .ok (.castore, 1) := by decide +kernel
theorem d2_117 : decode method_3_code 117 = .ok (.dup, 1) := by decide +kernel
theorem d2_118 : decode method_3_code 118 = .ok (.iconst 1, 1) := by decide +kernel
theorem d2_119 : decode method_3_code 119 = .ok (.aload_n 0, 1) := by decide +kernel
theorem d2_120 : decode method_3_code 120 = .ok (.iconst 1, 1) := by decide +kernel
theorem d2_121 : decode method_3_code 121 = .ok (.caload, 1) := by decide +kernel
theorem d2_122 : decode method_3_code 122 = .ok (.castore, 1) := by decide +kernel
theorem d2_123 : decode method_3_code 123 = .ok (.dup, 1) := by decide +kernel
theorem d2_124 : decode method_3_code 124 = .ok (.iconst 2, 1) := by decide +kernel
theorem d2_125 : decode method_3_code 125 = .ok (.aload_n 0, 1) := by decide +kernel
theorem d2_126 : decode method_3_code 126 = .ok (.iconst 2, 1) := by decide +kernel
theorem d2_127 : decode method_3_code 127 = .ok (.caload, 1) := by decide +kernel
theorem d2_128 : decode method_3_code 128 = .ok (.castore, 1) := by decide +kernel
theorem d2_129 : decode method_3_code 129 = .ok (.dup, 1) := by decide +kernel
theorem d2_130 : decode method_3_code 130 = .ok (.iconst 3, 1) := by decide +kernel
theorem d2_131 : decode method_3_code 131 = .ok (.aload_n 0, 1) := by decide +kernel
theorem d2_132 : decode method_3_code 132 = .ok (.iconst 3, 1) := by decide +kernel
theorem d2_133 : decode method_3_code 133 = .ok (.caload, 1) := by decide +kernel
theorem d2_134 : decode method_3_code 134 = .ok (.castore, 1) := by decide +kernel
theorem d2_135 : decode method_3_code 135 = .ok (.invokespecial 13, 3) := by decide +kernel
theorem d2_138 : decode method_3_code 138 = .ok (.areturn, 1) := by decide +kernel
theorem d2_139 : decode method_3_code 139 = .ok (.iload_n 1, 1) := by decide +kernel
theorem d2_140 : decode method_3_code 140 = .ok (.iconst 5, 1) := by decide +kernel
theorem d2_141 : decode method_3_code 141 = .ok (.if_icmp .ne 44, 3) := by decide +kernel
theorem d2_144 : decode method_3_code 144 = .ok (.new 11, 3) := by decide +kernel
theorem d2_147 : decode method_3_code 147 = .ok (.dup, 1) := by decide +kernel
theorem d2_148 : decode method_3_code 148 = .ok (.iconst 5, 1) := by decide +kernel
theorem d2_149 : decode method_3_code 149 = .ok (.newarray .char, 2) := by decide +kernel
theorem d2_151 : decode method_3_code 151 = .ok (.dup, 1) := by decide +kernel
theorem d2_152 : decode method_3_code 152 = .ok (.iconst 0, 1) := by decide +kernel
theorem d2_153 : decode method_3_code 153 = .ok (.aload_n 0, 1) := by decide +kernel
theorem d2_154 : decode method_3_code 154 = .ok (.iconst 0, 1) := by decide +kernel
theorem d2_155 : decode method_3_code 155 = .ok (.caload, 1) := by decide +kernel
theorem d2_156 : decode method_3_code 156 = .ok (.castore, 1) := by decide +kernel
theorem d2_157 : decode method_3_code 157 = .ok (.dup, 1) := by decide +kernel
theorem d2_158 : decode method_3_code 158 = .ok (.iconst 1, 1) := by decide +kernel
theorem d2_159 : decode method_3_code 159 = .ok (.aload_n 0, 1) := by decide +kernel
theorem d2_160 : decode method_3_code 160 = .ok (.iconst 1, 1) := by decide +kernel
theorem d2_161 : decode method_3_code 161 = .ok (.caload, 1) := by decide +kernel
theorem d2_162 : decode method_3_code 162 = .ok (.castore, 1) := by decide +kernel
theorem d2_163 : decode method_3_code 163 = .ok (.dup, 1) := by decide +kernel
theorem d2_164 : decode method_3_code 164 = .ok (.iconst 2, 1) := by decide +kernel
theorem d2_165 : decode method_3_code 165 = .ok (.aload_n 0, 1) := by decide +kernel
theorem d2_166 : decode method_3_code 166 = .ok (.iconst 2, 1) := by decide +kernel
theorem d2_167 : decode method_3_code 167 = .ok (.caload, 1) := by decide +kernel
theorem d2_168 : decode method_3_code 168 = .ok (.castore, 1) := by decide +kernel
theorem d2_169 : decode method_3_code 169 = .ok (.dup, 1) := by decide +kernel
theorem d2_170 : decode method_3_code 170 = .ok (.iconst 3, 1) := by decide +kernel
theorem d2_171 : decode method_3_code 171 = .ok (.aload_n 0, 1) := by decide +kernel
theorem d2_172 : decode method_3_code 172 = .ok (.iconst 3, 1) := by decide +kernel
theorem d2_173 : decode method_3_code 173 = .ok (.caload, 1) := by decide +kernel
theorem d2_174 : decode method_3_code 174 = .ok (.castore, 1) := by decide +kernel
theorem d2_175 : decode method_3_code 175 = .ok (.dup, 1) := by decide +kernel
theorem d2_176 : decode method_3_code 176 = .ok (.iconst 4, 1) := by decide +kernel
theorem d2_177 : decode method_3_code 177 = .ok (.aload_n 0, 1) := by decide +kernel
theorem d2_178 : decode method_3_code 178 = .ok (.iconst 4, 1) := by decide +kernel
theorem d2_179 : decode method_3_code 179 = .ok (.caload, 1) := by decide +kernel
theorem d2_180 : decode method_3_code 180 = .ok (.castore, 1) := by decide +kernel
theorem d2_181 : decode method_3_code 181 = .ok (.invokespecial 13, 3) := by decide +kernel
theorem d2_184 : decode method_3_code 184 = .ok (.areturn, 1) := by decide +kernel
theorem d2_185 : decode method_3_code 185 = .ok (.iload_n 1, 1) := by decide +kernel
theorem d2_186 : decode method_3_code 186 = .ok (.bipush 6, 2) := by decide +kernel
theorem d2_188 : decode method_3_code 188 = .ok (.if_icmp .ne 51, 3) := by decide +kernel
theorem d2_191 : decode method_3_code 191 = .ok (.new 11, 3) := by decide +kernel
theorem d2_194 : decode method_3_code 194 = .ok (.dup, 1) := by decide +kernel
theorem d2_195 : decode method_3_code 195 = .ok (.bipush 6, 2) := by decide +kernel
theorem d2_197 : decode method_3_code 197 = .ok (.newarray .char, 2) := by decide +kernel
theorem d2_199 : decode method_3_code 199 = .ok (.dup, 1) := by decide +kernel
theorem d2_200 : decode method_3_code 200 = .ok (.iconst 0, 1) := by decide +kernel
theorem d2_201 : decode method_3_code 201 = .ok (.aload_n 0, 1) := by decide +kernel
theorem d2_202 : decode method_3_code 202 = .ok (.iconst 0, 1) := by decide +kernel
theorem d2_203 : decode method_3_code 203 = .ok (.caload, 1) := by decide +kernel
theorem d2_204 : decode method_3_code 204 = .ok (.castore, 1) := by decide +kernel
theorem d2_205 : decode method_3_code 205 = .ok (.dup, 1) := by decide +kernel
theorem d2_206 : decode method_3_code 206 = .ok (.iconst 1, 1) := by decide +kernel
theorem d2_207 : decode method_3_code 207 = .ok (.aload_n 0, 1) := by decide +kernel
theorem d2_208 : decode method_3_code 208 = .ok (.iconst 1, 1) := by decide +kernel
theorem d2_209 : decode method_3_code 209 = .ok (.caload, 1) := by decide +kernel
theorem d2_210 : decode method_3_code 210 = .ok (.castore, 1) := by decide +kernel
theorem d2_211 : decode method_3_code 211 = .ok (.dup, 1) := by decide +kernel
theorem d2_212 : decode method_3_code 212 = .ok (.iconst 2, 1) := by decide +kernel
theorem d2_213 : decode method_3_code 213 = .ok (.aload_n 0, 1) := by decide +kernel
theorem d2_214 : decode method_3_code 214 = .ok (.iconst 2, 1) := by decide +kernel
theorem d2_215 : decode method_3_code 215 = .ok (.caload, 1) := by decide +kernel
theorem d2_216 : decode method_3_code 216 = .ok (.castore, 1) := by decide +kernel
theorem d2_217 : decode method_3_code 217 = .ok (.dup, 1) := by decide +kernel
theorem d2_218 : decode method_3_code 218 = .ok (.iconst 3, 1) := by decide +kernel
theorem d2_219 : decode method_3_code 219 = .ok (.aload_n 0, 1) := by decide +kernel
theorem d2_220 : decode method_3_code 220 = .ok (.iconst 3, 1) := by decide +kernel
theorem d2_221 : decode method_3_code 221 = .ok (.caload, 1) := by decide +kernel
theorem d2_222 : decode method_3_code 222 = .ok (.castore, 1) := by decide +kernel
theorem d2_223 : decode method_3_code 223 = .ok (.dup, 1) := by decide +kernel
theorem d2_224 : decode method_3_code 224 = .ok (.iconst 4, 1) := by decide +kernel
theorem d2_225 : decode method_3_code 225 = .ok (.aload_n 0, 1) := by decide +kernel
theorem d2_226 : decode method_3_code 226 = .ok (.iconst 4, 1) := by decide +kernel
theorem d2_227 : decode method_3_code 227 = .ok (.caload, 1) := by decide +kernel
theorem d2_228 : decode method_3_code 228 = .ok (.castore, 1) := by decide +kernel
theorem d2_229 : decode method_3_code 229 = .ok (.dup, 1) := by decide +kernel
theorem d2_230 : decode method_3_code 230 = .ok (.iconst 5, 1) := by decide +kernel
theorem d2_231 : decode method_3_code 231 = .ok (.aload_n 0, 1) := by decide +kernel
theorem d2_232 : decode method_3_code 232 = .ok (.iconst 5, 1) := by decide +kernel
theorem d2_233 : decode method_3_code 233 = .ok (.caload, 1) := by decide +kernel
theorem d2_234 : decode method_3_code 234 = .ok (.castore, 1) := by decide +kernel
theorem d2_235 : decode method_3_code 235 = .ok (.invokespecial 13, 3) := by decide +kernel
theorem d2_238 : decode method_3_code 238 = .ok (.areturn, 1) := by decide +kernel
theorem d2_239 : decode method_3_code 239 = .ok (.new 11, 3) := by decide +kernel
theorem d2_242 : decode method_3_code 242 = .ok (.dup, 1) := by decide +kernel
theorem d2_243 : decode method_3_code 243 = .ok (.bipush 7, 2) := by decide +kernel
theorem d2_245 : decode method_3_code 245 = .ok (.newarray .char, 2) := by decide +kernel
theorem d2_247 : decode method_3_code 247 = .ok (.dup, 1) := by decide +kernel
theorem d2_248 : decode method_3_code 248 = .ok (.iconst 0, 1) := by decide +kernel
theorem d2_249 : decode method_3_code 249 = .ok (.aload_n 0, 1) := by decide +kernel
theorem d2_250 : decode method_3_code 250 = .ok (.iconst 0, 1) := by decide +kernel
theorem d2_251 : decode method_3_code 251 = .ok (.caload, 1) := by decide +kernel
theorem d2_252 : decode method_3_code 252 = .ok (.castore, 1) := by decide +kernel
theorem d2_253 : decode method_3_code 253 = .ok (.dup, 1) := by decide +kernel
theorem d2_254 : decode method_3_code 254 = .ok (.iconst 1, 1) := by decide +kernel
theorem d2_255 : decode method_3_code 255 = .ok (.aload_n 0, 1) := by decide +kernel
theorem d2_256 : decode method_3_code 256 = .ok (.iconst 1, 1) := by decide +kernel
theorem d2_257 : decode method_3_code 257 = .ok (.caload, 1) := by decide +kernel
theorem d2_258 : decode method_3_code 258 = .ok (.castore, 1) := by decide +kernel
theorem d2_259 : decode method_3_code 259 = .ok (.dup, 1) := by decide +kernel
theorem d2_260 : decode method_3_code 260 = .ok (.iconst 2, 1) := by decide +kernel
theorem d2_261 : decode method_3_code 261 = .ok (.aload_n 0, 1) := by decide +kernel
theorem d2_262 : decode method_3_code 262 = .ok (.iconst 2, 1) := by decide +kernel
theorem d2_263 : decode method_3_code 263 = .ok (.caload, 1) := by decide +kernel
theorem d2_264 : decode method_3_code 264 = .ok (.castore, 1) := by decide +kernel
theorem d2_265 : decode method_3_code 265 = .ok (.dup, 1) := by decide +kernel
theorem d2_266 : decode method_3_code 266 = .ok (.iconst 3, 1) := by decide +kernel
theorem d2_267 : decode method_3_code 267 = .ok (.aload_n 0, 1) := by decide +kernel
theorem d2_268 : decode method_3_code 268 = .ok (.iconst 3, 1) := by decide +kernel
theorem d2_269 : decode method_3_code 269 = .ok (.caload, 1) := by decide +kernel
theorem d2_270 : decode method_3_code 270 = .ok (.castore, 1) := by decide +kernel
theorem d2_271 : decode method_3_code 271 = .ok (.dup, 1) := by decide +kernel
theorem d2_272 : decode method_3_code 272 = .ok (.iconst 4, 1) := by decide +kernel
theorem d2_273 : decode method_3_code 273 = .ok (.aload_n 0, 1) := by decide +kernel
theorem d2_274 : decode method_3_code 274 = .ok (.iconst 4, 1) := by decide +kernel
theorem d2_275 : decode method_3_code 275 = .ok (.caload, 1) := by decide +kernel
theorem d2_276 : decode method_3_code 276 = .ok (.castore, 1) := by decide +kernel
theorem d2_277 : decode method_3_code 277 = .ok (.dup, 1) := by decide +kernel
theorem d2_278 : decode method_3_code 278 = .ok (.iconst 5, 1) := by decide +kernel
theorem d2_279 : decode method_3_code 279 = .ok (.aload_n 0, 1) := by decide +kernel
theorem d2_280 : decode method_3_code 280 = .ok (.iconst 5, 1) := by decide +kernel
theorem d2_281 : decode method_3_code 281 = .ok (.caload, 1) := by decide +kernel
theorem d2_282 : decode method_3_code 282 = .ok (.castore, 1) := by decide +kernel
theorem d2_283 : decode method_3_code 283 = .ok (.dup, 1) := by decide +kernel
theorem d2_284 : decode method_3_code 284 = .ok (.bipush 6, 2) := by decide +kernel
theorem d2_286 : decode method_3_code 286 = .ok (.aload_n 0, 1) := by decide +kernel
theorem d2_287 : decode method_3_code 287 = .ok (.bipush 6, 2) := by decide +kernel
theorem d2_289 : decode method_3_code 289 = .ok (.caload, 1) := by decide +kernel
theorem d2_290 : decode method_3_code 290 = .ok (.castore, 1) := by decide +kernel
theorem d2_291 : decode method_3_code 291 = .ok (.invokespecial 13, 3) := by decide +kernel
theorem d2_294 : decode method_3_code 294 = .ok (.areturn, 1) := by decide +kernel
theorem d3_0 : decode jdk_42_method_3_code 0 = .ok (.aload_n 0, 1) := by decide +kernel
theorem d3_1 : decode jdk_42_method_3_code 1 = .ok (.aload_n 1, 1) := by decide +kernel
theorem d3_2 : decode jdk_42_method_3_code 2 = .ok (.iconst 0, 1) := by decide +kernel
theorem d3_3 : decode jdk_42_method_3_code 3 = .ok (.aload_n 1, 1) := by decide +kernel
theorem d3_4 : decode jdk_42_method_3_code 4 = .ok (.arraylength, 1) := by decide +kernel
theorem d3_5 : decode jdk_42_method_3_code 5 = .ok (.aconst_null, 1) := by decide +kernel
theorem d3_6 : decode jdk_42_method_3_code 6 = .ok (.invokespecial 27, 3) := by decide +kernel
theorem d3_9 : decode jdk_42_method_3_code 9 = .ok (.return_, 1) := by decide +kernel
theorem d4_0 : decode jdk_42_method_149_code 0 = .ok (.aload_n 0, 1) := by decide +kernel
theorem d4_1 : decode jdk_42_method_149_code 1 = .ok (.invokespecial 1, 3) := by decide +kernel
theorem d4_4 : decode jdk_42_method_149_code 4 = .ok (.iload_n 3, 1) := by decide +kernel
theorem d4_5 : decode jdk_42_method_149_code 5 = .ok (.ifCond .ne 22, 3) := by decide +kernel
theorem d4_8 : decode jdk_42_method_149_code 8 = .ok (.aload_n 0, 1) := by decide +kernel
theorem d4_9 : decode jdk_42_method_149_code 9 = .ok (.ldc 7, 2) := by decide +kernel
theorem d4_11 : decode jdk_42_method_149_code 11 = .ok (.getfield 9, 3) := by decide +kernel
theorem d4_14 : decode jdk_42_method_149_code 14 = .ok (.putfield 9, 3) := by decide +kernel
theorem d4_17 : decode jdk_42_method_149_code 17 = .ok (.aload_n 0, 1) := by decide +kernel
theorem d4_18 : decode jdk_42_method_149_code 18 = .ok (.ldc 7, 2) := by decide +kernel
theorem d4_20 : decode jdk_42_method_149_code 20 = .ok (.getfield 15, 3) := by decide +kernel
theorem d4_23 : decode jdk_42_method_149_code 23 = .ok (.putfield 15, 3) := by decide +kernel
theorem d4_26 : decode jdk_42_method_149_code 26 = .ok (.return_, 1) := by decide +kernel
theorem d4_27 : decode jdk_42_method_149_code 27 = .ok (.getstatic 38, 3) := by decide +kernel
theorem d4_30 : decode jdk_42_method_149_code 30 = .ok (.ifCond .eq 28, 3) := by decide +kernel
theorem d4_33 : decode jdk_42_method_149_code 33 = .ok (.aload_n 1, 1) := by decide +kernel
theorem d4_34 : decode jdk_42_method_149_code 34 = .ok (.iload_n 2, 1) := by decide +kernel
theorem d4_35 : decode jdk_42_method_149_code 35 = .ok (.iload_n 3, 1) := by decide +kernel
theorem d4_36 : decode jdk_42_method_149_code 36 = .ok (.invokestatic 177, 3) := by decide +kernel
theorem d4_39 : decode jdk_42_method_149_code 39 = .ok (.astore 5, 2) := by decide +kernel
theorem d4_41 : decode jdk_42_method_149_code 41 = .ok (.aload_n 0, 1) := by decide +kernel
theorem d4_42 : decode jdk_42_method_149_code 42 = .ok (.aload 5, 2) := by decide +kernel
theorem d4_44 : decode jdk_42_method_149_code 44 = .ok (.iload_n 3, 1) := by decide +kernel
theorem d4_45 : decode jdk_42_method_149_code 45 = .ok (.invokestatic 47, 3) := by decide +kernel
theorem d4_48 : decode jdk_42_method_149_code 48 = .ok (.putfield 15, 3) := by decide +kernel
theorem d4_51 : decode jdk_42_method_149_code 51 = .ok (.aload_n 0, 1) := by decide +kernel
theorem d4_52 : decode jdk_42_method_149_code 52 = .ok (.aload 5, 2) := by decide +kernel
theorem d4_54 : decode jdk_42_method_149_code 54 = .ok (.putfield 9, 3) := by decide +kernel
theorem d4_57 : decode jdk_42_method_149_code 57 = .ok (.return_, 1) := by decide +kernel
theorem d6_0 : decode prog_1_method_3_code 0 = .ok (.iload_n 1, 1) := by decide +kernel
theorem d6_1 : decode prog_1_method_3_code 1 = .ok (.ifCond .lt 17, 3) := by decide +kernel
theorem d6_4 : decode prog_1_method_3_code 4 = .ok (.iload_n 1, 1) := by decide +kernel
theorem d6_5 : decode prog_1_method_3_code 5 = .ok (.ldc 45, 2) := by decide +kernel
theorem d6_7 : decode prog_1_method_3_code 7 = .ok (.invokevirtual 47, 3) := by decide +kernel
theorem d6_10 : decode prog_1_method_3_code 10 = .ok (.iadd, 1) := by decide +kernel
theorem d6_11 : decode prog_1_method_3_code 11 = .ok (.aload_n 0, 1) := by decide +kernel
theorem d6_12 : decode prog_1_method_3_code 12 = .ok (.invokevirtual 47, 3) := by decide +kernel
theorem d6_15 : decode prog_1_method_3_code 15 = .ok (.if_icmp .le 5, 3) := by decide +kernel
theorem d6_18 : decode prog_1_method_3_code 18 = .ok (.iconst 0, 1) := by decide +kernel
theorem d6_19 : decode prog_1_method_3_code 19 = .ok (.ireturn, 1) := by decide +kernel
theorem d6_20 : decode prog_1_method_3_code 20 = .ok (.iconst 0, 1) := by decide +kernel
theorem d6_21 : decode prog_1_method_3_code 21 = .ok (.istore_n 2, 1) := by decide +kernel
theorem d6_22 : decode prog_1_method_3_code 22 = .ok (.iload_n 2, 1) := by decide +kernel
theorem d6_23 : decode prog_1_method_3_code 23 = .ok (.ldc 45, 2) := by decide +kernel
theorem d6_25 : decode prog_1_method_3_code 25 = .ok (.invokevirtual 47, 3) := by decide +kernel
theorem d6_28 : decode prog_1_method_3_code 28 = .ok (.if_icmp .ge 30, 3) := by decide +kernel
theorem d6_31 : decode prog_1_method_3_code 31 = .ok (.aload_n 0, 1) := by decide +kernel
theorem d6_32 : decode prog_1_method_3_code 32 = .ok (.iload_n 1, 1) := by decide +kernel
theorem d6_33 : decode prog_1_method_3_code 33 = .ok (.iload_n 2, 1) := by decide +kernel
theorem d6_34 : decode prog_1_method_3_code 34 = .ok (.iadd, 1) := by decide +kernel
theorem d6_35 : decode prog_1_method_3_code 35 = .ok (.invokevirtual 66, 3) := by decide +kernel
theorem d6_38 : decode prog_1_method_3_code 38 = .ok (.invokestatic 70, 3) := by decide +kernel
theorem d6_41 : decode prog_1_method_3_code 41 = .ok (.ldc 45, 2) := by decide +kernel
theorem d6_43 : decode prog_1_method_3_code 43 = .ok (.iload_n 2, 1) := by decide +kernel
theorem d6_44 : decode prog_1_method_3_code 44 = .ok (.invokevirtual 66, 3) := by decide +kernel
theorem d6_47 : decode prog_1_method_3_code 47 = .ok (.if_icmp .eq 5, 3) := by decide +kernel
theorem d6_50 : decode prog_1_method_3_code 50 = .ok (.iconst 0, 1) := by decide +kernel
theorem d6_51 : decode prog_1_method_3_code 51 = .ok (.ireturn, 1) := by decide +kernel
theorem d6_52 : decode prog_1_method_3_code 52 = .ok (.iinc 2 1, 3) := by decide +kernel
theorem d6_55 : decode prog_1_method_3_code 55 = .ok (.goto (-33), 3) := by decide +kernel
theorem d6_58 : decode prog_1_method_3_code 58 = .ok (.iconst 1, 1) := by decide +kernel
theorem d6_59 : decode prog_1_method_3_code 59 = .ok (.ireturn, 1) := by decide +kernel
theorem d7_0 : decode jdk_52_method_16_code 0 = .ok (.iload_n 2, 1) := by decide +kernel
theorem d7_1 : decode jdk_52_method_16_code 1 = .ok (.newarray .byte, 2) := by decide +kernel
theorem d7_3 : decode jdk_52_method_16_code 3 = .ok (.astore_n 3, 1) := by decide +kernel
theorem d7_4 : decode jdk_52_method_16_code 4 = .ok (.aload_n 0, 1) := by decide +kernel
theorem d7_5 : decode jdk_52_method_16_code 5 = .ok (.iload_n 1, 1) := by decide +kernel
theorem d7_6 : decode jdk_52_method_16_code 6 = .ok (.aload_n 3, 1) := by decide +kernel
theorem d7_7 : decode jdk_52_method_16_code 7 = .ok (.iconst 0, 1) := by decide +kernel
theorem d7_8 : decode jdk_52_method_16_code 8 = .ok (.iload_n 2, 1) := by decide +kernel
theorem d7_9 : decode jdk_52_method_16_code 9 = .ok (.invokestatic 115, 3) := by decide +kernel
theorem d7_12 : decode jdk_52_method_16_code 12 = .ok (.istore 4, 2) := by decide +kernel
theorem d7_14 : decode jdk_52_method_16_code 14 = .ok (.iload 4, 2) := by decide +kernel
theorem d7_16 : decode jdk_52_method_16_code 16 = .ok (.iload_n 2, 1) := by decide +kernel
theorem d7_17 : decode jdk_52_method_16_code 17 = .ok (.if_icmp .eq 40, 3) := by decide +kernel
theorem d7_20 : decode jdk_52_method_16_code 20 = .ok (.aload_n 0, 1) := by decide +kernel
theorem d7_21 : decode jdk_52_method_16_code 21 = .ok (.iload_n 1, 1) := by decide +kernel
theorem d7_22 : decode jdk_52_method_16_code 22 = .ok (.iload_n 2, 1) := by decide +kernel
theorem d7_23 : decode jdk_52_method_16_code 23 = .ok (.invokestatic 119, 3) := by decide +kernel
theorem d7_26 : decode jdk_52_method_16_code 26 = .ok (.astore 5, 2) := by decide +kernel
theorem d7_28 : decode jdk_52_method_16_code 28 = .ok (.aload 5, 2) := by decide +kernel
theorem d7_30 : decode jdk_52_method_16_code 30 = .ok (.iload 4, 2) := by decide +kernel
theorem d7_32 : decode jdk_52_method_16_code 32 = .ok (.invokestatic 71, 3) := by decide +kernel
theorem d7_35 : decode jdk_52_method_16_code 35 = .ok (.sipush 255, 3) := by decide +kernel
theorem d7_38 : decode jdk_52_method_16_code 38 = .ok (.if_icmp .gt 16, 3) := by decide +kernel
theorem d7_54 : decode jdk_52_method_16_code 54 = .ok (.aload 5, 2) := by decide +kernel
theorem d7_56 : decode jdk_52_method_16_code 56 = .ok (.areturn, 1) := by decide +kernel
theorem d7_57 : decode jdk_52_method_16_code 57 = .ok (.aload_n 3, 1) := by decide +kernel
theorem d7_58 : decode jdk_52_method_16_code 58 = .ok (.areturn, 1) := by decide +kernel
theorem d8_0 : decode jdk_52_method_21_code 0 = .ok (.iconst 0, 1) := by decide +kernel
theorem d8_1 : decode jdk_52_method_21_code 1 = .ok (.istore 5, 2) := by decide +kernel
theorem d8_3 : decode jdk_52_method_21_code 3 = .ok (.iload 5, 2) := by decide +kernel
theorem d8_5 : decode jdk_52_method_21_code 5 = .ok (.iload 4, 2) := by decide +kernel
theorem d8_7 : decode jdk_52_method_21_code 7 = .ok (.if_icmp .ge 37, 3) := by decide +kernel
theorem d8_10 : decode jdk_52_method_21_code 10 = .ok (.aload_n 0, 1) := by decide +kernel
theorem d8_11 : decode jdk_52_method_21_code 11 = .ok (.iload_n 1, 1) := by decide +kernel
theorem d8_12 : decode jdk_52_method_21_code 12 = .ok (.caload, 1) := by decide +kernel
theorem d8_13 : decode jdk_52_method_21_code 13 = .ok (.istore 6, 2) := by decide +kernel
theorem d8_15 : decode jdk_52_method_21_code 15 = .ok (.iload 6, 2) := by decide +kernel
theorem d8_17 : decode jdk_52_method_21_code 17 = .ok (.sipush 255, 3) := by decide +kernel
theorem d8_20 : decode jdk_52_method_21_code 20 = .ok (.if_icmp .le 6, 3) := by decide +kernel
theorem d8_23 : decode jdk_52_method_21_code 23 = .ok (.iload 5, 2) := by decide +kernel
theorem d8_25 : decode jdk_52_method_21_code 25 = .ok (.ireturn, 1) := by decide +kernel
theorem d8_26 : decode jdk_52_method_21_code 26 = .ok (.aload_n 2, 1) := by decide +kernel
theorem d8_27 : decode jdk_52_method_21_code 27 = .ok (.iload_n 3, 1) := by decide +kernel
theorem d8_28 : decode jdk_52_method_21_code 28 = .ok (.iload 6, 2) := by decide +kernel
theorem d8_30 : decode jdk_52_method_21_code 30 = .ok (.i2b, 1) := by decide +kernel
theorem d8_31 : decode jdk_52_method_21_code 31 = .ok (.bastore, 1) := by decide +kernel
theorem d8_32 : decode jdk_52_method_21_code 32 = .ok (.iinc 1 1, 3) := by decide +kernel
theorem d8_35 : decode jdk_52_method_21_code 35 = .ok (.iinc 3 1, 3) := by decide +kernel
theorem d8_38 : decode jdk_52_method_21_code 38 = .ok (.iinc 5 1, 3) := by decide +kernel
theorem d8_41 : decode jdk_52_method_21_code 41 = .ok (.goto (-38), 3) := by decide +kernel
theorem d8_44 : decode jdk_52_method_21_code 44 = .ok (.iload 4, 2) := by decide +kernel
theorem d8_46 : decode jdk_52_method_21_code 46 = .ok (.ireturn, 1) := by decide +kernel
theorem d9_0 : decode jdk_52_method_14_code 0 = .ok (.iload_n 2, 1) := by decide +kernel
theorem d9_1 : decode jdk_52_method_14_code 1 = .ok (.invokestatic 107, 3) := by decide +kernel
theorem d9_4 : decode jdk_52_method_14_code 4 = .ok (.astore_n 3, 1) := by decide +kernel
theorem d9_5 : decode jdk_52_method_14_code 5 = .ok (.iconst 0, 1) := by decide +kernel
theorem d9_6 : decode jdk_52_method_14_code 6 = .ok (.istore 4, 2) := by decide +kernel
theorem d9_8 : decode jdk_52_method_14_code 8 = .ok (.iload 4, 2) := by decide +kernel
theorem d9_10 : decode jdk_52_method_14_code 10 = .ok (.iload_n 2, 1) := by decide +kernel
theorem d9_11 : decode jdk_52_method_14_code 11 = .ok (.if_icmp .ge 21, 3) := by decide +kernel
theorem d9_14 : decode jdk_52_method_14_code 14 = .ok (.aload_n 3, 1) := by decide +kernel
theorem d9_15 : decode jdk_52_method_14_code 15 = .ok (.iload 4, 2) := by decide +kernel
theorem d9_17 : decode jdk_52_method_14_code 17 = .ok (.aload_n 0, 1) := by decide +kernel
theorem d9_18 : decode jdk_52_method_14_code 18 = .ok (.iload_n 1, 1) := by decide +kernel
theorem d9_19 : decode jdk_52_method_14_code 19 = .ok (.caload, 1) := by decide +kernel
theorem d9_20 : decode jdk_52_method_14_code 20 = .ok (.invokestatic 111, 3) := by decide +kernel
theorem d9_23 : decode jdk_52_method_14_code 23 = .ok (.iinc 1 1, 3) := by decide +kernel
theorem d9_26 : decode jdk_52_method_14_code 26 = .ok (.iinc 4 1, 3) := by decide +kernel
theorem d9_29 : decode jdk_52_method_14_code 29 = .ok (.goto (-21), 3) := by decide +kernel
theorem d9_32 : decode jdk_52_method_14_code 32 = .ok (.aload_n 3, 1) := by decide +kernel
theorem d9_33 : decode jdk_52_method_14_code 33 = .ok (.areturn, 1) := by decide +kernel
theorem d10_0 : decode jdk_52_method_2_code 0 = .ok (.iload_n 0, 1) := by decide +kernel
theorem d10_1 : decode jdk_52_method_2_code 1 = .ok (.invokestatic 11, 3) := by decide +kernel
theorem d10_4 : decode jdk_52_method_2_code 4 = .ok (.newarray .byte, 2) := by decide +kernel
theorem d10_6 : decode jdk_52_method_2_code 6 = .ok (.areturn, 1) := by decide +kernel
theorem d11_0 : decode jdk_52_method_3_code 0 = .ok (.iload_n 0, 1) := by decide +kernel
theorem d11_1 : decode jdk_52_method_3_code 1 = .ok (.ifCond .ge 11, 3) := by decide +kernel
theorem d11_12 : decode jdk_52_method_3_code 12 = .ok (.iload_n 0, 1) := by decide +kernel
theorem d11_13 : decode jdk_52_method_3_code 13 = .ok (.ldc 20, 2) := by decide +kernel
theorem d11_15 : decode jdk_52_method_3_code 15 = .ok (.if_icmp .lt 40, 3) := by decide +kernel
theorem d11_55 : decode jdk_52_method_3_code 55 = .ok (.iload_n 0, 1) := by decide +kernel
theorem d11_56 : decode jdk_52_method_3_code 56 = .ok (.iconst 1, 1) := by decide +kernel
theorem d11_57 : decode jdk_52_method_3_code 57 = .ok (.ishl, 1) := by decide +kernel
theorem d11_58 : decode jdk_52_method_3_code 58 = .ok (.ireturn, 1) := by decide +kernel
theorem d12_0 : decode jdk_52_method_4_code 0 = .ok (.getstatic 44, 3) := by decide +kernel
theorem d12_3 : decode jdk_52_method_4_code 3 = .ok (.ifCond .ne 25, 3) := by decide +kernel
theorem d12_28 : decode jdk_52_method_4_code 28 = .ok (.iload_n 1, 1) := by decide +kernel
theorem d12_29 : decode jdk_52_method_4_code 29 = .ok (.iconst 1, 1) := by decide +kernel
theorem d12_30 : decode jdk_52_method_4_code 30 = .ok (.ishl, 1) := by decide +kernel
theorem d12_31 : decode jdk_52_method_4_code 31 = .ok (.istore_n 1, 1) := by decide +kernel
theorem d12_32 : decode jdk_52_method_4_code 32 = .ok (.aload_n 0, 1) := by decide +kernel
theorem d12_33 : decode jdk_52_method_4_code 33 = .ok (.iload_n 1, 1) := by decide +kernel
theorem d12_34 : decode jdk_52_method_4_code 34 = .ok (.iinc 1 1, 3) := by decide +kernel
theorem d12_37 : decode jdk_52_method_4_code 37 = .ok (.iload_n 2, 1) := by decide +kernel
theorem d12_38 : decode jdk_52_method_4_code 38 = .ok (.getstatic 59, 3) := by decide +kernel
theorem d12_41 : decode jdk_52_method_4_code 41 = .ok (.ishr, 1) := by decide +kernel
theorem d12_42 : decode jdk_52_method_4_code 42 = .ok (.i2b, 1) := by decide +kernel
theorem d12_43 : decode jdk_52_method_4_code 43 = .ok (.bastore, 1) := by decide +kernel
theorem d12_44 : decode jdk_52_method_4_code 44 = .ok (.aload_n 0, 1) := by decide +kernel
theorem d12_45 : decode jdk_52_method_4_code 45 = .ok (.iload_n 1, 1) := by decide +kernel
theorem d12_46 : decode jdk_52_method_4_code 46 = .ok (.iload_n 2, 1) := by decide +kernel
theorem d12_47 : decode jdk_52_method_4_code 47 = .ok (.getstatic 63, 3) := by decide +kernel
theorem d12_50 : decode jdk_52_method_4_code 50 = .ok (.ishr, 1) := by decide +kernel
theorem d12_51 : decode jdk_52_method_4_code 51 = .ok (.i2b, 1) := by decide +kernel
theorem d12_52 : decode jdk_52_method_4_code 52 = .ok (.bastore, 1) := by decide +kernel
theorem d12_53 : decode jdk_52_method_4_code 53 = .ok (.return_, 1) := by decide +kernel
theorem d13_0 : decode jdk_52_method_5_code 0 = .ok (.getstatic 44, 3) := by decide +kernel
theorem d13_3 : decode jdk_52_method_5_code 3 = .ok (.ifCond .ne 25, 3) := by decide +kernel
theorem d13_28 : decode jdk_52_method_5_code 28 = .ok (.iload_n 1, 1) := by decide +kernel
theorem d13_29 : decode jdk_52_method_5_code 29 = .ok (.iconst 1, 1) := by decide +kernel
theorem d13_30 : decode jdk_52_method_5_code 30 = .ok (.ishl, 1) := by decide +kernel
theorem d13_31 : decode jdk_52_method_5_code 31 = .ok (.istore_n 1, 1) := by decide +kernel
theorem d13_32 : decode jdk_52_method_5_code 32 = .ok (.aload_n 0, 1) := by decide +kernel
theorem d13_33 : decode jdk_52_method_5_code 33 = .ok (.iload_n 1, 1) := by decide +kernel
theorem d13_34 : decode jdk_52_method_5_code 34 = .ok (.iinc 1 1, 3) := by decide +kernel
theorem d13_37 : decode jdk_52_method_5_code 37 = .ok (.baload, 1) := by decide +kernel
theorem d13_38 : decode jdk_52_method_5_code 38 = .ok (.sipush 255, 3) := by decide +kernel
theorem d13_41 : decode jdk_52_method_5_code 41 = .ok (.iand, 1) := by decide +kernel
theorem d13_42 : decode jdk_52_method_5_code 42 = .ok (.getstatic 59, 3) := by decide +kernel
theorem d13_45 : decode jdk_52_method_5_code 45 = .ok (.ishl, 1) := by decide +kernel
theorem d13_46 : decode jdk_52_method_5_code 46 = .ok (.aload_n 0, 1) := by decide +kernel
theorem d13_47 : decode jdk_52_method_5_code 47 = .ok (.iload_n 1, 1) := by decide +kernel
theorem d13_48 : decode jdk_52_method_5_code 48 = .ok (.baload, 1) := by decide +kernel
theorem d13_49 : decode jdk_52_method_5_code 49 = .ok (.sipush 255, 3) := by decide +kernel
theorem d13_52 : decode jdk_52_method_5_code 52 = .ok (.iand, 1) := by decide +kernel
theorem d13_53 : decode jdk_52_method_5_code 53 = .ok (.getstatic 63, 3) := by decide +kernel
theorem d13_56 : decode jdk_52_method_5_code 56 = .ok (.ishl, 1) := by decide +kernel
theorem d13_57 : decode jdk_52_method_5_code 57 = .ok (.ior, 1) := by decide +kernel
theorem d13_58 : decode jdk_52_method_5_code 58 = .ok (.i2c, 1) := by decide +kernel
theorem d13_59 : decode jdk_52_method_5_code 59 = .ok (.ireturn, 1) := by decide +kernel
theorem d14_0 : decode jdk_52_method_15_code 0 = .ok (.iload_n 1, 1) := by decide +kernel
theorem d14_1 : decode jdk_52_method_15_code 1 = .ok (.aload_n 0, 1) := by decide +kernel
theorem d14_2 : decode jdk_52_method_15_code 2 = .ok (.arraylength, 1) := by decide +kernel
theorem d14_3 : decode jdk_52_method_15_code 3 = .ok (.isub, 1) := by decide +kernel
theorem d14_4 : decode jdk_52_method_15_code 4 = .ok (.bipush 31, 2) := by decide +kernel
theorem d14_6 : decode jdk_52_method_15_code 6 = .ok (.iushr, 1) := by decide +kernel
theorem d14_7 : decode jdk_52_method_15_code 7 = .ok (.i2b, 1) := by decide +kernel
theorem d14_8 : decode jdk_52_method_15_code 8 = .ok (.ireturn, 1) := by decide +kernel
theorem d15_0 : decode jdk_42_method_54_code 0 = .ok (.aload_n 0, 1) := by decide +kernel
theorem d15_1 : decode jdk_42_method_54_code 1 = .ok (.getfield 9, 3) := by decide +kernel
theorem d15_4 : decode jdk_42_method_54_code 4 = .ok (.arraylength, 1) := by decide +kernel
theorem d15_5 : decode jdk_42_method_54_code 5 = .ok (.aload_n 0, 1) := by decide +kernel
theorem d15_6 : decode jdk_42_method_54_code 6 = .ok (.invokevirtual 335, 3) := by decide +kernel
theorem d15_9 : decode jdk_42_method_54_code 9 = .ok (.ishr, 1) := by decide +kernel
theorem d15_10 : decode jdk_42_method_54_code 10 = .ok (.ireturn, 1) := by decide +kernel
theorem d16_0 : decode jdk_42_method_152_code 0 = .ok (.getstatic 38, 3) := by decide +kernel
theorem d16_3 : decode jdk_42_method_152_code 3 = .ok (.ifCond .eq 10, 3) := by decide +kernel
theorem d16_6 : decode jdk_42_method_152_code 6 = .ok (.aload_n 0, 1) := by decide +kernel
theorem d16_7 : decode jdk_42_method_152_code 7 = .ok (.getfield 15, 3) := by decide +kernel
theorem d16_10 : decode jdk_42_method_152_code 10 = .ok (.goto 4, 3) := by decide +kernel
theorem d16_14 : decode jdk_42_method_152_code 14 = .ok (.ireturn, 1) := by decide +kernel
theorem d17_0 : decode jdk_42_method_56_code 0 = .ok (.aload_n 0, 1) := by decide +kernel
theorem d17_1 : decode jdk_42_method_56_code 1 = .ok (.invokevirtual 492, 3) := by decide +kernel
theorem d17_4 : decode jdk_42_method_56_code 4 = .ok (.ifCond .eq 12, 3) := by decide +kernel
theorem d17_7 : decode jdk_42_method_56_code 7 = .ok (.aload_n 0, 1) := by decide +kernel
theorem d17_8 : decode jdk_42_method_56_code 8 = .ok (.getfield 9, 3) := by decide +kernel
theorem d17_11 : decode jdk_42_method_56_code 11 = .ok (.iload_n 1, 1) := by decide +kernel
theorem d17_12 : decode jdk_42_method_56_code 12 = .ok (.invokestatic 495, 3) := by decide +kernel
theorem d17_15 : decode jdk_42_method_56_code 15 = .ok (.ireturn, 1) := by decide +kernel
theorem d17_16 : decode jdk_42_method_56_code 16 = .ok (.aload_n 0, 1) := by decide +kernel
theorem d17_17 : decode jdk_42_method_56_code 17 = .ok (.getfield 9, 3) := by decide +kernel
theorem d17_20 : decode jdk_42_method_56_code 20 = .ok (.iload_n 1, 1) := by decide +kernel
theorem d17_21 : decode jdk_42_method_56_code 21 = .ok (.invokestatic 498, 3) := by decide +kernel
theorem d17_24 : decode jdk_42_method_56_code 24 = .ok (.ireturn, 1) := by decide +kernel
theorem d18_0 : decode jdk_42_method_154_code 0 = .ok (.getstatic 38, 3) := by decide +kernel
theorem d18_3 : decode jdk_42_method_154_code 3 = .ok (.ifCond .eq 14, 3) := by decide +kernel
theorem d18_6 : decode jdk_42_method_154_code 6 = .ok (.aload_n 0, 1) := by decide +kernel
theorem d18_7 : decode jdk_42_method_154_code 7 = .ok (.getfield 15, 3) := by decide +kernel
theorem d18_10 : decode jdk_42_method_154_code 10 = .ok (.ifCond .ne 7, 3) := by decide +kernel
theorem d18_13 : decode jdk_42_method_154_code 13 = .ok (.iconst 1, 1) := by decide +kernel
theorem d18_14 : decode jdk_42_method_154_code 14 = .ok (.goto 4, 3) := by decide +kernel
theorem d18_17 : decode jdk_42_method_154_code 17 = .ok (.iconst 0, 1) := by decide +kernel
theorem d18_18 : decode jdk_42_method_154_code 18 = .ok (.ireturn, 1) := by decide +kernel
theorem d19_0 : decode jdk_52_method_83_code 0 = .ok (.iload_n 1, 1) := by decide +kernel
theorem d19_1 : decode jdk_52_method_83_code 1 = .ok (.aload_n 0, 1) := by decide +kernel
theorem d19_2 : decode jdk_52_method_83_code 2 = .ok (.invokestatic 67, 3) := by decide +kernel
theorem d19_5 : decode jdk_52_method_83_code 5 = .ok (.aload_n 0, 1) := by decide +kernel
theorem d19_6 : decode jdk_52_method_83_code 6 = .ok (.iload_n 1, 1) := by decide +kernel
theorem d19_7 : decode jdk_52_method_83_code 7 = .ok (.invokestatic 71, 3) := by decide +kernel
theorem d19_10 : decode jdk_52_method_83_code 10 = .ok (.ireturn, 1) := by decide +kernel
theorem d20_0 : decode jdk_52_method_91_code 0 = .ok (.iload_n 0, 1) := by decide +kernel
theorem d20_1 : decode jdk_52_method_91_code 1 = .ok (.aload_n 1, 1) := by decide +kernel
theorem d20_2 : decode jdk_52_method_91_code 2 = .ok (.invokestatic 48, 3) := by decide +kernel
theorem d20_5 : decode jdk_52_method_91_code 5 = .ok (.invokestatic 414, 3) := by decide +kernel
theorem d20_8 : decode jdk_52_method_91_code 8 = .ok (.return_, 1) := by decide +kernel
theorem d21_0 : decode jdk_52_method_6_code 0 = .ok (.aload_n 0, 1) := by decide +kernel
theorem d21_1 : decode jdk_52_method_6_code 1 = .ok (.arraylength, 1) := by decide +kernel
theorem d21_2 : decode jdk_52_method_6_code 2 = .ok (.iconst 1, 1) := by decide +kernel
theorem d21_3 : decode jdk_52_method_6_code 3 = .ok (.ishr, 1) := by decide +kernel
theorem d21_4 : decode jdk_52_method_6_code 4 = .ok (.ireturn, 1) := by decide +kernel
theorem d22_0 : decode jdk_42_method_155_code 0 = .ok (.iload_n 0, 1) := by decide +kernel
theorem d22_1 : decode jdk_42_method_155_code 1 = .ok (.iload_n 1, 1) := by decide +kernel
theorem d22_2 : decode jdk_42_method_155_code 2 = .ok (.getstatic 1053, 3) := by decide +kernel
theorem d22_5 : decode jdk_42_method_155_code 5 = .ok (.invokestatic 1059, 3) := by decide +kernel
theorem d22_8 : decode jdk_42_method_155_code 8 = .ok (.pop, 1) := by decide +kernel
theorem d22_9 : decode jdk_42_method_155_code 9 = .ok (.return_, 1) := by decide +kernel
theorem d23_0 : decode jdk_41_method_11_code 0 = .ok (.iload_n 0, 1) := by decide +kernel
theorem d23_1 : decode jdk_41_method_11_code 1 = .ok (.ifCond .lt 8, 3) := by decide +kernel
theorem d23_4 : decode jdk_41_method_11_code 4 = .ok (.iload_n 0, 1) := by decide +kernel
theorem d23_5 : decode jdk_41_method_11_code 5 = .ok (.iload_n 1, 1) := by decide +kernel
theorem d23_6 : decode jdk_41_method_11_code 6 = .ok (.if_icmp .lt 10, 3) := by decide +kernel
theorem d23_16 : decode jdk_41_method_11_code 16 = .ok (.iload_n 0, 1) := by decide +kernel
theorem d23_17 : decode jdk_41_method_11_code 17 = .ok (.ireturn, 1) := by decide +kernel
theorem d24_0 : decode prog_1_method_26_code 0 = .ok (.iload_n 0, 1) := by decide +kernel
theorem d24_1 : decode prog_1_method_26_code 1 = .ok (.bipush 65, 2) := by decide +kernel
theorem d24_3 : decode prog_1_method_26_code 3 = .ok (.if_icmp .lt 17, 3) := by decide +kernel
theorem d24_6 : decode prog_1_method_26_code 6 = .ok (.iload_n 0, 1) := by decide +kernel
theorem d24_7 : decode prog_1_method_26_code 7 = .ok (.bipush 90, 2) := by decide +kernel
theorem d24_9 : decode prog_1_method_26_code 9 = .ok (.if_icmp .gt 11, 3) := by decide +kernel
theorem d24_12 : decode prog_1_method_26_code 12 = .ok (.iload_n 0, 1) := by decide +kernel
theorem d24_13 : decode prog_1_method_26_code 13 = .ok (.bipush 32, 2) := by decide +kernel
theorem d24_15 : decode prog_1_method_26_code 15 = .ok (.iadd, 1) := by decide +kernel
theorem d24_16 : decode prog_1_method_26_code 16 = .ok (.i2c, 1) := by decide +kernel
theorem d24_17 : decode prog_1_method_26_code 17 = .ok (.goto 4, 3) := by decide +kernel
theorem d24_20 : decode prog_1_method_26_code 20 = .ok (.iload_n 0, 1) := by decide +kernel
theorem d24_21 : decode prog_1_method_26_code 21 = .ok (.ireturn, 1) := by decide +kernel
theorem d25_0 : decode jdk_43_method_2_code 0 = .ok (.iload_n 1, 1) := by decide +kernel
theorem d25_1 : decode jdk_43_method_2_code 1 = .ok (.aload_n 0, 1) := by decide +kernel
theorem d25_2 : decode jdk_43_method_2_code 2 = .ok (.arraylength, 1) := by decide +kernel
theorem d25_3 : decode jdk_43_method_2_code 3 = .ok (.invokestatic 9, 3) := by decide +kernel
theorem d25_6 : decode jdk_43_method_2_code 6 = .ok (.aload_n 0, 1) := by decide +kernel
theorem d25_7 : decode jdk_43_method_2_code 7 = .ok (.iload_n 1, 1) := by decide +kernel
theorem d25_8 : decode jdk_43_method_2_code 8 = .ok (.baload, 1) := by decide +kernel
theorem d25_9 : decode jdk_43_method_2_code 9 = .ok (.sipush 255, 3) := by decide +kernel
theorem d25_12 : decode jdk_43_method_2_code 12 = .ok (.iand, 1) := by decide +kernel
theorem d25_13 : decode jdk_43_method_2_code 13 = .ok (.i2c, 1) := by decide +kernel
theorem d25_14 : decode jdk_43_method_2_code 14 = .ok (.ireturn, 1) := by decide +kernel
theorem own_wS {Z : State} {a0 : Array Value} (hw : ∀ d ∈ tables_1, d.before a0 Z = true) : ∀ a ∈ Bundle.stringAtoms, a.before a0 Z = true := by
  intro a ha
  simp only [Bundle.stringAtoms, List.mem_cons, List.not_mem_nil, or_false] at ha
  rcases ha with rfl | rfl | rfl | rfl | rfl | rfl | rfl
  · exact (ow hw 13 rfl)
  · exact (ow hw 12 rfl)
  · exact (ow hw 25 rfl)
  · exact (ow hw 26 rfl)
  · exact (ow hw 27 rfl)
  · exact (ow hw 28 rfl)
  · exact (ow hw 29 rfl)
theorem own_pd0 : parseMethodDescriptor "([BII)V" = some ⟨[(.array .byte), .int, .int], none⟩ := by decide +kernel
set_option maxRecDepth 65536 in
set_option maxHeartbeats 40000000 in
theorem own_put (l : Launch) (Z : State) (a0 : Array Value) (hw : ∀ d ∈ tables_1, d.before a0 Z = true) (b : Addr) (kb : ClassId) (M : Nat) (vs : List Value) (i : Nat) (ch : Int32) (h0 : Heap) (O0 : own_Old Z h0) (g0_V : Arv Z h0 b kb .byte (Int32.ofNat M) vs (.int 0)) (g1_G : Z.heap.size ≤ b) (g2_hM : M < 2147483648) (g3_hi : 2 * i + 1 < M) (g4_hl : vs.length = M) (g5_S : Sta Z Z.heap "java/lang/StringUTF16" "$assertionsDisabled" "Z" (.int 1)) (g6_S : Sta Z Z.heap "java/lang/StringUTF16" "HI_BYTE_SHIFT" "I" (.int 0)) (g7_S : Sta Z Z.heap "java/lang/StringUTF16" "LO_BYTE_SHIFT" "I" (.int 8)) :
    own_Con l Z (⟨"java/lang/StringUTF16", "putChar", "([BII)V"⟩ : MethodName) jdk_52_method_4_code 3 none [] ({ frames := 0, cells := 0, slots := 0, locals := 0 } : Room) #[(.ref b), (.int (Int32.ofNat i)), (.int ch)] h0 (fun rv rh rL => rv = none ∧ own_Fr Z rL ∧ Keep h0 rh [b] ∧ (Arv Z rh b kb .byte (Int32.ofNat M) ((vs.set (2 * i) (.int (own_lo ch))).set (2 * i + 1) (.int (own_hi ch))) (.int 0))) := by
  refine own_intro (plainFor_of_name (by first | (simp [plainName, overriddenIn]; done) | decide +kernel)) ?_
  intro p e s m below meth c s₁ G hx hby hml hown hnm hret hZ X0 e0 hG hR
  have N0 := Fr.nil Z.heap.size
  refine own_entry (Ls := #[.val (.ref b), .val (.int (Int32.ofNat i)), .val (.int ch)]) (by first | (simp [entryFrame, mkF, argsToLocals, Value.category]; done) | rfl) ?_
  show G (s₁.setTop (mkF m 0 #[.val (.ref b), .val (.int (Int32.ofNat i)), .val (.int ch)] []))
  obtain ⟨T1, X1, e1, st1⟩ := getS2 X0 hx hZ hown (host := "") (Or.inl (ow hw 57 rfl)) Via.refl e0 (own_sta g5_S O0) (g := (mkF m 0 #[.val (.ref b), .val (.int (Int32.ofNat i)), .val (.int ch)] [])) rfl (hb hby d12_0)
  refine hG _ _ st1 ?_
  show G (T1.setTop (mkF m 3 #[.val (.ref b), .val (.int (Int32.ofNat i)), .val (.int ch)] [(.int 1)]))
  refine hG _ _ (fun t_ k_ => XS.ifYes X1.here hx rfl (pc0 := 3) (pc' := 28) rfl (hb hby d12_3) rfl ((if0 _ _).trans (feq (by decide)).2) (by decide) (by decide) k_) ?_
  show G (T1.setTop (mkF m 28 #[.val (.ref b), .val (.int (Int32.ofNat i)), .val (.int ch)] []))
  refine hG _ _ (fun t_ k_ => XS.iloadN X1.here hx rfl (hb hby d12_28) rfl k_) ?_
  refine hG _ _ (fun t_ k_ => XS.iconst X1.here hx rfl (hb hby d12_29) k_) ?_
  refine hG _ _ (fun t_ k_ => XS.ishl X1.here hx rfl (hb hby d12_30) rfl k_) ?_
  refine hG _ _ (fun t_ k_ => XS.istoreN X1.here hx rfl (hb hby d12_31) rfl (l' := #[.val (.ref b), .val (.int ((Int32.ofNat i) <<< ((1 : Int32) &&& 31))), .val (.int ch)]) rfl k_) ?_
  show G (T1.setTop (mkF m 32 #[.val (.ref b), .val (.int ((Int32.ofNat i) <<< ((1 : Int32) &&& 31))), .val (.int ch)] []))
  rw [own_shl1 i]
  show G (T1.setTop (mkF m 32 #[.val (.ref b), .val (.int (Int32.ofNat (2 * i))), .val (.int ch)] []))
  refine hG _ _ (fun t_ k_ => XS.aloadN X1.here hx rfl (hb hby d12_32) rfl rfl k_) ?_
  refine hG _ _ (fun t_ k_ => XS.iloadN X1.here hx rfl (hb hby d12_33) rfl k_) ?_
  refine hG _ _ (fun t_ k_ => XS.iinc X1.here hx rfl (hb hby d12_34) rfl (l' := #[.val (.ref b), .val (.int ((Int32.ofNat (2 * i)) + (1 : Int32))), .val (.int ch)]) rfl k_) ?_
  show G (T1.setTop (mkF m 37 #[.val (.ref b), .val (.int ((Int32.ofNat (2 * i)) + (1 : Int32))), .val (.int ch)] [(.int (Int32.ofNat (2 * i))), (.ref b)]))
  rw [own_inc (2 * i)]
  show G (T1.setTop (mkF m 37 #[.val (.ref b), .val (.int (Int32.ofNat (2 * i + 1))), .val (.int ch)] [(.int (Int32.ofNat (2 * i))), (.ref b)]))
  refine hG _ _ (fun t_ k_ => XS.iloadN X1.here hx rfl (hb hby d12_37) rfl k_) ?_
  show G (T1.setTop (mkF m 38 #[.val (.ref b), .val (.int (Int32.ofNat (2 * i + 1))), .val (.int ch)] [(.int ch), (.int (Int32.ofNat (2 * i))), (.ref b)]))
  obtain ⟨T2, X2, e2, st2⟩ := getS2 X1 hx hZ hown (host := "") (Or.inl (ow hw 58 rfl)) Via.refl e1 (own_sta g6_S O0) (g := (mkF m 38 #[.val (.ref b), .val (.int (Int32.ofNat (2 * i + 1))), .val (.int ch)] [(.int ch), (.int (Int32.ofNat (2 * i))), (.ref b)])) rfl (hb hby d12_38)
  refine hG _ _ st2 ?_
  show G (T2.setTop (mkF m 41 #[.val (.ref b), .val (.int (Int32.ofNat (2 * i + 1))), .val (.int ch)] [(.int 0), (.int ch), (.int (Int32.ofNat (2 * i))), (.ref b)]))
  refine hG _ _ (fun t_ k_ => XS.ishr X2.here hx rfl (hb hby d12_41) rfl k_) ?_
  refine hG _ _ (fun t_ k_ => XS.i2b X2.here hx rfl (hb hby d12_42) rfl k_) ?_
  show G (T2.setTop (mkF m 43 #[.val (.ref b), .val (.int (Int32.ofNat (2 * i + 1))), .val (.int ch)] [(.int ((ch >>> ((0 : Int32) &&& 31)).toInt8.toInt32)), (.int (Int32.ofNat (2 * i))), (.ref b)]))
  obtain ⟨c3, Ar3, q3, S3, M3, H3, G3⟩ := id g0_V
  obtain ⟨T3, h3, X3, e3, W3, st3⟩ := stB X2 hx hZ e2 Ar3 (j := (Int32.ofNat (2 * i))) (inb_of S3 ⟨own_nn (by omega), own_lt (by omega) g2_hM⟩) (g := (mkF m 43 #[.val (.ref b), .val (.int (Int32.ofNat (2 * i + 1))), .val (.int ch)] [(.int ((ch >>> ((0 : Int32) &&& 31)).toInt8.toInt32)), (.int (Int32.ofNat (2 * i))), (.ref b)])) rfl rfl (hb hby d12_43)
  refine hG _ _ st3 ?_
  have K3 : Keep h0 h3 [b] := (Keep.refl h0 [b]).wr W3 (Or.inl (List.mem_of_getElem? (i := 0) rfl))
  have O3 : own_Old Z h3 := O0.wr W3 g1_G
  have V3 : Arv Z h3 b kb .byte (Int32.ofNat M) (vs.set (2 * i) (.int (nar .byte ((ch >>> ((0 : Int32) &&& 31)).toInt8.toInt32)))) (.int 0) := Arv.set Ar3 q3 S3 M3 H3 G3 (fits_nar_byte _) W3 (2 * i) (own_clamp (by omega)) (by omega)
  have N3 := Fr.snoc X3 N0 g1_G
  show G (T3.setTop (mkF m 44 #[.val (.ref b), .val (.int (Int32.ofNat (2 * i + 1))), .val (.int ch)] []))
  refine hG _ _ (fun t_ k_ => XS.aloadN X3.here hx rfl (hb hby d12_44) rfl rfl k_) ?_
  refine hG _ _ (fun t_ k_ => XS.iloadN X3.here hx rfl (hb hby d12_45) rfl k_) ?_
  refine hG _ _ (fun t_ k_ => XS.iloadN X3.here hx rfl (hb hby d12_46) rfl k_) ?_
  show G (T3.setTop (mkF m 47 #[.val (.ref b), .val (.int (Int32.ofNat (2 * i + 1))), .val (.int ch)] [(.int ch), (.int (Int32.ofNat (2 * i + 1))), (.ref b)]))
  obtain ⟨T4, X4, e4, st4⟩ := getS2 X3 hx hZ hown (host := "") (Or.inl (ow hw 59 rfl)) Via.refl e3 (own_sta g7_S O3) (g := (mkF m 47 #[.val (.ref b), .val (.int (Int32.ofNat (2 * i + 1))), .val (.int ch)] [(.int ch), (.int (Int32.ofNat (2 * i + 1))), (.ref b)])) rfl (hb hby d12_47)
  refine hG _ _ st4 ?_
  show G (T4.setTop (mkF m 50 #[.val (.ref b), .val (.int (Int32.ofNat (2 * i + 1))), .val (.int ch)] [(.int 8), (.int ch), (.int (Int32.ofNat (2 * i + 1))), (.ref b)]))
  refine hG _ _ (fun t_ k_ => XS.ishr X4.here hx rfl (hb hby d12_50) rfl k_) ?_
  refine hG _ _ (fun t_ k_ => XS.i2b X4.here hx rfl (hb hby d12_51) rfl k_) ?_
  show G (T4.setTop (mkF m 52 #[.val (.ref b), .val (.int (Int32.ofNat (2 * i + 1))), .val (.int ch)] [(.int ((ch >>> ((8 : Int32) &&& 31)).toInt8.toInt32)), (.int (Int32.ofNat (2 * i + 1))), (.ref b)]))
  obtain ⟨c5, Ar5, q5, S5, M5, H5, G5⟩ := id V3
  obtain ⟨T5, h5, X5, e5, W5, st5⟩ := stB X4 hx hZ e4 Ar5 (j := (Int32.ofNat (2 * i + 1))) (inb_of S5 ⟨own_nn (by omega), own_lt (by omega) g2_hM⟩) (g := (mkF m 52 #[.val (.ref b), .val (.int (Int32.ofNat (2 * i + 1))), .val (.int ch)] [(.int ((ch >>> ((8 : Int32) &&& 31)).toInt8.toInt32)), (.int (Int32.ofNat (2 * i + 1))), (.ref b)])) rfl rfl (hb hby d12_52)
  refine hG _ _ st5 ?_
  have K5 : Keep h0 h5 [b] := K3.wr W5 (Or.inl (List.mem_of_getElem? (i := 0) rfl))
  have O5 : own_Old Z h5 := O3.wr W5 g1_G
  have V5 : Arv Z h5 b kb .byte (Int32.ofNat M) ((vs.set (2 * i) (.int (nar .byte ((ch >>> ((0 : Int32) &&& 31)).toInt8.toInt32)))).set (2 * i + 1) (.int (nar .byte ((ch >>> ((8 : Int32) &&& 31)).toInt8.toInt32)))) (.int 0) := Arv.set Ar5 q5 S5 M5 H5 G5 (fits_nar_byte _) W5 (2 * i + 1) (own_clamp (by omega)) (by rw [List.length_set]; omega)
  have N5 := Fr.snoc X5 N3 g1_G
  show G (T5.setTop (mkF m 53 #[.val (.ref b), .val (.int (Int32.ofNat (2 * i + 1))), .val (.int ch)] []))
  exact own_retV hR hret X5 hx (hb hby d12_53) (by decide) (by decide) (by rw [e5]; exact ⟨rfl, N5, K5, V5⟩)
theorem own_pd1 : parseMethodDescriptor "([BI)C" = some ⟨[(.array .byte), .int], some .char⟩ := by decide +kernel
set_option maxRecDepth 65536 in
set_option maxHeartbeats 40000000 in
theorem own_gch (l : Launch) (Z : State) (a0 : Array Value) (hw : ∀ d ∈ tables_1, d.before a0 Z = true) (b : Addr) (kb : ClassId) (M : Nat) (vs : List Value) (i : Nat) (x : Int32) (y : Int32) (h0 : Heap) (O0 : own_Old Z h0) (g0_V : Arv Z h0 b kb .byte (Int32.ofNat M) vs (.int 0)) (g1_hM : M < 2147483648) (g2_hi : 2 * i + 1 < M) (g3_hx : vs.getD (2 * i) (.int 0) = .int x) (g4_hy : vs.getD (2 * i + 1) (.int 0) = .int y) (g5_S : Sta Z Z.heap "java/lang/StringUTF16" "$assertionsDisabled" "Z" (.int 1)) (g6_S : Sta Z Z.heap "java/lang/StringUTF16" "HI_BYTE_SHIFT" "I" (.int 0)) (g7_S : Sta Z Z.heap "java/lang/StringUTF16" "LO_BYTE_SHIFT" "I" (.int 8)) :
    own_Con l Z (⟨"java/lang/StringUTF16", "getChar", "([BI)C"⟩ : MethodName) jdk_52_method_5_code 2 (some .char) [] ({ frames := 0, cells := 0, slots := 0, locals := 0 } : Room) #[(.ref b), (.int (Int32.ofNat i))] h0 (fun rv rh rL => rv = some (.int (own_join x y)) ∧ own_Fr Z rL ∧ h0 = rh) := by
  refine own_intro (plainFor_of_name (by first | (simp [plainName, overriddenIn]; done) | decide +kernel)) ?_
  intro p e s m below meth c s₁ G hx hby hml hown hnm hret hZ X0 e0 hG hR
  have N0 := Fr.nil Z.heap.size
  refine own_entry (Ls := #[.val (.ref b), .val (.int (Int32.ofNat i))]) (by first | (simp [entryFrame, mkF, argsToLocals, Value.category]; done) | rfl) ?_
  show G (s₁.setTop (mkF m 0 #[.val (.ref b), .val (.int (Int32.ofNat i))] []))
  obtain ⟨T1, X1, e1, st1⟩ := getS2 X0 hx hZ hown (host := "") (Or.inl (ow hw 57 rfl)) Via.refl e0 (own_sta g5_S O0) (g := (mkF m 0 #[.val (.ref b), .val (.int (Int32.ofNat i))] [])) rfl (hb hby d13_0)
  refine hG _ _ st1 ?_
  show G (T1.setTop (mkF m 3 #[.val (.ref b), .val (.int (Int32.ofNat i))] [(.int 1)]))
  refine hG _ _ (fun t_ k_ => XS.ifYes X1.here hx rfl (pc0 := 3) (pc' := 28) rfl (hb hby d13_3) rfl ((if0 _ _).trans (feq (by decide)).2) (by decide) (by decide) k_) ?_
  show G (T1.setTop (mkF m 28 #[.val (.ref b), .val (.int (Int32.ofNat i))] []))
  refine hG _ _ (fun t_ k_ => XS.iloadN X1.here hx rfl (hb hby d13_28) rfl k_) ?_
  refine hG _ _ (fun t_ k_ => XS.iconst X1.here hx rfl (hb hby d13_29) k_) ?_
  refine hG _ _ (fun t_ k_ => XS.ishl X1.here hx rfl (hb hby d13_30) rfl k_) ?_
  refine hG _ _ (fun t_ k_ => XS.istoreN X1.here hx rfl (hb hby d13_31) rfl (l' := #[.val (.ref b), .val (.int ((Int32.ofNat i) <<< ((1 : Int32) &&& 31)))]) rfl k_) ?_
  show G (T1.setTop (mkF m 32 #[.val (.ref b), .val (.int ((Int32.ofNat i) <<< ((1 : Int32) &&& 31)))] []))
  rw [own_shl1 i]
  show G (T1.setTop (mkF m 32 #[.val (.ref b), .val (.int (Int32.ofNat (2 * i)))] []))
  refine hG _ _ (fun t_ k_ => XS.aloadN X1.here hx rfl (hb hby d13_32) rfl rfl k_) ?_
  refine hG _ _ (fun t_ k_ => XS.iloadN X1.here hx rfl (hb hby d13_33) rfl k_) ?_
  refine hG _ _ (fun t_ k_ => XS.iinc X1.here hx rfl (hb hby d13_34) rfl (l' := #[.val (.ref b), .val (.int ((Int32.ofNat (2 * i)) + (1 : Int32)))]) rfl k_) ?_
  show G (T1.setTop (mkF m 37 #[.val (.ref b), .val (.int ((Int32.ofNat (2 * i)) + (1 : Int32)))] [(.int (Int32.ofNat (2 * i))), (.ref b)]))
  rw [own_inc (2 * i)]
  show G (T1.setTop (mkF m 37 #[.val (.ref b), .val (.int (Int32.ofNat (2 * i + 1)))] [(.int (Int32.ofNat (2 * i))), (.ref b)]))
  obtain ⟨c2, Ar2, q2, S2, M2, H2, G2⟩ := id g0_V
  have hin2 : ¬ ((Int32.ofNat (2 * i)) < 0 ∨ c2.slots.size ≤ (Int32.ofNat (2 * i)).toNatClampNeg) := inb_of S2 ⟨own_nn (by omega), own_lt (by omega) g1_hM⟩
  refine hG _ _ (X1.baloadBytes hx (j := (Int32.ofNat (2 * i))) (v := (.int x)) (by rw [e1]; exact Ar2.1) (State.isArrayOf_alike hZ.alike Ar2.2.1) Ar2.2.2 hin2 (Has.at H2 hin2 (by rw [own_clamp (by omega)]; exact g3_hx)) (g := (mkF m 37 #[.val (.ref b), .val (.int (Int32.ofNat (2 * i + 1)))] [(.int (Int32.ofNat (2 * i))), (.ref b)])) rfl rfl (hb hby d13_37)) ?_
  show G (T1.setTop (mkF m 38 #[.val (.ref b), .val (.int (Int32.ofNat (2 * i + 1)))] [(.int x)]))
  refine hG _ _ (fun t_ k_ => XS.sipush X1.here hx rfl (hb hby d13_38) k_) ?_
  refine hG _ _ (fun t_ k_ => XS.iand X1.here hx rfl (hb hby d13_41) rfl k_) ?_
  show G (T1.setTop (mkF m 42 #[.val (.ref b), .val (.int (Int32.ofNat (2 * i + 1)))] [(.int (x &&& (255 : Int32)))]))
  obtain ⟨T3, X3, e3, st3⟩ := getS2 X1 hx hZ hown (host := "") (Or.inl (ow hw 58 rfl)) Via.refl e1 (own_sta g6_S O0) (g := (mkF m 42 #[.val (.ref b), .val (.int (Int32.ofNat (2 * i + 1)))] [(.int (x &&& (255 : Int32)))])) rfl (hb hby d13_42)
  refine hG _ _ st3 ?_
  show G (T3.setTop (mkF m 45 #[.val (.ref b), .val (.int (Int32.ofNat (2 * i + 1)))] [(.int 0), (.int (x &&& (255 : Int32)))]))
  refine hG _ _ (fun t_ k_ => XS.ishl X3.here hx rfl (hb hby d13_45) rfl k_) ?_
  refine hG _ _ (fun t_ k_ => XS.aloadN X3.here hx rfl (hb hby d13_46) rfl rfl k_) ?_
  refine hG _ _ (fun t_ k_ => XS.iloadN X3.here hx rfl (hb hby d13_47) rfl k_) ?_
  show G (T3.setTop (mkF m 48 #[.val (.ref b), .val (.int (Int32.ofNat (2 * i + 1)))] [(.int (Int32.ofNat (2 * i + 1))), (.ref b), (.int ((x &&& (255 : Int32)) <<< ((0 : Int32) &&& 31)))]))
  obtain ⟨c4, Ar4, q4, S4, M4, H4, G4⟩ := id g0_V
  have hin4 : ¬ ((Int32.ofNat (2 * i + 1)) < 0 ∨ c4.slots.size ≤ (Int32.ofNat (2 * i + 1)).toNatClampNeg) := inb_of S4 ⟨own_nn (by omega), own_lt (by omega) g1_hM⟩
  refine hG _ _ (X3.baloadBytes hx (j := (Int32.ofNat (2 * i + 1))) (v := (.int y)) (by rw [e3]; exact Ar4.1) (State.isArrayOf_alike hZ.alike Ar4.2.1) Ar4.2.2 hin4 (Has.at H4 hin4 (by rw [own_clamp (by omega)]; exact g4_hy)) (g := (mkF m 48 #[.val (.ref b), .val (.int (Int32.ofNat (2 * i + 1)))] [(.int (Int32.ofNat (2 * i + 1))), (.ref b), (.int ((x &&& (255 : Int32)) <<< ((0 : Int32) &&& 31)))])) rfl rfl (hb hby d13_48)) ?_
  show G (T3.setTop (mkF m 49 #[.val (.ref b), .val (.int (Int32.ofNat (2 * i + 1)))] [(.int y), (.int ((x &&& (255 : Int32)) <<< ((0 : Int32) &&& 31)))]))
  refine hG _ _ (fun t_ k_ => XS.sipush X3.here hx rfl (hb hby d13_49) k_) ?_
  refine hG _ _ (fun t_ k_ => XS.iand X3.here hx rfl (hb hby d13_52) rfl k_) ?_
  show G (T3.setTop (mkF m 53 #[.val (.ref b), .val (.int (Int32.ofNat (2 * i + 1)))] [(.int (y &&& (255 : Int32))), (.int ((x &&& (255 : Int32)) <<< ((0 : Int32) &&& 31)))]))
  obtain ⟨T5, X5, e5, st5⟩ := getS2 X3 hx hZ hown (host := "") (Or.inl (ow hw 59 rfl)) Via.refl e3 (own_sta g7_S O0) (g := (mkF m 53 #[.val (.ref b), .val (.int (Int32.ofNat (2 * i + 1)))] [(.int (y &&& (255 : Int32))), (.int ((x &&& (255 : Int32)) <<< ((0 : Int32) &&& 31)))])) rfl (hb hby d13_53)
  refine hG _ _ st5 ?_
  show G (T5.setTop (mkF m 56 #[.val (.ref b), .val (.int (Int32.ofNat (2 * i + 1)))] [(.int 8), (.int (y &&& (255 : Int32))), (.int ((x &&& (255 : Int32)) <<< ((0 : Int32) &&& 31)))]))
  refine hG _ _ (fun t_ k_ => XS.ishl X5.here hx rfl (hb hby d13_56) rfl k_) ?_
  refine hG _ _ (fun t_ k_ => XS.ior X5.here hx rfl (hb hby d13_57) rfl k_) ?_
  refine hG _ _ (fun t_ k_ => XS.i2c X5.here hx rfl (hb hby d13_58) rfl k_) ?_
  show G (T5.setTop (mkF m 59 #[.val (.ref b), .val (.int (Int32.ofNat (2 * i + 1)))] [(.int ((((x &&& (255 : Int32)) <<< ((0 : Int32) &&& 31)) ||| ((y &&& (255 : Int32)) <<< ((8 : Int32) &&& 31))).toUInt32.toUInt16.toUInt32.toInt32))]))
  exact own_retN hR hret (by simp) X5 hx (hb hby d13_59) (by decide) (by decide) (by rw [e5]; exact ⟨rfl, N0, rfl⟩)
theorem own_pd2 : parseMethodDescriptor "([CI[BII)I" = some ⟨[(.array .char), .int, (.array .byte), .int, .int], some .int⟩ := by decide +kernel
set_option maxRecDepth 65536 in
set_option maxHeartbeats 40000000 in
theorem own_gcmp5 (l : Launch) (Z : State) (a0 : Array Value) (hw : ∀ d ∈ tables_1, d.before a0 Z = true) (a : Addr) (b : Addr) (ka : ClassId) (kb : ClassId) (cs : List Int32) (h0 : Heap) (O0 : own_Old Z h0) (g0_V : Arv Z h0 a ka .char (Int32.ofNat cs.length) (cs.map Value.int) (.int 0)) (g1_V : Arv Z h0 b kb .byte (Int32.ofNat cs.length) [] (.int 0)) (g2_G : Z.heap.size ≤ b) (g3_hne : a ≠ b) (g4_hlen : cs.length < 2147483648) :
    own_Con l Z (⟨"java/lang/StringUTF16", "compress", "([CI[BII)I"⟩ : MethodName) jdk_52_method_21_code 7 (some .int) [] ({ frames := 0, cells := 0, slots := 0, locals := 0 } : Room) #[(.ref a), (.int 0), (.ref b), (.int 0), (.int (Int32.ofNat cs.length))] h0 (fun rv rh rL => ∃ (r : Int32) (vs : List Value), rv = some (.int r) ∧ own_Fr Z rL ∧ Keep h0 rh [b] ∧ (Arv Z rh b kb .byte (Int32.ofNat cs.length) vs (.int 0)) ∧ ((r = (Int32.ofNat cs.length) ∧ (∀ c ∈ cs, ¬ ((255 : Int32) < c)) ∧ vs = (cs.map fun c => Value.int c.toInt8.toInt32)) ∨ (∃ k, k < cs.length ∧ r = Int32.ofNat k ∧ (255 : Int32) < cs.getD k 0))) := by
  refine own_intro (plainFor_of_name (by first | (simp [plainName, overriddenIn]; done) | decide +kernel)) ?_
  intro p e s m below meth c s₁ G hx hby hml hown hnm hret hZ X0 e0 hG hR
  have N0 := Fr.nil Z.heap.size
  refine own_entry (Ls := #[.val (.ref a), .val (.int 0), .val (.ref b), .val (.int 0), .val (.int (Int32.ofNat cs.length)), .unset, .unset]) (by first | (simp [entryFrame, mkF, argsToLocals, Value.category]; done) | rfl) ?_
  show G (s₁.setTop (mkF m 0 #[.val (.ref a), .val (.int 0), .val (.ref b), .val (.int 0), .val (.int (Int32.ofNat cs.length)), .unset, .unset] []))
  refine hG _ _ (fun t_ k_ => XS.iconst X0.here hx rfl (hb hby d8_0) k_) ?_
  refine hG _ _ (fun t_ k_ => XS.istore X0.here hx rfl (hb hby d8_1) rfl (l' := #[.val (.ref a), .val (.int 0), .val (.ref b), .val (.int 0), .val (.int (Int32.ofNat cs.length)), .val (.int 0), .unset]) rfl k_) ?_
  show G (s₁.setTop (mkF m 3 #[.val (.ref a), .val (.int 0), .val (.ref b), .val (.int 0), .val (.int (Int32.ofNat cs.length)), .val (.int 0), .unset] []))
  have loop : ∀ (r i : Nat) (T : State) (locs : List Loc) (hT : Heap) (vs : List Value) (ch : Slot), r + i = cs.length → Stand p l e ({ frames := 0, cells := 0, slots := 0, locals := 0 } : Room) s m #[(.ref a), (.int 0), (.ref b), (.int 0), (.int (Int32.ofNat cs.length))] below meth c T locs 0 0 → T.heap = hT → Keep h0 hT [b] → own_Old Z hT → own_Fr Z locs → Arv Z hT b kb .byte (Int32.ofNat cs.length) vs (.int 0) → vs.length = cs.length → (∀ j, j < i → vs.getD j (.int 0) = Value.int (cs.getD j 0).toInt8.toInt32) → (∀ j, j < i → ¬ ((255 : Int32) < cs.getD j 0)) → One ch → G (T.setTop (mkF m 3 #[.val (.ref a), .val (.int (Int32.ofNat i)), .val (.ref b), .val (.int (Int32.ofNat i)), .val (.int (Int32.ofNat cs.length)), .val (.int (Int32.ofNat i)), ch] [])) := by
    intro r
    induction r with
    | zero =>
      intro i T locs hT vs ch hri X eT K O N V hl hv hs hch
      have hi : i = cs.length := by omega
      subst hi
      have hvs := own_mapEq (fun c : Int32 => Value.int c.toInt8.toInt32) cs vs (.int 0) 0 hl hv
      refine hG _ _ (fun t_ k_ => XS.iload X.here hx rfl (hb hby d8_3) rfl k_) ?_
      refine hG _ _ (fun t_ k_ => XS.iload X.here hx rfl (hb hby d8_5) rfl k_) ?_
      show G (T.setTop (mkF m 7 #[.val (.ref a), .val (.int (Int32.ofNat cs.length)), .val (.ref b), .val (.int (Int32.ofNat cs.length)), .val (.int (Int32.ofNat cs.length)), .val (.int (Int32.ofNat cs.length)), ch] [(.int (Int32.ofNat cs.length)), (.int (Int32.ofNat cs.length))]))
      refine hG _ _ (fun t_ k_ => XS.icmpYes X.here hx rfl (pc0 := 7) (pc' := 44) rfl (hb hby d8_7) rfl (flt (own_nlt (Nat.le_refl _) g4_hlen)).2.1 (by decide) (by decide) k_) ?_
      show G (T.setTop (mkF m 44 #[.val (.ref a), .val (.int (Int32.ofNat cs.length)), .val (.ref b), .val (.int (Int32.ofNat cs.length)), .val (.int (Int32.ofNat cs.length)), .val (.int (Int32.ofNat cs.length)), ch] []))
      refine hG _ _ (fun t_ k_ => XS.iload X.here hx rfl (hb hby d8_44) rfl k_) ?_
      show G (T.setTop (mkF m 46 #[.val (.ref a), .val (.int (Int32.ofNat cs.length)), .val (.ref b), .val (.int (Int32.ofNat cs.length)), .val (.int (Int32.ofNat cs.length)), .val (.int (Int32.ofNat cs.length)), ch] [(.int (Int32.ofNat cs.length))]))
      exact own_retI hR hret X hx (hb hby d8_46) (by decide) (by decide) (by rw [eT]; exact ⟨(Int32.ofNat cs.length), vs, rfl, N, K, V, (Or.inl ⟨rfl, own_allD cs 0 hs, hvs⟩)⟩)
    | succ r ih =>
      intro i T locs hT vs ch hri X eT K O N V hl hv hs hch
      have hi : i < cs.length := by omega
      refine hG _ _ (fun t_ k_ => XS.iload X.here hx rfl (hb hby d8_3) rfl k_) ?_
      refine hG _ _ (fun t_ k_ => XS.iload X.here hx rfl (hb hby d8_5) rfl k_) ?_
      show G (T.setTop (mkF m 7 #[.val (.ref a), .val (.int (Int32.ofNat i)), .val (.ref b), .val (.int (Int32.ofNat i)), .val (.int (Int32.ofNat cs.length)), .val (.int (Int32.ofNat i)), ch] [(.int (Int32.ofNat cs.length)), (.int (Int32.ofNat i))]))
      refine hG _ _ (fun t_ k_ => XS.icmpNo X.here hx rfl (hb hby d8_7) rfl (tlt (own_lt hi g4_hlen)).2.1 k_) ?_
      show G (T.setTop (mkF m 10 #[.val (.ref a), .val (.int (Int32.ofNat i)), .val (.ref b), .val (.int (Int32.ofNat i)), .val (.int (Int32.ofNat cs.length)), .val (.int (Int32.ofNat i)), ch] []))
      refine hG _ _ (fun t_ k_ => XS.aloadN X.here hx rfl (hb hby d8_10) rfl rfl k_) ?_
      refine hG _ _ (fun t_ k_ => XS.iloadN X.here hx rfl (hb hby d8_11) rfl k_) ?_
      show G (T.setTop (mkF m 12 #[.val (.ref a), .val (.int (Int32.ofNat i)), .val (.ref b), .val (.int (Int32.ofNat i)), .val (.int (Int32.ofNat cs.length)), .val (.int (Int32.ofNat i)), ch] [(.int (Int32.ofNat i)), (.ref a)]))
      obtain ⟨c1, Ar1, q1, S1, M1, H1, G1⟩ := id (g0_V.keep K (ninS g3_hne nin0))
      have hin1 : ¬ ((Int32.ofNat i) < 0 ∨ c1.slots.size ≤ (Int32.ofNat i).toNatClampNeg) := inb_of S1 ⟨own_nn (by omega), own_lt hi g4_hlen⟩
      refine hG _ _ (X.caload hx (j := (Int32.ofNat i)) (v := (.int (cs.getD i 0))) (by rw [eT]; exact Ar1.1) (State.isArrayOf_alike hZ.alike Ar1.2.1) Ar1.2.2 hin1 (Has.at H1 hin1 (by rw [own_clamp (by omega)]; exact own_getD_map Value.int cs i _ 0 hi)) (g := (mkF m 12 #[.val (.ref a), .val (.int (Int32.ofNat i)), .val (.ref b), .val (.int (Int32.ofNat i)), .val (.int (Int32.ofNat cs.length)), .val (.int (Int32.ofNat i)), ch] [(.int (Int32.ofNat i)), (.ref a)])) rfl rfl (hb hby d8_12)) ?_
      show G (T.setTop (mkF m 13 #[.val (.ref a), .val (.int (Int32.ofNat i)), .val (.ref b), .val (.int (Int32.ofNat i)), .val (.int (Int32.ofNat cs.length)), .val (.int (Int32.ofNat i)), ch] [(.int (cs.getD i 0))]))
      refine hG _ _ (fun t_ k_ => XS.istoreS X.here hx rfl (hb hby d8_13) rfl rfl hch k_) ?_
      refine hG _ _ (fun t_ k_ => XS.iload X.here hx rfl (hb hby d8_15) rfl k_) ?_
      refine hG _ _ (fun t_ k_ => XS.sipush X.here hx rfl (hb hby d8_17) k_) ?_
      show G (T.setTop (mkF m 20 #[.val (.ref a), .val (.int (Int32.ofNat i)), .val (.ref b), .val (.int (Int32.ofNat i)), .val (.int (Int32.ofNat cs.length)), .val (.int (Int32.ofNat i)), .val (.int (cs.getD i 0))] [(.int 255), (.int (cs.getD i 0))]))
      by_cases hc20_2 : (255 : Int32) < (cs.getD i 0)
      · skip
        refine hG _ _ (fun t_ k_ => XS.icmpNo X.here hx rfl (hb hby d8_20) rfl (tlt hc20_2).2.2.2 k_) ?_
        show G (T.setTop (mkF m 23 #[.val (.ref a), .val (.int (Int32.ofNat i)), .val (.ref b), .val (.int (Int32.ofNat i)), .val (.int (Int32.ofNat cs.length)), .val (.int (Int32.ofNat i)), .val (.int (cs.getD i 0))] []))
        refine hG _ _ (fun t_ k_ => XS.iload X.here hx rfl (hb hby d8_23) rfl k_) ?_
        show G (T.setTop (mkF m 25 #[.val (.ref a), .val (.int (Int32.ofNat i)), .val (.ref b), .val (.int (Int32.ofNat i)), .val (.int (Int32.ofNat cs.length)), .val (.int (Int32.ofNat i)), .val (.int (cs.getD i 0))] [(.int (Int32.ofNat i))]))
        exact own_retI hR hret X hx (hb hby d8_25) (by decide) (by decide) (by rw [eT]; exact ⟨(Int32.ofNat i), vs, rfl, N, K, V, (Or.inr ⟨i, hi, rfl, hc20_2⟩)⟩)
      · skip
        refine hG _ _ (fun t_ k_ => XS.icmpYes X.here hx rfl (pc0 := 20) (pc' := 26) rfl (hb hby d8_20) rfl (flt hc20_2).2.2.2 (by decide) (by decide) k_) ?_
        show G (T.setTop (mkF m 26 #[.val (.ref a), .val (.int (Int32.ofNat i)), .val (.ref b), .val (.int (Int32.ofNat i)), .val (.int (Int32.ofNat cs.length)), .val (.int (Int32.ofNat i)), .val (.int (cs.getD i 0))] []))
        refine hG _ _ (fun t_ k_ => XS.aloadN X.here hx rfl (hb hby d8_26) rfl rfl k_) ?_
        refine hG _ _ (fun t_ k_ => XS.iloadN X.here hx rfl (hb hby d8_27) rfl k_) ?_
        refine hG _ _ (fun t_ k_ => XS.iload X.here hx rfl (hb hby d8_28) rfl k_) ?_
        refine hG _ _ (fun t_ k_ => XS.i2b X.here hx rfl (hb hby d8_30) rfl k_) ?_
        show G (T.setTop (mkF m 31 #[.val (.ref a), .val (.int (Int32.ofNat i)), .val (.ref b), .val (.int (Int32.ofNat i)), .val (.int (Int32.ofNat cs.length)), .val (.int (Int32.ofNat i)), .val (.int (cs.getD i 0))] [(.int ((cs.getD i 0).toInt8.toInt32)), (.int (Int32.ofNat i)), (.ref b)]))
        obtain ⟨c3, Ar3, q3, S3, M3, H3, G3⟩ := id V
        obtain ⟨T3, h3, X3, e3, W3, st3⟩ := stB X hx hZ eT Ar3 (j := (Int32.ofNat i)) (inb_of S3 ⟨own_nn (by omega), own_lt hi g4_hlen⟩) (g := (mkF m 31 #[.val (.ref a), .val (.int (Int32.ofNat i)), .val (.ref b), .val (.int (Int32.ofNat i)), .val (.int (Int32.ofNat cs.length)), .val (.int (Int32.ofNat i)), .val (.int (cs.getD i 0))] [(.int ((cs.getD i 0).toInt8.toInt32)), (.int (Int32.ofNat i)), (.ref b)])) rfl rfl (hb hby d8_31)
        refine hG _ _ st3 ?_
        have K3 : Keep h0 h3 [b] := K.wr W3 (Or.inl (List.mem_of_getElem? (i := 0) rfl))
        have O3 : own_Old Z h3 := O.wr W3 g2_G
        have V3 : Arv Z h3 b kb .byte (Int32.ofNat cs.length) (vs.set i (.int (nar .byte ((cs.getD i 0).toInt8.toInt32)))) (.int 0) := Arv.set Ar3 q3 S3 M3 H3 G3 (fits_nar_byte _) W3 i (own_clamp (by omega)) (by omega)
        have N3 := Fr.snoc X3 N g2_G
        show G (T3.setTop (mkF m 32 #[.val (.ref a), .val (.int (Int32.ofNat i)), .val (.ref b), .val (.int (Int32.ofNat i)), .val (.int (Int32.ofNat cs.length)), .val (.int (Int32.ofNat i)), .val (.int (cs.getD i 0))] []))
        refine hG _ _ (fun t_ k_ => XS.iinc X3.here hx rfl (hb hby d8_32) rfl (l' := #[.val (.ref a), .val (.int ((Int32.ofNat i) + (1 : Int32))), .val (.ref b), .val (.int (Int32.ofNat i)), .val (.int (Int32.ofNat cs.length)), .val (.int (Int32.ofNat i)), .val (.int (cs.getD i 0))]) rfl k_) ?_
        refine hG _ _ (fun t_ k_ => XS.iinc X3.here hx rfl (hb hby d8_35) rfl (l' := #[.val (.ref a), .val (.int ((Int32.ofNat i) + (1 : Int32))), .val (.ref b), .val (.int ((Int32.ofNat i) + (1 : Int32))), .val (.int (Int32.ofNat cs.length)), .val (.int (Int32.ofNat i)), .val (.int (cs.getD i 0))]) rfl k_) ?_
        refine hG _ _ (fun t_ k_ => XS.iinc X3.here hx rfl (hb hby d8_38) rfl (l' := #[.val (.ref a), .val (.int ((Int32.ofNat i) + (1 : Int32))), .val (.ref b), .val (.int ((Int32.ofNat i) + (1 : Int32))), .val (.int (Int32.ofNat cs.length)), .val (.int ((Int32.ofNat i) + (1 : Int32))), .val (.int (cs.getD i 0))]) rfl k_) ?_
        refine hG _ _ (fun t_ k_ => XS.goto X3.here hx rfl (pc0 := 41) (pc' := 3) rfl (hb hby d8_41) (by decide) (by decide) k_) ?_
        show G (T3.setTop (mkF m 3 #[.val (.ref a), .val (.int ((Int32.ofNat i) + (1 : Int32))), .val (.ref b), .val (.int ((Int32.ofNat i) + (1 : Int32))), .val (.int (Int32.ofNat cs.length)), .val (.int ((Int32.ofNat i) + (1 : Int32))), .val (.int (cs.getD i 0))] []))
        rw [own_inc i]
        exact ih (i + 1) _ _ _ _ _ (by omega) X3 e3 K3 O3 N3 V3 (by rw [List.length_set]; exact hl) (own_setNext (fun c => Value.int c.toInt8.toInt32) _ _ (by omega) (by rw [own_nb]) hv) (own_nextD (P := fun c => ¬ ((255 : Int32) < c)) hs hc20_2) (One.val rfl)
  exact loop cs.length 0 _ _ _ _ _ rfl X0 e0 (Keep.refl h0 [b]) O0 N0 (g1_V.pad (pad_rep [] (.int 0) cs.length)) (by simp) (fun j hj => absurd hj (Nat.not_lt_zero j)) (fun j hj => absurd hj (Nat.not_lt_zero j)) One.u
theorem own_pd3 : parseMethodDescriptor "(I)I" = some ⟨[.int], some .int⟩ := by decide +kernel
set_option maxRecDepth 65536 in
set_option maxHeartbeats 40000000 in
theorem own_nbl (l : Launch) (Z : State) (a0 : Array Value) (hw : ∀ d ∈ tables_1, d.before a0 Z = true) (n : Nat) (h0 : Heap) (O0 : own_Old Z h0) (g0_hn : n < 1073741823) :
    own_Con l Z (⟨"java/lang/StringUTF16", "newBytesLength", "(I)I"⟩ : MethodName) jdk_52_method_3_code 1 (some .int) [] ({ frames := 0, cells := 0, slots := 0, locals := 0 } : Room) #[(.int (Int32.ofNat n))] h0 (fun rv rh rL => rv = some (.int (Int32.ofNat (2 * n))) ∧ own_Fr Z rL ∧ h0 = rh) := by
  refine own_intro (plainFor_of_name (by first | (simp [plainName, overriddenIn]; done) | decide +kernel)) ?_
  intro p e s m below meth c s₁ G hx hby hml hown hnm hret hZ X0 e0 hG hR
  have N0 := Fr.nil Z.heap.size
  refine own_entry (Ls := #[.val (.int (Int32.ofNat n))]) (by first | (simp [entryFrame, mkF, argsToLocals, Value.category]; done) | rfl) ?_
  show G (s₁.setTop (mkF m 0 #[.val (.int (Int32.ofNat n))] []))
  refine hG _ _ (fun t_ k_ => XS.iloadN X0.here hx rfl (hb hby d11_0) rfl k_) ?_
  show G (s₁.setTop (mkF m 1 #[.val (.int (Int32.ofNat n))] [(.int (Int32.ofNat n))]))
  refine hG _ _ (fun t_ k_ => XS.ifYes X0.here hx rfl (pc0 := 1) (pc' := 12) rfl (hb hby d11_1) rfl ((if0 _ _).trans (flt (own_nn (by omega))).2.1) (by decide) (by decide) k_) ?_
  show G (s₁.setTop (mkF m 12 #[.val (.int (Int32.ofNat n))] []))
  refine hG _ _ (fun t_ k_ => XS.iloadN X0.here hx rfl (hb hby d11_12) rfl k_) ?_
  show G (s₁.setTop (mkF m 13 #[.val (.int (Int32.ofNat n))] [(.int (Int32.ofNat n))]))
  refine hG _ _ (X0.ldcInt hx hown (mvT hZ (ow hw 53 rfl)) (g := (mkF m 13 #[.val (.int (Int32.ofNat n))] [(.int (Int32.ofNat n))])) rfl (hb hby d11_13)) ?_
  show G (s₁.setTop (mkF m 15 #[.val (.int (Int32.ofNat n))] [(.int 1073741823), (.int (Int32.ofNat n))]))
  refine hG _ _ (fun t_ k_ => XS.icmpYes X0.here hx rfl (pc0 := 15) (pc' := 55) rfl (hb hby d11_15) rfl (tlt (own_ltK g0_hn)).1 (by decide) (by decide) k_) ?_
  show G (s₁.setTop (mkF m 55 #[.val (.int (Int32.ofNat n))] []))
  refine hG _ _ (fun t_ k_ => XS.iloadN X0.here hx rfl (hb hby d11_55) rfl k_) ?_
  refine hG _ _ (fun t_ k_ => XS.iconst X0.here hx rfl (hb hby d11_56) k_) ?_
  refine hG _ _ (fun t_ k_ => XS.ishl X0.here hx rfl (hb hby d11_57) rfl k_) ?_
  show G (s₁.setTop (mkF m 58 #[.val (.int (Int32.ofNat n))] [(.int ((Int32.ofNat n) <<< ((1 : Int32) &&& 31)))]))
  exact own_retI hR hret X0 hx (hb hby d11_58) (by decide) (by decide) (by rw [e0]; exact ⟨(by rw [own_shl1]), N0, rfl⟩)
theorem own_pd4 : parseMethodDescriptor "(I)[B" = some ⟨[.int], some (.array .byte)⟩ := by decide +kernel
set_option maxRecDepth 65536 in
set_option maxHeartbeats 40000000 in
theorem own_nbf (l : Launch) (Z : State) (a0 : Array Value) (hw : ∀ d ∈ tables_1, d.before a0 Z = true) (n : Nat) (h0 : Heap) (O0 : own_Old Z h0) (g0_hn : n ≤ 7) :
    own_Con l Z (⟨"java/lang/StringUTF16", "newBytesFor", "(I)[B"⟩ : MethodName) jdk_52_method_2_code 1 (some (.array .byte)) [] ({ frames := 1, cells := 1, slots := 14, locals := 12 } : Room) #[(.int (Int32.ofNat n))] h0 (fun rv rh rL => ∃ (t : Addr) (kt : ClassId), rv = some (.ref t) ∧ own_Fr Z rL ∧ Keep h0 rh [] ∧ h0.size ≤ t ∧ (Arv Z rh t kt .byte (Int32.ofNat (2 * n)) [] (.int 0))) := by
  refine own_intro (plainFor_of_name (by first | (simp [plainName, overriddenIn]; done) | decide +kernel)) ?_
  intro p e s m below meth c s₁ G hx hby hml hown hnm hret hZ X0 e0 hG hR
  have N0 := Fr.nil Z.heap.size
  refine own_entry (Ls := #[.val (.int (Int32.ofNat n))]) (by first | (simp [entryFrame, mkF, argsToLocals, Value.category]; done) | rfl) ?_
  show G (s₁.setTop (mkF m 0 #[.val (.int (Int32.ofNat n))] []))
  refine hG _ _ (fun t_ k_ => XS.iloadN X0.here hx rfl (hb hby d10_0) rfl k_) ?_
  show G (s₁.setTop (mkF m 1 #[.val (.int (Int32.ofNat n))] [(.int (Int32.ofNat n))]))
  refine own_callS X0 hx hZ hG hown (ow hw 50 rfl) (ow hw 51 rfl) (ow hw 39 rfl) (ow hw 52 rfl) (by decide) 0 (own_nbl l Z a0 hw n h0 O0 (by omega)) (by decide) (by decide) e0 (by rw [hml]; rfl) (lenOf own_pd3 rfl) (argsL := [(.int (Int32.ofNat n))]) (rest := []) rfl rfl (Nat.le_of_eq rfl) (hb hby d10_1) (by decide) (by decide) ?_
  intro T1 h1 v1 L1 X1 e1 q1
  obtain ⟨rfl, M1, rfl⟩ := q1
  have N1 := Fr.app N0 M1
  show G (T1.setTop (mkF m 4 #[.val (.int (Int32.ofNat n))] [(.int (Int32.ofNat (2 * n)))]))
  obtain ⟨T2, h2, k2, X2, e2, E2, A2, st2⟩ := newP X1 hx hZ (ow hw 25 rfl) e1 (g := (mkF m 4 #[.val (.int (Int32.ofNat n))] [(.int (Int32.ofNat (2 * n)))])) rfl (hb hby d10_4) rfl (own_nn (by omega)) (cap := 14) (by rw [own_clamp (by omega)]; omega) (by decide) (by decide) (by decide)
  obtain ⟨b2, z2⟩ : ∃ z, z = h0.size := ⟨_, rfl⟩
  rw [← z2] at A2 st2
  refine hG _ _ st2 ?_
  have K2 : Keep h0 h2 [] := (Keep.refl h0 []).ext E2
  have O2 : own_Old Z h2 := O0.ext E2
  have V2 : Arv Z h2 b2 k2 .byte (Int32.ofNat (2 * n)) [] (.int 0) := Arv.new A2 (own_nn (by omega))
  show G (T2.setTop (mkF m 6 #[.val (.int (Int32.ofNat n))] [(.ref b2)]))
  exact own_retA hR hret rfl rfl X2 hx (hb hby d10_6) (by decide) (by decide) (by rw [e2]; exact ⟨b2, k2, rfl, N1, K2, (Nat.le_trans (Keep.refl h0 []).1 (Nat.le_of_eq z2.symm)), V2⟩)
theorem own_pd5 : parseMethodDescriptor "([CII)[B" = some ⟨[(.array .char), .int, .int], some (.array .byte)⟩ := by decide +kernel
set_option maxRecDepth 65536 in
set_option maxHeartbeats 40000000 in
theorem own_tob (l : Launch) (Z : State) (a0 : Array Value) (hw : ∀ d ∈ tables_1, d.before a0 Z = true) (a : Addr) (ka : ClassId) (cs : List Int32) (h0 : Heap) (O0 : own_Old Z h0) (g0_V : Arv Z h0 a ka .char (Int32.ofNat cs.length) (cs.map Value.int) (.int 0)) (g1_hcap : cs.length ≤ 7) (g2_S : Sta Z Z.heap "java/lang/StringUTF16" "$assertionsDisabled" "Z" (.int 1)) (g3_S : Sta Z Z.heap "java/lang/StringUTF16" "HI_BYTE_SHIFT" "I" (.int 0)) (g4_S : Sta Z Z.heap "java/lang/StringUTF16" "LO_BYTE_SHIFT" "I" (.int 8)) :
    own_Con l Z (⟨"java/lang/StringUTF16", "toBytes", "([CII)[B"⟩ : MethodName) jdk_52_method_14_code 5 (some (.array .byte)) [] ({ frames := 2, cells := 1, slots := 14, locals := 24 } : Room) #[(.ref a), (.int 0), (.int (Int32.ofNat cs.length))] h0 (fun rv rh rL => ∃ (t : Addr) (kt : ClassId) (vs : List Value), rv = some (.ref t) ∧ own_Fr Z rL ∧ Keep h0 rh [] ∧ h0.size ≤ t ∧ (Arv Z rh t kt .byte (Int32.ofNat (2 * cs.length)) vs (.int 0)) ∧ (own_is16 cs vs)) := by
  refine own_intro (plainFor_of_name (by first | (simp [plainName, overriddenIn]; done) | decide +kernel)) ?_
  intro p e s m below meth c s₁ G hx hby hml hown hnm hret hZ X0 e0 hG hR
  have N0 := Fr.nil Z.heap.size
  refine own_entry (Ls := #[.val (.ref a), .val (.int 0), .val (.int (Int32.ofNat cs.length)), .unset, .unset]) (by first | (simp [entryFrame, mkF, argsToLocals, Value.category]; done) | rfl) ?_
  show G (s₁.setTop (mkF m 0 #[.val (.ref a), .val (.int 0), .val (.int (Int32.ofNat cs.length)), .unset, .unset] []))
  refine hG _ _ (fun t_ k_ => XS.iloadN X0.here hx rfl (hb hby d9_0) rfl k_) ?_
  show G (s₁.setTop (mkF m 1 #[.val (.ref a), .val (.int 0), .val (.int (Int32.ofNat cs.length)), .unset, .unset] [(.int (Int32.ofNat cs.length))]))
  refine own_callS X0 hx hZ hG hown (ow hw 47 rfl) (ow hw 48 rfl) (ow hw 39 rfl) (ow hw 49 rfl) (by decide) 0 (own_nbf l Z a0 hw cs.length h0 O0 g1_hcap) (by decide) (by decide) e0 (by rw [hml]; rfl) (lenOf own_pd4 rfl) (argsL := [(.int (Int32.ofNat cs.length))]) (rest := []) rfl rfl (Nat.le_of_eq rfl) (hb hby d9_1) (by decide) (by decide) ?_
  intro T1 h1 v1 L1 X1 e1 q1
  obtain ⟨t_1, kt_1, rfl, M1, J1, y1_0, r1_0⟩ := q1
  have N1 := Fr.app N0 M1
  have K1 : Keep h0 h1 [] := (Keep.refl h0 []).trans J1 all0
  have O1 : own_Old Z h1 := O0.keep J1 all0
  show G (T1.setTop (mkF m 4 #[.val (.ref a), .val (.int 0), .val (.int (Int32.ofNat cs.length)), .unset, .unset] [(.ref t_1)]))
  refine hG _ _ (fun t_ k_ => XS.astoreN X1.here hx rfl (hb hby d9_4) rfl rfl (l' := #[.val (.ref a), .val (.int 0), .val (.int (Int32.ofNat cs.length)), .val (.ref t_1), .unset]) rfl k_) ?_
  refine hG _ _ (fun t_ k_ => XS.iconst X1.here hx rfl (hb hby d9_5) k_) ?_
  refine hG _ _ (fun t_ k_ => XS.istore X1.here hx rfl (hb hby d9_6) rfl (l' := #[.val (.ref a), .val (.int 0), .val (.int (Int32.ofNat cs.length)), .val (.ref t_1), .val (.int 0)]) rfl k_) ?_
  show G (T1.setTop (mkF m 8 #[.val (.ref a), .val (.int 0), .val (.int (Int32.ofNat cs.length)), .val (.ref t_1), .val (.int 0)] []))
  have loop : ∀ (r i : Nat) (T : State) (locs : List Loc) (hT : Heap) (vs : List Value), r + i = cs.length → Stand p l e ({ frames := 2, cells := 1, slots := 14, locals := 24 } : Room) s m #[(.ref a), (.int 0), (.int (Int32.ofNat cs.length))] below meth c T locs 1 14 → T.heap = hT → Keep h0 hT [] → own_Old Z hT → own_Fr Z locs → Arv Z hT t_1 kt_1 .byte (Int32.ofNat (2 * cs.length)) vs (.int 0) → vs.length = 2 * cs.length → (∀ j, j < i → vs.getD (2 * j) (.int 0) = .int (own_lo (cs.getD j 0)) ∧ vs.getD (2 * j + 1) (.int 0) = .int (own_hi (cs.getD j 0))) → G (T.setTop (mkF m 8 #[.val (.ref a), .val (.int (Int32.ofNat i)), .val (.int (Int32.ofNat cs.length)), .val (.ref t_1), .val (.int (Int32.ofNat i))] [])) := by
    intro r
    induction r with
    | zero =>
      intro i T locs hT vs hri X eT K O N V hl hv
      have hi : i = cs.length := by omega
      subst hi
      refine hG _ _ (fun t_ k_ => XS.iload X.here hx rfl (hb hby d9_8) rfl k_) ?_
      refine hG _ _ (fun t_ k_ => XS.iloadN X.here hx rfl (hb hby d9_10) rfl k_) ?_
      show G (T.setTop (mkF m 11 #[.val (.ref a), .val (.int (Int32.ofNat cs.length)), .val (.int (Int32.ofNat cs.length)), .val (.ref t_1), .val (.int (Int32.ofNat cs.length))] [(.int (Int32.ofNat cs.length)), (.int (Int32.ofNat cs.length))]))
      refine hG _ _ (fun t_ k_ => XS.icmpYes X.here hx rfl (pc0 := 11) (pc' := 32) rfl (hb hby d9_11) rfl (flt (own_nlt (Nat.le_refl _) (by omega))).2.1 (by decide) (by decide) k_) ?_
      show G (T.setTop (mkF m 32 #[.val (.ref a), .val (.int (Int32.ofNat cs.length)), .val (.int (Int32.ofNat cs.length)), .val (.ref t_1), .val (.int (Int32.ofNat cs.length))] []))
      refine hG _ _ (fun t_ k_ => XS.aloadN X.here hx rfl (hb hby d9_32) rfl rfl k_) ?_
      show G (T.setTop (mkF m 33 #[.val (.ref a), .val (.int (Int32.ofNat cs.length)), .val (.int (Int32.ofNat cs.length)), .val (.ref t_1), .val (.int (Int32.ofNat cs.length))] [(.ref t_1)]))
      exact own_retA hR hret rfl rfl X hx (hb hby d9_33) (by decide) (by decide) (by rw [eT]; exact ⟨t_1, kt_1, vs, rfl, N, K, (Nat.le_trans (Keep.refl h0 []).1 y1_0), V, ⟨hl, hv⟩⟩)
    | succ r ih =>
      intro i T locs hT vs hri X eT K O N V hl hv
      have hi : i < cs.length := by omega
      refine hG _ _ (fun t_ k_ => XS.iload X.here hx rfl (hb hby d9_8) rfl k_) ?_
      refine hG _ _ (fun t_ k_ => XS.iloadN X.here hx rfl (hb hby d9_10) rfl k_) ?_
      show G (T.setTop (mkF m 11 #[.val (.ref a), .val (.int (Int32.ofNat i)), .val (.int (Int32.ofNat cs.length)), .val (.ref t_1), .val (.int (Int32.ofNat i))] [(.int (Int32.ofNat cs.length)), (.int (Int32.ofNat i))]))
      refine hG _ _ (fun t_ k_ => XS.icmpNo X.here hx rfl (hb hby d9_11) rfl (tlt (own_lt hi (by omega))).2.1 k_) ?_
      show G (T.setTop (mkF m 14 #[.val (.ref a), .val (.int (Int32.ofNat i)), .val (.int (Int32.ofNat cs.length)), .val (.ref t_1), .val (.int (Int32.ofNat i))] []))
      refine hG _ _ (fun t_ k_ => XS.aloadN X.here hx rfl (hb hby d9_14) rfl rfl k_) ?_
      refine hG _ _ (fun t_ k_ => XS.iload X.here hx rfl (hb hby d9_15) rfl k_) ?_
      refine hG _ _ (fun t_ k_ => XS.aloadN X.here hx rfl (hb hby d9_17) rfl rfl k_) ?_
      refine hG _ _ (fun t_ k_ => XS.iloadN X.here hx rfl (hb hby d9_18) rfl k_) ?_
      show G (T.setTop (mkF m 19 #[.val (.ref a), .val (.int (Int32.ofNat i)), .val (.int (Int32.ofNat cs.length)), .val (.ref t_1), .val (.int (Int32.ofNat i))] [(.int (Int32.ofNat i)), (.ref a), (.int (Int32.ofNat i)), (.ref t_1)]))
      obtain ⟨c2, Ar2, q2, S2, M2, H2, G2⟩ := id (g0_V.keep K nin0)
      have hin2 : ¬ ((Int32.ofNat i) < 0 ∨ c2.slots.size ≤ (Int32.ofNat i).toNatClampNeg) := inb_of S2 ⟨own_nn (by omega), own_lt hi (by omega)⟩
      refine hG _ _ (X.caload hx (j := (Int32.ofNat i)) (v := (.int (cs.getD i 0))) (by rw [eT]; exact Ar2.1) (State.isArrayOf_alike hZ.alike Ar2.2.1) Ar2.2.2 hin2 (Has.at H2 hin2 (by rw [own_clamp (by omega)]; exact own_getD_map Value.int cs i _ 0 hi)) (g := (mkF m 19 #[.val (.ref a), .val (.int (Int32.ofNat i)), .val (.int (Int32.ofNat cs.length)), .val (.ref t_1), .val (.int (Int32.ofNat i))] [(.int (Int32.ofNat i)), (.ref a), (.int (Int32.ofNat i)), (.ref t_1)])) rfl rfl (hb hby d9_19)) ?_
      show G (T.setTop (mkF m 20 #[.val (.ref a), .val (.int (Int32.ofNat i)), .val (.int (Int32.ofNat cs.length)), .val (.ref t_1), .val (.int (Int32.ofNat i))] [(.int (cs.getD i 0)), (.int (Int32.ofNat i)), (.ref t_1)]))
      refine own_callS X hx hZ hG hown (ow hw 54 rfl) (ow hw 55 rfl) (ow hw 39 rfl) (ow hw 56 rfl) (by decide) 0 (own_put l Z a0 hw t_1 kt_1 (2 * cs.length) vs i (cs.getD i 0) hT O V (own_ge O0 y1_0) (by omega) (by omega) hl g2_S g3_S g4_S) (by decide) (by decide) eT (by rw [hml]; rfl) (lenOf own_pd0 rfl) (argsL := [(.ref t_1), (.int (Int32.ofNat i)), (.int (cs.getD i 0))]) (rest := []) rfl rfl (Nat.le_of_eq rfl) (hb hby d9_20) (by decide) (by decide) ?_
      intro T3 h3 v3 L3 X3 e3 q3
      obtain ⟨rfl, M3, J3, r3_0⟩ := q3
      have N3 := Fr.app N M3
      have K3 : Keep h0 h3 [] := K.trans J3 (allS (Or.inr (Nat.le_trans (Keep.refl h0 []).1 y1_0)) all0)
      have O3 : own_Old Z h3 := O.keep J3 (allS (own_ge O0 y1_0) all0)
      show G (T3.setTop (mkF m 23 #[.val (.ref a), .val (.int (Int32.ofNat i)), .val (.int (Int32.ofNat cs.length)), .val (.ref t_1), .val (.int (Int32.ofNat i))] []))
      refine hG _ _ (fun t_ k_ => XS.iinc X3.here hx rfl (hb hby d9_23) rfl (l' := #[.val (.ref a), .val (.int ((Int32.ofNat i) + (1 : Int32))), .val (.int (Int32.ofNat cs.length)), .val (.ref t_1), .val (.int (Int32.ofNat i))]) rfl k_) ?_
      refine hG _ _ (fun t_ k_ => XS.iinc X3.here hx rfl (hb hby d9_26) rfl (l' := #[.val (.ref a), .val (.int ((Int32.ofNat i) + (1 : Int32))), .val (.int (Int32.ofNat cs.length)), .val (.ref t_1), .val (.int ((Int32.ofNat i) + (1 : Int32)))]) rfl k_) ?_
      refine hG _ _ (fun t_ k_ => XS.goto X3.here hx rfl (pc0 := 29) (pc' := 8) rfl (hb hby d9_29) (by decide) (by decide) k_) ?_
      show G (T3.setTop (mkF m 8 #[.val (.ref a), .val (.int ((Int32.ofNat i) + (1 : Int32))), .val (.int (Int32.ofNat cs.length)), .val (.ref t_1), .val (.int ((Int32.ofNat i) + (1 : Int32)))] []))
      rw [own_inc i]
      exact ih (i + 1) _ _ _ _ (by omega) X3 e3 K3 O3 N3 r3_0 (by rw [List.length_set, List.length_set]; exact hl) (own_set16 hl hi hv)
  exact loop cs.length 0 _ _ _ _ rfl X1 e1 K1 O1 N1 (r1_0.pad (pad_rep [] (.int 0) (2 * cs.length))) (by simp) (fun j hj => absurd hj (Nat.not_lt_zero j))
set_option maxRecDepth 65536 in
set_option maxHeartbeats 40000000 in
theorem own_gcmp3 (l : Launch) (Z : State) (a0 : Array Value) (hw : ∀ d ∈ tables_1, d.before a0 Z = true) (a : Addr) (ka : ClassId) (cs : List Int32) (h0 : Heap) (O0 : own_Old Z h0) (g0_V : Arv Z h0 a ka .char (Int32.ofNat cs.length) (cs.map Value.int) (.int 0)) (g1_hcap : cs.length ≤ 7) (g2_h16 : ∀ c ∈ cs, 0 ≤ c.toInt ∧ c.toInt ≤ 65535) (g3_S : Sta Z Z.heap "java/lang/StringUTF16" "$assertionsDisabled" "Z" (.int 1)) (g4_S : Sta Z Z.heap "java/lang/StringUTF16" "HI_BYTE_SHIFT" "I" (.int 0)) (g5_S : Sta Z Z.heap "java/lang/StringUTF16" "LO_BYTE_SHIFT" "I" (.int 8)) :
    own_Con l Z (⟨"java/lang/StringUTF16", "compress", "([CII)[B"⟩ : MethodName) jdk_52_method_16_code 6 (some (.array .byte)) [] ({ frames := 3, cells := 2, slots := 21, locals := 40 } : Room) #[(.ref a), (.int 0), (.int (Int32.ofNat cs.length))] h0 (fun rv rh rL => ∃ (t : Addr) (kt : ClassId) (nb : Int32) (vs : List Value), rv = some (.ref t) ∧ own_Fr Z rL ∧ Keep h0 rh [] ∧ h0.size ≤ t ∧ (Arv Z rh t kt .byte nb vs (.int 0)) ∧ (((∀ c ∈ cs, ¬ ((255 : Int32) < c)) ∧ nb = (Int32.ofNat cs.length) ∧ vs = (cs.map fun c => Value.int c.toInt8.toInt32)) ∨ ((∃ k, k < cs.length ∧ (255 : Int32) < cs.getD k 0) ∧ nb = (Int32.ofNat (2 * cs.length)) ∧ own_is16 cs vs))) := by
  refine own_intro (plainFor_of_name (by first | (simp [plainName, overriddenIn]; done) | decide +kernel)) ?_
  intro p e s m below meth c s₁ G hx hby hml hown hnm hret hZ X0 e0 hG hR
  have N0 := Fr.nil Z.heap.size
  refine own_entry (Ls := #[.val (.ref a), .val (.int 0), .val (.int (Int32.ofNat cs.length)), .unset, .unset, .unset]) (by first | (simp [entryFrame, mkF, argsToLocals, Value.category]; done) | rfl) ?_
  show G (s₁.setTop (mkF m 0 #[.val (.ref a), .val (.int 0), .val (.int (Int32.ofNat cs.length)), .unset, .unset, .unset] []))
  refine hG _ _ (fun t_ k_ => XS.iloadN X0.here hx rfl (hb hby d7_0) rfl k_) ?_
  show G (s₁.setTop (mkF m 1 #[.val (.ref a), .val (.int 0), .val (.int (Int32.ofNat cs.length)), .unset, .unset, .unset] [(.int (Int32.ofNat cs.length))]))
  obtain ⟨T1, h1, k1, X1, e1, E1, A1, st1⟩ := newP X0 hx hZ (ow hw 25 rfl) e0 (g := (mkF m 1 #[.val (.ref a), .val (.int 0), .val (.int (Int32.ofNat cs.length)), .unset, .unset, .unset] [(.int (Int32.ofNat cs.length))])) rfl (hb hby d7_1) rfl (own_nn (by omega)) (cap := 7) (by rw [own_clamp (by omega)]; exact g1_hcap) (by decide) (by decide) (by decide)
  obtain ⟨b1, z1⟩ : ∃ z, z = h0.size := ⟨_, rfl⟩
  rw [← z1] at A1 st1
  refine hG _ _ st1 ?_
  have K1 : Keep h0 h1 [] := (Keep.refl h0 []).ext E1
  have O1 : own_Old Z h1 := O0.ext E1
  have V1 : Arv Z h1 b1 k1 .byte (Int32.ofNat cs.length) [] (.int 0) := Arv.new A1 (own_nn (by omega))
  show G (T1.setTop (mkF m 3 #[.val (.ref a), .val (.int 0), .val (.int (Int32.ofNat cs.length)), .unset, .unset, .unset] [(.ref b1)]))
  refine hG _ _ (fun t_ k_ => XS.astoreN X1.here hx rfl (hb hby d7_3) rfl rfl (l' := #[.val (.ref a), .val (.int 0), .val (.int (Int32.ofNat cs.length)), .val (.ref b1), .unset, .unset]) rfl k_) ?_
  refine hG _ _ (fun t_ k_ => XS.aloadN X1.here hx rfl (hb hby d7_4) rfl rfl k_) ?_
  refine hG _ _ (fun t_ k_ => XS.iloadN X1.here hx rfl (hb hby d7_5) rfl k_) ?_
  refine hG _ _ (fun t_ k_ => XS.aloadN X1.here hx rfl (hb hby d7_6) rfl rfl k_) ?_
  refine hG _ _ (fun t_ k_ => XS.iconst X1.here hx rfl (hb hby d7_7) k_) ?_
  refine hG _ _ (fun t_ k_ => XS.iloadN X1.here hx rfl (hb hby d7_8) rfl k_) ?_
  show G (T1.setTop (mkF m 9 #[.val (.ref a), .val (.int 0), .val (.int (Int32.ofNat cs.length)), .val (.ref b1), .unset, .unset] [(.int (Int32.ofNat cs.length)), (.int 0), (.ref b1), (.int 0), (.ref a)]))
  have f3 := (g0_V.ext E1)
  refine own_callS X1 hx hZ hG hown (ow hw 41 rfl) (ow hw 42 rfl) (ow hw 39 rfl) (ow hw 43 rfl) (by decide) 0 (own_gcmp5 l Z a0 hw a b1 ka k1 cs h1 O1 f3 V1 (own_ge O0 (Nat.le_of_eq z1.symm)) (own_ne g0_V.lt (Nat.le_of_eq z1.symm)) (by omega)) (by decide) (by decide) e1 (by rw [hml]; rfl) (lenOf own_pd2 rfl) (argsL := [(.ref a), (.int 0), (.ref b1), (.int 0), (.int (Int32.ofNat cs.length))]) (rest := []) rfl rfl (Nat.le_of_eq rfl) (hb hby d7_9) (by decide) (by decide) ?_
  intro T2 h2 v2 L2 X2 e2 q2
  obtain ⟨r_2, vs_2, rfl, M2, J2, r2_0, r2_1⟩ := q2
  have N2 := Fr.app N0 M2
  have K2 : Keep h0 h2 [] := K1.trans J2 (allS (Or.inr (Nat.le_trans (Keep.refl h0 []).1 (Nat.le_of_eq z1.symm))) all0)
  have O2 : own_Old Z h2 := O1.keep J2 (allS (own_ge O0 (Nat.le_of_eq z1.symm)) all0)
  show G (T2.setTop (mkF m 12 #[.val (.ref a), .val (.int 0), .val (.int (Int32.ofNat cs.length)), .val (.ref b1), .unset, .unset] [(.int r_2)]))
  rcases r2_1 with ⟨rfl, hall, rfl⟩ | ⟨kq, hkq, rfl, hbig⟩
  · skip
    show G (T2.setTop (mkF m 12 #[.val (.ref a), .val (.int 0), .val (.int (Int32.ofNat cs.length)), .val (.ref b1), .unset, .unset] [(.int (Int32.ofNat cs.length))]))
    refine hG _ _ (fun t_ k_ => XS.istore X2.here hx rfl (hb hby d7_12) rfl (l' := #[.val (.ref a), .val (.int 0), .val (.int (Int32.ofNat cs.length)), .val (.ref b1), .val (.int (Int32.ofNat cs.length)), .unset]) rfl k_) ?_
    refine hG _ _ (fun t_ k_ => XS.iload X2.here hx rfl (hb hby d7_14) rfl k_) ?_
    refine hG _ _ (fun t_ k_ => XS.iloadN X2.here hx rfl (hb hby d7_16) rfl k_) ?_
    show G (T2.setTop (mkF m 17 #[.val (.ref a), .val (.int 0), .val (.int (Int32.ofNat cs.length)), .val (.ref b1), .val (.int (Int32.ofNat cs.length)), .unset] [(.int (Int32.ofNat cs.length)), (.int (Int32.ofNat cs.length))]))
    refine hG _ _ (fun t_ k_ => XS.icmpYes X2.here hx rfl (pc0 := 17) (pc' := 57) rfl (hb hby d7_17) rfl (teq (rfl : (Int32.ofNat cs.length) = (Int32.ofNat cs.length))).1 (by decide) (by decide) k_) ?_
    show G (T2.setTop (mkF m 57 #[.val (.ref a), .val (.int 0), .val (.int (Int32.ofNat cs.length)), .val (.ref b1), .val (.int (Int32.ofNat cs.length)), .unset] []))
    refine hG _ _ (fun t_ k_ => XS.aloadN X2.here hx rfl (hb hby d7_57) rfl rfl k_) ?_
    show G (T2.setTop (mkF m 58 #[.val (.ref a), .val (.int 0), .val (.int (Int32.ofNat cs.length)), .val (.ref b1), .val (.int (Int32.ofNat cs.length)), .unset] [(.ref b1)]))
    exact own_retA hR hret rfl rfl X2 hx (hb hby d7_58) (by decide) (by decide) (by rw [e2]; exact ⟨b1, k1, (Int32.ofNat cs.length), (cs.map fun c => Value.int c.toInt8.toInt32), rfl, N2, K2, (Nat.le_trans (Keep.refl h0 []).1 (Nat.le_of_eq z1.symm)), r2_0, (Or.inl ⟨hall, rfl, rfl⟩)⟩)
  · skip
    show G (T2.setTop (mkF m 12 #[.val (.ref a), .val (.int 0), .val (.int (Int32.ofNat cs.length)), .val (.ref b1), .unset, .unset] [(.int (Int32.ofNat kq))]))
    refine hG _ _ (fun t_ k_ => XS.istore X2.here hx rfl (hb hby d7_12) rfl (l' := #[.val (.ref a), .val (.int 0), .val (.int (Int32.ofNat cs.length)), .val (.ref b1), .val (.int (Int32.ofNat kq)), .unset]) rfl k_) ?_
    refine hG _ _ (fun t_ k_ => XS.iload X2.here hx rfl (hb hby d7_14) rfl k_) ?_
    refine hG _ _ (fun t_ k_ => XS.iloadN X2.here hx rfl (hb hby d7_16) rfl k_) ?_
    show G (T2.setTop (mkF m 17 #[.val (.ref a), .val (.int 0), .val (.int (Int32.ofNat cs.length)), .val (.ref b1), .val (.int (Int32.ofNat kq)), .unset] [(.int (Int32.ofNat cs.length)), (.int (Int32.ofNat kq))]))
    refine hG _ _ (fun t_ k_ => XS.icmpNo X2.here hx rfl (hb hby d7_17) rfl (feq (own_ofNat_ne hkq (by omega))).1 k_) ?_
    show G (T2.setTop (mkF m 20 #[.val (.ref a), .val (.int 0), .val (.int (Int32.ofNat cs.length)), .val (.ref b1), .val (.int (Int32.ofNat kq)), .unset] []))
    refine hG _ _ (fun t_ k_ => XS.aloadN X2.here hx rfl (hb hby d7_20) rfl rfl k_) ?_
    refine hG _ _ (fun t_ k_ => XS.iloadN X2.here hx rfl (hb hby d7_21) rfl k_) ?_
    refine hG _ _ (fun t_ k_ => XS.iloadN X2.here hx rfl (hb hby d7_22) rfl k_) ?_
    show G (T2.setTop (mkF m 23 #[.val (.ref a), .val (.int 0), .val (.int (Int32.ofNat cs.length)), .val (.ref b1), .val (.int (Int32.ofNat kq)), .unset] [(.int (Int32.ofNat cs.length)), (.int 0), (.ref a)]))
    have f5 := (f3.keep J2 (ninS (own_ne g0_V.lt (Nat.le_of_eq z1.symm)) nin0))
    refine own_callS X2 hx hZ hG hown (ow hw 44 rfl) (ow hw 45 rfl) (ow hw 39 rfl) (ow hw 46 rfl) (by decide) 0 (own_tob l Z a0 hw a ka cs h2 O2 f5 g1_hcap g3_S g4_S g5_S) (by decide) (by decide) e2 (by rw [hml]; rfl) (lenOf own_pd5 rfl) (argsL := [(.ref a), (.int 0), (.int (Int32.ofNat cs.length))]) (rest := []) rfl rfl (Nat.le_of_eq rfl) (hb hby d7_23) (by decide) (by decide) ?_
    intro T4 h4 v4 L4 X4 e4 q4
    obtain ⟨t_4, kt_4, vs_4, rfl, M4, J4, y4_0, r4_0, r4_1⟩ := q4
    have N4 := Fr.app N2 M4
    have K4 : Keep h0 h4 [] := K2.trans J4 all0
    have O4 : own_Old Z h4 := O2.keep J4 all0
    show G (T4.setTop (mkF m 26 #[.val (.ref a), .val (.int 0), .val (.int (Int32.ofNat cs.length)), .val (.ref b1), .val (.int (Int32.ofNat kq)), .unset] [(.ref t_4)]))
    refine hG _ _ (fun t_ k_ => XS.astore X4.here hx rfl (hb hby d7_26) rfl rfl (l' := #[.val (.ref a), .val (.int 0), .val (.int (Int32.ofNat cs.length)), .val (.ref b1), .val (.int (Int32.ofNat kq)), .val (.ref t_4)]) rfl k_) ?_
    refine hG _ _ (fun t_ k_ => XS.aload X4.here hx rfl (hb hby d7_28) rfl rfl k_) ?_
    refine hG _ _ (fun t_ k_ => XS.iload X4.here hx rfl (hb hby d7_30) rfl k_) ?_
    show G (T4.setTop (mkF m 32 #[.val (.ref a), .val (.int 0), .val (.int (Int32.ofNat cs.length)), .val (.ref b1), .val (.int (Int32.ofNat kq)), .val (.ref t_4)] [(.int (Int32.ofNat kq)), (.ref t_4)]))
    refine own_callS X4 hx hZ hG hown (ow hw 60 rfl) (ow hw 61 rfl) (ow hw 39 rfl) (ow hw 62 rfl) (by decide) 0 (own_gch l Z a0 hw t_4 kt_4 (2 * cs.length) vs_4 kq (own_lo (cs.getD kq 0)) (own_hi (cs.getD kq 0)) h4 O4 r4_0 (by omega) (by omega) (r4_1.2 kq hkq).1 (r4_1.2 kq hkq).2 g3_S g4_S g5_S) (by decide) (by decide) e4 (by rw [hml]; rfl) (lenOf own_pd1 rfl) (argsL := [(.ref t_4), (.int (Int32.ofNat kq))]) (rest := []) rfl rfl (Nat.le_of_eq rfl) (hb hby d7_32) (by decide) (by decide) ?_
    intro T6 h6 v6 L6 X6 e6 q6
    obtain ⟨rfl, M6, rfl⟩ := q6
    have N6 := Fr.app N4 M6
    show G (T6.setTop (mkF m 35 #[.val (.ref a), .val (.int 0), .val (.int (Int32.ofNat cs.length)), .val (.ref b1), .val (.int (Int32.ofNat kq)), .val (.ref t_4)] [(.int (own_join (own_lo (cs.getD kq 0)) (own_hi (cs.getD kq 0))))]))
    rw [own_join_eq (g2_h16 _ (own_getD_mem cs kq 0 hkq))]
    show G (T6.setTop (mkF m 35 #[.val (.ref a), .val (.int 0), .val (.int (Int32.ofNat cs.length)), .val (.ref b1), .val (.int (Int32.ofNat kq)), .val (.ref t_4)] [(.int (cs.getD kq 0))]))
    refine hG _ _ (fun t_ k_ => XS.sipush X6.here hx rfl (hb hby d7_35) k_) ?_
    show G (T6.setTop (mkF m 38 #[.val (.ref a), .val (.int 0), .val (.int (Int32.ofNat cs.length)), .val (.ref b1), .val (.int (Int32.ofNat kq)), .val (.ref t_4)] [(.int 255), (.int (cs.getD kq 0))]))
    refine hG _ _ (fun t_ k_ => XS.icmpYes X6.here hx rfl (pc0 := 38) (pc' := 54) rfl (hb hby d7_38) rfl (tlt hbig).2.2.1 (by decide) (by decide) k_) ?_
    show G (T6.setTop (mkF m 54 #[.val (.ref a), .val (.int 0), .val (.int (Int32.ofNat cs.length)), .val (.ref b1), .val (.int (Int32.ofNat kq)), .val (.ref t_4)] []))
    refine hG _ _ (fun t_ k_ => XS.aload X6.here hx rfl (hb hby d7_54) rfl rfl k_) ?_
    show G (T6.setTop (mkF m 56 #[.val (.ref a), .val (.int 0), .val (.int (Int32.ofNat cs.length)), .val (.ref b1), .val (.int (Int32.ofNat kq)), .val (.ref t_4)] [(.ref t_4)]))
    exact own_retA hR hret rfl rfl X6 hx (hb hby d7_56) (by decide) (by decide) (by rw [e6]; exact ⟨t_4, kt_4, (Int32.ofNat (2 * cs.length)), vs_4, rfl, N6, K4, (Nat.le_trans K2.1 y4_0), r4_0, (Or.inr ⟨⟨kq, hkq, hbig⟩, rfl, r4_1⟩)⟩)
theorem own_pd6 : parseMethodDescriptor "([BI)B" = some ⟨[(.array .byte), .int], some .byte⟩ := by decide +kernel
set_option maxRecDepth 65536 in
set_option maxHeartbeats 40000000 in
theorem own_coder (l : Launch) (Z : State) (a0 : Array Value) (hw : ∀ d ∈ tables_1, d.before a0 Z = true) (t : Addr) (n : Int32) (kt : ClassId) (n2 : Int32) (vs : List Value) (r : Int32) (h0 : Heap) (O0 : own_Old Z h0) (g0_V : Arv Z h0 t kt .byte n2 vs (.int 0)) (g1_hr : nar .byte ((((n - n2).toUInt32 >>> ((31 : Int32) &&& 31).toUInt32).toInt32).toInt8.toInt32) = r) :
    own_Con l Z (⟨"java/lang/StringUTF16", "coderFromArrayLen", "([BI)B"⟩ : MethodName) jdk_52_method_15_code 2 (some .byte) [] ({ frames := 0, cells := 0, slots := 0, locals := 0 } : Room) #[(.ref t), (.int n)] h0 (fun rv rh rL => rv = some (.int r) ∧ own_Fr Z rL ∧ h0 = rh) := by
  refine own_intro (plainFor_of_name (by first | (simp [plainName, overriddenIn]; done) | decide +kernel)) ?_
  intro p e s m below meth c s₁ G hx hby hml hown hnm hret hZ X0 e0 hG hR
  have N0 := Fr.nil Z.heap.size
  refine own_entry (Ls := #[.val (.ref t), .val (.int n)]) (by first | (simp [entryFrame, mkF, argsToLocals, Value.category]; done) | rfl) ?_
  show G (s₁.setTop (mkF m 0 #[.val (.ref t), .val (.int n)] []))
  refine hG _ _ (fun t_ k_ => XS.iloadN X0.here hx rfl (hb hby d14_0) rfl k_) ?_
  refine hG _ _ (fun t_ k_ => XS.aloadN X0.here hx rfl (hb hby d14_1) rfl rfl k_) ?_
  show G (s₁.setTop (mkF m 2 #[.val (.ref t), .val (.int n)] [(.ref t), (.int n)]))
  obtain ⟨c1, Ar1, -, S1, M1, -, -⟩ := id g0_V
  refine hG _ _ (X0.arraylength hx (by rw [e0]; exact Ar1.1) (State.isArrayOf_alike hZ.alike Ar1.2.1) (g := (mkF m 2 #[.val (.ref t), .val (.int n)] [(.ref t), (.int n)])) rfl rfl (hb hby d14_2)) ?_
  rw [len_of S1 M1]
  show G (s₁.setTop (mkF m 3 #[.val (.ref t), .val (.int n)] [(.int n2), (.int n)]))
  refine hG _ _ (fun t_ k_ => XS.isub X0.here hx rfl (hb hby d14_3) rfl k_) ?_
  refine hG _ _ (fun t_ k_ => XS.bipush X0.here hx rfl (hb hby d14_4) k_) ?_
  refine hG _ _ (fun t_ k_ => XS.iushr X0.here hx rfl (hb hby d14_6) rfl k_) ?_
  refine hG _ _ (fun t_ k_ => XS.i2b X0.here hx rfl (hb hby d14_7) rfl k_) ?_
  show G (s₁.setTop (mkF m 8 #[.val (.ref t), .val (.int n)] [(.int ((((n - n2).toUInt32 >>> ((31 : Int32) &&& 31).toUInt32).toInt32).toInt8.toInt32))]))
  exact own_retN hR hret (by simp) X0 hx (hb hby d14_8) (by decide) (by decide) (by rw [e0]; exact ⟨(by rw [g1_hr]), N0, rfl⟩)
theorem own_pd7 : parseMethodDescriptor "([CIILjava/lang/Void;)V" = some ⟨[(.array .char), .int, .int, (.object "java/lang/Void")], none⟩ := by decide +kernel
set_option maxRecDepth 65536 in
set_option maxHeartbeats 40000000 in
theorem own_gstr4 (l : Launch) (Z : State) (a0 : Array Value) (hw : ∀ d ∈ tables_1, d.before a0 Z = true) (a : Addr) (u : Addr) (ku : ClassId) (cs : List Int32) (cpt : Int32) (v0 : Value) (v1 : Value) (h0 : Heap) (O0 : own_Old Z h0) (g0_E : Exa Z h0 a "java/lang/String") (g1_F : Fld Z h0 a "java/lang/String" "coder" "B" v0) (g2_F : Fld Z h0 a "java/lang/String" "value" "[B" v1) (g3_G : Z.heap.size ≤ a) (g4_V : Arv Z h0 u ku .char (Int32.ofNat cs.length) (cs.map Value.int) (.int 0)) (g5_hpos : 0 < cs.length) (g6_hcap : cs.length ≤ 7) (g7_h16 : ∀ c ∈ cs, 0 ≤ c.toInt ∧ c.toInt ≤ 65535) (g8_S : Sta Z Z.heap "java/lang/String" "COMPACT_STRINGS" "Z" (.int cpt)) (g9_hcpt : ¬ (cpt = (0 : Int32))) (g10_S : Sta Z Z.heap "java/lang/StringUTF16" "$assertionsDisabled" "Z" (.int 1)) (g11_S : Sta Z Z.heap "java/lang/StringUTF16" "HI_BYTE_SHIFT" "I" (.int 0)) (g12_S : Sta Z Z.heap "java/lang/StringUTF16" "LO_BYTE_SHIFT" "I" (.int 8)) :
    own_Con l Z (⟨"java/lang/String", "<init>", "([CIILjava/lang/Void;)V"⟩ : MethodName) jdk_42_method_149_code 6 none [] ({ frames := 4, cells := 2, slots := 21, locals := 57 } : Room) #[(.ref a), (.ref u), (.int 0), (.int (Int32.ofNat cs.length)), .null] h0 (fun rv rh rL => ∃ (t : Addr) (kt : ClassId) (cd : Int32) (nb : Int32) (vs : List Value), rv = none ∧ own_Fr Z rL ∧ Keep h0 rh [a] ∧ h0.size ≤ t ∧ (Exa Z rh a "java/lang/String") ∧ (Fld Z rh a "java/lang/String" "coder" "B" (.int cd)) ∧ (Fld Z rh a "java/lang/String" "value" "[B" (.ref t)) ∧ (Arv Z rh t kt .byte nb vs (.int 0)) ∧ (own_enc cs cd nb vs)) := by
  refine own_intro (plainFor_of_name (by first | (simp [plainName, overriddenIn]; done) | decide +kernel)) ?_
  intro p e s m below meth c s₁ G hx hby hml hown hnm hret hZ X0 e0 hG hR
  have N0 := Fr.nil Z.heap.size
  refine own_entry (Ls := #[.val (.ref a), .val (.ref u), .val (.int 0), .val (.int (Int32.ofNat cs.length)), .val .null, .unset]) (by first | (simp [entryFrame, mkF, argsToLocals, Value.category]; done) | rfl) ?_
  show G (s₁.setTop (mkF m 0 #[.val (.ref a), .val (.ref u), .val (.int 0), .val (.int (Int32.ofNat cs.length)), .val .null, .unset] []))
  refine hG _ _ (fun t_ k_ => XS.aloadN X0.here hx rfl (hb hby d4_0) rfl rfl k_) ?_
  show G (s₁.setTop (mkF m 1 #[.val (.ref a), .val (.ref u), .val (.int 0), .val (.int (Int32.ofNat cs.length)), .val .null, .unset] [(.ref a)]))
  obtain ⟨T1, X1, e1, st1⟩ := initO X0 hx hZ hown (ow hw 21 rfl) (ow hw 22 rfl) (ow hw 23 rfl) e0 (g := (mkF m 1 #[.val (.ref a), .val (.ref u), .val (.int 0), .val (.int (Int32.ofNat cs.length)), .val .null, .unset] [(.ref a)])) rfl (by rw [hml]; rfl) rfl (hb hby d4_1) (by decide) (W := 0) (by show 2 * 0 + _ ≤ _; exact Nat.le_of_eq rfl) (by decide)
  refine hG _ _ st1 ?_
  show G (T1.setTop (mkF m 4 #[.val (.ref a), .val (.ref u), .val (.int 0), .val (.int (Int32.ofNat cs.length)), .val .null, .unset] []))
  refine hG _ _ (fun t_ k_ => XS.iloadN X1.here hx rfl (hb hby d4_4) rfl k_) ?_
  show G (T1.setTop (mkF m 5 #[.val (.ref a), .val (.ref u), .val (.int 0), .val (.int (Int32.ofNat cs.length)), .val .null, .unset] [(.int (Int32.ofNat cs.length))]))
  refine hG _ _ (fun t_ k_ => XS.ifYes X1.here hx rfl (pc0 := 5) (pc' := 27) rfl (hb hby d4_5) rfl ((if0 _ _).trans (feq (fun q => Nat.ne_of_gt g5_hpos (own_ofNat_inj (by omega) (by decide) q))).2) (by decide) (by decide) k_) ?_
  show G (T1.setTop (mkF m 27 #[.val (.ref a), .val (.ref u), .val (.int 0), .val (.int (Int32.ofNat cs.length)), .val .null, .unset] []))
  obtain ⟨T2, X2, e2, st2⟩ := getS2 X1 hx hZ hown (host := "") (Or.inl (ow hw 36 rfl)) Via.refl e1 (own_sta g8_S O0) (g := (mkF m 27 #[.val (.ref a), .val (.ref u), .val (.int 0), .val (.int (Int32.ofNat cs.length)), .val .null, .unset] [])) rfl (hb hby d4_27)
  refine hG _ _ st2 ?_
  show G (T2.setTop (mkF m 30 #[.val (.ref a), .val (.ref u), .val (.int 0), .val (.int (Int32.ofNat cs.length)), .val .null, .unset] [(.int cpt)]))
  refine hG _ _ (fun t_ k_ => XS.ifNo X2.here hx rfl (hb hby d4_30) rfl ((if0 _ _).trans (feq g9_hcpt).1) k_) ?_
  show G (T2.setTop (mkF m 33 #[.val (.ref a), .val (.ref u), .val (.int 0), .val (.int (Int32.ofNat cs.length)), .val .null, .unset] []))
  refine hG _ _ (fun t_ k_ => XS.aloadN X2.here hx rfl (hb hby d4_33) rfl rfl k_) ?_
  refine hG _ _ (fun t_ k_ => XS.iloadN X2.here hx rfl (hb hby d4_34) rfl k_) ?_
  refine hG _ _ (fun t_ k_ => XS.iloadN X2.here hx rfl (hb hby d4_35) rfl k_) ?_
  show G (T2.setTop (mkF m 36 #[.val (.ref a), .val (.ref u), .val (.int 0), .val (.int (Int32.ofNat cs.length)), .val .null, .unset] [(.int (Int32.ofNat cs.length)), (.int 0), (.ref u)]))
  refine own_callS X2 hx hZ hG hown (ow hw 37 rfl) (ow hw 38 rfl) (ow hw 39 rfl) (ow hw 40 rfl) (by decide) 0 (own_gcmp3 l Z a0 hw u ku cs h0 O0 g4_V g6_hcap g7_h16 g10_S g11_S g12_S) (by decide) (by decide) e2 (by rw [hml]; rfl) (lenOf own_pd5 rfl) (argsL := [(.ref u), (.int 0), (.int (Int32.ofNat cs.length))]) (rest := []) rfl rfl (Nat.le_of_eq rfl) (hb hby d4_36) (by decide) (by decide) ?_
  intro T3 h3 v3 L3 X3 e3 q3
  obtain ⟨t_3, kt_3, nb_3, vs_3, rfl, M3, J3, y3_0, r3_0, r3_1⟩ := q3
  have N3 := Fr.app N0 M3
  have K3 : Keep h0 h3 [a] := (Keep.refl h0 [a]).trans J3 all0
  have O3 : own_Old Z h3 := O0.keep J3 all0
  show G (T3.setTop (mkF m 39 #[.val (.ref a), .val (.ref u), .val (.int 0), .val (.int (Int32.ofNat cs.length)), .val .null, .unset] [(.ref t_3)]))
  rcases r3_1 with ⟨hall, rfl, rfl⟩ | ⟨hbig, rfl, h16⟩
  · skip
    show G (T3.setTop (mkF m 39 #[.val (.ref a), .val (.ref u), .val (.int 0), .val (.int (Int32.ofNat cs.length)), .val .null, .unset] [(.ref t_3)]))
    refine hG _ _ (fun t_ k_ => XS.astore X3.here hx rfl (hb hby d4_39) rfl rfl (l' := #[.val (.ref a), .val (.ref u), .val (.int 0), .val (.int (Int32.ofNat cs.length)), .val .null, .val (.ref t_3)]) rfl k_) ?_
    refine hG _ _ (fun t_ k_ => XS.aloadN X3.here hx rfl (hb hby d4_41) rfl rfl k_) ?_
    refine hG _ _ (fun t_ k_ => XS.aload X3.here hx rfl (hb hby d4_42) rfl rfl k_) ?_
    refine hG _ _ (fun t_ k_ => XS.iloadN X3.here hx rfl (hb hby d4_44) rfl k_) ?_
    show G (T3.setTop (mkF m 45 #[.val (.ref a), .val (.ref u), .val (.int 0), .val (.int (Int32.ofNat cs.length)), .val .null, .val (.ref t_3)] [(.int (Int32.ofNat cs.length)), (.ref t_3), (.ref a)]))
    refine own_callS X3 hx hZ hG hown (ow hw 63 rfl) (ow hw 64 rfl) (ow hw 39 rfl) (ow hw 65 rfl) (by decide) 1 (own_coder l Z a0 hw t_3 (Int32.ofNat cs.length) kt_3 (Int32.ofNat cs.length) (cs.map fun c => Value.int c.toInt8.toInt32) (0 : Int32) h3 O3 r3_0 (own_coder0 _)) (by decide) (by decide) e3 (by rw [hml]; rfl) (lenOf own_pd6 rfl) (argsL := [(.ref t_3), (.int (Int32.ofNat cs.length))]) (rest := [(.ref a)]) rfl rfl (Nat.le_of_eq rfl) (hb hby d4_45) (by decide) (by decide) ?_
    intro T4 h4 v4 L4 X4 e4 q4
    obtain ⟨rfl, M4, rfl⟩ := q4
    have N4 := Fr.app N3 M4
    show G (T4.setTop (mkF m 48 #[.val (.ref a), .val (.ref u), .val (.int 0), .val (.int (Int32.ofNat cs.length)), .val .null, .val (.ref t_3)] [(.int 0), (.ref a)]))
    have f6 := (g1_F.keep J3 nin0)
    have f7 := (g0_E.keep J3)
    obtain ⟨T5, h5, X5, e5, W5, st5⟩ := putFN X4 hx hZ hown (ow hw 31 rfl) Via.refl e4 f6 f7 (Or.inr ⟨(ow hw 27 rfl), rfl, hnm⟩) (ow hw 12 rfl) (ty := .byte) (v' := (.int 0)) (by decide) rfl rfl (g := (mkF m 48 #[.val (.ref a), .val (.ref u), .val (.int 0), .val (.int (Int32.ofNat cs.length)), .val .null, .val (.ref t_3)] [(.int 0), (.ref a)])) rfl rfl (hb hby d4_48)
    refine hG _ _ st5 ?_
    have K5 : Keep h0 h5 [a] := K3.wr W5 (Or.inl (List.mem_of_getElem? (i := 0) rfl))
    have O5 : own_Old Z h5 := O3.wr W5 g3_G
    have N5 := Fr.snoc X5 N4 g3_G
    show G (T5.setTop (mkF m 51 #[.val (.ref a), .val (.ref u), .val (.int 0), .val (.int (Int32.ofNat cs.length)), .val .null, .val (.ref t_3)] []))
    refine hG _ _ (fun t_ k_ => XS.aloadN X5.here hx rfl (hb hby d4_51) rfl rfl k_) ?_
    refine hG _ _ (fun t_ k_ => XS.aload X5.here hx rfl (hb hby d4_52) rfl rfl k_) ?_
    show G (T5.setTop (mkF m 54 #[.val (.ref a), .val (.ref u), .val (.int 0), .val (.int (Int32.ofNat cs.length)), .val .null, .val (.ref t_3)] [(.ref t_3), (.ref a)]))
    have f9 := ((g2_F.keep J3 nin0).other W5 (Or.inr (slot_ne (Or.inr (ow hw 26 rfl)) (Or.inr (ow hw 27 rfl)) (by decide) (t := (.array .byte)) (t' := .byte) (by decide) (by decide))))
    have f10 := (f7.wr W5)
    obtain ⟨T8, h8, X8, e8, W8, st8⟩ := putF X5 hx hZ hown (host := "") (Or.inl (ow hw 30 rfl)) Via.refl e5 f9 f10 (Or.inr ⟨(ow hw 26 rfl), rfl, hnm⟩) (ow hw 12 rfl) (ty := (.array .byte)) (by decide) rfl rfl (g := (mkF m 54 #[.val (.ref a), .val (.ref u), .val (.int 0), .val (.int (Int32.ofNat cs.length)), .val .null, .val (.ref t_3)] [(.ref t_3), (.ref a)])) rfl rfl (hb hby d4_54)
    refine hG _ _ st8 ?_
    have K8 : Keep h0 h8 [a] := K5.wr W8 (Or.inl (List.mem_of_getElem? (i := 0) rfl))
    have O8 : own_Old Z h8 := O5.wr W8 g3_G
    have N8 := Fr.snoc X8 N5 g3_G
    show G (T8.setTop (mkF m 57 #[.val (.ref a), .val (.ref u), .val (.int 0), .val (.int (Int32.ofNat cs.length)), .val .null, .val (.ref t_3)] []))
    have f11 := (f10.wr W8)
    have f12 := ((f6.same W5).other W8 (Or.inr (slot_ne (Or.inr (ow hw 27 rfl)) (Or.inr (ow hw 26 rfl)) (by decide) (t := .byte) (t' := (.array .byte)) (by decide) (by decide))))
    have f13 := ((r3_0.other W5 (Ne.symm (own_ne g0_E.lt y3_0))).other W8 (Ne.symm (own_ne g0_E.lt y3_0)))
    exact own_retV hR hret X8 hx (hb hby d4_57) (by decide) (by decide) (by rw [e8]; exact ⟨t_3, kt_3, (0 : Int32), (Int32.ofNat cs.length), (cs.map fun c => Value.int c.toInt8.toInt32), rfl, N8, K8, (Nat.le_trans (Keep.refl h0 [a]).1 y3_0), f11, f12, (f9.same W8), f13, (Or.inl ⟨hall, rfl, rfl, rfl⟩)⟩)
  · skip
    show G (T3.setTop (mkF m 39 #[.val (.ref a), .val (.ref u), .val (.int 0), .val (.int (Int32.ofNat cs.length)), .val .null, .unset] [(.ref t_3)]))
    refine hG _ _ (fun t_ k_ => XS.astore X3.here hx rfl (hb hby d4_39) rfl rfl (l' := #[.val (.ref a), .val (.ref u), .val (.int 0), .val (.int (Int32.ofNat cs.length)), .val .null, .val (.ref t_3)]) rfl k_) ?_
    refine hG _ _ (fun t_ k_ => XS.aloadN X3.here hx rfl (hb hby d4_41) rfl rfl k_) ?_
    refine hG _ _ (fun t_ k_ => XS.aload X3.here hx rfl (hb hby d4_42) rfl rfl k_) ?_
    refine hG _ _ (fun t_ k_ => XS.iloadN X3.here hx rfl (hb hby d4_44) rfl k_) ?_
    show G (T3.setTop (mkF m 45 #[.val (.ref a), .val (.ref u), .val (.int 0), .val (.int (Int32.ofNat cs.length)), .val .null, .val (.ref t_3)] [(.int (Int32.ofNat cs.length)), (.ref t_3), (.ref a)]))
    refine own_callS X3 hx hZ hG hown (ow hw 63 rfl) (ow hw 64 rfl) (ow hw 39 rfl) (ow hw 65 rfl) (by decide) 1 (own_coder l Z a0 hw t_3 (Int32.ofNat cs.length) kt_3 (Int32.ofNat (2 * cs.length)) vs_3 (1 : Int32) h3 O3 r3_0 (own_coder1 g5_hpos (by omega))) (by decide) (by decide) e3 (by rw [hml]; rfl) (lenOf own_pd6 rfl) (argsL := [(.ref t_3), (.int (Int32.ofNat cs.length))]) (rest := [(.ref a)]) rfl rfl (Nat.le_of_eq rfl) (hb hby d4_45) (by decide) (by decide) ?_
    intro T14 h14 v14 L14 X14 e14 q14
    obtain ⟨rfl, M14, rfl⟩ := q14
    have N14 := Fr.app N3 M14
    show G (T14.setTop (mkF m 48 #[.val (.ref a), .val (.ref u), .val (.int 0), .val (.int (Int32.ofNat cs.length)), .val .null, .val (.ref t_3)] [(.int 1), (.ref a)]))
    have f16 := (g1_F.keep J3 nin0)
    have f17 := (g0_E.keep J3)
    obtain ⟨T15, h15, X15, e15, W15, st15⟩ := putFN X14 hx hZ hown (ow hw 31 rfl) Via.refl e14 f16 f17 (Or.inr ⟨(ow hw 27 rfl), rfl, hnm⟩) (ow hw 12 rfl) (ty := .byte) (v' := (.int 1)) (by decide) rfl rfl (g := (mkF m 48 #[.val (.ref a), .val (.ref u), .val (.int 0), .val (.int (Int32.ofNat cs.length)), .val .null, .val (.ref t_3)] [(.int 1), (.ref a)])) rfl rfl (hb hby d4_48)
    refine hG _ _ st15 ?_
    have K15 : Keep h0 h15 [a] := K3.wr W15 (Or.inl (List.mem_of_getElem? (i := 0) rfl))
    have O15 : own_Old Z h15 := O3.wr W15 g3_G
    have N15 := Fr.snoc X15 N14 g3_G
    show G (T15.setTop (mkF m 51 #[.val (.ref a), .val (.ref u), .val (.int 0), .val (.int (Int32.ofNat cs.length)), .val .null, .val (.ref t_3)] []))
    refine hG _ _ (fun t_ k_ => XS.aloadN X15.here hx rfl (hb hby d4_51) rfl rfl k_) ?_
    refine hG _ _ (fun t_ k_ => XS.aload X15.here hx rfl (hb hby d4_52) rfl rfl k_) ?_
    show G (T15.setTop (mkF m 54 #[.val (.ref a), .val (.ref u), .val (.int 0), .val (.int (Int32.ofNat cs.length)), .val .null, .val (.ref t_3)] [(.ref t_3), (.ref a)]))
    have f19 := ((g2_F.keep J3 nin0).other W15 (Or.inr (slot_ne (Or.inr (ow hw 26 rfl)) (Or.inr (ow hw 27 rfl)) (by decide) (t := (.array .byte)) (t' := .byte) (by decide) (by decide))))
    have f20 := (f17.wr W15)
    obtain ⟨T18, h18, X18, e18, W18, st18⟩ := putF X15 hx hZ hown (host := "") (Or.inl (ow hw 30 rfl)) Via.refl e15 f19 f20 (Or.inr ⟨(ow hw 26 rfl), rfl, hnm⟩) (ow hw 12 rfl) (ty := (.array .byte)) (by decide) rfl rfl (g := (mkF m 54 #[.val (.ref a), .val (.ref u), .val (.int 0), .val (.int (Int32.ofNat cs.length)), .val .null, .val (.ref t_3)] [(.ref t_3), (.ref a)])) rfl rfl (hb hby d4_54)
    refine hG _ _ st18 ?_
    have K18 : Keep h0 h18 [a] := K15.wr W18 (Or.inl (List.mem_of_getElem? (i := 0) rfl))
    have O18 : own_Old Z h18 := O15.wr W18 g3_G
    have N18 := Fr.snoc X18 N15 g3_G
    show G (T18.setTop (mkF m 57 #[.val (.ref a), .val (.ref u), .val (.int 0), .val (.int (Int32.ofNat cs.length)), .val .null, .val (.ref t_3)] []))
    have f21 := (f20.wr W18)
    have f22 := ((f16.same W15).other W18 (Or.inr (slot_ne (Or.inr (ow hw 27 rfl)) (Or.inr (ow hw 26 rfl)) (by decide) (t := .byte) (t' := (.array .byte)) (by decide) (by decide))))
    have f23 := ((r3_0.other W15 (Ne.symm (own_ne g0_E.lt y3_0))).other W18 (Ne.symm (own_ne g0_E.lt y3_0)))
    exact own_retV hR hret X18 hx (hb hby d4_57) (by decide) (by decide) (by rw [e18]; exact ⟨t_3, kt_3, (1 : Int32), (Int32.ofNat (2 * cs.length)), vs_3, rfl, N18, K18, (Nat.le_trans (Keep.refl h0 [a]).1 y3_0), f21, f22, (f19.same W18), f23, (Or.inr ⟨hbig, rfl, rfl, h16⟩)⟩)
theorem own_pd8 : parseMethodDescriptor "([C)V" = some ⟨[(.array .char)], none⟩ := by decide +kernel
set_option maxRecDepth 65536 in
set_option maxHeartbeats 40000000 in
theorem own_gstr1 (l : Launch) (Z : State) (a0 : Array Value) (hw : ∀ d ∈ tables_1, d.before a0 Z = true) (a : Addr) (u : Addr) (ku : ClassId) (cs : List Int32) (cpt : Int32) (v0 : Value) (v1 : Value) (h0 : Heap) (O0 : own_Old Z h0) (g0_E : Exa Z h0 a "java/lang/String") (g1_F : Fld Z h0 a "java/lang/String" "coder" "B" v0) (g2_F : Fld Z h0 a "java/lang/String" "value" "[B" v1) (g3_G : Z.heap.size ≤ a) (g4_V : Arv Z h0 u ku .char (Int32.ofNat cs.length) (cs.map Value.int) (.int 0)) (g5_hpos : 0 < cs.length) (g6_hcap : cs.length ≤ 7) (g7_h16 : ∀ c ∈ cs, 0 ≤ c.toInt ∧ c.toInt ≤ 65535) (g8_S : Sta Z Z.heap "java/lang/String" "COMPACT_STRINGS" "Z" (.int cpt)) (g9_hcpt : ¬ (cpt = (0 : Int32))) (g10_S : Sta Z Z.heap "java/lang/StringUTF16" "$assertionsDisabled" "Z" (.int 1)) (g11_S : Sta Z Z.heap "java/lang/StringUTF16" "HI_BYTE_SHIFT" "I" (.int 0)) (g12_S : Sta Z Z.heap "java/lang/StringUTF16" "LO_BYTE_SHIFT" "I" (.int 8)) :
    own_Con l Z (⟨"java/lang/String", "<init>", "([C)V"⟩ : MethodName) jdk_42_method_3_code 2 none [] ({ frames := 5, cells := 2, slots := 21, locals := 74 } : Room) #[(.ref a), (.ref u)] h0 (fun rv rh rL => ∃ (t : Addr) (kt : ClassId) (cd : Int32) (nb : Int32) (vs : List Value), rv = none ∧ own_Fr Z rL ∧ Keep h0 rh [a] ∧ h0.size ≤ t ∧ (Exa Z rh a "java/lang/String") ∧ (Fld Z rh a "java/lang/String" "coder" "B" (.int cd)) ∧ (Fld Z rh a "java/lang/String" "value" "[B" (.ref t)) ∧ (Arv Z rh t kt .byte nb vs (.int 0)) ∧ (own_enc cs cd nb vs)) := by
  refine own_intro (plainFor_of_name (by first | (simp [plainName, overriddenIn]; done) | decide +kernel)) ?_
  intro p e s m below meth c s₁ G hx hby hml hown hnm hret hZ X0 e0 hG hR
  have N0 := Fr.nil Z.heap.size
  refine own_entry (Ls := #[.val (.ref a), .val (.ref u)]) (by first | (simp [entryFrame, mkF, argsToLocals, Value.category]; done) | rfl) ?_
  show G (s₁.setTop (mkF m 0 #[.val (.ref a), .val (.ref u)] []))
  refine hG _ _ (fun t_ k_ => XS.aloadN X0.here hx rfl (hb hby d3_0) rfl rfl k_) ?_
  refine hG _ _ (fun t_ k_ => XS.aloadN X0.here hx rfl (hb hby d3_1) rfl rfl k_) ?_
  refine hG _ _ (fun t_ k_ => XS.iconst X0.here hx rfl (hb hby d3_2) k_) ?_
  refine hG _ _ (fun t_ k_ => XS.aloadN X0.here hx rfl (hb hby d3_3) rfl rfl k_) ?_
  show G (s₁.setTop (mkF m 4 #[.val (.ref a), .val (.ref u)] [(.ref u), (.int 0), (.ref u), (.ref a)]))
  obtain ⟨c1, Ar1, -, S1, M1, -, -⟩ := id g4_V
  refine hG _ _ (X0.arraylength hx (by rw [e0]; exact Ar1.1) (State.isArrayOf_alike hZ.alike Ar1.2.1) (g := (mkF m 4 #[.val (.ref a), .val (.ref u)] [(.ref u), (.int 0), (.ref u), (.ref a)])) rfl rfl (hb hby d3_4)) ?_
  rw [len_of S1 M1]
  show G (s₁.setTop (mkF m 5 #[.val (.ref a), .val (.ref u)] [(.int (Int32.ofNat cs.length)), (.int 0), (.ref u), (.ref a)]))
  refine hG _ _ (fun t_ k_ => XS.aconstNull X0.here hx rfl (hb hby d3_5) k_) ?_
  show G (s₁.setTop (mkF m 6 #[.val (.ref a), .val (.ref u)] [.null, (.int (Int32.ofNat cs.length)), (.int 0), (.ref u), (.ref a)]))
  refine own_callI X0 hx hZ hG hown rfl (ow hw 17 rfl) (ow hw 18 rfl) (ow hw 13 rfl) (ow hw 20 rfl) (by decide) 0 (own_gstr4 l Z a0 hw a u ku cs cpt v0 v1 h0 O0 g0_E g1_F g2_F g3_G g4_V g5_hpos g6_hcap g7_h16 g8_S g9_hcpt g10_S g11_S g12_S) (by decide) (by decide) e0 (by rw [hml]; rfl) (lenOf own_pd7 rfl) (argsL := [(.ref u), (.int 0), (.int (Int32.ofNat cs.length)), .null]) (rest := []) rfl rfl (Nat.le_of_eq rfl) (hb hby d3_6) (by decide) (by decide) ?_
  intro T2 h2 v2 L2 X2 e2 q2
  obtain ⟨t_2, kt_2, cd_2, nb_2, vs_2, rfl, M2, J2, y2_0, r2_0, r2_1, r2_2, r2_3, r2_4⟩ := q2
  have N2 := Fr.app N0 M2
  have K2 : Keep h0 h2 [a] := (Keep.refl h0 [a]).trans J2 (allS (Or.inl (List.mem_of_getElem? (i := 0) rfl)) all0)
  have O2 : own_Old Z h2 := O0.keep J2 (allS g3_G all0)
  show G (T2.setTop (mkF m 9 #[.val (.ref a), .val (.ref u)] []))
  exact own_retV hR hret X2 hx (hb hby d3_9) (by decide) (by decide) (by rw [e2]; exact ⟨t_2, kt_2, cd_2, nb_2, vs_2, rfl, N2, K2, (Nat.le_trans (Keep.refl h0 [a]).1 y2_0), r2_0, r2_1, r2_2, r2_3, r2_4⟩)
set_option maxRecDepth 65536 in
set_option maxHeartbeats 40000000 in
theorem own_str4E (l : Launch) (Z : State) (a0 : Array Value) (hw : ∀ d ∈ tables_1, d.before a0 Z = true) (hEL : EW Z a0 consts_1) (a : Addr) (u : Addr) (v0 : Value) (h0 : Heap) (O0 : own_Old Z h0) (g0_E : Exa Z h0 a "java/lang/String") (g1_F : Fld Z h0 a "java/lang/String" "coder" "B" v0) (g2_F : Fld Z h0 a "java/lang/String" "value" "[B" .null) (g3_G : Z.heap.size ≤ a) :
    own_ConW l Z consts_1 (⟨"java/lang/String", "<init>", "([CIILjava/lang/Void;)V"⟩ : MethodName) jdk_42_method_149_code 6 none [] ({ frames := 1, cells := 2, slots := 4, locals := 12 } : Room) #[(.ref a), (.ref u), (.int 0), (.int 0), .null] h0 (fun rv rh rL => ∃ (t : Addr) (kt : ClassId), rv = none ∧ own_Fr Z rL ∧ Keep h0 rh [a] ∧ (Exa Z rh a "java/lang/String") ∧ (Fld Z rh a "java/lang/String" "coder" "B" (.int 0)) ∧ (Fld Z rh a "java/lang/String" "value" "[B" (.ref t)) ∧ (Arv Z rh t kt .byte (0 : Int32) [] (.int 0))) := by
  refine own_introW hEL (plainFor_of_name (by first | (simp [plainName, overriddenIn]; done) | decide +kernel)) ?_
  intro p e s m below meth c s₁ G hx hby hml hown hnm hret hZ X0 e0 H0 SI0 hG hR
  have N0 := Fr.nil Z.heap.size
  refine own_entry (Ls := #[.val (.ref a), .val (.ref u), .val (.int 0), .val (.int 0), .val .null, .unset]) (by first | (simp [entryFrame, mkF, argsToLocals, Value.category]; done) | rfl) ?_
  show G (s₁.setTop (mkF m 0 #[.val (.ref a), .val (.ref u), .val (.int 0), .val (.int 0), .val .null, .unset] []))
  refine hG _ _ (fun t_ k_ => XS.aloadN X0.here hx rfl (hb hby d4_0) rfl rfl k_) ?_
  show G (s₁.setTop (mkF m 1 #[.val (.ref a), .val (.ref u), .val (.int 0), .val (.int 0), .val .null, .unset] [(.ref a)]))
  obtain ⟨T1, X1, e1, st1⟩ := initO X0 hx hZ hown (ow hw 21 rfl) (ow hw 22 rfl) (ow hw 23 rfl) e0 (g := (mkF m 1 #[.val (.ref a), .val (.ref u), .val (.int 0), .val (.int 0), .val .null, .unset] [(.ref a)])) rfl (by rw [hml]; rfl) rfl (hb hby d4_1) (by decide) (W := 0) (by show 2 * 0 + _ ≤ _; exact Nat.le_of_eq rfl) (by decide)
  refine hG _ _ st1 ?_
  show G (T1.setTop (mkF m 4 #[.val (.ref a), .val (.ref u), .val (.int 0), .val (.int 0), .val .null, .unset] []))
  refine hG _ _ (fun t_ k_ => XS.iloadN X1.here hx rfl (hb hby d4_4) rfl k_) ?_
  show G (T1.setTop (mkF m 5 #[.val (.ref a), .val (.ref u), .val (.int 0), .val (.int 0), .val .null, .unset] [(.int 0)]))
  refine hG _ _ (fun t_ k_ => XS.ifNo X1.here hx rfl (hb hby d4_5) rfl ((if0 _ _).trans (teq (rfl : (0 : Int32) = (0 : Int32))).2) k_) ?_
  show G (T1.setTop (mkF m 8 #[.val (.ref a), .val (.ref u), .val (.int 0), .val (.int 0), .val .null, .unset] []))
  refine hG _ _ (fun t_ k_ => XS.aloadN X1.here hx rfl (hb hby d4_8) rfl rfl k_) ?_
  show G (T1.setTop (mkF m 9 #[.val (.ref a), .val (.ref u), .val (.int 0), .val (.int 0), .val .null, .unset] [(.ref a)]))
  obtain ⟨a2, T2, h2, k2, b2, kc2, X2, e2, E2, SI2, hk2, hZ2, hown2, Ea2, Fc2, Fv2, V2, la2, lb2, Y2, Li2, Nq2, st2⟩ := ldcCH X1 hx hZ hown (ow hw 24 rfl) (own_wS hw) e1 SI0 (Nat.le_refl _) hEL (List.mem_of_getElem? (i := 1) rfl) H0 (vs := []) (z := (0 : Int32)) ⟨by decide, by decide⟩ (by decide) rfl (g := (mkF m 9 #[.val (.ref a), .val (.ref u), .val (.int 0), .val (.int 0), .val .null, .unset] [(.ref a)])) rfl (hb hby d4_9) (n := 0) (by decide) (by decide) (by decide) (by decide)
  refine hG _ _ st2 ?_
  have R2 := Y2
  have C2 := (CHr.refl H0).trans R2
  have K2 : Keep h0 h2 [a] := (Keep.refl h0 [a]).ext E2
  have O2 : own_Old Z h2 := O0.ext E2
  show G (T2.setTop (mkF m 11 #[.val (.ref a), .val (.ref u), .val (.int 0), .val (.int 0), .val .null, .unset] [(.ref a2), (.ref a)]))
  obtain ⟨T3, X3, e3, st3⟩ := getF X2 hx hZ2 hown2 (host := "") (Or.inl (ow hw 30 rfl)) Via.refl e2 Fv2 (g := (mkF m 11 #[.val (.ref a), .val (.ref u), .val (.int 0), .val (.int 0), .val .null, .unset] [(.ref a2), (.ref a)])) rfl rfl (hb hby d4_11)
  refine hG _ _ st3 ?_
  show G (T3.setTop (mkF m 14 #[.val (.ref a), .val (.ref u), .val (.int 0), .val (.int 0), .val .null, .unset] [(.ref b2), (.ref a)]))
  have f5 := (g2_F.ext E2)
  have f6 := (g0_E.ext E2)
  obtain ⟨T4, h4, X4, e4, W4, st4⟩ := putF X3 hx hZ2 hown2 (host := "") (Or.inl (ow hw 30 rfl)) Via.refl e3 f5 f6 (Or.inr ⟨(ow hw 26 rfl), rfl, hnm⟩) (ow hw 12 rfl) (ty := (.array .byte)) (by decide) rfl rfl (g := (mkF m 14 #[.val (.ref a), .val (.ref u), .val (.int 0), .val (.int 0), .val .null, .unset] [(.ref b2), (.ref a)])) rfl rfl (hb hby d4_14)
  refine hG _ _ st4 ?_
  have sf7 : Safe Z consts_1 _ h2 a := (own_safeStr hZ2.alike f6 f5)
  have R4 := (CHr.wr W4 sf7 R2.1)
  have C4 := C2.trans R4
  have K4 : Keep h0 h4 [a] := K2.wr W4 (Or.inl (List.mem_of_getElem? (i := 0) rfl))
  have O4 : own_Old Z h4 := O2.wr W4 g3_G
  have N4 := Fr.snoc X4 N0 g3_G
  show G (T4.setTop (mkF m 17 #[.val (.ref a), .val (.ref u), .val (.int 0), .val (.int 0), .val .null, .unset] []))
  refine hG _ _ (fun t_ k_ => XS.aloadN X4.here hx rfl (hb hby d4_17) rfl rfl k_) ?_
  show G (T4.setTop (mkF m 18 #[.val (.ref a), .val (.ref u), .val (.int 0), .val (.int 0), .val .null, .unset] [(.ref a)]))
  refine hG _ _ (ldcAgain X4 hx hZ2 hown2 (ow hw 24 rfl) Li2 (g := (mkF m 18 #[.val (.ref a), .val (.ref u), .val (.int 0), .val (.int 0), .val .null, .unset] [(.ref a)])) rfl (hb hby d4_18)) ?_
  show G (T4.setTop (mkF m 20 #[.val (.ref a), .val (.ref u), .val (.int 0), .val (.int 0), .val .null, .unset] [(.ref a2), (.ref a)]))
  have f9 := (Fc2.other W4 (Or.inl (Ne.symm (Nq2 a sf7).1)))
  obtain ⟨T8, X8, e8, st8⟩ := getF X4 hx hZ2 hown2 (host := "") (Or.inl (ow hw 31 rfl)) Via.refl e4 f9 (g := (mkF m 20 #[.val (.ref a), .val (.ref u), .val (.int 0), .val (.int 0), .val .null, .unset] [(.ref a2), (.ref a)])) rfl rfl (hb hby d4_20)
  refine hG _ _ st8 ?_
  show G (T8.setTop (mkF m 23 #[.val (.ref a), .val (.ref u), .val (.int 0), .val (.int 0), .val .null, .unset] [(.int 0), (.ref a)]))
  have f11 := ((g1_F.ext E2).other W4 (Or.inr (slot_ne (Or.inr (ow hw 27 rfl)) (Or.inr (ow hw 26 rfl)) (by decide) (t := .byte) (t' := (.array .byte)) (by decide) (by decide))))
  have f12 := (f6.wr W4)
  obtain ⟨T10, h10, X10, e10, W10, st10⟩ := putFN X8 hx hZ2 hown2 (ow hw 31 rfl) Via.refl e8 f11 f12 (Or.inr ⟨(ow hw 27 rfl), rfl, hnm⟩) (ow hw 12 rfl) (ty := .byte) (v' := (.int 0)) (by decide) rfl rfl (g := (mkF m 23 #[.val (.ref a), .val (.ref u), .val (.int 0), .val (.int 0), .val .null, .unset] [(.int 0), (.ref a)])) rfl rfl (hb hby d4_23)
  refine hG _ _ st10 ?_
  have sf13 := (R4.safe f5.lt sf7)
  have R10 := (CHr.wr W10 sf13 R4.1)
  have C10 := C4.trans R10
  have K10 : Keep h0 h10 [a] := K4.wr W10 (Or.inl (List.mem_of_getElem? (i := 0) rfl))
  have O10 : own_Old Z h10 := O4.wr W10 g3_G
  have N10 := Fr.snoc X10 N4 g3_G
  show G (T10.setTop (mkF m 26 #[.val (.ref a), .val (.ref u), .val (.int 0), .val (.int 0), .val .null, .unset] []))
  have f14 := (f12.wr W10)
  have f15 := ((f5.same W4).other W10 (Or.inr (slot_ne (Or.inr (ow hw 26 rfl)) (Or.inr (ow hw 27 rfl)) (by decide) (t := (.array .byte)) (t' := .byte) (by decide) (by decide))))
  have f16 := ((V2.other W4 (Ne.symm (Nq2 a sf7).2)).other W10 (Ne.symm (Nq2 a sf7).2))
  exact own_retVW hR hret X10 hx (hb hby d4_26) e10 SI2 (Nat.le_trans (Nat.le_trans hk2 R4.2.1) R10.2.1) hZ2 C10 (by decide) (by decide) ⟨b2, kc2, rfl, N10, K10, f14, (f11.same W10), f15, f16⟩
set_option maxRecDepth 65536 in
set_option maxHeartbeats 40000000 in
theorem own_str1E (l : Launch) (Z : State) (a0 : Array Value) (hw : ∀ d ∈ tables_1, d.before a0 Z = true) (hEL : EW Z a0 consts_1) (a : Addr) (u : Addr) (v0 : Value) (ku : ClassId) (h0 : Heap) (O0 : own_Old Z h0) (g0_E : Exa Z h0 a "java/lang/String") (g1_F : Fld Z h0 a "java/lang/String" "coder" "B" v0) (g2_F : Fld Z h0 a "java/lang/String" "value" "[B" .null) (g3_G : Z.heap.size ≤ a) (g4_V : Arv Z h0 u ku .char (0 : Int32) [] (.int 0)) :
    own_ConW l Z consts_1 (⟨"java/lang/String", "<init>", "([C)V"⟩ : MethodName) jdk_42_method_3_code 2 none [] ({ frames := 2, cells := 2, slots := 4, locals := 29 } : Room) #[(.ref a), (.ref u)] h0 (fun rv rh rL => ∃ (t : Addr) (kt : ClassId), rv = none ∧ own_Fr Z rL ∧ Keep h0 rh [a] ∧ (Exa Z rh a "java/lang/String") ∧ (Fld Z rh a "java/lang/String" "coder" "B" (.int 0)) ∧ (Fld Z rh a "java/lang/String" "value" "[B" (.ref t)) ∧ (Arv Z rh t kt .byte (0 : Int32) [] (.int 0))) := by
  refine own_introW hEL (plainFor_of_name (by first | (simp [plainName, overriddenIn]; done) | decide +kernel)) ?_
  intro p e s m below meth c s₁ G hx hby hml hown hnm hret hZ X0 e0 H0 SI0 hG hR
  have N0 := Fr.nil Z.heap.size
  refine own_entry (Ls := #[.val (.ref a), .val (.ref u)]) (by first | (simp [entryFrame, mkF, argsToLocals, Value.category]; done) | rfl) ?_
  show G (s₁.setTop (mkF m 0 #[.val (.ref a), .val (.ref u)] []))
  refine hG _ _ (fun t_ k_ => XS.aloadN X0.here hx rfl (hb hby d3_0) rfl rfl k_) ?_
  refine hG _ _ (fun t_ k_ => XS.aloadN X0.here hx rfl (hb hby d3_1) rfl rfl k_) ?_
  refine hG _ _ (fun t_ k_ => XS.iconst X0.here hx rfl (hb hby d3_2) k_) ?_
  refine hG _ _ (fun t_ k_ => XS.aloadN X0.here hx rfl (hb hby d3_3) rfl rfl k_) ?_
  show G (s₁.setTop (mkF m 4 #[.val (.ref a), .val (.ref u)] [(.ref u), (.int 0), (.ref u), (.ref a)]))
  obtain ⟨c1, Ar1, -, S1, M1, -, -⟩ := id g4_V
  refine hG _ _ (X0.arraylength hx (by rw [e0]; exact Ar1.1) (State.isArrayOf_alike hZ.alike Ar1.2.1) (g := (mkF m 4 #[.val (.ref a), .val (.ref u)] [(.ref u), (.int 0), (.ref u), (.ref a)])) rfl rfl (hb hby d3_4)) ?_
  rw [len_of S1 M1]
  show G (s₁.setTop (mkF m 5 #[.val (.ref a), .val (.ref u)] [(.int 0), (.int 0), (.ref u), (.ref a)]))
  refine hG _ _ (fun t_ k_ => XS.aconstNull X0.here hx rfl (hb hby d3_5) k_) ?_
  show G (s₁.setTop (mkF m 6 #[.val (.ref a), .val (.ref u)] [.null, (.int 0), (.int 0), (.ref u), (.ref a)]))
  refine own_callIW X0 hx hZ hG hown rfl (ow hw 17 rfl) (ow hw 18 rfl) (ow hw 13 rfl) (ow hw 20 rfl) (by decide) 0 (own_str4E l Z a0 hw hEL a u v0 h0 O0 g0_E g1_F g2_F g3_G) (by decide) (by decide) e0 SI0 (Nat.le_refl _) hEL H0 (by rw [hml]; rfl) (lenOf own_pd7 rfl) (argsL := [(.ref u), (.int 0), (.int 0), .null]) (rest := []) rfl rfl (Nat.le_of_eq rfl) (hb hby d3_6) (by decide) (by decide) ?_
  intro T2 h2 v2 L2 X2 e2 SI2 hZ2 hown2 Y2 q2
  obtain ⟨t_2, kt_2, rfl, M2, J2, r2_0, r2_1, r2_2, r2_3⟩ := q2
  have N2 := Fr.app N0 M2
  have R2 := Y2
  have C2 := (CHr.refl H0).trans R2
  have K2 : Keep h0 h2 [a] := (Keep.refl h0 [a]).trans J2 (allS (Or.inl (List.mem_of_getElem? (i := 0) rfl)) all0)
  have O2 : own_Old Z h2 := O0.keep J2 (allS g3_G all0)
  show G (T2.setTop (mkF m 9 #[.val (.ref a), .val (.ref u)] []))
  exact own_retVW hR hret X2 hx (hb hby d3_9) e2 SI2 (Nat.le_refl _) hZ2 C2 (by decide) (by decide) ⟨t_2, kt_2, rfl, N2, K2, r2_0, r2_1, r2_2, r2_3⟩
theorem own_pd9 : parseMethodDescriptor "()Z" = some ⟨[], some .boolean⟩ := by decide +kernel
set_option maxRecDepth 65536 in
set_option maxHeartbeats 40000000 in
theorem own_isl0 (l : Launch) (Z : State) (a0 : Array Value) (hw : ∀ d ∈ tables_1, d.before a0 Z = true) (a : Addr) (cpt : Int32) (h0 : Heap) (O0 : own_Old Z h0) (g0_F : Fld Z h0 a "java/lang/String" "coder" "B" (.int 0)) (g1_S : Sta Z Z.heap "java/lang/String" "COMPACT_STRINGS" "Z" (.int cpt)) (g2_hcpt : ¬ (cpt = (0 : Int32))) :
    own_Con l Z (⟨"java/lang/String", "isLatin1", "()Z"⟩ : MethodName) jdk_42_method_154_code 1 (some .boolean) [] ({ frames := 0, cells := 0, slots := 0, locals := 0 } : Room) #[(.ref a)] h0 (fun rv rh rL => rv = some (.int 1) ∧ own_Fr Z rL ∧ h0 = rh) := by
  refine own_intro (plainFor_of_name (by first | (simp [plainName, overriddenIn]; done) | decide +kernel)) ?_
  intro p e s m below meth c s₁ G hx hby hml hown hnm hret hZ X0 e0 hG hR
  have N0 := Fr.nil Z.heap.size
  refine own_entry (Ls := #[.val (.ref a)]) (by first | (simp [entryFrame, mkF, argsToLocals, Value.category]; done) | rfl) ?_
  show G (s₁.setTop (mkF m 0 #[.val (.ref a)] []))
  obtain ⟨T1, X1, e1, st1⟩ := getS2 X0 hx hZ hown (host := "") (Or.inl (ow hw 36 rfl)) Via.refl e0 (own_sta g1_S O0) (g := (mkF m 0 #[.val (.ref a)] [])) rfl (hb hby d18_0)
  refine hG _ _ st1 ?_
  show G (T1.setTop (mkF m 3 #[.val (.ref a)] [(.int cpt)]))
  refine hG _ _ (fun t_ k_ => XS.ifNo X1.here hx rfl (hb hby d18_3) rfl ((if0 _ _).trans (feq g2_hcpt).1) k_) ?_
  show G (T1.setTop (mkF m 6 #[.val (.ref a)] []))
  refine hG _ _ (fun t_ k_ => XS.aloadN X1.here hx rfl (hb hby d18_6) rfl rfl k_) ?_
  show G (T1.setTop (mkF m 7 #[.val (.ref a)] [(.ref a)]))
  obtain ⟨T2, X2, e2, st2⟩ := getF X1 hx hZ hown (host := "") (Or.inl (ow hw 31 rfl)) Via.refl e1 g0_F (g := (mkF m 7 #[.val (.ref a)] [(.ref a)])) rfl rfl (hb hby d18_7)
  refine hG _ _ st2 ?_
  show G (T2.setTop (mkF m 10 #[.val (.ref a)] [(.int 0)]))
  refine hG _ _ (fun t_ k_ => XS.ifNo X2.here hx rfl (hb hby d18_10) rfl ((if0 _ _).trans (teq (by decide)).2) k_) ?_
  show G (T2.setTop (mkF m 13 #[.val (.ref a)] []))
  refine hG _ _ (fun t_ k_ => XS.iconst X2.here hx rfl (hb hby d18_13) k_) ?_
  refine hG _ _ (fun t_ k_ => XS.goto X2.here hx rfl (pc0 := 14) (pc' := 18) rfl (hb hby d18_14) (by decide) (by decide) k_) ?_
  show G (T2.setTop (mkF m 18 #[.val (.ref a)] [(.int 1)]))
  exact own_retN hR hret (by simp) X2 hx (hb hby d18_18) (by decide) (by decide) (by rw [e2]; exact ⟨rfl, N0, rfl⟩)
set_option maxRecDepth 65536 in
set_option maxHeartbeats 40000000 in
theorem own_isl1 (l : Launch) (Z : State) (a0 : Array Value) (hw : ∀ d ∈ tables_1, d.before a0 Z = true) (a : Addr) (cpt : Int32) (h0 : Heap) (O0 : own_Old Z h0) (g0_F : Fld Z h0 a "java/lang/String" "coder" "B" (.int 1)) (g1_S : Sta Z Z.heap "java/lang/String" "COMPACT_STRINGS" "Z" (.int cpt)) (g2_hcpt : ¬ (cpt = (0 : Int32))) :
    own_Con l Z (⟨"java/lang/String", "isLatin1", "()Z"⟩ : MethodName) jdk_42_method_154_code 1 (some .boolean) [] ({ frames := 0, cells := 0, slots := 0, locals := 0 } : Room) #[(.ref a)] h0 (fun rv rh rL => rv = some (.int 0) ∧ own_Fr Z rL ∧ h0 = rh) := by
  refine own_intro (plainFor_of_name (by first | (simp [plainName, overriddenIn]; done) | decide +kernel)) ?_
  intro p e s m below meth c s₁ G hx hby hml hown hnm hret hZ X0 e0 hG hR
  have N0 := Fr.nil Z.heap.size
  refine own_entry (Ls := #[.val (.ref a)]) (by first | (simp [entryFrame, mkF, argsToLocals, Value.category]; done) | rfl) ?_
  show G (s₁.setTop (mkF m 0 #[.val (.ref a)] []))
  obtain ⟨T1, X1, e1, st1⟩ := getS2 X0 hx hZ hown (host := "") (Or.inl (ow hw 36 rfl)) Via.refl e0 (own_sta g1_S O0) (g := (mkF m 0 #[.val (.ref a)] [])) rfl (hb hby d18_0)
  refine hG _ _ st1 ?_
  show G (T1.setTop (mkF m 3 #[.val (.ref a)] [(.int cpt)]))
  refine hG _ _ (fun t_ k_ => XS.ifNo X1.here hx rfl (hb hby d18_3) rfl ((if0 _ _).trans (feq g2_hcpt).1) k_) ?_
  show G (T1.setTop (mkF m 6 #[.val (.ref a)] []))
  refine hG _ _ (fun t_ k_ => XS.aloadN X1.here hx rfl (hb hby d18_6) rfl rfl k_) ?_
  show G (T1.setTop (mkF m 7 #[.val (.ref a)] [(.ref a)]))
  obtain ⟨T2, X2, e2, st2⟩ := getF X1 hx hZ hown (host := "") (Or.inl (ow hw 31 rfl)) Via.refl e1 g0_F (g := (mkF m 7 #[.val (.ref a)] [(.ref a)])) rfl rfl (hb hby d18_7)
  refine hG _ _ st2 ?_
  show G (T2.setTop (mkF m 10 #[.val (.ref a)] [(.int 1)]))
  refine hG _ _ (fun t_ k_ => XS.ifYes X2.here hx rfl (pc0 := 10) (pc' := 17) rfl (hb hby d18_10) rfl ((if0 _ _).trans (feq (by decide)).2) (by decide) (by decide) k_) ?_
  show G (T2.setTop (mkF m 17 #[.val (.ref a)] []))
  refine hG _ _ (fun t_ k_ => XS.iconst X2.here hx rfl (hb hby d18_17) k_) ?_
  show G (T2.setTop (mkF m 18 #[.val (.ref a)] [(.int 0)]))
  exact own_retN hR hret (by simp) X2 hx (hb hby d18_18) (by decide) (by decide) (by rw [e2]; exact ⟨rfl, N0, rfl⟩)
theorem own_pd10 : parseMethodDescriptor "()B" = some ⟨[], some .byte⟩ := by decide +kernel
set_option maxRecDepth 65536 in
set_option maxHeartbeats 40000000 in
theorem own_cod0 (l : Launch) (Z : State) (a0 : Array Value) (hw : ∀ d ∈ tables_1, d.before a0 Z = true) (a : Addr) (cpt : Int32) (h0 : Heap) (O0 : own_Old Z h0) (g0_F : Fld Z h0 a "java/lang/String" "coder" "B" (.int 0)) (g1_S : Sta Z Z.heap "java/lang/String" "COMPACT_STRINGS" "Z" (.int cpt)) (g2_hcpt : ¬ (cpt = (0 : Int32))) :
    own_Con l Z (⟨"java/lang/String", "coder", "()B"⟩ : MethodName) jdk_42_method_152_code 1 (some .byte) [] ({ frames := 0, cells := 0, slots := 0, locals := 0 } : Room) #[(.ref a)] h0 (fun rv rh rL => rv = some (.int 0) ∧ own_Fr Z rL ∧ h0 = rh) := by
  refine own_intro (plainFor_of_name (by first | (simp [plainName, overriddenIn]; done) | decide +kernel)) ?_
  intro p e s m below meth c s₁ G hx hby hml hown hnm hret hZ X0 e0 hG hR
  have N0 := Fr.nil Z.heap.size
  refine own_entry (Ls := #[.val (.ref a)]) (by first | (simp [entryFrame, mkF, argsToLocals, Value.category]; done) | rfl) ?_
  show G (s₁.setTop (mkF m 0 #[.val (.ref a)] []))
  obtain ⟨T1, X1, e1, st1⟩ := getS2 X0 hx hZ hown (host := "") (Or.inl (ow hw 36 rfl)) Via.refl e0 (own_sta g1_S O0) (g := (mkF m 0 #[.val (.ref a)] [])) rfl (hb hby d16_0)
  refine hG _ _ st1 ?_
  show G (T1.setTop (mkF m 3 #[.val (.ref a)] [(.int cpt)]))
  refine hG _ _ (fun t_ k_ => XS.ifNo X1.here hx rfl (hb hby d16_3) rfl ((if0 _ _).trans (feq g2_hcpt).1) k_) ?_
  show G (T1.setTop (mkF m 6 #[.val (.ref a)] []))
  refine hG _ _ (fun t_ k_ => XS.aloadN X1.here hx rfl (hb hby d16_6) rfl rfl k_) ?_
  show G (T1.setTop (mkF m 7 #[.val (.ref a)] [(.ref a)]))
  obtain ⟨T2, X2, e2, st2⟩ := getF X1 hx hZ hown (host := "") (Or.inl (ow hw 31 rfl)) Via.refl e1 g0_F (g := (mkF m 7 #[.val (.ref a)] [(.ref a)])) rfl rfl (hb hby d16_7)
  refine hG _ _ st2 ?_
  show G (T2.setTop (mkF m 10 #[.val (.ref a)] [(.int 0)]))
  refine hG _ _ (fun t_ k_ => XS.goto X2.here hx rfl (pc0 := 10) (pc' := 14) rfl (hb hby d16_10) (by decide) (by decide) k_) ?_
  show G (T2.setTop (mkF m 14 #[.val (.ref a)] [(.int 0)]))
  exact own_retN hR hret (by simp) X2 hx (hb hby d16_14) (by decide) (by decide) (by rw [e2]; exact ⟨rfl, N0, rfl⟩)
set_option maxRecDepth 65536 in
set_option maxHeartbeats 40000000 in
theorem own_cod1 (l : Launch) (Z : State) (a0 : Array Value) (hw : ∀ d ∈ tables_1, d.before a0 Z = true) (a : Addr) (cpt : Int32) (h0 : Heap) (O0 : own_Old Z h0) (g0_F : Fld Z h0 a "java/lang/String" "coder" "B" (.int 1)) (g1_S : Sta Z Z.heap "java/lang/String" "COMPACT_STRINGS" "Z" (.int cpt)) (g2_hcpt : ¬ (cpt = (0 : Int32))) :
    own_Con l Z (⟨"java/lang/String", "coder", "()B"⟩ : MethodName) jdk_42_method_152_code 1 (some .byte) [] ({ frames := 0, cells := 0, slots := 0, locals := 0 } : Room) #[(.ref a)] h0 (fun rv rh rL => rv = some (.int 1) ∧ own_Fr Z rL ∧ h0 = rh) := by
  refine own_intro (plainFor_of_name (by first | (simp [plainName, overriddenIn]; done) | decide +kernel)) ?_
  intro p e s m below meth c s₁ G hx hby hml hown hnm hret hZ X0 e0 hG hR
  have N0 := Fr.nil Z.heap.size
  refine own_entry (Ls := #[.val (.ref a)]) (by first | (simp [entryFrame, mkF, argsToLocals, Value.category]; done) | rfl) ?_
  show G (s₁.setTop (mkF m 0 #[.val (.ref a)] []))
  obtain ⟨T1, X1, e1, st1⟩ := getS2 X0 hx hZ hown (host := "") (Or.inl (ow hw 36 rfl)) Via.refl e0 (own_sta g1_S O0) (g := (mkF m 0 #[.val (.ref a)] [])) rfl (hb hby d16_0)
  refine hG _ _ st1 ?_
  show G (T1.setTop (mkF m 3 #[.val (.ref a)] [(.int cpt)]))
  refine hG _ _ (fun t_ k_ => XS.ifNo X1.here hx rfl (hb hby d16_3) rfl ((if0 _ _).trans (feq g2_hcpt).1) k_) ?_
  show G (T1.setTop (mkF m 6 #[.val (.ref a)] []))
  refine hG _ _ (fun t_ k_ => XS.aloadN X1.here hx rfl (hb hby d16_6) rfl rfl k_) ?_
  show G (T1.setTop (mkF m 7 #[.val (.ref a)] [(.ref a)]))
  obtain ⟨T2, X2, e2, st2⟩ := getF X1 hx hZ hown (host := "") (Or.inl (ow hw 31 rfl)) Via.refl e1 g0_F (g := (mkF m 7 #[.val (.ref a)] [(.ref a)])) rfl rfl (hb hby d16_7)
  refine hG _ _ st2 ?_
  show G (T2.setTop (mkF m 10 #[.val (.ref a)] [(.int 1)]))
  refine hG _ _ (fun t_ k_ => XS.goto X2.here hx rfl (pc0 := 10) (pc' := 14) rfl (hb hby d16_10) (by decide) (by decide) k_) ?_
  show G (T2.setTop (mkF m 14 #[.val (.ref a)] [(.int 1)]))
  exact own_retN hR hret (by simp) X2 hx (hb hby d16_14) (by decide) (by decide) (by rw [e2]; exact ⟨rfl, N0, rfl⟩)
theorem own_pd11 : parseMethodDescriptor "()I" = some ⟨[], some .int⟩ := by decide +kernel
set_option maxRecDepth 65536 in
set_option maxHeartbeats 40000000 in
theorem own_len (l : Launch) (Z : State) (a0 : Array Value) (hw : ∀ d ∈ tables_1, d.before a0 Z = true) (a : Addr) (t : Addr) (kt : ClassId) (cs : List Int32) (cd : Int32) (nb : Int32) (vs : List Value) (cpt : Int32) (h0 : Heap) (O0 : own_Old Z h0) (g0_E : Exa Z h0 a "java/lang/String") (g1_F : Fld Z h0 a "java/lang/String" "coder" "B" (.int cd)) (g2_F : Fld Z h0 a "java/lang/String" "value" "[B" (.ref t)) (g3_V : Arv Z h0 t kt .byte nb vs (.int 0)) (g4_henc : own_enc cs cd nb vs) (g5_hcap : cs.length ≤ 7) (g6_h16 : ∀ c ∈ cs, 0 ≤ c.toInt ∧ c.toInt ≤ 65535) (g7_S : Sta Z Z.heap "java/lang/String" "COMPACT_STRINGS" "Z" (.int cpt)) (g8_hcpt : ¬ (cpt = (0 : Int32))) :
    own_Con l Z (⟨"java/lang/String", "length", "()I"⟩ : MethodName) jdk_42_method_54_code 1 (some .int) [] ({ frames := 1, cells := 0, slots := 0, locals := 13 } : Room) #[(.ref a)] h0 (fun rv rh rL => rv = some (.int (Int32.ofNat cs.length)) ∧ own_Fr Z rL ∧ h0 = rh) := by
  refine own_intro (plainFor_of_name (by first | (simp [plainName, overriddenIn]; done) | decide +kernel)) ?_
  intro p e s m below meth c s₁ G hx hby hml hown hnm hret hZ X0 e0 hG hR
  have N0 := Fr.nil Z.heap.size
  refine own_entry (Ls := #[.val (.ref a)]) (by first | (simp [entryFrame, mkF, argsToLocals, Value.category]; done) | rfl) ?_
  show G (s₁.setTop (mkF m 0 #[.val (.ref a)] []))
  rcases id g4_henc with ⟨hall, rfl, rfl, rfl⟩ | ⟨hbig, rfl, rfl, h16⟩
  · skip
    show G (s₁.setTop (mkF m 0 #[.val (.ref a)] []))
    refine hG _ _ (fun t_ k_ => XS.aloadN X0.here hx rfl (hb hby d15_0) rfl rfl k_) ?_
    show G (s₁.setTop (mkF m 1 #[.val (.ref a)] [(.ref a)]))
    obtain ⟨T1, X1, e1, st1⟩ := getF X0 hx hZ hown (host := "") (Or.inl (ow hw 30 rfl)) Via.refl e0 g2_F (g := (mkF m 1 #[.val (.ref a)] [(.ref a)])) rfl rfl (hb hby d15_1)
    refine hG _ _ st1 ?_
    show G (T1.setTop (mkF m 4 #[.val (.ref a)] [(.ref t)]))
    obtain ⟨c2, Ar2, -, S2, M2, -, -⟩ := id g3_V
    refine hG _ _ (X1.arraylength hx (by rw [e1]; exact Ar2.1) (State.isArrayOf_alike hZ.alike Ar2.2.1) (g := (mkF m 4 #[.val (.ref a)] [(.ref t)])) rfl rfl (hb hby d15_4)) ?_
    rw [len_of S2 M2]
    show G (T1.setTop (mkF m 5 #[.val (.ref a)] [(.int (Int32.ofNat cs.length))]))
    refine hG _ _ (fun t_ k_ => XS.aloadN X1.here hx rfl (hb hby d15_5) rfl rfl k_) ?_
    show G (T1.setTop (mkF m 6 #[.val (.ref a)] [(.ref a), (.int (Int32.ofNat cs.length))]))
    refine own_callV (C := "java/lang/String") X1 hx hZ hG hown (ow hw 72 rfl) (ow hw 73 rfl) (ow hw 75 rfl) (ow hw 74 rfl) (ow hw 13 rfl) (ow hw 76 rfl) (by decide) 1 (own_cod0 l Z a0 hw a cpt h0 O0 g1_F g7_S g8_hcpt) (by decide) (by decide) e1 g0_E (by rw [hml]; rfl) (lenOf own_pd10 rfl) (argsL := []) (rest := [(.int (Int32.ofNat cs.length))]) rfl rfl (Nat.le_of_eq rfl) (hb hby d15_6) (by decide) (by decide) ?_
    intro T3 h3 v3 L3 X3 e3 q3
    obtain ⟨rfl, M3, rfl⟩ := q3
    have N3 := Fr.app N0 M3
    show G (T3.setTop (mkF m 9 #[.val (.ref a)] [(.int 0), (.int (Int32.ofNat cs.length))]))
    refine hG _ _ (fun t_ k_ => XS.ishr X3.here hx rfl (hb hby d15_9) rfl k_) ?_
    show G (T3.setTop (mkF m 10 #[.val (.ref a)] [(.int ((Int32.ofNat cs.length) >>> ((0 : Int32) &&& 31)))]))
    exact own_retI hR hret X3 hx (hb hby d15_10) (by decide) (by decide) (by rw [e3]; exact ⟨(by rw [own_shr0]), N3, rfl⟩)
  · skip
    show G (s₁.setTop (mkF m 0 #[.val (.ref a)] []))
    refine hG _ _ (fun t_ k_ => XS.aloadN X0.here hx rfl (hb hby d15_0) rfl rfl k_) ?_
    show G (s₁.setTop (mkF m 1 #[.val (.ref a)] [(.ref a)]))
    obtain ⟨T4, X4, e4, st4⟩ := getF X0 hx hZ hown (host := "") (Or.inl (ow hw 30 rfl)) Via.refl e0 g2_F (g := (mkF m 1 #[.val (.ref a)] [(.ref a)])) rfl rfl (hb hby d15_1)
    refine hG _ _ st4 ?_
    show G (T4.setTop (mkF m 4 #[.val (.ref a)] [(.ref t)]))
    obtain ⟨c5, Ar5, -, S5, M5, -, -⟩ := id g3_V
    refine hG _ _ (X4.arraylength hx (by rw [e4]; exact Ar5.1) (State.isArrayOf_alike hZ.alike Ar5.2.1) (g := (mkF m 4 #[.val (.ref a)] [(.ref t)])) rfl rfl (hb hby d15_4)) ?_
    rw [len_of S5 M5]
    show G (T4.setTop (mkF m 5 #[.val (.ref a)] [(.int (Int32.ofNat (2 * cs.length)))]))
    refine hG _ _ (fun t_ k_ => XS.aloadN X4.here hx rfl (hb hby d15_5) rfl rfl k_) ?_
    show G (T4.setTop (mkF m 6 #[.val (.ref a)] [(.ref a), (.int (Int32.ofNat (2 * cs.length)))]))
    refine own_callV (C := "java/lang/String") X4 hx hZ hG hown (ow hw 72 rfl) (ow hw 73 rfl) (ow hw 75 rfl) (ow hw 74 rfl) (ow hw 13 rfl) (ow hw 76 rfl) (by decide) 1 (own_cod1 l Z a0 hw a cpt h0 O0 g1_F g7_S g8_hcpt) (by decide) (by decide) e4 g0_E (by rw [hml]; rfl) (lenOf own_pd10 rfl) (argsL := []) (rest := [(.int (Int32.ofNat (2 * cs.length)))]) rfl rfl (Nat.le_of_eq rfl) (hb hby d15_6) (by decide) (by decide) ?_
    intro T6 h6 v6 L6 X6 e6 q6
    obtain ⟨rfl, M6, rfl⟩ := q6
    have N6 := Fr.app N0 M6
    show G (T6.setTop (mkF m 9 #[.val (.ref a)] [(.int 1), (.int (Int32.ofNat (2 * cs.length)))]))
    refine hG _ _ (fun t_ k_ => XS.ishr X6.here hx rfl (hb hby d15_9) rfl k_) ?_
    show G (T6.setTop (mkF m 10 #[.val (.ref a)] [(.int ((Int32.ofNat (2 * cs.length)) >>> ((1 : Int32) &&& 31)))]))
    exact own_retI hR hret X6 hx (hb hby d15_10) (by decide) (by decide) (by rw [e6]; exact ⟨(by rw [own_shr1 (by omega)]), N6, rfl⟩)
theorem own_pd12 : parseMethodDescriptor "(IILjava/util/function/BiFunction;)I" = some ⟨[.int, .int, (.object "java/util/function/BiFunction")], some .int⟩ := by decide +kernel
set_option maxRecDepth 65536 in
set_option maxHeartbeats 40000000 in
theorem own_pci (l : Launch) (Z : State) (a0 : Array Value) (hw : ∀ d ∈ tables_1, d.before a0 Z = true) (x : Int32) (y : Int32) (fm : Value) (h0 : Heap) (O0 : own_Old Z h0) (g0_hfm : fm.isRef = true) (g1_h1 : ¬ (x < (0 : Int32))) (g2_h2 : x < y) :
    own_Con l Z (⟨"jdk/internal/util/Preconditions", "checkIndex", "(IILjava/util/function/BiFunction;)I"⟩ : MethodName) jdk_41_method_11_code 3 (some .int) [] ({ frames := 0, cells := 0, slots := 0, locals := 0 } : Room) #[(.int x), (.int y), fm] h0 (fun rv rh rL => rv = some (.int x) ∧ own_Fr Z rL ∧ h0 = rh) := by
  refine own_intro (plainFor_of_name (by first | (simp [plainName, overriddenIn]; done) | decide +kernel)) ?_
  intro p e s m below meth c s₁ G hx hby hml hown hnm hret hZ X0 e0 hG hR
  have N0 := Fr.nil Z.heap.size
  refine own_entry (Ls := #[.val (.int x), .val (.int y), .val fm]) (by rcases ref_cases g0_hfm with rfl | ⟨_, rfl⟩ <;> first | (simp [entryFrame, mkF, argsToLocals, Value.category]; done) | rfl) ?_
  show G (s₁.setTop (mkF m 0 #[.val (.int x), .val (.int y), .val fm] []))
  refine hG _ _ (fun t_ k_ => XS.iloadN X0.here hx rfl (hb hby d23_0) rfl k_) ?_
  show G (s₁.setTop (mkF m 1 #[.val (.int x), .val (.int y), .val fm] [(.int x)]))
  refine hG _ _ (fun t_ k_ => XS.ifNo X0.here hx rfl (hb hby d23_1) rfl ((if0 _ _).trans (flt g1_h1).1) k_) ?_
  show G (s₁.setTop (mkF m 4 #[.val (.int x), .val (.int y), .val fm] []))
  refine hG _ _ (fun t_ k_ => XS.iloadN X0.here hx rfl (hb hby d23_4) rfl k_) ?_
  refine hG _ _ (fun t_ k_ => XS.iloadN X0.here hx rfl (hb hby d23_5) rfl k_) ?_
  show G (s₁.setTop (mkF m 6 #[.val (.int x), .val (.int y), .val fm] [(.int y), (.int x)]))
  refine hG _ _ (fun t_ k_ => XS.icmpYes X0.here hx rfl (pc0 := 6) (pc' := 16) rfl (hb hby d23_6) rfl (tlt g2_h2).1 (by decide) (by decide) k_) ?_
  show G (s₁.setTop (mkF m 16 #[.val (.int x), .val (.int y), .val fm] []))
  refine hG _ _ (fun t_ k_ => XS.iloadN X0.here hx rfl (hb hby d23_16) rfl k_) ?_
  show G (s₁.setTop (mkF m 17 #[.val (.int x), .val (.int y), .val fm] [(.int x)]))
  exact own_retI hR hret X0 hx (hb hby d23_17) (by decide) (by decide) (by rw [e0]; exact ⟨rfl, N0, rfl⟩)
theorem own_pd13 : parseMethodDescriptor "(II)V" = some ⟨[.int, .int], none⟩ := by decide +kernel
set_option maxRecDepth 65536 in
set_option maxHeartbeats 40000000 in
theorem own_sci (l : Launch) (Z : State) (a0 : Array Value) (hw : ∀ d ∈ tables_1, d.before a0 Z = true) (x : Int32) (y : Int32) (fmt : Value) (h0 : Heap) (O0 : own_Old Z h0) (g0_h1 : ¬ (x < (0 : Int32))) (g1_h2 : x < y) (g2_hfmt : fmt.isRef = true) (g3_S : Sta Z Z.heap "jdk/internal/util/Preconditions" "SIOOBE_FORMATTER" "Ljava/util/function/BiFunction;" fmt) :
    own_Con l Z (⟨"java/lang/String", "checkIndex", "(II)V"⟩ : MethodName) jdk_42_method_155_code 2 none [] ({ frames := 1, cells := 0, slots := 0, locals := 14 } : Room) #[(.int x), (.int y)] h0 (fun rv rh rL => rv = none ∧ own_Fr Z rL ∧ h0 = rh) := by
  refine own_intro (plainFor_of_name (by first | (simp [plainName, overriddenIn]; done) | decide +kernel)) ?_
  intro p e s m below meth c s₁ G hx hby hml hown hnm hret hZ X0 e0 hG hR
  have N0 := Fr.nil Z.heap.size
  refine own_entry (Ls := #[.val (.int x), .val (.int y)]) (by first | (simp [entryFrame, mkF, argsToLocals, Value.category]; done) | rfl) ?_
  show G (s₁.setTop (mkF m 0 #[.val (.int x), .val (.int y)] []))
  refine hG _ _ (fun t_ k_ => XS.iloadN X0.here hx rfl (hb hby d22_0) rfl k_) ?_
  refine hG _ _ (fun t_ k_ => XS.iloadN X0.here hx rfl (hb hby d22_1) rfl k_) ?_
  show G (s₁.setTop (mkF m 2 #[.val (.int x), .val (.int y)] [(.int y), (.int x)]))
  obtain ⟨T1, X1, e1, st1⟩ := getS2 X0 hx hZ hown (host := "") (Or.inl (ow hw 99 rfl)) Via.refl e0 (own_sta g3_S O0) (g := (mkF m 2 #[.val (.int x), .val (.int y)] [(.int y), (.int x)])) rfl (hb hby d22_2)
  refine hG _ _ st1 ?_
  show G (T1.setTop (mkF m 5 #[.val (.int x), .val (.int y)] [fmt, (.int y), (.int x)]))
  refine own_callS X1 hx hZ hG hown (ow hw 101 rfl) (ow hw 102 rfl) (ow hw 100 rfl) (ow hw 103 rfl) (by decide) 0 (own_pci l Z a0 hw x y fmt h0 O0 g2_hfmt g0_h1 g1_h2) (by decide) (by decide) e1 (by rw [hml]; rfl) (lenOf own_pd12 rfl) (argsL := [(.int x), (.int y), fmt]) (rest := []) rfl rfl (Nat.le_of_eq rfl) (hb hby d22_5) (by decide) (by decide) ?_
  intro T2 h2 v2 L2 X2 e2 q2
  obtain ⟨rfl, M2, rfl⟩ := q2
  have N2 := Fr.app N0 M2
  show G (T2.setTop (mkF m 8 #[.val (.int x), .val (.int y)] [(.int x)]))
  refine hG _ _ (fun t_ k_ => XS.pop X2.here hx rfl (hb hby d22_8) rfl rfl k_) ?_
  show G (T2.setTop (mkF m 9 #[.val (.int x), .val (.int y)] []))
  exact own_retV hR hret X2 hx (hb hby d22_9) (by decide) (by decide) (by rw [e2]; exact ⟨rfl, N2, rfl⟩)
set_option maxRecDepth 65536 in
set_option maxHeartbeats 40000000 in
theorem own_lca (l : Launch) (Z : State) (a0 : Array Value) (hw : ∀ d ∈ tables_1, d.before a0 Z = true) (t : Addr) (kt : ClassId) (cs : List Int32) (i : Nat) (fmt : Value) (h0 : Heap) (O0 : own_Old Z h0) (g0_V : Arv Z h0 t kt .byte (Int32.ofNat cs.length) (cs.map fun c => Value.int c.toInt8.toInt32) (.int 0)) (g1_hcap : cs.length ≤ 7) (g2_h8 : ∀ c ∈ cs, 0 ≤ c.toInt ∧ c.toInt ≤ 255) (g3_hi : i < cs.length) (g4_hfmt : fmt.isRef = true) (g5_S : Sta Z Z.heap "jdk/internal/util/Preconditions" "SIOOBE_FORMATTER" "Ljava/util/function/BiFunction;" fmt) :
    own_Con l Z (⟨"java/lang/StringLatin1", "charAt", "([BI)C"⟩ : MethodName) jdk_43_method_2_code 2 (some .char) [] ({ frames := 2, cells := 0, slots := 0, locals := 27 } : Room) #[(.ref t), (.int (Int32.ofNat i))] h0 (fun rv rh rL => rv = some (.int (cs.getD i 0)) ∧ own_Fr Z rL ∧ h0 = rh) := by
  refine own_intro (plainFor_of_name (by first | (simp [plainName, overriddenIn]; done) | decide +kernel)) ?_
  intro p e s m below meth c s₁ G hx hby hml hown hnm hret hZ X0 e0 hG hR
  have N0 := Fr.nil Z.heap.size
  refine own_entry (Ls := #[.val (.ref t), .val (.int (Int32.ofNat i))]) (by first | (simp [entryFrame, mkF, argsToLocals, Value.category]; done) | rfl) ?_
  show G (s₁.setTop (mkF m 0 #[.val (.ref t), .val (.int (Int32.ofNat i))] []))
  refine hG _ _ (fun t_ k_ => XS.iloadN X0.here hx rfl (hb hby d25_0) rfl k_) ?_
  refine hG _ _ (fun t_ k_ => XS.aloadN X0.here hx rfl (hb hby d25_1) rfl rfl k_) ?_
  show G (s₁.setTop (mkF m 2 #[.val (.ref t), .val (.int (Int32.ofNat i))] [(.ref t), (.int (Int32.ofNat i))]))
  obtain ⟨c1, Ar1, -, S1, M1, -, -⟩ := id g0_V
  refine hG _ _ (X0.arraylength hx (by rw [e0]; exact Ar1.1) (State.isArrayOf_alike hZ.alike Ar1.2.1) (g := (mkF m 2 #[.val (.ref t), .val (.int (Int32.ofNat i))] [(.ref t), (.int (Int32.ofNat i))])) rfl rfl (hb hby d25_2)) ?_
  rw [len_of S1 M1]
  show G (s₁.setTop (mkF m 3 #[.val (.ref t), .val (.int (Int32.ofNat i))] [(.int (Int32.ofNat cs.length)), (.int (Int32.ofNat i))]))
  refine own_callS X0 hx hZ hG hown (ow hw 111 rfl) (ow hw 97 rfl) (ow hw 13 rfl) (ow hw 98 rfl) (by decide) 0 (own_sci l Z a0 hw (Int32.ofNat i) (Int32.ofNat cs.length) fmt h0 O0 (own_nn (by omega)) (own_lt g3_hi (by omega)) g4_hfmt g5_S) (by decide) (by decide) e0 (by rw [hml]; rfl) (lenOf own_pd13 rfl) (argsL := [(.int (Int32.ofNat i)), (.int (Int32.ofNat cs.length))]) (rest := []) rfl rfl (Nat.le_of_eq rfl) (hb hby d25_3) (by decide) (by decide) ?_
  intro T2 h2 v2 L2 X2 e2 q2
  obtain ⟨rfl, M2, rfl⟩ := q2
  have N2 := Fr.app N0 M2
  show G (T2.setTop (mkF m 6 #[.val (.ref t), .val (.int (Int32.ofNat i))] []))
  refine hG _ _ (fun t_ k_ => XS.aloadN X2.here hx rfl (hb hby d25_6) rfl rfl k_) ?_
  refine hG _ _ (fun t_ k_ => XS.iloadN X2.here hx rfl (hb hby d25_7) rfl k_) ?_
  show G (T2.setTop (mkF m 8 #[.val (.ref t), .val (.int (Int32.ofNat i))] [(.int (Int32.ofNat i)), (.ref t)]))
  obtain ⟨c3, Ar3, q3, S3, M3, H3, G3⟩ := id g0_V
  have hin3 : ¬ ((Int32.ofNat i) < 0 ∨ c3.slots.size ≤ (Int32.ofNat i).toNatClampNeg) := inb_of S3 ⟨own_nn (by omega), own_lt g3_hi (by omega)⟩
  refine hG _ _ (X2.baloadBytes hx (j := (Int32.ofNat i)) (v := (.int ((cs.getD i 0).toInt8.toInt32))) (by rw [e2]; exact Ar3.1) (State.isArrayOf_alike hZ.alike Ar3.2.1) Ar3.2.2 hin3 (Has.at H3 hin3 (by rw [own_clamp (by omega)]; exact own_getD_map (fun c : Int32 => Value.int c.toInt8.toInt32) cs i _ 0 g3_hi)) (g := (mkF m 8 #[.val (.ref t), .val (.int (Int32.ofNat i))] [(.int (Int32.ofNat i)), (.ref t)])) rfl rfl (hb hby d25_8)) ?_
  show G (T2.setTop (mkF m 9 #[.val (.ref t), .val (.int (Int32.ofNat i))] [(.int ((cs.getD i 0).toInt8.toInt32))]))
  refine hG _ _ (fun t_ k_ => XS.sipush X2.here hx rfl (hb hby d25_9) k_) ?_
  refine hG _ _ (fun t_ k_ => XS.iand X2.here hx rfl (hb hby d25_12) rfl k_) ?_
  refine hG _ _ (fun t_ k_ => XS.i2c X2.here hx rfl (hb hby d25_13) rfl k_) ?_
  show G (T2.setTop (mkF m 14 #[.val (.ref t), .val (.int (Int32.ofNat i))] [(.int ((((cs.getD i 0).toInt8.toInt32) &&& (255 : Int32)).toUInt32.toUInt16.toUInt32.toInt32))]))
  exact own_retN hR hret (by simp) X2 hx (hb hby d25_14) (by decide) (by decide) (by rw [e2]; exact ⟨(by rw [own_byteBack (g2_h8 _ (own_getD_mem cs i 0 g3_hi))]), N2, rfl⟩)
theorem own_pd14 : parseMethodDescriptor "([B)I" = some ⟨[(.array .byte)], some .int⟩ := by decide +kernel
set_option maxRecDepth 65536 in
set_option maxHeartbeats 40000000 in
theorem own_l16 (l : Launch) (Z : State) (a0 : Array Value) (hw : ∀ d ∈ tables_1, d.before a0 Z = true) (t : Addr) (kt : ClassId) (n : Nat) (vs : List Value) (h0 : Heap) (O0 : own_Old Z h0) (g0_V : Arv Z h0 t kt .byte (Int32.ofNat (2 * n)) vs (.int 0)) (g1_hn : n < 1073741824) :
    own_Con l Z (⟨"java/lang/StringUTF16", "length", "([B)I"⟩ : MethodName) jdk_52_method_6_code 1 (some .int) [] ({ frames := 0, cells := 0, slots := 0, locals := 0 } : Room) #[(.ref t)] h0 (fun rv rh rL => rv = some (.int (Int32.ofNat n)) ∧ own_Fr Z rL ∧ h0 = rh) := by
  refine own_intro (plainFor_of_name (by first | (simp [plainName, overriddenIn]; done) | decide +kernel)) ?_
  intro p e s m below meth c s₁ G hx hby hml hown hnm hret hZ X0 e0 hG hR
  have N0 := Fr.nil Z.heap.size
  refine own_entry (Ls := #[.val (.ref t)]) (by first | (simp [entryFrame, mkF, argsToLocals, Value.category]; done) | rfl) ?_
  show G (s₁.setTop (mkF m 0 #[.val (.ref t)] []))
  refine hG _ _ (fun t_ k_ => XS.aloadN X0.here hx rfl (hb hby d21_0) rfl rfl k_) ?_
  show G (s₁.setTop (mkF m 1 #[.val (.ref t)] [(.ref t)]))
  obtain ⟨c1, Ar1, -, S1, M1, -, -⟩ := id g0_V
  refine hG _ _ (X0.arraylength hx (by rw [e0]; exact Ar1.1) (State.isArrayOf_alike hZ.alike Ar1.2.1) (g := (mkF m 1 #[.val (.ref t)] [(.ref t)])) rfl rfl (hb hby d21_1)) ?_
  rw [len_of S1 M1]
  show G (s₁.setTop (mkF m 2 #[.val (.ref t)] [(.int (Int32.ofNat (2 * n)))]))
  refine hG _ _ (fun t_ k_ => XS.iconst X0.here hx rfl (hb hby d21_2) k_) ?_
  refine hG _ _ (fun t_ k_ => XS.ishr X0.here hx rfl (hb hby d21_3) rfl k_) ?_
  show G (s₁.setTop (mkF m 4 #[.val (.ref t)] [(.int ((Int32.ofNat (2 * n)) >>> ((1 : Int32) &&& 31)))]))
  exact own_retI hR hret X0 hx (hb hby d21_4) (by decide) (by decide) (by rw [e0]; exact ⟨(by rw [own_shr1 g1_hn]), N0, rfl⟩)
theorem own_pd15 : parseMethodDescriptor "(I[B)V" = some ⟨[.int, (.array .byte)], none⟩ := by decide +kernel
set_option maxRecDepth 65536 in
set_option maxHeartbeats 40000000 in
theorem own_uci (l : Launch) (Z : State) (a0 : Array Value) (hw : ∀ d ∈ tables_1, d.before a0 Z = true) (t : Addr) (kt : ClassId) (vs : List Value) (cs : List Int32) (i : Nat) (fmt : Value) (h0 : Heap) (O0 : own_Old Z h0) (g0_V : Arv Z h0 t kt .byte (Int32.ofNat (2 * cs.length)) vs (.int 0)) (g1_hcap : cs.length ≤ 7) (g2_h16 : ∀ c ∈ cs, 0 ≤ c.toInt ∧ c.toInt ≤ 65535) (g3_hi16 : own_is16 cs vs) (g4_hi : i < cs.length) (g5_S : Sta Z Z.heap "java/lang/StringUTF16" "$assertionsDisabled" "Z" (.int 1)) (g6_S : Sta Z Z.heap "java/lang/StringUTF16" "HI_BYTE_SHIFT" "I" (.int 0)) (g7_S : Sta Z Z.heap "java/lang/StringUTF16" "LO_BYTE_SHIFT" "I" (.int 8)) (g8_hfmt : fmt.isRef = true) (g9_S : Sta Z Z.heap "jdk/internal/util/Preconditions" "SIOOBE_FORMATTER" "Ljava/util/function/BiFunction;" fmt) :
    own_Con l Z (⟨"java/lang/StringUTF16", "checkIndex", "(I[B)V"⟩ : MethodName) jdk_52_method_91_code 2 none [] ({ frames := 2, cells := 0, slots := 0, locals := 27 } : Room) #[(.int (Int32.ofNat i)), (.ref t)] h0 (fun rv rh rL => rv = none ∧ own_Fr Z rL ∧ h0 = rh) := by
  refine own_intro (plainFor_of_name (by first | (simp [plainName, overriddenIn]; done) | decide +kernel)) ?_
  intro p e s m below meth c s₁ G hx hby hml hown hnm hret hZ X0 e0 hG hR
  have N0 := Fr.nil Z.heap.size
  refine own_entry (Ls := #[.val (.int (Int32.ofNat i)), .val (.ref t)]) (by first | (simp [entryFrame, mkF, argsToLocals, Value.category]; done) | rfl) ?_
  show G (s₁.setTop (mkF m 0 #[.val (.int (Int32.ofNat i)), .val (.ref t)] []))
  refine hG _ _ (fun t_ k_ => XS.iloadN X0.here hx rfl (hb hby d20_0) rfl k_) ?_
  refine hG _ _ (fun t_ k_ => XS.aloadN X0.here hx rfl (hb hby d20_1) rfl rfl k_) ?_
  show G (s₁.setTop (mkF m 2 #[.val (.int (Int32.ofNat i)), .val (.ref t)] [(.ref t), (.int (Int32.ofNat i))]))
  refine own_callS X0 hx hZ hG hown (ow hw 93 rfl) (ow hw 94 rfl) (ow hw 39 rfl) (ow hw 95 rfl) (by decide) 1 (own_l16 l Z a0 hw t kt cs.length vs h0 O0 g0_V (by omega)) (by decide) (by decide) e0 (by rw [hml]; rfl) (lenOf own_pd14 rfl) (argsL := [(.ref t)]) (rest := [(.int (Int32.ofNat i))]) rfl rfl (Nat.le_of_eq rfl) (hb hby d20_2) (by decide) (by decide) ?_
  intro T1 h1 v1 L1 X1 e1 q1
  obtain ⟨rfl, M1, rfl⟩ := q1
  have N1 := Fr.app N0 M1
  show G (T1.setTop (mkF m 5 #[.val (.int (Int32.ofNat i)), .val (.ref t)] [(.int (Int32.ofNat cs.length)), (.int (Int32.ofNat i))]))
  refine own_callS X1 hx hZ hG hown (ow hw 96 rfl) (ow hw 97 rfl) (ow hw 13 rfl) (ow hw 98 rfl) (by decide) 0 (own_sci l Z a0 hw (Int32.ofNat i) (Int32.ofNat cs.length) fmt h0 O0 (own_nn (by omega)) (own_lt g4_hi (by omega)) g8_hfmt g9_S) (by decide) (by decide) e1 (by rw [hml]; rfl) (lenOf own_pd13 rfl) (argsL := [(.int (Int32.ofNat i)), (.int (Int32.ofNat cs.length))]) (rest := []) rfl rfl (Nat.le_of_eq rfl) (hb hby d20_5) (by decide) (by decide) ?_
  intro T2 h2 v2 L2 X2 e2 q2
  obtain ⟨rfl, M2, rfl⟩ := q2
  have N2 := Fr.app N1 M2
  show G (T2.setTop (mkF m 8 #[.val (.int (Int32.ofNat i)), .val (.ref t)] []))
  exact own_retV hR hret X2 hx (hb hby d20_8) (by decide) (by decide) (by rw [e2]; exact ⟨rfl, N2, rfl⟩)
set_option maxRecDepth 65536 in
set_option maxHeartbeats 40000000 in
theorem own_uca (l : Launch) (Z : State) (a0 : Array Value) (hw : ∀ d ∈ tables_1, d.before a0 Z = true) (t : Addr) (kt : ClassId) (vs : List Value) (cs : List Int32) (i : Nat) (fmt : Value) (h0 : Heap) (O0 : own_Old Z h0) (g0_V : Arv Z h0 t kt .byte (Int32.ofNat (2 * cs.length)) vs (.int 0)) (g1_hcap : cs.length ≤ 7) (g2_h16 : ∀ c ∈ cs, 0 ≤ c.toInt ∧ c.toInt ≤ 65535) (g3_hi16 : own_is16 cs vs) (g4_hi : i < cs.length) (g5_S : Sta Z Z.heap "java/lang/StringUTF16" "$assertionsDisabled" "Z" (.int 1)) (g6_S : Sta Z Z.heap "java/lang/StringUTF16" "HI_BYTE_SHIFT" "I" (.int 0)) (g7_S : Sta Z Z.heap "java/lang/StringUTF16" "LO_BYTE_SHIFT" "I" (.int 8)) (g8_hfmt : fmt.isRef = true) (g9_S : Sta Z Z.heap "jdk/internal/util/Preconditions" "SIOOBE_FORMATTER" "Ljava/util/function/BiFunction;" fmt) :
    own_Con l Z (⟨"java/lang/StringUTF16", "charAt", "([BI)C"⟩ : MethodName) jdk_52_method_83_code 2 (some .char) [] ({ frames := 3, cells := 0, slots := 0, locals := 40 } : Room) #[(.ref t), (.int (Int32.ofNat i))] h0 (fun rv rh rL => rv = some (.int (cs.getD i 0)) ∧ own_Fr Z rL ∧ h0 = rh) := by
  refine own_intro (plainFor_of_name (by first | (simp [plainName, overriddenIn]; done) | decide +kernel)) ?_
  intro p e s m below meth c s₁ G hx hby hml hown hnm hret hZ X0 e0 hG hR
  have N0 := Fr.nil Z.heap.size
  refine own_entry (Ls := #[.val (.ref t), .val (.int (Int32.ofNat i))]) (by first | (simp [entryFrame, mkF, argsToLocals, Value.category]; done) | rfl) ?_
  show G (s₁.setTop (mkF m 0 #[.val (.ref t), .val (.int (Int32.ofNat i))] []))
  refine hG _ _ (fun t_ k_ => XS.iloadN X0.here hx rfl (hb hby d19_0) rfl k_) ?_
  refine hG _ _ (fun t_ k_ => XS.aloadN X0.here hx rfl (hb hby d19_1) rfl rfl k_) ?_
  show G (s₁.setTop (mkF m 2 #[.val (.ref t), .val (.int (Int32.ofNat i))] [(.ref t), (.int (Int32.ofNat i))]))
  refine own_callS X0 hx hZ hG hown (ow hw 90 rfl) (ow hw 91 rfl) (ow hw 39 rfl) (ow hw 92 rfl) (by decide) 0 (own_uci l Z a0 hw t kt vs cs i fmt h0 O0 g0_V g1_hcap g2_h16 g3_hi16 g4_hi g5_S g6_S g7_S g8_hfmt g9_S) (by decide) (by decide) e0 (by rw [hml]; rfl) (lenOf own_pd15 rfl) (argsL := [(.int (Int32.ofNat i)), (.ref t)]) (rest := []) rfl rfl (Nat.le_of_eq rfl) (hb hby d19_2) (by decide) (by decide) ?_
  intro T1 h1 v1 L1 X1 e1 q1
  obtain ⟨rfl, M1, rfl⟩ := q1
  have N1 := Fr.app N0 M1
  show G (T1.setTop (mkF m 5 #[.val (.ref t), .val (.int (Int32.ofNat i))] []))
  refine hG _ _ (fun t_ k_ => XS.aloadN X1.here hx rfl (hb hby d19_5) rfl rfl k_) ?_
  refine hG _ _ (fun t_ k_ => XS.iloadN X1.here hx rfl (hb hby d19_6) rfl k_) ?_
  show G (T1.setTop (mkF m 7 #[.val (.ref t), .val (.int (Int32.ofNat i))] [(.int (Int32.ofNat i)), (.ref t)]))
  refine own_callS X1 hx hZ hG hown (ow hw 60 rfl) (ow hw 61 rfl) (ow hw 39 rfl) (ow hw 62 rfl) (by decide) 0 (own_gch l Z a0 hw t kt (2 * cs.length) vs i (own_lo (cs.getD i 0)) (own_hi (cs.getD i 0)) h0 O0 g0_V (by omega) (by omega) (g3_hi16.2 i g4_hi).1 (g3_hi16.2 i g4_hi).2 g5_S g6_S g7_S) (by decide) (by decide) e1 (by rw [hml]; rfl) (lenOf own_pd1 rfl) (argsL := [(.ref t), (.int (Int32.ofNat i))]) (rest := []) rfl rfl (Nat.le_of_eq rfl) (hb hby d19_7) (by decide) (by decide) ?_
  intro T2 h2 v2 L2 X2 e2 q2
  obtain ⟨rfl, M2, rfl⟩ := q2
  have N2 := Fr.app N1 M2
  show G (T2.setTop (mkF m 10 #[.val (.ref t), .val (.int (Int32.ofNat i))] [(.int (own_join (own_lo (cs.getD i 0)) (own_hi (cs.getD i 0))))]))
  exact own_retN hR hret (by simp) X2 hx (hb hby d19_10) (by decide) (by decide) (by rw [e2]; exact ⟨(by rw [own_join_eq (g2_h16 _ (own_getD_mem cs i 0 g4_hi)), own_narC (g2_h16 _ (own_getD_mem cs i 0 g4_hi))]), N2, rfl⟩)
theorem own_pd16 : parseMethodDescriptor "(I)C" = some ⟨[.int], some .char⟩ := by decide +kernel
set_option maxRecDepth 65536 in
set_option maxHeartbeats 40000000 in
theorem own_ca (l : Launch) (Z : State) (a0 : Array Value) (hw : ∀ d ∈ tables_1, d.before a0 Z = true) (a : Addr) (t : Addr) (kt : ClassId) (cs : List Int32) (cd : Int32) (nb : Int32) (vs : List Value) (cpt : Int32) (i : Nat) (fmt : Value) (h0 : Heap) (O0 : own_Old Z h0) (g0_E : Exa Z h0 a "java/lang/String") (g1_F : Fld Z h0 a "java/lang/String" "coder" "B" (.int cd)) (g2_F : Fld Z h0 a "java/lang/String" "value" "[B" (.ref t)) (g3_V : Arv Z h0 t kt .byte nb vs (.int 0)) (g4_henc : own_enc cs cd nb vs) (g5_hcap : cs.length ≤ 7) (g6_h16 : ∀ c ∈ cs, 0 ≤ c.toInt ∧ c.toInt ≤ 65535) (g7_S : Sta Z Z.heap "java/lang/String" "COMPACT_STRINGS" "Z" (.int cpt)) (g8_hcpt : ¬ (cpt = (0 : Int32))) (g9_S : Sta Z Z.heap "java/lang/StringUTF16" "$assertionsDisabled" "Z" (.int 1)) (g10_S : Sta Z Z.heap "java/lang/StringUTF16" "HI_BYTE_SHIFT" "I" (.int 0)) (g11_S : Sta Z Z.heap "java/lang/StringUTF16" "LO_BYTE_SHIFT" "I" (.int 8)) (g12_hi : i < cs.length) (g13_hfmt : fmt.isRef = true) (g14_S : Sta Z Z.heap "jdk/internal/util/Preconditions" "SIOOBE_FORMATTER" "Ljava/util/function/BiFunction;" fmt) :
    own_Con l Z (⟨"java/lang/String", "charAt", "(I)C"⟩ : MethodName) jdk_42_method_56_code 2 (some .char) [] ({ frames := 4, cells := 0, slots := 0, locals := 53 } : Room) #[(.ref a), (.int (Int32.ofNat i))] h0 (fun rv rh rL => rv = some (.int (cs.getD i 0)) ∧ own_Fr Z rL ∧ h0 = rh) := by
  refine own_intro (plainFor_of_name (by first | (simp [plainName, overriddenIn]; done) | decide +kernel)) ?_
  intro p e s m below meth c s₁ G hx hby hml hown hnm hret hZ X0 e0 hG hR
  have N0 := Fr.nil Z.heap.size
  refine own_entry (Ls := #[.val (.ref a), .val (.int (Int32.ofNat i))]) (by first | (simp [entryFrame, mkF, argsToLocals, Value.category]; done) | rfl) ?_
  show G (s₁.setTop (mkF m 0 #[.val (.ref a), .val (.int (Int32.ofNat i))] []))
  rcases id g4_henc with ⟨hall, rfl, rfl, rfl⟩ | ⟨hbig, rfl, rfl, h16⟩
  · skip
    show G (s₁.setTop (mkF m 0 #[.val (.ref a), .val (.int (Int32.ofNat i))] []))
    refine hG _ _ (fun t_ k_ => XS.aloadN X0.here hx rfl (hb hby d17_0) rfl rfl k_) ?_
    show G (s₁.setTop (mkF m 1 #[.val (.ref a), .val (.int (Int32.ofNat i))] [(.ref a)]))
    refine own_callV (C := "java/lang/String") X0 hx hZ hG hown (ow hw 82 rfl) (ow hw 83 rfl) (ow hw 85 rfl) (ow hw 84 rfl) (ow hw 13 rfl) (ow hw 86 rfl) (by decide) 0 (own_isl0 l Z a0 hw a cpt h0 O0 g1_F g7_S g8_hcpt) (by decide) (by decide) e0 g0_E (by rw [hml]; rfl) (lenOf own_pd9 rfl) (argsL := []) (rest := []) rfl rfl (Nat.le_of_eq rfl) (hb hby d17_1) (by decide) (by decide) ?_
    intro T1 h1 v1 L1 X1 e1 q1
    obtain ⟨rfl, M1, rfl⟩ := q1
    have N1 := Fr.app N0 M1
    show G (T1.setTop (mkF m 4 #[.val (.ref a), .val (.int (Int32.ofNat i))] [(.int 1)]))
    refine hG _ _ (fun t_ k_ => XS.ifNo X1.here hx rfl (hb hby d17_4) rfl ((if0 _ _).trans (feq (by decide)).1) k_) ?_
    show G (T1.setTop (mkF m 7 #[.val (.ref a), .val (.int (Int32.ofNat i))] []))
    refine hG _ _ (fun t_ k_ => XS.aloadN X1.here hx rfl (hb hby d17_7) rfl rfl k_) ?_
    show G (T1.setTop (mkF m 8 #[.val (.ref a), .val (.int (Int32.ofNat i))] [(.ref a)]))
    obtain ⟨T2, X2, e2, st2⟩ := getF X1 hx hZ hown (host := "") (Or.inl (ow hw 30 rfl)) Via.refl e1 g2_F (g := (mkF m 8 #[.val (.ref a), .val (.int (Int32.ofNat i))] [(.ref a)])) rfl rfl (hb hby d17_8)
    refine hG _ _ st2 ?_
    show G (T2.setTop (mkF m 11 #[.val (.ref a), .val (.int (Int32.ofNat i))] [(.ref t)]))
    refine hG _ _ (fun t_ k_ => XS.iloadN X2.here hx rfl (hb hby d17_11) rfl k_) ?_
    show G (T2.setTop (mkF m 12 #[.val (.ref a), .val (.int (Int32.ofNat i))] [(.int (Int32.ofNat i)), (.ref t)]))
    refine own_callS X2 hx hZ hG hown (ow hw 107 rfl) (ow hw 108 rfl) (ow hw 109 rfl) (ow hw 110 rfl) (by decide) 0 (own_lca l Z a0 hw t kt cs i fmt h0 O0 g3_V g5_hcap (own_lat_rng hall g6_h16) g12_hi g13_hfmt g14_S) (by decide) (by decide) e2 (by rw [hml]; rfl) (lenOf own_pd1 rfl) (argsL := [(.ref t), (.int (Int32.ofNat i))]) (rest := []) rfl rfl (Nat.le_of_eq rfl) (hb hby d17_12) (by decide) (by decide) ?_
    intro T3 h3 v3 L3 X3 e3 q3
    obtain ⟨rfl, M3, rfl⟩ := q3
    have N3 := Fr.app N1 M3
    show G (T3.setTop (mkF m 15 #[.val (.ref a), .val (.int (Int32.ofNat i))] [(.int (cs.getD i 0))]))
    exact own_retN hR hret (by simp) X3 hx (hb hby d17_15) (by decide) (by decide) (by rw [e3]; exact ⟨(by rw [own_narC (g6_h16 _ (own_getD_mem cs i 0 g12_hi))]), N3, rfl⟩)
  · skip
    show G (s₁.setTop (mkF m 0 #[.val (.ref a), .val (.int (Int32.ofNat i))] []))
    refine hG _ _ (fun t_ k_ => XS.aloadN X0.here hx rfl (hb hby d17_0) rfl rfl k_) ?_
    show G (s₁.setTop (mkF m 1 #[.val (.ref a), .val (.int (Int32.ofNat i))] [(.ref a)]))
    refine own_callV (C := "java/lang/String") X0 hx hZ hG hown (ow hw 82 rfl) (ow hw 83 rfl) (ow hw 85 rfl) (ow hw 84 rfl) (ow hw 13 rfl) (ow hw 86 rfl) (by decide) 0 (own_isl1 l Z a0 hw a cpt h0 O0 g1_F g7_S g8_hcpt) (by decide) (by decide) e0 g0_E (by rw [hml]; rfl) (lenOf own_pd9 rfl) (argsL := []) (rest := []) rfl rfl (Nat.le_of_eq rfl) (hb hby d17_1) (by decide) (by decide) ?_
    intro T4 h4 v4 L4 X4 e4 q4
    obtain ⟨rfl, M4, rfl⟩ := q4
    have N4 := Fr.app N0 M4
    show G (T4.setTop (mkF m 4 #[.val (.ref a), .val (.int (Int32.ofNat i))] [(.int 0)]))
    refine hG _ _ (fun t_ k_ => XS.ifYes X4.here hx rfl (pc0 := 4) (pc' := 16) rfl (hb hby d17_4) rfl ((if0 _ _).trans (teq (by decide)).1) (by decide) (by decide) k_) ?_
    show G (T4.setTop (mkF m 16 #[.val (.ref a), .val (.int (Int32.ofNat i))] []))
    refine hG _ _ (fun t_ k_ => XS.aloadN X4.here hx rfl (hb hby d17_16) rfl rfl k_) ?_
    show G (T4.setTop (mkF m 17 #[.val (.ref a), .val (.int (Int32.ofNat i))] [(.ref a)]))
    obtain ⟨T5, X5, e5, st5⟩ := getF X4 hx hZ hown (host := "") (Or.inl (ow hw 30 rfl)) Via.refl e4 g2_F (g := (mkF m 17 #[.val (.ref a), .val (.int (Int32.ofNat i))] [(.ref a)])) rfl rfl (hb hby d17_17)
    refine hG _ _ st5 ?_
    show G (T5.setTop (mkF m 20 #[.val (.ref a), .val (.int (Int32.ofNat i))] [(.ref t)]))
    refine hG _ _ (fun t_ k_ => XS.iloadN X5.here hx rfl (hb hby d17_20) rfl k_) ?_
    show G (T5.setTop (mkF m 21 #[.val (.ref a), .val (.int (Int32.ofNat i))] [(.int (Int32.ofNat i)), (.ref t)]))
    refine own_callS X5 hx hZ hG hown (ow hw 87 rfl) (ow hw 88 rfl) (ow hw 39 rfl) (ow hw 89 rfl) (by decide) 0 (own_uca l Z a0 hw t kt vs cs i fmt h0 O0 g3_V g5_hcap g6_h16 h16 g12_hi g9_S g10_S g11_S g13_hfmt g14_S) (by decide) (by decide) e5 (by rw [hml]; rfl) (lenOf own_pd1 rfl) (argsL := [(.ref t), (.int (Int32.ofNat i))]) (rest := []) rfl rfl (Nat.le_of_eq rfl) (hb hby d17_21) (by decide) (by decide) ?_
    intro T6 h6 v6 L6 X6 e6 q6
    obtain ⟨rfl, M6, rfl⟩ := q6
    have N6 := Fr.app N4 M6
    show G (T6.setTop (mkF m 24 #[.val (.ref a), .val (.int (Int32.ofNat i))] [(.int (cs.getD i 0))]))
    exact own_retN hR hret (by simp) X6 hx (hb hby d17_24) (by decide) (by decide) (by rw [e6]; exact ⟨(by rw [own_narC (g6_h16 _ (own_getD_mem cs i 0 g12_hi))]), N6, rfl⟩)
theorem own_pd17 : parseMethodDescriptor "(J)C" = some ⟨[.long], some .char⟩ := by decide +kernel
set_option maxRecDepth 65536 in
set_option maxHeartbeats 40000000 in
theorem own_pick (l : Launch) (Z : State) (a0 : Array Value) (hw : ∀ d ∈ tables_1, d.before a0 Z = true) (x : Int64) (h0 : Heap) (O0 : own_Old Z h0) :
    own_Con l Z (⟨"com/example/perenna/perenna/ArkHasLabelAtPinLaw", "pick", "(J)C"⟩ : MethodName) method_2_code 3 (some .char) [] ({ frames := 0, cells := 0, slots := 0, locals := 0 } : Room) #[(.long x)] h0 (fun rv rh rL => ∃ (r : Int32), rv = some (.int r) ∧ own_Fr Z rL ∧ h0 = rh ∧ (0 ≤ r.toInt ∧ r.toInt ≤ 65535)) := by
  refine own_intro (plainFor_of_name (by first | (simp [plainName, overriddenIn]; done) | decide +kernel)) ?_
  intro p e s m below meth c s₁ G hx hby hml hown hnm hret hZ X0 e0 hG hR
  have N0 := Fr.nil Z.heap.size
  refine own_entry (Ls := #[.val (.long x), .second, .unset]) (by first | (simp [entryFrame, mkF, argsToLocals, Value.category]; done) | rfl) ?_
  show G (s₁.setTop (mkF m 0 #[.val (.long x), .second, .unset] []))
  refine hG _ _ (fun t_ k_ => XS.lloadN X0.here hx rfl (hb hby d1_0) rfl k_) ?_
  show G (s₁.setTop (mkF m 1 #[.val (.long x), .second, .unset] [(.long x)]))
  refine hG _ _ (X0.ldc2Long hx hown (mvT hZ (ow hw 6 rfl)) (g := (mkF m 1 #[.val (.long x), .second, .unset] [(.long x)])) rfl (hb hby d1_1)) ?_
  show G (s₁.setTop (mkF m 4 #[.val (.long x), .second, .unset] [(.long (15 : Int64)), (.long x)]))
  refine hG _ _ (fun t_ k_ => XS.land X0.here hx rfl (hb hby d1_4) rfl k_) ?_
  refine hG _ _ (fun t_ k_ => XS.l2i X0.here hx rfl (hb hby d1_5) rfl k_) ?_
  refine hG _ _ (fun t_ k_ => XS.istoreN X0.here hx rfl (hb hby d1_6) rfl (l' := #[.val (.long x), .second, .val (.int ((x &&& (15 : Int64)).toInt32))]) rfl k_) ?_
  refine hG _ _ (fun t_ k_ => XS.iloadN X0.here hx rfl (hb hby d1_7) rfl k_) ?_
  show G (s₁.setTop (mkF m 8 #[.val (.long x), .second, .val (.int ((x &&& (15 : Int64)).toInt32))] [(.int ((x &&& (15 : Int64)).toInt32))]))
  by_cases hc8_1 : ((x &&& (15 : Int64)).toInt32) = (0 : Int32)
  · skip
    refine hG _ _ (fun t_ k_ => XS.ifNo X0.here hx rfl (hb hby d1_8) rfl ((if0 _ _).trans (teq hc8_1).2) k_) ?_
    show G (s₁.setTop (mkF m 11 #[.val (.long x), .second, .val (.int ((x &&& (15 : Int64)).toInt32))] []))
    refine hG _ _ (fun t_ k_ => XS.bipush X0.here hx rfl (hb hby d1_11) k_) ?_
    show G (s₁.setTop (mkF m 13 #[.val (.long x), .second, .val (.int ((x &&& (15 : Int64)).toInt32))] [(.int 97)]))
    exact own_retN hR hret (by simp) X0 hx (hb hby d1_13) (by decide) (by decide) (by rw [e0]; exact ⟨(nar .char (97 : Int32)), rfl, N0, rfl, (own_narrng _)⟩)
  · skip
    refine hG _ _ (fun t_ k_ => XS.ifYes X0.here hx rfl (pc0 := 8) (pc' := 14) rfl (hb hby d1_8) rfl ((if0 _ _).trans (feq hc8_1).2) (by decide) (by decide) k_) ?_
    show G (s₁.setTop (mkF m 14 #[.val (.long x), .second, .val (.int ((x &&& (15 : Int64)).toInt32))] []))
    refine hG _ _ (fun t_ k_ => XS.iloadN X0.here hx rfl (hb hby d1_14) rfl k_) ?_
    refine hG _ _ (fun t_ k_ => XS.iconst X0.here hx rfl (hb hby d1_15) k_) ?_
    show G (s₁.setTop (mkF m 16 #[.val (.long x), .second, .val (.int ((x &&& (15 : Int64)).toInt32))] [(.int 1), (.int ((x &&& (15 : Int64)).toInt32))]))
    by_cases hc16_2 : ((x &&& (15 : Int64)).toInt32) = (1 : Int32)
    · skip
      refine hG _ _ (fun t_ k_ => XS.icmpNo X0.here hx rfl (hb hby d1_16) rfl (teq hc16_2).2 k_) ?_
      show G (s₁.setTop (mkF m 19 #[.val (.long x), .second, .val (.int ((x &&& (15 : Int64)).toInt32))] []))
      refine hG _ _ (fun t_ k_ => XS.bipush X0.here hx rfl (hb hby d1_19) k_) ?_
      show G (s₁.setTop (mkF m 21 #[.val (.long x), .second, .val (.int ((x &&& (15 : Int64)).toInt32))] [(.int 65)]))
      exact own_retN hR hret (by simp) X0 hx (hb hby d1_21) (by decide) (by decide) (by rw [e0]; exact ⟨(nar .char (65 : Int32)), rfl, N0, rfl, (own_narrng _)⟩)
    · skip
      refine hG _ _ (fun t_ k_ => XS.icmpYes X0.here hx rfl (pc0 := 16) (pc' := 22) rfl (hb hby d1_16) rfl (feq hc16_2).2 (by decide) (by decide) k_) ?_
      show G (s₁.setTop (mkF m 22 #[.val (.long x), .second, .val (.int ((x &&& (15 : Int64)).toInt32))] []))
      refine hG _ _ (fun t_ k_ => XS.iloadN X0.here hx rfl (hb hby d1_22) rfl k_) ?_
      refine hG _ _ (fun t_ k_ => XS.iconst X0.here hx rfl (hb hby d1_23) k_) ?_
      show G (s₁.setTop (mkF m 24 #[.val (.long x), .second, .val (.int ((x &&& (15 : Int64)).toInt32))] [(.int 2), (.int ((x &&& (15 : Int64)).toInt32))]))
      by_cases hc24_3 : ((x &&& (15 : Int64)).toInt32) = (2 : Int32)
      · skip
        refine hG _ _ (fun t_ k_ => XS.icmpNo X0.here hx rfl (hb hby d1_24) rfl (teq hc24_3).2 k_) ?_
        show G (s₁.setTop (mkF m 27 #[.val (.long x), .second, .val (.int ((x &&& (15 : Int64)).toInt32))] []))
        refine hG _ _ (fun t_ k_ => XS.bipush X0.here hx rfl (hb hby d1_27) k_) ?_
        show G (s₁.setTop (mkF m 29 #[.val (.long x), .second, .val (.int ((x &&& (15 : Int64)).toInt32))] [(.int 114)]))
        exact own_retN hR hret (by simp) X0 hx (hb hby d1_29) (by decide) (by decide) (by rw [e0]; exact ⟨(nar .char (114 : Int32)), rfl, N0, rfl, (own_narrng _)⟩)
      · skip
        refine hG _ _ (fun t_ k_ => XS.icmpYes X0.here hx rfl (pc0 := 24) (pc' := 30) rfl (hb hby d1_24) rfl (feq hc24_3).2 (by decide) (by decide) k_) ?_
        show G (s₁.setTop (mkF m 30 #[.val (.long x), .second, .val (.int ((x &&& (15 : Int64)).toInt32))] []))
        refine hG _ _ (fun t_ k_ => XS.iloadN X0.here hx rfl (hb hby d1_30) rfl k_) ?_
        refine hG _ _ (fun t_ k_ => XS.iconst X0.here hx rfl (hb hby d1_31) k_) ?_
        show G (s₁.setTop (mkF m 32 #[.val (.long x), .second, .val (.int ((x &&& (15 : Int64)).toInt32))] [(.int 3), (.int ((x &&& (15 : Int64)).toInt32))]))
        by_cases hc32_4 : ((x &&& (15 : Int64)).toInt32) = (3 : Int32)
        · skip
          refine hG _ _ (fun t_ k_ => XS.icmpNo X0.here hx rfl (hb hby d1_32) rfl (teq hc32_4).2 k_) ?_
          show G (s₁.setTop (mkF m 35 #[.val (.long x), .second, .val (.int ((x &&& (15 : Int64)).toInt32))] []))
          refine hG _ _ (fun t_ k_ => XS.bipush X0.here hx rfl (hb hby d1_35) k_) ?_
          show G (s₁.setTop (mkF m 37 #[.val (.long x), .second, .val (.int ((x &&& (15 : Int64)).toInt32))] [(.int 82)]))
          exact own_retN hR hret (by simp) X0 hx (hb hby d1_37) (by decide) (by decide) (by rw [e0]; exact ⟨(nar .char (82 : Int32)), rfl, N0, rfl, (own_narrng _)⟩)
        · skip
          refine hG _ _ (fun t_ k_ => XS.icmpYes X0.here hx rfl (pc0 := 32) (pc' := 38) rfl (hb hby d1_32) rfl (feq hc32_4).2 (by decide) (by decide) k_) ?_
          show G (s₁.setTop (mkF m 38 #[.val (.long x), .second, .val (.int ((x &&& (15 : Int64)).toInt32))] []))
          refine hG _ _ (fun t_ k_ => XS.iloadN X0.here hx rfl (hb hby d1_38) rfl k_) ?_
          refine hG _ _ (fun t_ k_ => XS.iconst X0.here hx rfl (hb hby d1_39) k_) ?_
          show G (s₁.setTop (mkF m 40 #[.val (.long x), .second, .val (.int ((x &&& (15 : Int64)).toInt32))] [(.int 4), (.int ((x &&& (15 : Int64)).toInt32))]))
          by_cases hc40_5 : ((x &&& (15 : Int64)).toInt32) = (4 : Int32)
          · skip
            refine hG _ _ (fun t_ k_ => XS.icmpNo X0.here hx rfl (hb hby d1_40) rfl (teq hc40_5).2 k_) ?_
            show G (s₁.setTop (mkF m 43 #[.val (.long x), .second, .val (.int ((x &&& (15 : Int64)).toInt32))] []))
            refine hG _ _ (fun t_ k_ => XS.bipush X0.here hx rfl (hb hby d1_43) k_) ?_
            show G (s₁.setTop (mkF m 45 #[.val (.long x), .second, .val (.int ((x &&& (15 : Int64)).toInt32))] [(.int 107)]))
            exact own_retN hR hret (by simp) X0 hx (hb hby d1_45) (by decide) (by decide) (by rw [e0]; exact ⟨(nar .char (107 : Int32)), rfl, N0, rfl, (own_narrng _)⟩)
          · skip
            refine hG _ _ (fun t_ k_ => XS.icmpYes X0.here hx rfl (pc0 := 40) (pc' := 46) rfl (hb hby d1_40) rfl (feq hc40_5).2 (by decide) (by decide) k_) ?_
            show G (s₁.setTop (mkF m 46 #[.val (.long x), .second, .val (.int ((x &&& (15 : Int64)).toInt32))] []))
            refine hG _ _ (fun t_ k_ => XS.iloadN X0.here hx rfl (hb hby d1_46) rfl k_) ?_
            refine hG _ _ (fun t_ k_ => XS.iconst X0.here hx rfl (hb hby d1_47) k_) ?_
            show G (s₁.setTop (mkF m 48 #[.val (.long x), .second, .val (.int ((x &&& (15 : Int64)).toInt32))] [(.int 5), (.int ((x &&& (15 : Int64)).toInt32))]))
            by_cases hc48_6 : ((x &&& (15 : Int64)).toInt32) = (5 : Int32)
            · skip
              refine hG _ _ (fun t_ k_ => XS.icmpNo X0.here hx rfl (hb hby d1_48) rfl (teq hc48_6).2 k_) ?_
              show G (s₁.setTop (mkF m 51 #[.val (.long x), .second, .val (.int ((x &&& (15 : Int64)).toInt32))] []))
              refine hG _ _ (fun t_ k_ => XS.bipush X0.here hx rfl (hb hby d1_51) k_) ?_
              show G (s₁.setTop (mkF m 53 #[.val (.long x), .second, .val (.int ((x &&& (15 : Int64)).toInt32))] [(.int 75)]))
              exact own_retN hR hret (by simp) X0 hx (hb hby d1_53) (by decide) (by decide) (by rw [e0]; exact ⟨(nar .char (75 : Int32)), rfl, N0, rfl, (own_narrng _)⟩)
            · skip
              refine hG _ _ (fun t_ k_ => XS.icmpYes X0.here hx rfl (pc0 := 48) (pc' := 54) rfl (hb hby d1_48) rfl (feq hc48_6).2 (by decide) (by decide) k_) ?_
              show G (s₁.setTop (mkF m 54 #[.val (.long x), .second, .val (.int ((x &&& (15 : Int64)).toInt32))] []))
              refine hG _ _ (fun t_ k_ => XS.iloadN X0.here hx rfl (hb hby d1_54) rfl k_) ?_
              refine hG _ _ (fun t_ k_ => XS.bipush X0.here hx rfl (hb hby d1_55) k_) ?_
              show G (s₁.setTop (mkF m 57 #[.val (.long x), .second, .val (.int ((x &&& (15 : Int64)).toInt32))] [(.int 6), (.int ((x &&& (15 : Int64)).toInt32))]))
              by_cases hc57_7 : ((x &&& (15 : Int64)).toInt32) = (6 : Int32)
              · skip
                refine hG _ _ (fun t_ k_ => XS.icmpNo X0.here hx rfl (hb hby d1_57) rfl (teq hc57_7).2 k_) ?_
                show G (s₁.setTop (mkF m 60 #[.val (.long x), .second, .val (.int ((x &&& (15 : Int64)).toInt32))] []))
                refine hG _ _ (fun t_ k_ => XS.bipush X0.here hx rfl (hb hby d1_60) k_) ?_
                show G (s₁.setTop (mkF m 62 #[.val (.long x), .second, .val (.int ((x &&& (15 : Int64)).toInt32))] [(.int 58)]))
                exact own_retN hR hret (by simp) X0 hx (hb hby d1_62) (by decide) (by decide) (by rw [e0]; exact ⟨(nar .char (58 : Int32)), rfl, N0, rfl, (own_narrng _)⟩)
              · skip
                refine hG _ _ (fun t_ k_ => XS.icmpYes X0.here hx rfl (pc0 := 57) (pc' := 63) rfl (hb hby d1_57) rfl (feq hc57_7).2 (by decide) (by decide) k_) ?_
                show G (s₁.setTop (mkF m 63 #[.val (.long x), .second, .val (.int ((x &&& (15 : Int64)).toInt32))] []))
                refine hG _ _ (fun t_ k_ => XS.iloadN X0.here hx rfl (hb hby d1_63) rfl k_) ?_
                refine hG _ _ (fun t_ k_ => XS.bipush X0.here hx rfl (hb hby d1_64) k_) ?_
                show G (s₁.setTop (mkF m 66 #[.val (.long x), .second, .val (.int ((x &&& (15 : Int64)).toInt32))] [(.int 7), (.int ((x &&& (15 : Int64)).toInt32))]))
                by_cases hc66_8 : ((x &&& (15 : Int64)).toInt32) = (7 : Int32)
                · skip
                  refine hG _ _ (fun t_ k_ => XS.icmpNo X0.here hx rfl (hb hby d1_66) rfl (teq hc66_8).2 k_) ?_
                  show G (s₁.setTop (mkF m 69 #[.val (.long x), .second, .val (.int ((x &&& (15 : Int64)).toInt32))] []))
                  refine hG _ _ (fun t_ k_ => XS.sipush X0.here hx rfl (hb hby d1_69) k_) ?_
                  show G (s₁.setTop (mkF m 72 #[.val (.long x), .second, .val (.int ((x &&& (15 : Int64)).toInt32))] [(.int 8490)]))
                  exact own_retN hR hret (by simp) X0 hx (hb hby d1_72) (by decide) (by decide) (by rw [e0]; exact ⟨(nar .char (8490 : Int32)), rfl, N0, rfl, (own_narrng _)⟩)
                · skip
                  refine hG _ _ (fun t_ k_ => XS.icmpYes X0.here hx rfl (pc0 := 66) (pc' := 73) rfl (hb hby d1_66) rfl (feq hc66_8).2 (by decide) (by decide) k_) ?_
                  show G (s₁.setTop (mkF m 73 #[.val (.long x), .second, .val (.int ((x &&& (15 : Int64)).toInt32))] []))
                  refine hG _ _ (fun t_ k_ => XS.lloadN X0.here hx rfl (hb hby d1_73) rfl k_) ?_
                  refine hG _ _ (fun t_ k_ => XS.iconst X0.here hx rfl (hb hby d1_74) k_) ?_
                  refine hG _ _ (fun t_ k_ => XS.lushr X0.here hx rfl (hb hby d1_75) rfl k_) ?_
                  show G (s₁.setTop (mkF m 76 #[.val (.long x), .second, .val (.int ((x &&& (15 : Int64)).toInt32))] [(.long ((x.toUInt64 >>> ((4 : Int32) &&& 0x3f).toInt64.toUInt64).toInt64))]))
                  refine hG _ _ (X0.ldc2Long hx hown (mvT hZ (ow hw 7 rfl)) (g := (mkF m 76 #[.val (.long x), .second, .val (.int ((x &&& (15 : Int64)).toInt32))] [(.long ((x.toUInt64 >>> ((4 : Int32) &&& 0x3f).toInt64.toUInt64).toInt64))])) rfl (hb hby d1_76)) ?_
                  show G (s₁.setTop (mkF m 79 #[.val (.long x), .second, .val (.int ((x &&& (15 : Int64)).toInt32))] [(.long (65535 : Int64)), (.long ((x.toUInt64 >>> ((4 : Int32) &&& 0x3f).toInt64.toUInt64).toInt64))]))
                  refine hG _ _ (fun t_ k_ => XS.land X0.here hx rfl (hb hby d1_79) rfl k_) ?_
                  refine hG _ _ (fun t_ k_ => XS.l2i X0.here hx rfl (hb hby d1_80) rfl k_) ?_
                  refine hG _ _ (fun t_ k_ => XS.i2c X0.here hx rfl (hb hby d1_81) rfl k_) ?_
                  show G (s₁.setTop (mkF m 82 #[.val (.long x), .second, .val (.int ((x &&& (15 : Int64)).toInt32))] [(.int (((((x.toUInt64 >>> ((4 : Int32) &&& 0x3f).toInt64.toUInt64).toInt64) &&& (65535 : Int64)).toInt32).toUInt32.toUInt16.toUInt32.toInt32))]))
                  exact own_retN hR hret (by simp) X0 hx (hb hby d1_82) (by decide) (by decide) (by rw [e0]; exact ⟨(nar .char (((((x.toUInt64 >>> ((4 : Int32) &&& 0x3f).toInt64.toUInt64).toInt64) &&& (65535 : Int64)).toInt32).toUInt32.toUInt16.toUInt32.toInt32)), rfl, N0, rfl, (own_narrng _)⟩)
theorem own_pd18 : parseMethodDescriptor "(C)C" = some ⟨[.char], some .char⟩ := by decide +kernel
set_option maxRecDepth 65536 in
set_option maxHeartbeats 40000000 in
theorem own_tlc (l : Launch) (Z : State) (a0 : Array Value) (hw : ∀ d ∈ tables_1, d.before a0 Z = true) (ch : Int32) (h0 : Heap) (O0 : own_Old Z h0) (g0_hch : 0 ≤ ch.toInt ∧ ch.toInt ≤ 65535) :
    own_Con l Z (⟨"com/example/perenna/perenna/Ark", "toLowerCase", "(C)C"⟩ : MethodName) prog_1_method_26_code 1 (some .char) [] ({ frames := 0, cells := 0, slots := 0, locals := 0 } : Room) #[(.int ch)] h0 (fun rv rh rL => ∃ (r : Int32), rv = some (.int r) ∧ own_Fr Z rL ∧ h0 = rh ∧ (own_lw ch r)) := by
  refine own_intro (plainFor_of_name (by first | (simp [plainName, overriddenIn]; done) | decide +kernel)) ?_
  intro p e s m below meth c s₁ G hx hby hml hown hnm hret hZ X0 e0 hG hR
  have N0 := Fr.nil Z.heap.size
  refine own_entry (Ls := #[.val (.int ch)]) (by first | (simp [entryFrame, mkF, argsToLocals, Value.category]; done) | rfl) ?_
  show G (s₁.setTop (mkF m 0 #[.val (.int ch)] []))
  refine hG _ _ (fun t_ k_ => XS.iloadN X0.here hx rfl (hb hby d24_0) rfl k_) ?_
  refine hG _ _ (fun t_ k_ => XS.bipush X0.here hx rfl (hb hby d24_1) k_) ?_
  show G (s₁.setTop (mkF m 3 #[.val (.int ch)] [(.int 65), (.int ch)]))
  by_cases hc3_1 : ch < (65 : Int32)
  · skip
    refine hG _ _ (fun t_ k_ => XS.icmpYes X0.here hx rfl (pc0 := 3) (pc' := 20) rfl (hb hby d24_3) rfl (tlt hc3_1).1 (by decide) (by decide) k_) ?_
    show G (s₁.setTop (mkF m 20 #[.val (.int ch)] []))
    refine hG _ _ (fun t_ k_ => XS.iloadN X0.here hx rfl (hb hby d24_20) rfl k_) ?_
    show G (s₁.setTop (mkF m 21 #[.val (.int ch)] [(.int ch)]))
    exact own_retN hR hret (by simp) X0 hx (hb hby d24_21) (by decide) (by decide) (by rw [e0]; exact ⟨(nar .char ch), rfl, N0, rfl, (own_lw0 g0_hch (Or.inl hc3_1))⟩)
  · skip
    refine hG _ _ (fun t_ k_ => XS.icmpNo X0.here hx rfl (hb hby d24_3) rfl (flt hc3_1).1 k_) ?_
    show G (s₁.setTop (mkF m 6 #[.val (.int ch)] []))
    refine hG _ _ (fun t_ k_ => XS.iloadN X0.here hx rfl (hb hby d24_6) rfl k_) ?_
    refine hG _ _ (fun t_ k_ => XS.bipush X0.here hx rfl (hb hby d24_7) k_) ?_
    show G (s₁.setTop (mkF m 9 #[.val (.int ch)] [(.int 90), (.int ch)]))
    by_cases hc9_2 : (90 : Int32) < ch
    · skip
      refine hG _ _ (fun t_ k_ => XS.icmpYes X0.here hx rfl (pc0 := 9) (pc' := 20) rfl (hb hby d24_9) rfl (tlt hc9_2).2.2.1 (by decide) (by decide) k_) ?_
      show G (s₁.setTop (mkF m 20 #[.val (.int ch)] []))
      refine hG _ _ (fun t_ k_ => XS.iloadN X0.here hx rfl (hb hby d24_20) rfl k_) ?_
      show G (s₁.setTop (mkF m 21 #[.val (.int ch)] [(.int ch)]))
      exact own_retN hR hret (by simp) X0 hx (hb hby d24_21) (by decide) (by decide) (by rw [e0]; exact ⟨(nar .char ch), rfl, N0, rfl, (own_lw0 g0_hch (Or.inr hc9_2))⟩)
    · skip
      refine hG _ _ (fun t_ k_ => XS.icmpNo X0.here hx rfl (hb hby d24_9) rfl (flt hc9_2).2.2.1 k_) ?_
      show G (s₁.setTop (mkF m 12 #[.val (.int ch)] []))
      refine hG _ _ (fun t_ k_ => XS.iloadN X0.here hx rfl (hb hby d24_12) rfl k_) ?_
      refine hG _ _ (fun t_ k_ => XS.bipush X0.here hx rfl (hb hby d24_13) k_) ?_
      refine hG _ _ (fun t_ k_ => XS.iadd X0.here hx rfl (hb hby d24_15) rfl k_) ?_
      refine hG _ _ (fun t_ k_ => XS.i2c X0.here hx rfl (hb hby d24_16) rfl k_) ?_
      refine hG _ _ (fun t_ k_ => XS.goto X0.here hx rfl (pc0 := 17) (pc' := 21) rfl (hb hby d24_17) (by decide) (by decide) k_) ?_
      show G (s₁.setTop (mkF m 21 #[.val (.int ch)] [(.int ((ch + (32 : Int32)).toUInt32.toUInt16.toUInt32.toInt32))]))
      exact own_retN hR hret (by simp) X0 hx (hb hby d24_21) (by decide) (by decide) (by rw [e0]; exact ⟨(nar .char ((ch + (32 : Int32)).toUInt32.toUInt16.toUInt32.toInt32)), rfl, N0, rfl, (own_lw1 hc3_1 hc9_2)⟩)
theorem own_pd19 : parseMethodDescriptor "(Ljava/lang/String;I)Z" = some ⟨[(.object "java/lang/String"), .int], some .boolean⟩ := by decide +kernel
theorem own_enc_ark : own_enc [(97 : Int32), (114 : Int32), (107 : Int32), (58 : Int32)] 0 (4 : Int32) [.int 97, .int 114, .int 107, .int 58] := Or.inl ⟨by decide, rfl, rfl, rfl⟩
theorem own_rng_ark : ∀ c ∈ [(97 : Int32), (114 : Int32), (107 : Int32), (58 : Int32)], 0 ≤ c.toInt ∧ c.toInt ≤ 65535 := by decide
set_option maxRecDepth 65536 in
set_option maxHeartbeats 40000000 in
theorem own_hla (l : Launch) (Z : State) (a0 : Array Value) (hw : ∀ d ∈ tables_1, d.before a0 Z = true) (hEL : EW Z a0 consts_1) (a : Addr) (t : Addr) (kt : ClassId) (cs : List Int32) (cd : Int32) (nb : Int32) (vs : List Value) (cpt : Int32) (k : Int32) (fmt : Value) (h0 : Heap) (O0 : own_Old Z h0) (g0_E : Exa Z h0 a "java/lang/String") (g1_F : Fld Z h0 a "java/lang/String" "coder" "B" (.int cd)) (g2_F : Fld Z h0 a "java/lang/String" "value" "[B" (.ref t)) (g3_V : Arv Z h0 t kt .byte nb vs (.int 0)) (g4_henc : own_enc cs cd nb vs) (g5_hcap : cs.length ≤ 7) (g6_h16 : ∀ c ∈ cs, 0 ≤ c.toInt ∧ c.toInt ≤ 65535) (g7_S : Sta Z Z.heap "java/lang/String" "COMPACT_STRINGS" "Z" (.int cpt)) (g8_hcpt : ¬ (cpt = (0 : Int32))) (g9_S : Sta Z Z.heap "java/lang/StringUTF16" "$assertionsDisabled" "Z" (.int 1)) (g10_S : Sta Z Z.heap "java/lang/StringUTF16" "HI_BYTE_SHIFT" "I" (.int 0)) (g11_S : Sta Z Z.heap "java/lang/StringUTF16" "LO_BYTE_SHIFT" "I" (.int 8)) (g12_hfmt : fmt.isRef = true) (g13_S : Sta Z Z.heap "jdk/internal/util/Preconditions" "SIOOBE_FORMATTER" "Ljava/util/function/BiFunction;" fmt) (g14_hk : k.toInt ≤ 2147483643) :
    own_ConW l Z consts_1 (⟨"com/example/perenna/perenna/Ark", "hasLabelAt", "(Ljava/lang/String;I)Z"⟩ : MethodName) prog_1_method_3_code 3 (some .boolean) [] ({ frames := 5, cells := 2, slots := 20, locals := 67 } : Room) #[(.ref a), (.int k)] h0 (fun rv rh rL => ∃ (r : Int32), rv = some (.int r) ∧ own_Fr Z rL ∧ Keep h0 rh [] ∧ ((r = (1 : Int32) ∧ own_lab cs k) ∨ (r = (0 : Int32) ∧ ¬ own_lab cs k))) := by
  refine own_introW hEL (plainFor_of_name (by first | (simp [plainName, overriddenIn]; done) | decide +kernel)) ?_
  intro p e s m below meth c s₁ G hx hby hml hown hnm hret hZ X0 e0 H0 SI0 hG hR
  have N0 := Fr.nil Z.heap.size
  refine own_entry (Ls := #[.val (.ref a), .val (.int k), .unset]) (by first | (simp [entryFrame, mkF, argsToLocals, Value.category]; done) | rfl) ?_
  show G (s₁.setTop (mkF m 0 #[.val (.ref a), .val (.int k), .unset] []))
  refine hG _ _ (fun t_ k_ => XS.iloadN X0.here hx rfl (hb hby d6_0) rfl k_) ?_
  show G (s₁.setTop (mkF m 1 #[.val (.ref a), .val (.int k), .unset] [(.int k)]))
  by_cases hc1_1 : k < (0 : Int32)
  · skip
    refine hG _ _ (fun t_ k_ => XS.ifYes X0.here hx rfl (pc0 := 1) (pc' := 18) rfl (hb hby d6_1) rfl ((if0 _ _).trans (tlt hc1_1).1) (by decide) (by decide) k_) ?_
    show G (s₁.setTop (mkF m 18 #[.val (.ref a), .val (.int k), .unset] []))
    refine hG _ _ (fun t_ k_ => XS.iconst X0.here hx rfl (hb hby d6_18) k_) ?_
    show G (s₁.setTop (mkF m 19 #[.val (.ref a), .val (.int k), .unset] [(.int 0)]))
    exact own_retNW hR hret (by simp) X0 hx (hb hby d6_19) e0 SI0 (Nat.le_refl _) hZ (CHr.refl H0) (by decide) (by decide) ⟨(0 : Int32), rfl, N0, (Keep.refl h0 []), (Or.inr ⟨rfl, own_labN hc1_1⟩)⟩
  · skip
    refine hG _ _ (fun t_ k_ => XS.ifNo X0.here hx rfl (hb hby d6_1) rfl ((if0 _ _).trans (flt hc1_1).1) k_) ?_
    show G (s₁.setTop (mkF m 4 #[.val (.ref a), .val (.int k), .unset] []))
    refine hG _ _ (fun t_ k_ => XS.iloadN X0.here hx rfl (hb hby d6_4) rfl k_) ?_
    show G (s₁.setTop (mkF m 5 #[.val (.ref a), .val (.int k), .unset] [(.int k)]))
    obtain ⟨a2, T2, h2, k2, b2, kc2, X2, e2, E2, SI2, hk2, hZ2, hown2, Ea2, Fc2, Fv2, V2, la2, lb2, Y2, Li2, Nq2, st2⟩ := ldcCH X0 hx hZ hown (ow hw 66 rfl) (own_wS hw) e0 SI0 (Nat.le_refl _) hEL (List.mem_of_getElem? (i := 0) rfl) H0 (vs := [(.int 97), (.int 114), (.int 107), (.int 58)]) (z := (4 : Int32)) ⟨by decide, by decide⟩ (by decide) rfl (g := (mkF m 5 #[.val (.ref a), .val (.int k), .unset] [(.int k)])) rfl (hb hby d6_5) (n := 16) (by decide) (by decide) (by decide) (by decide)
    refine hG _ _ st2 ?_
    have R2 := Y2
    have C2 := (CHr.refl H0).trans R2
    have K2 : Keep h0 h2 [] := (Keep.refl h0 []).ext E2
    have O2 : own_Old Z h2 := O0.ext E2
    show G (T2.setTop (mkF m 7 #[.val (.ref a), .val (.int k), .unset] [(.ref a2), (.int k)]))
    refine own_callV (C := "java/lang/String") X2 hx hZ2 hG hown2 (ow hw 67 rfl) (ow hw 68 rfl) (ow hw 70 rfl) (ow hw 69 rfl) (ow hw 13 rfl) (ow hw 71 rfl) (by decide) 1 (own_len l Z a0 hw a2 b2 kc2 [(97 : Int32), (114 : Int32), (107 : Int32), (58 : Int32)] (0 : Int32) (4 : Int32) [(.int 97), (.int 114), (.int 107), (.int 58)] cpt h2 O2 Ea2 Fc2 Fv2 V2 own_enc_ark (Nat.le_of_ble_eq_true rfl) own_rng_ark g7_S g8_hcpt) (by decide) (by decide) e2 Ea2 (by rw [hml]; rfl) (lenOf own_pd11 rfl) (argsL := []) (rest := [(.int k)]) rfl rfl (Nat.le_of_eq rfl) (hb hby d6_7) (by decide) (by decide) ?_
    intro T3 h3 v3 L3 X3 e3 q3
    obtain ⟨rfl, M3, rfl⟩ := q3
    have N3 := Fr.app N0 M3
    show G (T3.setTop (mkF m 10 #[.val (.ref a), .val (.int k), .unset] [(.int (Int32.ofNat [(97 : Int32), (114 : Int32), (107 : Int32), (58 : Int32)].length)), (.int k)]))
    show G (T3.setTop (mkF m 10 #[.val (.ref a), .val (.int k), .unset] [(.int 4), (.int k)]))
    refine hG _ _ (fun t_ k_ => XS.iadd X3.here hx rfl (hb hby d6_10) rfl k_) ?_
    refine hG _ _ (fun t_ k_ => XS.aloadN X3.here hx rfl (hb hby d6_11) rfl rfl k_) ?_
    show G (T3.setTop (mkF m 12 #[.val (.ref a), .val (.int k), .unset] [(.ref a), (.int (k + (4 : Int32)))]))
    have f5 := (g0_E.ext E2)
    have f6 := (g1_F.ext E2)
    have f7 := (g2_F.ext E2)
    have f8 := (g3_V.ext E2)
    refine own_callV (C := "java/lang/String") X3 hx hZ2 hG hown2 (ow hw 67 rfl) (ow hw 68 rfl) (ow hw 70 rfl) (ow hw 69 rfl) (ow hw 13 rfl) (ow hw 71 rfl) (by decide) 1 (own_len l Z a0 hw a t kt cs cd nb vs cpt h2 O2 f5 f6 f7 f8 g4_henc g5_hcap g6_h16 g7_S g8_hcpt) (by decide) (by decide) e3 f5 (by rw [hml]; rfl) (lenOf own_pd11 rfl) (argsL := []) (rest := [(.int (k + (4 : Int32)))]) rfl rfl (Nat.le_of_eq rfl) (hb hby d6_12) (by decide) (by decide) ?_
    intro T4 h4 v4 L4 X4 e4 q4
    obtain ⟨rfl, M4, rfl⟩ := q4
    have N4 := Fr.app N3 M4
    show G (T4.setTop (mkF m 15 #[.val (.ref a), .val (.int k), .unset] [(.int (Int32.ofNat cs.length)), (.int (k + (4 : Int32)))]))
    by_cases hc15_9 : (Int32.ofNat cs.length) < (k + (4 : Int32))
    · skip
      refine hG _ _ (fun t_ k_ => XS.icmpNo X4.here hx rfl (hb hby d6_15) rfl (tlt hc15_9).2.2.2 k_) ?_
      show G (T4.setTop (mkF m 18 #[.val (.ref a), .val (.int k), .unset] []))
      refine hG _ _ (fun t_ k_ => XS.iconst X4.here hx rfl (hb hby d6_18) k_) ?_
      show G (T4.setTop (mkF m 19 #[.val (.ref a), .val (.int k), .unset] [(.int 0)]))
      exact own_retNW hR hret (by simp) X4 hx (hb hby d6_19) e4 SI2 hk2 hZ2 C2 (by decide) (by decide) ⟨(0 : Int32), rfl, N4, K2, (Or.inr ⟨rfl, fun q => (own_labL hc1_1 g14_hk (by omega)).mp hc15_9 q.2.1⟩)⟩
    · skip
      refine hG _ _ (fun t_ k_ => XS.icmpYes X4.here hx rfl (pc0 := 15) (pc' := 20) rfl (hb hby d6_15) rfl (flt hc15_9).2.2.2 (by decide) (by decide) k_) ?_
      show G (T4.setTop (mkF m 20 #[.val (.ref a), .val (.int k), .unset] []))
      obtain ⟨i, rfl, hi4, hiff⟩ := own_labI hc1_1 (Classical.not_not.mp (mt (own_labL hc1_1 g14_hk (by omega)).mpr hc15_9)) (by omega)
      show G (T4.setTop (mkF m 20 #[.val (.ref a), .val (.int (Int32.ofNat i)), .unset] []))
      refine hG _ _ (fun t_ k_ => XS.iconst X4.here hx rfl (hb hby d6_20) k_) ?_
      refine hG _ _ (fun t_ k_ => XS.istoreN X4.here hx rfl (hb hby d6_21) rfl (l' := #[.val (.ref a), .val (.int (Int32.ofNat i)), .val (.int 0)]) rfl k_) ?_
      show G (T4.setTop (mkF m 22 #[.val (.ref a), .val (.int (Int32.ofNat i)), .val (.int 0)] []))
      refine hG _ _ (fun t_ k_ => XS.iloadN X4.here hx rfl (hb hby d6_22) rfl k_) ?_
      show G (T4.setTop (mkF m 23 #[.val (.ref a), .val (.int (Int32.ofNat i)), .val (.int 0)] [(.int 0)]))
      refine hG _ _ (ldcAgain X4 hx hZ2 hown2 (ow hw 66 rfl) Li2 (g := (mkF m 23 #[.val (.ref a), .val (.int (Int32.ofNat i)), .val (.int 0)] [(.int 0)])) rfl (hb hby d6_23)) ?_
      show G (T4.setTop (mkF m 25 #[.val (.ref a), .val (.int (Int32.ofNat i)), .val (.int 0)] [(.ref a2), (.int 0)]))
      refine own_callV (C := "java/lang/String") X4 hx hZ2 hG hown2 (ow hw 67 rfl) (ow hw 68 rfl) (ow hw 70 rfl) (ow hw 69 rfl) (ow hw 13 rfl) (ow hw 71 rfl) (by decide) 1 (own_len l Z a0 hw a2 b2 kc2 [(97 : Int32), (114 : Int32), (107 : Int32), (58 : Int32)] (0 : Int32) (4 : Int32) [(.int 97), (.int 114), (.int 107), (.int 58)] cpt h2 O2 Ea2 Fc2 Fv2 V2 own_enc_ark (Nat.le_of_ble_eq_true rfl) own_rng_ark g7_S g8_hcpt) (by decide) (by decide) e4 Ea2 (by rw [hml]; rfl) (lenOf own_pd11 rfl) (argsL := []) (rest := [(.int 0)]) rfl rfl (Nat.le_of_eq rfl) (hb hby d6_25) (by decide) (by decide) ?_
      intro T10 h10 v10 L10 X10 e10 q10
      obtain ⟨rfl, M10, rfl⟩ := q10
      have N10 := Fr.app N4 M10
      show G (T10.setTop (mkF m 28 #[.val (.ref a), .val (.int (Int32.ofNat i)), .val (.int 0)] [(.int (Int32.ofNat [(97 : Int32), (114 : Int32), (107 : Int32), (58 : Int32)].length)), (.int 0)]))
      show G (T10.setTop (mkF m 28 #[.val (.ref a), .val (.int (Int32.ofNat i)), .val (.int 0)] [(.int 4), (.int 0)]))
      refine hG _ _ (fun t_ k_ => XS.icmpNo X10.here hx rfl (hb hby d6_28) rfl (tlt (by decide)).2.1 k_) ?_
      show G (T10.setTop (mkF m 31 #[.val (.ref a), .val (.int (Int32.ofNat i)), .val (.int 0)] []))
      refine hG _ _ (fun t_ k_ => XS.aloadN X10.here hx rfl (hb hby d6_31) rfl rfl k_) ?_
      refine hG _ _ (fun t_ k_ => XS.iloadN X10.here hx rfl (hb hby d6_32) rfl k_) ?_
      refine hG _ _ (fun t_ k_ => XS.iloadN X10.here hx rfl (hb hby d6_33) rfl k_) ?_
      refine hG _ _ (fun t_ k_ => XS.iadd X10.here hx rfl (hb hby d6_34) rfl k_) ?_
      show G (T10.setTop (mkF m 35 #[.val (.ref a), .val (.int (Int32.ofNat i)), .val (.int 0)] [(.int ((Int32.ofNat i) + (0 : Int32))), (.ref a)]))
      rw [show Int32.ofNat i + (0 : Int32) = Int32.ofNat (i + 0) from own_addN i 0]
      show G (T10.setTop (mkF m 35 #[.val (.ref a), .val (.int (Int32.ofNat i)), .val (.int 0)] [(.int (Int32.ofNat (i + 0))), (.ref a)]))
      refine own_callV (C := "java/lang/String") X10 hx hZ2 hG hown2 (ow hw 77 rfl) (ow hw 78 rfl) (ow hw 80 rfl) (ow hw 79 rfl) (ow hw 13 rfl) (ow hw 81 rfl) (by decide) 0 (own_ca l Z a0 hw a t kt cs cd nb vs cpt (i + 0) fmt h2 O2 f5 f6 f7 f8 g4_henc g5_hcap g6_h16 g7_S g8_hcpt g9_S g10_S g11_S (by omega) g12_hfmt g13_S) (by decide) (by decide) e10 f5 (by rw [hml]; rfl) (lenOf own_pd16 rfl) (argsL := [(.int (Int32.ofNat (i + 0)))]) (rest := []) rfl rfl (Nat.le_of_eq rfl) (hb hby d6_35) (by decide) (by decide) ?_
      intro T11 h11 v11 L11 X11 e11 q11
      obtain ⟨rfl, M11, rfl⟩ := q11
      have N11 := Fr.app N10 M11
      show G (T11.setTop (mkF m 38 #[.val (.ref a), .val (.int (Int32.ofNat i)), .val (.int 0)] [(.int (cs.getD (i + 0) 0))]))
      refine own_callS X11 hx hZ2 hG hown2 (ow hw 104 rfl) (ow hw 105 rfl) (ow hw 34 rfl) (ow hw 106 rfl) (by decide) 0 (own_tlc l Z a0 hw (cs.getD (i + 0) 0) h2 O2 (own_getD_rng g6_h16 _)) (by decide) (by decide) e11 (by rw [hml]; rfl) (lenOf own_pd18 rfl) (argsL := [(.int (cs.getD (i + 0) 0))]) (rest := []) rfl rfl (Nat.le_of_eq rfl) (hb hby d6_38) (by decide) (by decide) ?_
      intro T12 h12 v12 L12 X12 e12 q12
      obtain ⟨r_12, rfl, M12, rfl, r12_0⟩ := q12
      have N12 := Fr.app N11 M12
      show G (T12.setTop (mkF m 41 #[.val (.ref a), .val (.int (Int32.ofNat i)), .val (.int 0)] [(.int r_12)]))
      refine hG _ _ (ldcAgain X12 hx hZ2 hown2 (ow hw 66 rfl) Li2 (g := (mkF m 41 #[.val (.ref a), .val (.int (Int32.ofNat i)), .val (.int 0)] [(.int r_12)])) rfl (hb hby d6_41)) ?_
      show G (T12.setTop (mkF m 43 #[.val (.ref a), .val (.int (Int32.ofNat i)), .val (.int 0)] [(.ref a2), (.int r_12)]))
      refine hG _ _ (fun t_ k_ => XS.iloadN X12.here hx rfl (hb hby d6_43) rfl k_) ?_
      show G (T12.setTop (mkF m 44 #[.val (.ref a), .val (.int (Int32.ofNat i)), .val (.int 0)] [(.int 0), (.ref a2), (.int r_12)]))
      refine own_callV (C := "java/lang/String") X12 hx hZ2 hG hown2 (ow hw 77 rfl) (ow hw 78 rfl) (ow hw 80 rfl) (ow hw 79 rfl) (ow hw 13 rfl) (ow hw 81 rfl) (by decide) 1 (own_ca l Z a0 hw a2 b2 kc2 [(97 : Int32), (114 : Int32), (107 : Int32), (58 : Int32)] (0 : Int32) (4 : Int32) [(.int 97), (.int 114), (.int 107), (.int 58)] cpt 0 fmt h2 O2 Ea2 Fc2 Fv2 V2 own_enc_ark (Nat.le_of_ble_eq_true rfl) own_rng_ark g7_S g8_hcpt g9_S g10_S g11_S (Nat.le_of_ble_eq_true rfl) g12_hfmt g13_S) (by decide) (by decide) e12 Ea2 (by rw [hml]; rfl) (lenOf own_pd16 rfl) (argsL := [(.int 0)]) (rest := [(.int r_12)]) rfl rfl (Nat.le_of_eq rfl) (hb hby d6_44) (by decide) (by decide) ?_
      intro T13 h13 v13 L13 X13 e13 q13
      obtain ⟨rfl, M13, rfl⟩ := q13
      have N13 := Fr.app N12 M13
      show G (T13.setTop (mkF m 47 #[.val (.ref a), .val (.int (Int32.ofNat i)), .val (.int 0)] [(.int ([(97 : Int32), (114 : Int32), (107 : Int32), (58 : Int32)].getD 0 0)), (.int r_12)]))
      show G (T13.setTop (mkF m 47 #[.val (.ref a), .val (.int (Int32.ofNat i)), .val (.int 0)] [(.int 97), (.int r_12)]))
      by_cases hc47_14 : r_12 = (97 : Int32)
      · skip
        refine hG _ _ (fun t_ k_ => XS.icmpYes X13.here hx rfl (pc0 := 47) (pc' := 52) rfl (hb hby d6_47) rfl (teq hc47_14).1 (by decide) (by decide) k_) ?_
        show G (T13.setTop (mkF m 52 #[.val (.ref a), .val (.int (Int32.ofNat i)), .val (.int 0)] []))
        refine hG _ _ (fun t_ k_ => XS.iinc X13.here hx rfl (hb hby d6_52) rfl (l' := #[.val (.ref a), .val (.int (Int32.ofNat i)), .val (.int ((0 : Int32) + (1 : Int32)))]) rfl k_) ?_
        refine hG _ _ (fun t_ k_ => XS.goto X13.here hx rfl (pc0 := 55) (pc' := 22) rfl (hb hby d6_55) (by decide) (by decide) k_) ?_
        show G (T13.setTop (mkF m 22 #[.val (.ref a), .val (.int (Int32.ofNat i)), .val (.int ((0 : Int32) + (1 : Int32)))] []))
        rw [show ((0 : Int32) + (1 : Int32)) = (1 : Int32) from by decide]
        show G (T13.setTop (mkF m 22 #[.val (.ref a), .val (.int (Int32.ofNat i)), .val (.int 1)] []))
        refine hG _ _ (fun t_ k_ => XS.iloadN X13.here hx rfl (hb hby d6_22) rfl k_) ?_
        show G (T13.setTop (mkF m 23 #[.val (.ref a), .val (.int (Int32.ofNat i)), .val (.int 1)] [(.int 1)]))
        refine hG _ _ (ldcAgain X13 hx hZ2 hown2 (ow hw 66 rfl) Li2 (g := (mkF m 23 #[.val (.ref a), .val (.int (Int32.ofNat i)), .val (.int 1)] [(.int 1)])) rfl (hb hby d6_23)) ?_
        show G (T13.setTop (mkF m 25 #[.val (.ref a), .val (.int (Int32.ofNat i)), .val (.int 1)] [(.ref a2), (.int 1)]))
        refine own_callV (C := "java/lang/String") X13 hx hZ2 hG hown2 (ow hw 67 rfl) (ow hw 68 rfl) (ow hw 70 rfl) (ow hw 69 rfl) (ow hw 13 rfl) (ow hw 71 rfl) (by decide) 1 (own_len l Z a0 hw a2 b2 kc2 [(97 : Int32), (114 : Int32), (107 : Int32), (58 : Int32)] (0 : Int32) (4 : Int32) [(.int 97), (.int 114), (.int 107), (.int 58)] cpt h2 O2 Ea2 Fc2 Fv2 V2 own_enc_ark (Nat.le_of_ble_eq_true rfl) own_rng_ark g7_S g8_hcpt) (by decide) (by decide) e13 Ea2 (by rw [hml]; rfl) (lenOf own_pd11 rfl) (argsL := []) (rest := [(.int 1)]) rfl rfl (Nat.le_of_eq rfl) (hb hby d6_25) (by decide) (by decide) ?_
        intro T15 h15 v15 L15 X15 e15 q15
        obtain ⟨rfl, M15, rfl⟩ := q15
        have N15 := Fr.app N13 M15
        show G (T15.setTop (mkF m 28 #[.val (.ref a), .val (.int (Int32.ofNat i)), .val (.int 1)] [(.int (Int32.ofNat [(97 : Int32), (114 : Int32), (107 : Int32), (58 : Int32)].length)), (.int 1)]))
        show G (T15.setTop (mkF m 28 #[.val (.ref a), .val (.int (Int32.ofNat i)), .val (.int 1)] [(.int 4), (.int 1)]))
        refine hG _ _ (fun t_ k_ => XS.icmpNo X15.here hx rfl (hb hby d6_28) rfl (tlt (by decide)).2.1 k_) ?_
        show G (T15.setTop (mkF m 31 #[.val (.ref a), .val (.int (Int32.ofNat i)), .val (.int 1)] []))
        refine hG _ _ (fun t_ k_ => XS.aloadN X15.here hx rfl (hb hby d6_31) rfl rfl k_) ?_
        refine hG _ _ (fun t_ k_ => XS.iloadN X15.here hx rfl (hb hby d6_32) rfl k_) ?_
        refine hG _ _ (fun t_ k_ => XS.iloadN X15.here hx rfl (hb hby d6_33) rfl k_) ?_
        refine hG _ _ (fun t_ k_ => XS.iadd X15.here hx rfl (hb hby d6_34) rfl k_) ?_
        show G (T15.setTop (mkF m 35 #[.val (.ref a), .val (.int (Int32.ofNat i)), .val (.int 1)] [(.int ((Int32.ofNat i) + (1 : Int32))), (.ref a)]))
        rw [show Int32.ofNat i + (1 : Int32) = Int32.ofNat (i + 1) from own_addN i 1]
        show G (T15.setTop (mkF m 35 #[.val (.ref a), .val (.int (Int32.ofNat i)), .val (.int 1)] [(.int (Int32.ofNat (i + 1))), (.ref a)]))
        refine own_callV (C := "java/lang/String") X15 hx hZ2 hG hown2 (ow hw 77 rfl) (ow hw 78 rfl) (ow hw 80 rfl) (ow hw 79 rfl) (ow hw 13 rfl) (ow hw 81 rfl) (by decide) 0 (own_ca l Z a0 hw a t kt cs cd nb vs cpt (i + 1) fmt h2 O2 f5 f6 f7 f8 g4_henc g5_hcap g6_h16 g7_S g8_hcpt g9_S g10_S g11_S (by omega) g12_hfmt g13_S) (by decide) (by decide) e15 f5 (by rw [hml]; rfl) (lenOf own_pd16 rfl) (argsL := [(.int (Int32.ofNat (i + 1)))]) (rest := []) rfl rfl (Nat.le_of_eq rfl) (hb hby d6_35) (by decide) (by decide) ?_
        intro T16 h16 v16 L16 X16 e16 q16
        obtain ⟨rfl, M16, rfl⟩ := q16
        have N16 := Fr.app N15 M16
        show G (T16.setTop (mkF m 38 #[.val (.ref a), .val (.int (Int32.ofNat i)), .val (.int 1)] [(.int (cs.getD (i + 1) 0))]))
        refine own_callS X16 hx hZ2 hG hown2 (ow hw 104 rfl) (ow hw 105 rfl) (ow hw 34 rfl) (ow hw 106 rfl) (by decide) 0 (own_tlc l Z a0 hw (cs.getD (i + 1) 0) h2 O2 (own_getD_rng g6_h16 _)) (by decide) (by decide) e16 (by rw [hml]; rfl) (lenOf own_pd18 rfl) (argsL := [(.int (cs.getD (i + 1) 0))]) (rest := []) rfl rfl (Nat.le_of_eq rfl) (hb hby d6_38) (by decide) (by decide) ?_
        intro T17 h17 v17 L17 X17 e17 q17
        obtain ⟨r_17, rfl, M17, rfl, r17_0⟩ := q17
        have N17 := Fr.app N16 M17
        show G (T17.setTop (mkF m 41 #[.val (.ref a), .val (.int (Int32.ofNat i)), .val (.int 1)] [(.int r_17)]))
        refine hG _ _ (ldcAgain X17 hx hZ2 hown2 (ow hw 66 rfl) Li2 (g := (mkF m 41 #[.val (.ref a), .val (.int (Int32.ofNat i)), .val (.int 1)] [(.int r_17)])) rfl (hb hby d6_41)) ?_
        show G (T17.setTop (mkF m 43 #[.val (.ref a), .val (.int (Int32.ofNat i)), .val (.int 1)] [(.ref a2), (.int r_17)]))
        refine hG _ _ (fun t_ k_ => XS.iloadN X17.here hx rfl (hb hby d6_43) rfl k_) ?_
        show G (T17.setTop (mkF m 44 #[.val (.ref a), .val (.int (Int32.ofNat i)), .val (.int 1)] [(.int 1), (.ref a2), (.int r_17)]))
        refine own_callV (C := "java/lang/String") X17 hx hZ2 hG hown2 (ow hw 77 rfl) (ow hw 78 rfl) (ow hw 80 rfl) (ow hw 79 rfl) (ow hw 13 rfl) (ow hw 81 rfl) (by decide) 1 (own_ca l Z a0 hw a2 b2 kc2 [(97 : Int32), (114 : Int32), (107 : Int32), (58 : Int32)] (0 : Int32) (4 : Int32) [(.int 97), (.int 114), (.int 107), (.int 58)] cpt 1 fmt h2 O2 Ea2 Fc2 Fv2 V2 own_enc_ark (Nat.le_of_ble_eq_true rfl) own_rng_ark g7_S g8_hcpt g9_S g10_S g11_S (Nat.le_of_ble_eq_true rfl) g12_hfmt g13_S) (by decide) (by decide) e17 Ea2 (by rw [hml]; rfl) (lenOf own_pd16 rfl) (argsL := [(.int 1)]) (rest := [(.int r_17)]) rfl rfl (Nat.le_of_eq rfl) (hb hby d6_44) (by decide) (by decide) ?_
        intro T18 h18 v18 L18 X18 e18 q18
        obtain ⟨rfl, M18, rfl⟩ := q18
        have N18 := Fr.app N17 M18
        show G (T18.setTop (mkF m 47 #[.val (.ref a), .val (.int (Int32.ofNat i)), .val (.int 1)] [(.int ([(97 : Int32), (114 : Int32), (107 : Int32), (58 : Int32)].getD 1 0)), (.int r_17)]))
        show G (T18.setTop (mkF m 47 #[.val (.ref a), .val (.int (Int32.ofNat i)), .val (.int 1)] [(.int 114), (.int r_17)]))
        by_cases hc47_19 : r_17 = (114 : Int32)
        · skip
          refine hG _ _ (fun t_ k_ => XS.icmpYes X18.here hx rfl (pc0 := 47) (pc' := 52) rfl (hb hby d6_47) rfl (teq hc47_19).1 (by decide) (by decide) k_) ?_
          show G (T18.setTop (mkF m 52 #[.val (.ref a), .val (.int (Int32.ofNat i)), .val (.int 1)] []))
          refine hG _ _ (fun t_ k_ => XS.iinc X18.here hx rfl (hb hby d6_52) rfl (l' := #[.val (.ref a), .val (.int (Int32.ofNat i)), .val (.int ((1 : Int32) + (1 : Int32)))]) rfl k_) ?_
          refine hG _ _ (fun t_ k_ => XS.goto X18.here hx rfl (pc0 := 55) (pc' := 22) rfl (hb hby d6_55) (by decide) (by decide) k_) ?_
          show G (T18.setTop (mkF m 22 #[.val (.ref a), .val (.int (Int32.ofNat i)), .val (.int ((1 : Int32) + (1 : Int32)))] []))
          rw [show ((1 : Int32) + (1 : Int32)) = (2 : Int32) from by decide]
          show G (T18.setTop (mkF m 22 #[.val (.ref a), .val (.int (Int32.ofNat i)), .val (.int 2)] []))
          refine hG _ _ (fun t_ k_ => XS.iloadN X18.here hx rfl (hb hby d6_22) rfl k_) ?_
          show G (T18.setTop (mkF m 23 #[.val (.ref a), .val (.int (Int32.ofNat i)), .val (.int 2)] [(.int 2)]))
          refine hG _ _ (ldcAgain X18 hx hZ2 hown2 (ow hw 66 rfl) Li2 (g := (mkF m 23 #[.val (.ref a), .val (.int (Int32.ofNat i)), .val (.int 2)] [(.int 2)])) rfl (hb hby d6_23)) ?_
          show G (T18.setTop (mkF m 25 #[.val (.ref a), .val (.int (Int32.ofNat i)), .val (.int 2)] [(.ref a2), (.int 2)]))
          refine own_callV (C := "java/lang/String") X18 hx hZ2 hG hown2 (ow hw 67 rfl) (ow hw 68 rfl) (ow hw 70 rfl) (ow hw 69 rfl) (ow hw 13 rfl) (ow hw 71 rfl) (by decide) 1 (own_len l Z a0 hw a2 b2 kc2 [(97 : Int32), (114 : Int32), (107 : Int32), (58 : Int32)] (0 : Int32) (4 : Int32) [(.int 97), (.int 114), (.int 107), (.int 58)] cpt h2 O2 Ea2 Fc2 Fv2 V2 own_enc_ark (Nat.le_of_ble_eq_true rfl) own_rng_ark g7_S g8_hcpt) (by decide) (by decide) e18 Ea2 (by rw [hml]; rfl) (lenOf own_pd11 rfl) (argsL := []) (rest := [(.int 2)]) rfl rfl (Nat.le_of_eq rfl) (hb hby d6_25) (by decide) (by decide) ?_
          intro T20 h20 v20 L20 X20 e20 q20
          obtain ⟨rfl, M20, rfl⟩ := q20
          have N20 := Fr.app N18 M20
          show G (T20.setTop (mkF m 28 #[.val (.ref a), .val (.int (Int32.ofNat i)), .val (.int 2)] [(.int (Int32.ofNat [(97 : Int32), (114 : Int32), (107 : Int32), (58 : Int32)].length)), (.int 2)]))
          show G (T20.setTop (mkF m 28 #[.val (.ref a), .val (.int (Int32.ofNat i)), .val (.int 2)] [(.int 4), (.int 2)]))
          refine hG _ _ (fun t_ k_ => XS.icmpNo X20.here hx rfl (hb hby d6_28) rfl (tlt (by decide)).2.1 k_) ?_
          show G (T20.setTop (mkF m 31 #[.val (.ref a), .val (.int (Int32.ofNat i)), .val (.int 2)] []))
          refine hG _ _ (fun t_ k_ => XS.aloadN X20.here hx rfl (hb hby d6_31) rfl rfl k_) ?_
          refine hG _ _ (fun t_ k_ => XS.iloadN X20.here hx rfl (hb hby d6_32) rfl k_) ?_
          refine hG _ _ (fun t_ k_ => XS.iloadN X20.here hx rfl (hb hby d6_33) rfl k_) ?_
          refine hG _ _ (fun t_ k_ => XS.iadd X20.here hx rfl (hb hby d6_34) rfl k_) ?_
          show G (T20.setTop (mkF m 35 #[.val (.ref a), .val (.int (Int32.ofNat i)), .val (.int 2)] [(.int ((Int32.ofNat i) + (2 : Int32))), (.ref a)]))
          rw [show Int32.ofNat i + (2 : Int32) = Int32.ofNat (i + 2) from own_addN i 2]
          show G (T20.setTop (mkF m 35 #[.val (.ref a), .val (.int (Int32.ofNat i)), .val (.int 2)] [(.int (Int32.ofNat (i + 2))), (.ref a)]))
          refine own_callV (C := "java/lang/String") X20 hx hZ2 hG hown2 (ow hw 77 rfl) (ow hw 78 rfl) (ow hw 80 rfl) (ow hw 79 rfl) (ow hw 13 rfl) (ow hw 81 rfl) (by decide) 0 (own_ca l Z a0 hw a t kt cs cd nb vs cpt (i + 2) fmt h2 O2 f5 f6 f7 f8 g4_henc g5_hcap g6_h16 g7_S g8_hcpt g9_S g10_S g11_S (by omega) g12_hfmt g13_S) (by decide) (by decide) e20 f5 (by rw [hml]; rfl) (lenOf own_pd16 rfl) (argsL := [(.int (Int32.ofNat (i + 2)))]) (rest := []) rfl rfl (Nat.le_of_eq rfl) (hb hby d6_35) (by decide) (by decide) ?_
          intro T21 h21 v21 L21 X21 e21 q21
          obtain ⟨rfl, M21, rfl⟩ := q21
          have N21 := Fr.app N20 M21
          show G (T21.setTop (mkF m 38 #[.val (.ref a), .val (.int (Int32.ofNat i)), .val (.int 2)] [(.int (cs.getD (i + 2) 0))]))
          refine own_callS X21 hx hZ2 hG hown2 (ow hw 104 rfl) (ow hw 105 rfl) (ow hw 34 rfl) (ow hw 106 rfl) (by decide) 0 (own_tlc l Z a0 hw (cs.getD (i + 2) 0) h2 O2 (own_getD_rng g6_h16 _)) (by decide) (by decide) e21 (by rw [hml]; rfl) (lenOf own_pd18 rfl) (argsL := [(.int (cs.getD (i + 2) 0))]) (rest := []) rfl rfl (Nat.le_of_eq rfl) (hb hby d6_38) (by decide) (by decide) ?_
          intro T22 h22 v22 L22 X22 e22 q22
          obtain ⟨r_22, rfl, M22, rfl, r22_0⟩ := q22
          have N22 := Fr.app N21 M22
          show G (T22.setTop (mkF m 41 #[.val (.ref a), .val (.int (Int32.ofNat i)), .val (.int 2)] [(.int r_22)]))
          refine hG _ _ (ldcAgain X22 hx hZ2 hown2 (ow hw 66 rfl) Li2 (g := (mkF m 41 #[.val (.ref a), .val (.int (Int32.ofNat i)), .val (.int 2)] [(.int r_22)])) rfl (hb hby d6_41)) ?_
          show G (T22.setTop (mkF m 43 #[.val (.ref a), .val (.int (Int32.ofNat i)), .val (.int 2)] [(.ref a2), (.int r_22)]))
          refine hG _ _ (fun t_ k_ => XS.iloadN X22.here hx rfl (hb hby d6_43) rfl k_) ?_
          show G (T22.setTop (mkF m 44 #[.val (.ref a), .val (.int (Int32.ofNat i)), .val (.int 2)] [(.int 2), (.ref a2), (.int r_22)]))
          refine own_callV (C := "java/lang/String") X22 hx hZ2 hG hown2 (ow hw 77 rfl) (ow hw 78 rfl) (ow hw 80 rfl) (ow hw 79 rfl) (ow hw 13 rfl) (ow hw 81 rfl) (by decide) 1 (own_ca l Z a0 hw a2 b2 kc2 [(97 : Int32), (114 : Int32), (107 : Int32), (58 : Int32)] (0 : Int32) (4 : Int32) [(.int 97), (.int 114), (.int 107), (.int 58)] cpt 2 fmt h2 O2 Ea2 Fc2 Fv2 V2 own_enc_ark (Nat.le_of_ble_eq_true rfl) own_rng_ark g7_S g8_hcpt g9_S g10_S g11_S (Nat.le_of_ble_eq_true rfl) g12_hfmt g13_S) (by decide) (by decide) e22 Ea2 (by rw [hml]; rfl) (lenOf own_pd16 rfl) (argsL := [(.int 2)]) (rest := [(.int r_22)]) rfl rfl (Nat.le_of_eq rfl) (hb hby d6_44) (by decide) (by decide) ?_
          intro T23 h23 v23 L23 X23 e23 q23
          obtain ⟨rfl, M23, rfl⟩ := q23
          have N23 := Fr.app N22 M23
          show G (T23.setTop (mkF m 47 #[.val (.ref a), .val (.int (Int32.ofNat i)), .val (.int 2)] [(.int ([(97 : Int32), (114 : Int32), (107 : Int32), (58 : Int32)].getD 2 0)), (.int r_22)]))
          show G (T23.setTop (mkF m 47 #[.val (.ref a), .val (.int (Int32.ofNat i)), .val (.int 2)] [(.int 107), (.int r_22)]))
          by_cases hc47_24 : r_22 = (107 : Int32)
          · skip
            refine hG _ _ (fun t_ k_ => XS.icmpYes X23.here hx rfl (pc0 := 47) (pc' := 52) rfl (hb hby d6_47) rfl (teq hc47_24).1 (by decide) (by decide) k_) ?_
            show G (T23.setTop (mkF m 52 #[.val (.ref a), .val (.int (Int32.ofNat i)), .val (.int 2)] []))
            refine hG _ _ (fun t_ k_ => XS.iinc X23.here hx rfl (hb hby d6_52) rfl (l' := #[.val (.ref a), .val (.int (Int32.ofNat i)), .val (.int ((2 : Int32) + (1 : Int32)))]) rfl k_) ?_
            refine hG _ _ (fun t_ k_ => XS.goto X23.here hx rfl (pc0 := 55) (pc' := 22) rfl (hb hby d6_55) (by decide) (by decide) k_) ?_
            show G (T23.setTop (mkF m 22 #[.val (.ref a), .val (.int (Int32.ofNat i)), .val (.int ((2 : Int32) + (1 : Int32)))] []))
            rw [show ((2 : Int32) + (1 : Int32)) = (3 : Int32) from by decide]
            show G (T23.setTop (mkF m 22 #[.val (.ref a), .val (.int (Int32.ofNat i)), .val (.int 3)] []))
            refine hG _ _ (fun t_ k_ => XS.iloadN X23.here hx rfl (hb hby d6_22) rfl k_) ?_
            show G (T23.setTop (mkF m 23 #[.val (.ref a), .val (.int (Int32.ofNat i)), .val (.int 3)] [(.int 3)]))
            refine hG _ _ (ldcAgain X23 hx hZ2 hown2 (ow hw 66 rfl) Li2 (g := (mkF m 23 #[.val (.ref a), .val (.int (Int32.ofNat i)), .val (.int 3)] [(.int 3)])) rfl (hb hby d6_23)) ?_
            show G (T23.setTop (mkF m 25 #[.val (.ref a), .val (.int (Int32.ofNat i)), .val (.int 3)] [(.ref a2), (.int 3)]))
            refine own_callV (C := "java/lang/String") X23 hx hZ2 hG hown2 (ow hw 67 rfl) (ow hw 68 rfl) (ow hw 70 rfl) (ow hw 69 rfl) (ow hw 13 rfl) (ow hw 71 rfl) (by decide) 1 (own_len l Z a0 hw a2 b2 kc2 [(97 : Int32), (114 : Int32), (107 : Int32), (58 : Int32)] (0 : Int32) (4 : Int32) [(.int 97), (.int 114), (.int 107), (.int 58)] cpt h2 O2 Ea2 Fc2 Fv2 V2 own_enc_ark (Nat.le_of_ble_eq_true rfl) own_rng_ark g7_S g8_hcpt) (by decide) (by decide) e23 Ea2 (by rw [hml]; rfl) (lenOf own_pd11 rfl) (argsL := []) (rest := [(.int 3)]) rfl rfl (Nat.le_of_eq rfl) (hb hby d6_25) (by decide) (by decide) ?_
            intro T25 h25 v25 L25 X25 e25 q25
            obtain ⟨rfl, M25, rfl⟩ := q25
            have N25 := Fr.app N23 M25
            show G (T25.setTop (mkF m 28 #[.val (.ref a), .val (.int (Int32.ofNat i)), .val (.int 3)] [(.int (Int32.ofNat [(97 : Int32), (114 : Int32), (107 : Int32), (58 : Int32)].length)), (.int 3)]))
            show G (T25.setTop (mkF m 28 #[.val (.ref a), .val (.int (Int32.ofNat i)), .val (.int 3)] [(.int 4), (.int 3)]))
            refine hG _ _ (fun t_ k_ => XS.icmpNo X25.here hx rfl (hb hby d6_28) rfl (tlt (by decide)).2.1 k_) ?_
            show G (T25.setTop (mkF m 31 #[.val (.ref a), .val (.int (Int32.ofNat i)), .val (.int 3)] []))
            refine hG _ _ (fun t_ k_ => XS.aloadN X25.here hx rfl (hb hby d6_31) rfl rfl k_) ?_
            refine hG _ _ (fun t_ k_ => XS.iloadN X25.here hx rfl (hb hby d6_32) rfl k_) ?_
            refine hG _ _ (fun t_ k_ => XS.iloadN X25.here hx rfl (hb hby d6_33) rfl k_) ?_
            refine hG _ _ (fun t_ k_ => XS.iadd X25.here hx rfl (hb hby d6_34) rfl k_) ?_
            show G (T25.setTop (mkF m 35 #[.val (.ref a), .val (.int (Int32.ofNat i)), .val (.int 3)] [(.int ((Int32.ofNat i) + (3 : Int32))), (.ref a)]))
            rw [show Int32.ofNat i + (3 : Int32) = Int32.ofNat (i + 3) from own_addN i 3]
            show G (T25.setTop (mkF m 35 #[.val (.ref a), .val (.int (Int32.ofNat i)), .val (.int 3)] [(.int (Int32.ofNat (i + 3))), (.ref a)]))
            refine own_callV (C := "java/lang/String") X25 hx hZ2 hG hown2 (ow hw 77 rfl) (ow hw 78 rfl) (ow hw 80 rfl) (ow hw 79 rfl) (ow hw 13 rfl) (ow hw 81 rfl) (by decide) 0 (own_ca l Z a0 hw a t kt cs cd nb vs cpt (i + 3) fmt h2 O2 f5 f6 f7 f8 g4_henc g5_hcap g6_h16 g7_S g8_hcpt g9_S g10_S g11_S (by omega) g12_hfmt g13_S) (by decide) (by decide) e25 f5 (by rw [hml]; rfl) (lenOf own_pd16 rfl) (argsL := [(.int (Int32.ofNat (i + 3)))]) (rest := []) rfl rfl (Nat.le_of_eq rfl) (hb hby d6_35) (by decide) (by decide) ?_
            intro T26 h26 v26 L26 X26 e26 q26
            obtain ⟨rfl, M26, rfl⟩ := q26
            have N26 := Fr.app N25 M26
            show G (T26.setTop (mkF m 38 #[.val (.ref a), .val (.int (Int32.ofNat i)), .val (.int 3)] [(.int (cs.getD (i + 3) 0))]))
            refine own_callS X26 hx hZ2 hG hown2 (ow hw 104 rfl) (ow hw 105 rfl) (ow hw 34 rfl) (ow hw 106 rfl) (by decide) 0 (own_tlc l Z a0 hw (cs.getD (i + 3) 0) h2 O2 (own_getD_rng g6_h16 _)) (by decide) (by decide) e26 (by rw [hml]; rfl) (lenOf own_pd18 rfl) (argsL := [(.int (cs.getD (i + 3) 0))]) (rest := []) rfl rfl (Nat.le_of_eq rfl) (hb hby d6_38) (by decide) (by decide) ?_
            intro T27 h27 v27 L27 X27 e27 q27
            obtain ⟨r_27, rfl, M27, rfl, r27_0⟩ := q27
            have N27 := Fr.app N26 M27
            show G (T27.setTop (mkF m 41 #[.val (.ref a), .val (.int (Int32.ofNat i)), .val (.int 3)] [(.int r_27)]))
            refine hG _ _ (ldcAgain X27 hx hZ2 hown2 (ow hw 66 rfl) Li2 (g := (mkF m 41 #[.val (.ref a), .val (.int (Int32.ofNat i)), .val (.int 3)] [(.int r_27)])) rfl (hb hby d6_41)) ?_
            show G (T27.setTop (mkF m 43 #[.val (.ref a), .val (.int (Int32.ofNat i)), .val (.int 3)] [(.ref a2), (.int r_27)]))
            refine hG _ _ (fun t_ k_ => XS.iloadN X27.here hx rfl (hb hby d6_43) rfl k_) ?_
            show G (T27.setTop (mkF m 44 #[.val (.ref a), .val (.int (Int32.ofNat i)), .val (.int 3)] [(.int 3), (.ref a2), (.int r_27)]))
            refine own_callV (C := "java/lang/String") X27 hx hZ2 hG hown2 (ow hw 77 rfl) (ow hw 78 rfl) (ow hw 80 rfl) (ow hw 79 rfl) (ow hw 13 rfl) (ow hw 81 rfl) (by decide) 1 (own_ca l Z a0 hw a2 b2 kc2 [(97 : Int32), (114 : Int32), (107 : Int32), (58 : Int32)] (0 : Int32) (4 : Int32) [(.int 97), (.int 114), (.int 107), (.int 58)] cpt 3 fmt h2 O2 Ea2 Fc2 Fv2 V2 own_enc_ark (Nat.le_of_ble_eq_true rfl) own_rng_ark g7_S g8_hcpt g9_S g10_S g11_S (Nat.le_of_ble_eq_true rfl) g12_hfmt g13_S) (by decide) (by decide) e27 Ea2 (by rw [hml]; rfl) (lenOf own_pd16 rfl) (argsL := [(.int 3)]) (rest := [(.int r_27)]) rfl rfl (Nat.le_of_eq rfl) (hb hby d6_44) (by decide) (by decide) ?_
            intro T28 h28 v28 L28 X28 e28 q28
            obtain ⟨rfl, M28, rfl⟩ := q28
            have N28 := Fr.app N27 M28
            show G (T28.setTop (mkF m 47 #[.val (.ref a), .val (.int (Int32.ofNat i)), .val (.int 3)] [(.int ([(97 : Int32), (114 : Int32), (107 : Int32), (58 : Int32)].getD 3 0)), (.int r_27)]))
            show G (T28.setTop (mkF m 47 #[.val (.ref a), .val (.int (Int32.ofNat i)), .val (.int 3)] [(.int 58), (.int r_27)]))
            by_cases hc47_29 : r_27 = (58 : Int32)
            · skip
              refine hG _ _ (fun t_ k_ => XS.icmpYes X28.here hx rfl (pc0 := 47) (pc' := 52) rfl (hb hby d6_47) rfl (teq hc47_29).1 (by decide) (by decide) k_) ?_
              show G (T28.setTop (mkF m 52 #[.val (.ref a), .val (.int (Int32.ofNat i)), .val (.int 3)] []))
              refine hG _ _ (fun t_ k_ => XS.iinc X28.here hx rfl (hb hby d6_52) rfl (l' := #[.val (.ref a), .val (.int (Int32.ofNat i)), .val (.int ((3 : Int32) + (1 : Int32)))]) rfl k_) ?_
              refine hG _ _ (fun t_ k_ => XS.goto X28.here hx rfl (pc0 := 55) (pc' := 22) rfl (hb hby d6_55) (by decide) (by decide) k_) ?_
              show G (T28.setTop (mkF m 22 #[.val (.ref a), .val (.int (Int32.ofNat i)), .val (.int ((3 : Int32) + (1 : Int32)))] []))
              rw [show ((3 : Int32) + (1 : Int32)) = (4 : Int32) from by decide]
              show G (T28.setTop (mkF m 22 #[.val (.ref a), .val (.int (Int32.ofNat i)), .val (.int 4)] []))
              refine hG _ _ (fun t_ k_ => XS.iloadN X28.here hx rfl (hb hby d6_22) rfl k_) ?_
              show G (T28.setTop (mkF m 23 #[.val (.ref a), .val (.int (Int32.ofNat i)), .val (.int 4)] [(.int 4)]))
              refine hG _ _ (ldcAgain X28 hx hZ2 hown2 (ow hw 66 rfl) Li2 (g := (mkF m 23 #[.val (.ref a), .val (.int (Int32.ofNat i)), .val (.int 4)] [(.int 4)])) rfl (hb hby d6_23)) ?_
              show G (T28.setTop (mkF m 25 #[.val (.ref a), .val (.int (Int32.ofNat i)), .val (.int 4)] [(.ref a2), (.int 4)]))
              refine own_callV (C := "java/lang/String") X28 hx hZ2 hG hown2 (ow hw 67 rfl) (ow hw 68 rfl) (ow hw 70 rfl) (ow hw 69 rfl) (ow hw 13 rfl) (ow hw 71 rfl) (by decide) 1 (own_len l Z a0 hw a2 b2 kc2 [(97 : Int32), (114 : Int32), (107 : Int32), (58 : Int32)] (0 : Int32) (4 : Int32) [(.int 97), (.int 114), (.int 107), (.int 58)] cpt h2 O2 Ea2 Fc2 Fv2 V2 own_enc_ark (Nat.le_of_ble_eq_true rfl) own_rng_ark g7_S g8_hcpt) (by decide) (by decide) e28 Ea2 (by rw [hml]; rfl) (lenOf own_pd11 rfl) (argsL := []) (rest := [(.int 4)]) rfl rfl (Nat.le_of_eq rfl) (hb hby d6_25) (by decide) (by decide) ?_
              intro T30 h30 v30 L30 X30 e30 q30
              obtain ⟨rfl, M30, rfl⟩ := q30
              have N30 := Fr.app N28 M30
              show G (T30.setTop (mkF m 28 #[.val (.ref a), .val (.int (Int32.ofNat i)), .val (.int 4)] [(.int (Int32.ofNat [(97 : Int32), (114 : Int32), (107 : Int32), (58 : Int32)].length)), (.int 4)]))
              show G (T30.setTop (mkF m 28 #[.val (.ref a), .val (.int (Int32.ofNat i)), .val (.int 4)] [(.int 4), (.int 4)]))
              refine hG _ _ (fun t_ k_ => XS.icmpYes X30.here hx rfl (pc0 := 28) (pc' := 58) rfl (hb hby d6_28) rfl (flt (by decide)).2.1 (by decide) (by decide) k_) ?_
              show G (T30.setTop (mkF m 58 #[.val (.ref a), .val (.int (Int32.ofNat i)), .val (.int 4)] []))
              refine hG _ _ (fun t_ k_ => XS.iconst X30.here hx rfl (hb hby d6_58) k_) ?_
              show G (T30.setTop (mkF m 59 #[.val (.ref a), .val (.int (Int32.ofNat i)), .val (.int 4)] [(.int 1)]))
              exact own_retNW hR hret (by simp) X30 hx (hb hby d6_59) e30 SI2 hk2 hZ2 C2 (by decide) (by decide) ⟨(1 : Int32), rfl, N30, K2, (Or.inl ⟨rfl, hiff.mpr ⟨r12_0.1.mp hc47_14, r17_0.2.1.mp hc47_19, r22_0.2.2.1.mp hc47_24, r27_0.2.2.2.mp hc47_29⟩⟩)⟩
            · skip
              refine hG _ _ (fun t_ k_ => XS.icmpNo X28.here hx rfl (hb hby d6_47) rfl (feq hc47_29).1 k_) ?_
              show G (T28.setTop (mkF m 50 #[.val (.ref a), .val (.int (Int32.ofNat i)), .val (.int 3)] []))
              refine hG _ _ (fun t_ k_ => XS.iconst X28.here hx rfl (hb hby d6_50) k_) ?_
              show G (T28.setTop (mkF m 51 #[.val (.ref a), .val (.int (Int32.ofNat i)), .val (.int 3)] [(.int 0)]))
              exact own_retNW hR hret (by simp) X28 hx (hb hby d6_51) e28 SI2 hk2 hZ2 C2 (by decide) (by decide) ⟨(0 : Int32), rfl, N28, K2, (Or.inr ⟨rfl, fun q => hc47_29 (r27_0.2.2.2.mpr (hiff.mp q).2.2.2)⟩)⟩
          · skip
            refine hG _ _ (fun t_ k_ => XS.icmpNo X23.here hx rfl (hb hby d6_47) rfl (feq hc47_24).1 k_) ?_
            show G (T23.setTop (mkF m 50 #[.val (.ref a), .val (.int (Int32.ofNat i)), .val (.int 2)] []))
            refine hG _ _ (fun t_ k_ => XS.iconst X23.here hx rfl (hb hby d6_50) k_) ?_
            show G (T23.setTop (mkF m 51 #[.val (.ref a), .val (.int (Int32.ofNat i)), .val (.int 2)] [(.int 0)]))
            exact own_retNW hR hret (by simp) X23 hx (hb hby d6_51) e23 SI2 hk2 hZ2 C2 (by decide) (by decide) ⟨(0 : Int32), rfl, N23, K2, (Or.inr ⟨rfl, fun q => hc47_24 (r22_0.2.2.1.mpr (hiff.mp q).2.2.1)⟩)⟩
        · skip
          refine hG _ _ (fun t_ k_ => XS.icmpNo X18.here hx rfl (hb hby d6_47) rfl (feq hc47_19).1 k_) ?_
          show G (T18.setTop (mkF m 50 #[.val (.ref a), .val (.int (Int32.ofNat i)), .val (.int 1)] []))
          refine hG _ _ (fun t_ k_ => XS.iconst X18.here hx rfl (hb hby d6_50) k_) ?_
          show G (T18.setTop (mkF m 51 #[.val (.ref a), .val (.int (Int32.ofNat i)), .val (.int 1)] [(.int 0)]))
          exact own_retNW hR hret (by simp) X18 hx (hb hby d6_51) e18 SI2 hk2 hZ2 C2 (by decide) (by decide) ⟨(0 : Int32), rfl, N18, K2, (Or.inr ⟨rfl, fun q => hc47_19 (r17_0.2.1.mpr (hiff.mp q).2.1)⟩)⟩
      · skip
        refine hG _ _ (fun t_ k_ => XS.icmpNo X13.here hx rfl (hb hby d6_47) rfl (feq hc47_14).1 k_) ?_
        show G (T13.setTop (mkF m 50 #[.val (.ref a), .val (.int (Int32.ofNat i)), .val (.int 0)] []))
        refine hG _ _ (fun t_ k_ => XS.iconst X13.here hx rfl (hb hby d6_50) k_) ?_
        show G (T13.setTop (mkF m 51 #[.val (.ref a), .val (.int (Int32.ofNat i)), .val (.int 0)] [(.int 0)]))
        exact own_retNW hR hret (by simp) X13 hx (hb hby d6_51) e13 SI2 hk2 hZ2 C2 (by decide) (by decide) ⟨(0 : Int32), rfl, N13, K2, (Or.inr ⟨rfl, fun q => hc47_14 (r12_0.1.mpr (hiff.mp q).1)⟩)⟩
theorem own_pd20 : parseMethodDescriptor "([CI)Ljava/lang/String;" = some ⟨[(.array .char), .int], some (.object "java/lang/String")⟩ := by decide +kernel
set_option maxRecDepth 65536 in
set_option maxHeartbeats 40000000 in
theorem own_text (l : Launch) (Z : State) (a0 : Array Value) (hw : ∀ d ∈ tables_1, d.before a0 Z = true) (hEL : EW Z a0 consts_1) (u : Addr) (n : Int32) (ku : ClassId) (x0 : Int32) (x1 : Int32) (x2 : Int32) (x3 : Int32) (x4 : Int32) (x5 : Int32) (x6 : Int32) (x7 : Int32) (x8 : Int32) (cpt : Int32) (h0 : Heap) (O0 : own_Old Z h0) (g0_S : Sta Z Z.heap "java/lang/String" "COMPACT_STRINGS" "Z" (.int cpt)) (g1_hcpt : ¬ (cpt = (0 : Int32))) (g2_S : Sta Z Z.heap "java/lang/StringUTF16" "$assertionsDisabled" "Z" (.int 1)) (g3_S : Sta Z Z.heap "java/lang/StringUTF16" "HI_BYTE_SHIFT" "I" (.int 0)) (g4_S : Sta Z Z.heap "java/lang/StringUTF16" "LO_BYTE_SHIFT" "I" (.int 8)) (g5_V : Arv Z h0 u ku .char (9 : Int32) [(.int x0), (.int x1), (.int x2), (.int x3), (.int x4), (.int x5), (.int x6), (.int x7), (.int x8)] (.int 0)) (g6_hn : 0 ≤ n.toInt ∧ n.toInt ≤ 7) (g7_hx : ∀ c ∈ [x0, x1, x2, x3, x4, x5, x6, x7, x8], 0 ≤ c.toInt ∧ c.toInt ≤ 65535) :
    own_ConW l Z consts_1 (⟨"com/example/perenna/perenna/ArkHasLabelAtPinLaw", "text", "([CI)Ljava/lang/String;"⟩ : MethodName) method_3_code 2 (some (.object "java/lang/String")) [] ({ frames := 6, cells := 4, slots := 32, locals := 88 } : Room) #[(.ref u), (.int n)] h0 (fun rv rh rL => ∃ (q : Addr) (t : Addr) (kt : ClassId) (cd : Int32) (nb : Int32) (vs : List Value), rv = some (.ref q) ∧ own_Fr Z rL ∧ Keep h0 rh [] ∧ h0.size ≤ q ∧ (Exa Z rh q "java/lang/String") ∧ (Fld Z rh q "java/lang/String" "coder" "B" (.int cd)) ∧ (Fld Z rh q "java/lang/String" "value" "[B" (.ref t)) ∧ (Arv Z rh t kt .byte nb vs (.int 0)) ∧ (own_enc ([x0, x1, x2, x3, x4, x5, x6, x7, x8].take n.toNatClampNeg) cd nb vs)) := by
  refine own_introW hEL (plainFor_of_name (by first | (simp [plainName, overriddenIn]; done) | decide +kernel)) ?_
  intro p e s m below meth c s₁ G hx hby hml hown hnm hret hZ X0 e0 H0 SI0 hG hR
  have N0 := Fr.nil Z.heap.size
  refine own_entry (Ls := #[.val (.ref u), .val (.int n)]) (by first | (simp [entryFrame, mkF, argsToLocals, Value.category]; done) | rfl) ?_
  show G (s₁.setTop (mkF m 0 #[.val (.ref u), .val (.int n)] []))
  refine hG _ _ (fun t_ k_ => XS.iloadN X0.here hx rfl (hb hby d2_0) rfl k_) ?_
  show G (s₁.setTop (mkF m 1 #[.val (.ref u), .val (.int n)] [(.int n)]))
  by_cases hc1_1 : n = (0 : Int32)
  · skip
    refine hG _ _ (fun t_ k_ => XS.ifNo X0.here hx rfl (hb hby d2_1) rfl ((if0 _ _).trans (teq hc1_1).2) k_) ?_
    show G (s₁.setTop (mkF m 4 #[.val (.ref u), .val (.int n)] []))
    obtain ⟨T2, h2, X2, e2, E2, A2, D2, -, st2⟩ := newO X0 hx hZ hown (ow hw 11 rfl) (ow hw 12 rfl) (ow hw 13 rfl) e0 (g := (mkF m 4 #[.val (.ref u), .val (.int n)] [])) rfl (hb hby d2_4) (by decide) (by decide)
    obtain ⟨b2, z2⟩ : ∃ z, z = h0.size := ⟨_, rfl⟩
    rw [← z2] at A2 D2 st2
    refine hG _ _ st2 ?_
    have R2 := (CHr.ext E2 H0)
    have C2 := (CHr.refl H0).trans R2
    have K2 : Keep h0 h2 [] := (Keep.refl h0 []).ext E2
    have O2 : own_Old Z h2 := O0.ext E2
    show G (T2.setTop (mkF m 7 #[.val (.ref u), .val (.int n)] [(.ref b2)]))
    refine hG _ _ (fun t_ k_ => XS.dup X2.here hx rfl (hb hby d2_7) rfl rfl k_) ?_
    refine hG _ _ (fun t_ k_ => XS.iconst X2.here hx rfl (hb hby d2_8) k_) ?_
    show G (T2.setTop (mkF m 9 #[.val (.ref u), .val (.int n)] [(.int 0), (.ref b2), (.ref b2)]))
    obtain ⟨T3, h3, k3, X3, e3, E3, A3, st3⟩ := newP X2 hx hZ (ow hw 1 rfl) e2 (g := (mkF m 9 #[.val (.ref u), .val (.int n)] [(.int 0), (.ref b2), (.ref b2)])) rfl (hb hby d2_9) rfl (by decide) (cap := 0) (by decide) (by decide) (by decide) (by decide)
    obtain ⟨b3, z3⟩ : ∃ z, z = h2.size := ⟨_, rfl⟩
    rw [← z3] at A3 st3
    refine hG _ _ st3 ?_
    have R3 := (CHr.ext E3 R2.1)
    have C3 := C2.trans R3
    have K3 : Keep h0 h3 [] := K2.ext E3
    have O3 : own_Old Z h3 := O2.ext E3
    have V3 : Arv Z h3 b3 k3 .char (0 : Int32) [] (.int 0) := (Arv.new A3 (by decide)).pad (pad_rep [] (.int 0) 0)
    show G (T3.setTop (mkF m 11 #[.val (.ref u), .val (.int n)] [(.ref b3), (.ref b2), (.ref b2)]))
    have f5 := (A2.ext E3)
    have f6 := ((D2 (Or.inr (ow hw 27 rfl)) (ty := .byte) (by decide)).ext E3)
    have f7 := ((D2 (Or.inr (ow hw 26 rfl)) (ty := (.array .byte)) (by decide)).ext E3)
    refine own_callIW X3 hx hZ hG hown rfl (ow hw 14 rfl) (ow hw 15 rfl) (ow hw 13 rfl) (ow hw 16 rfl) (by decide) 1 (own_str1E l Z a0 hw hEL b2 b3 (.int 0) k3 h3 O3 f5 f6 f7 (own_ge O0 (Nat.le_of_eq z2.symm)) V3) (by decide) (by decide) e3 SI0 (Nat.le_trans (Nat.le_trans (Nat.le_refl _) R2.2.1) R3.2.1) hEL R3.1 (by rw [hml]; rfl) (lenOf own_pd8 rfl) (argsL := [(.ref b3)]) (rest := [(.ref b2)]) rfl rfl (Nat.le_of_eq rfl) (hb hby d2_11) (by decide) (by decide) ?_
    intro T4 h4 v4 L4 X4 e4 SI4 hZ4 hown4 Y4 q4
    obtain ⟨t_4, kt_4, rfl, M4, J4, r4_0, r4_1, r4_2, r4_3⟩ := q4
    have N4 := Fr.app N0 M4
    have R4 := Y4
    have C4 := C3.trans R4
    have K4 : Keep h0 h4 [] := K3.trans J4 (allS (Or.inr (Nat.le_trans (Keep.refl h0 []).1 (Nat.le_of_eq z2.symm))) all0)
    have O4 : own_Old Z h4 := O3.keep J4 (allS (own_ge O0 (Nat.le_of_eq z2.symm)) all0)
    show G (T4.setTop (mkF m 14 #[.val (.ref u), .val (.int n)] [(.ref b2)]))
    exact own_retAW hR hret rfl rfl X4 hx (hb hby d2_14) e4 SI4 (Nat.le_refl _) hZ4 C4 (by decide) (by decide) ⟨b2, t_4, kt_4, (0 : Int32), (0 : Int32), [], rfl, N4, K4, (Nat.le_trans (Keep.refl h0 []).1 (Nat.le_of_eq z2.symm)), r4_0, r4_1, r4_2, r4_3, (by rw [hc1_1]; exact own_enc_nil)⟩
  · skip
    refine hG _ _ (fun t_ k_ => XS.ifYes X0.here hx rfl (pc0 := 1) (pc' := 15) rfl (hb hby d2_1) rfl ((if0 _ _).trans (feq hc1_1).2) (by decide) (by decide) k_) ?_
    show G (s₁.setTop (mkF m 15 #[.val (.ref u), .val (.int n)] []))
    refine hG _ _ (fun t_ k_ => XS.iloadN X0.here hx rfl (hb hby d2_15) rfl k_) ?_
    refine hG _ _ (fun t_ k_ => XS.iconst X0.here hx rfl (hb hby d2_16) k_) ?_
    show G (s₁.setTop (mkF m 17 #[.val (.ref u), .val (.int n)] [(.int 1), (.int n)]))
    by_cases hc17_8 : n = (1 : Int32)
    · skip
      refine hG _ _ (fun t_ k_ => XS.icmpNo X0.here hx rfl (hb hby d2_17) rfl (teq hc17_8).2 k_) ?_
      show G (s₁.setTop (mkF m 20 #[.val (.ref u), .val (.int n)] []))
      obtain ⟨T9, h9, X9, e9, E9, A9, D9, -, st9⟩ := newO X0 hx hZ hown (ow hw 11 rfl) (ow hw 12 rfl) (ow hw 13 rfl) e0 (g := (mkF m 20 #[.val (.ref u), .val (.int n)] [])) rfl (hb hby d2_20) (by decide) (by decide)
      obtain ⟨b9, z9⟩ : ∃ z, z = h0.size := ⟨_, rfl⟩
      rw [← z9] at A9 D9 st9
      refine hG _ _ st9 ?_
      have R9 := (CHr.ext E9 H0)
      have C9 := (CHr.refl H0).trans R9
      have K9 : Keep h0 h9 [] := (Keep.refl h0 []).ext E9
      have O9 : own_Old Z h9 := O0.ext E9
      show G (T9.setTop (mkF m 23 #[.val (.ref u), .val (.int n)] [(.ref b9)]))
      refine hG _ _ (fun t_ k_ => XS.dup X9.here hx rfl (hb hby d2_23) rfl rfl k_) ?_
      refine hG _ _ (fun t_ k_ => XS.iconst X9.here hx rfl (hb hby d2_24) k_) ?_
      show G (T9.setTop (mkF m 25 #[.val (.ref u), .val (.int n)] [(.int 1), (.ref b9), (.ref b9)]))
      obtain ⟨T10, h10, k10, X10, e10, E10, A10, st10⟩ := newP X9 hx hZ (ow hw 1 rfl) e9 (g := (mkF m 25 #[.val (.ref u), .val (.int n)] [(.int 1), (.ref b9), (.ref b9)])) rfl (hb hby d2_25) rfl (by decide) (cap := 1) (by decide) (by decide) (by decide) (by decide)
      obtain ⟨b10, z10⟩ : ∃ z, z = h9.size := ⟨_, rfl⟩
      rw [← z10] at A10 st10
      refine hG _ _ st10 ?_
      have R10 := (CHr.ext E10 R9.1)
      have C10 := C9.trans R10
      have K10 : Keep h0 h10 [] := K9.ext E10
      have O10 : own_Old Z h10 := O9.ext E10
      have V10 : Arv Z h10 b10 k10 .char (1 : Int32) [(.int 0)] (.int 0) := (Arv.new A10 (by decide)).pad (pad_rep [] (.int 0) 1)
      show G (T10.setTop (mkF m 27 #[.val (.ref u), .val (.int n)] [(.ref b10), (.ref b9), (.ref b9)]))
      refine hG _ _ (fun t_ k_ => XS.dup X10.here hx rfl (hb hby d2_27) rfl rfl k_) ?_
      refine hG _ _ (fun t_ k_ => XS.iconst X10.here hx rfl (hb hby d2_28) k_) ?_
      refine hG _ _ (fun t_ k_ => XS.aloadN X10.here hx rfl (hb hby d2_29) rfl rfl k_) ?_
      refine hG _ _ (fun t_ k_ => XS.iconst X10.here hx rfl (hb hby d2_30) k_) ?_
      show G (T10.setTop (mkF m 31 #[.val (.ref u), .val (.int n)] [(.int 0), (.ref u), (.int 0), (.ref b10), (.ref b10), (.ref b9), (.ref b9)]))
      have f12 := ((g5_V.ext E9).ext E10)
      obtain ⟨c11, Ar11, q11, S11, M11, H11, G11⟩ := id f12
      have hin11 : ¬ ((0 : Int32) < 0 ∨ c11.slots.size ≤ (0 : Int32).toNatClampNeg) := inb_of S11 ⟨by decide, by decide⟩
      refine hG _ _ (X10.caload hx (j := (0 : Int32)) (v := (.int x0)) (by rw [e10]; exact Ar11.1) (State.isArrayOf_alike hZ.alike Ar11.2.1) Ar11.2.2 hin11 (Has.at H11 hin11 rfl) (g := (mkF m 31 #[.val (.ref u), .val (.int n)] [(.int 0), (.ref u), (.int 0), (.ref b10), (.ref b10), (.ref b9), (.ref b9)])) rfl rfl (hb hby d2_31)) ?_
      show G (T10.setTop (mkF m 32 #[.val (.ref u), .val (.int n)] [(.int x0), (.int 0), (.ref b10), (.ref b10), (.ref b9), (.ref b9)]))
      obtain ⟨c13, Ar13, q13, S13, M13, H13, G13⟩ := id V10
      obtain ⟨T13, h13, X13, e13, W13, st13⟩ := stC X10 hx hZ e10 Ar13 (j := (0 : Int32)) (inb_of S13 ⟨by decide, by decide⟩) (g := (mkF m 32 #[.val (.ref u), .val (.int n)] [(.int x0), (.int 0), (.ref b10), (.ref b10), (.ref b9), (.ref b9)])) rfl rfl (hb hby d2_32)
      refine hG _ _ st13 ?_
      have sf14 : Safe Z consts_1 _ h10 b10 := (own_safeArv hZ.alike V10 (by decide))
      have R13 := (CHr.wr W13 sf14 R10.1)
      have C13 := C10.trans R13
      have K13 : Keep h0 h13 [] := K10.wr W13 (Or.inr (Nat.le_trans K9.1 (Nat.le_of_eq z10.symm)))
      have O13 : own_Old Z h13 := O10.wr W13 (own_ge O9 (Nat.le_of_eq z10.symm))
      rw [own_narC (g7_hx x0 (List.mem_of_getElem? (i := 0) rfl))] at W13
      have V13 : Arv Z h13 b10 k10 .char (1 : Int32) [(.int x0)] (.int 0) := Arv.set Ar13 q13 S13 M13 H13 G13 (own_fitC (g7_hx x0 (List.mem_of_getElem? (i := 0) rfl))) W13 0 rfl (Nat.le_of_ble_eq_true rfl)
      have N13 := Fr.snoc X13 N0 (own_ge O9 (Nat.le_of_eq z10.symm))
      show G (T13.setTop (mkF m 33 #[.val (.ref u), .val (.int n)] [(.ref b10), (.ref b9), (.ref b9)]))
      have f16 := ((A9.ext E10).wr W13)
      have f17 := (((D9 (Or.inr (ow hw 27 rfl)) (ty := .byte) (by decide)).ext E10).other W13 (Or.inl (own_ne A9.lt (Nat.le_of_eq z10.symm))))
      have f18 := (((D9 (Or.inr (ow hw 26 rfl)) (ty := (.array .byte)) (by decide)).ext E10).other W13 (Or.inl (own_ne A9.lt (Nat.le_of_eq z10.symm))))
      refine own_callI X13 hx hZ hG hown rfl (ow hw 14 rfl) (ow hw 15 rfl) (ow hw 13 rfl) (ow hw 16 rfl) (by decide) 1 (own_gstr1 l Z a0 hw b9 b10 k10 [x0] cpt (.int 0) .null h13 O13 f16 f17 f18 (own_ge O0 (Nat.le_of_eq z9.symm)) V13 (Nat.le_of_ble_eq_true rfl) (Nat.le_of_ble_eq_true rfl) (own_allc (g7_hx x0 (List.mem_of_getElem? (i := 0) rfl)) own_alln) g0_S g1_hcpt g2_S g3_S g4_S) (by decide) (by decide) e13 (by rw [hml]; rfl) (lenOf own_pd8 rfl) (argsL := [(.ref b10)]) (rest := [(.ref b9)]) rfl rfl (Nat.le_of_eq rfl) (hb hby d2_33) (by decide) (by decide) ?_
      intro T15 h15 v15 L15 X15 e15 q15
      obtain ⟨t_15, kt_15, cd_15, nb_15, vs_15, rfl, M15, J15, y15_0, r15_0, r15_1, r15_2, r15_3, r15_4⟩ := q15
      have N15 := Fr.app N13 M15
      have sf19 : Safe Z consts_1 _ h13 b9 := (own_safeStr hZ.alike f16 f18)
      have R15 := (CHr.keep J15 (allS sf19 all0) R13.1)
      have C15 := C13.trans R15
      have K15 : Keep h0 h15 [] := K13.trans J15 (allS (Or.inr (Nat.le_trans (Keep.refl h0 []).1 (Nat.le_of_eq z9.symm))) all0)
      have O15 : own_Old Z h15 := O13.keep J15 (allS (own_ge O0 (Nat.le_of_eq z9.symm)) all0)
      show G (T15.setTop (mkF m 36 #[.val (.ref u), .val (.int n)] [(.ref b9)]))
      exact own_retAW hR hret rfl rfl X15 hx (hb hby d2_36) e15 SI0 (Nat.le_trans (Nat.le_trans (Nat.le_trans (Nat.le_trans (Nat.le_refl _) R9.2.1) R10.2.1) R13.2.1) R15.2.1) hZ C15 (by decide) (by decide) ⟨b9, t_15, kt_15, cd_15, nb_15, vs_15, rfl, N15, K15, (Nat.le_trans (Keep.refl h0 []).1 (Nat.le_of_eq z9.symm)), r15_0, r15_1, r15_2, r15_3, (by rw [hc17_8]; exact r15_4)⟩
    · skip
      refine hG _ _ (fun t_ k_ => XS.icmpYes X0.here hx rfl (pc0 := 17) (pc' := 37) rfl (hb hby d2_17) rfl (feq hc17_8).2 (by decide) (by decide) k_) ?_
      show G (s₁.setTop (mkF m 37 #[.val (.ref u), .val (.int n)] []))
      refine hG _ _ (fun t_ k_ => XS.iloadN X0.here hx rfl (hb hby d2_37) rfl k_) ?_
      refine hG _ _ (fun t_ k_ => XS.iconst X0.here hx rfl (hb hby d2_38) k_) ?_
      show G (s₁.setTop (mkF m 39 #[.val (.ref u), .val (.int n)] [(.int 2), (.int n)]))
      by_cases hc39_20 : n = (2 : Int32)
      · skip
        refine hG _ _ (fun t_ k_ => XS.icmpNo X0.here hx rfl (hb hby d2_39) rfl (teq hc39_20).2 k_) ?_
        show G (s₁.setTop (mkF m 42 #[.val (.ref u), .val (.int n)] []))
        obtain ⟨T21, h21, X21, e21, E21, A21, D21, -, st21⟩ := newO X0 hx hZ hown (ow hw 11 rfl) (ow hw 12 rfl) (ow hw 13 rfl) e0 (g := (mkF m 42 #[.val (.ref u), .val (.int n)] [])) rfl (hb hby d2_42) (by decide) (by decide)
        obtain ⟨b21, z21⟩ : ∃ z, z = h0.size := ⟨_, rfl⟩
        rw [← z21] at A21 D21 st21
        refine hG _ _ st21 ?_
        have R21 := (CHr.ext E21 H0)
        have C21 := (CHr.refl H0).trans R21
        have K21 : Keep h0 h21 [] := (Keep.refl h0 []).ext E21
        have O21 : own_Old Z h21 := O0.ext E21
        show G (T21.setTop (mkF m 45 #[.val (.ref u), .val (.int n)] [(.ref b21)]))
        refine hG _ _ (fun t_ k_ => XS.dup X21.here hx rfl (hb hby d2_45) rfl rfl k_) ?_
        refine hG _ _ (fun t_ k_ => XS.iconst X21.here hx rfl (hb hby d2_46) k_) ?_
        show G (T21.setTop (mkF m 47 #[.val (.ref u), .val (.int n)] [(.int 2), (.ref b21), (.ref b21)]))
        obtain ⟨T22, h22, k22, X22, e22, E22, A22, st22⟩ := newP X21 hx hZ (ow hw 1 rfl) e21 (g := (mkF m 47 #[.val (.ref u), .val (.int n)] [(.int 2), (.ref b21), (.ref b21)])) rfl (hb hby d2_47) rfl (by decide) (cap := 2) (by decide) (by decide) (by decide) (by decide)
        obtain ⟨b22, z22⟩ : ∃ z, z = h21.size := ⟨_, rfl⟩
        rw [← z22] at A22 st22
        refine hG _ _ st22 ?_
        have R22 := (CHr.ext E22 R21.1)
        have C22 := C21.trans R22
        have K22 : Keep h0 h22 [] := K21.ext E22
        have O22 : own_Old Z h22 := O21.ext E22
        have V22 : Arv Z h22 b22 k22 .char (2 : Int32) [(.int 0), (.int 0)] (.int 0) := (Arv.new A22 (by decide)).pad (pad_rep [] (.int 0) 2)
        show G (T22.setTop (mkF m 49 #[.val (.ref u), .val (.int n)] [(.ref b22), (.ref b21), (.ref b21)]))
        refine hG _ _ (fun t_ k_ => XS.dup X22.here hx rfl (hb hby d2_49) rfl rfl k_) ?_
        refine hG _ _ (fun t_ k_ => XS.iconst X22.here hx rfl (hb hby d2_50) k_) ?_
        refine hG _ _ (fun t_ k_ => XS.aloadN X22.here hx rfl (hb hby d2_51) rfl rfl k_) ?_
        refine hG _ _ (fun t_ k_ => XS.iconst X22.here hx rfl (hb hby d2_52) k_) ?_
        show G (T22.setTop (mkF m 53 #[.val (.ref u), .val (.int n)] [(.int 0), (.ref u), (.int 0), (.ref b22), (.ref b22), (.ref b21), (.ref b21)]))
        have f24 := ((g5_V.ext E21).ext E22)
        obtain ⟨c23, Ar23, q23, S23, M23, H23, G23⟩ := id f24
        have hin23 : ¬ ((0 : Int32) < 0 ∨ c23.slots.size ≤ (0 : Int32).toNatClampNeg) := inb_of S23 ⟨by decide, by decide⟩
        refine hG _ _ (X22.caload hx (j := (0 : Int32)) (v := (.int x0)) (by rw [e22]; exact Ar23.1) (State.isArrayOf_alike hZ.alike Ar23.2.1) Ar23.2.2 hin23 (Has.at H23 hin23 rfl) (g := (mkF m 53 #[.val (.ref u), .val (.int n)] [(.int 0), (.ref u), (.int 0), (.ref b22), (.ref b22), (.ref b21), (.ref b21)])) rfl rfl (hb hby d2_53)) ?_
        show G (T22.setTop (mkF m 54 #[.val (.ref u), .val (.int n)] [(.int x0), (.int 0), (.ref b22), (.ref b22), (.ref b21), (.ref b21)]))
        obtain ⟨c25, Ar25, q25, S25, M25, H25, G25⟩ := id V22
        obtain ⟨T25, h25, X25, e25, W25, st25⟩ := stC X22 hx hZ e22 Ar25 (j := (0 : Int32)) (inb_of S25 ⟨by decide, by decide⟩) (g := (mkF m 54 #[.val (.ref u), .val (.int n)] [(.int x0), (.int 0), (.ref b22), (.ref b22), (.ref b21), (.ref b21)])) rfl rfl (hb hby d2_54)
        refine hG _ _ st25 ?_
        have sf26 : Safe Z consts_1 _ h22 b22 := (own_safeArv hZ.alike V22 (by decide))
        have R25 := (CHr.wr W25 sf26 R22.1)
        have C25 := C22.trans R25
        have K25 : Keep h0 h25 [] := K22.wr W25 (Or.inr (Nat.le_trans K21.1 (Nat.le_of_eq z22.symm)))
        have O25 : own_Old Z h25 := O22.wr W25 (own_ge O21 (Nat.le_of_eq z22.symm))
        rw [own_narC (g7_hx x0 (List.mem_of_getElem? (i := 0) rfl))] at W25
        have V25 : Arv Z h25 b22 k22 .char (2 : Int32) [(.int x0), (.int 0)] (.int 0) := Arv.set Ar25 q25 S25 M25 H25 G25 (own_fitC (g7_hx x0 (List.mem_of_getElem? (i := 0) rfl))) W25 0 rfl (Nat.le_of_ble_eq_true rfl)
        have N25 := Fr.snoc X25 N0 (own_ge O21 (Nat.le_of_eq z22.symm))
        show G (T25.setTop (mkF m 55 #[.val (.ref u), .val (.int n)] [(.ref b22), (.ref b21), (.ref b21)]))
        refine hG _ _ (fun t_ k_ => XS.dup X25.here hx rfl (hb hby d2_55) rfl rfl k_) ?_
        refine hG _ _ (fun t_ k_ => XS.iconst X25.here hx rfl (hb hby d2_56) k_) ?_
        refine hG _ _ (fun t_ k_ => XS.aloadN X25.here hx rfl (hb hby d2_57) rfl rfl k_) ?_
        refine hG _ _ (fun t_ k_ => XS.iconst X25.here hx rfl (hb hby d2_58) k_) ?_
        show G (T25.setTop (mkF m 59 #[.val (.ref u), .val (.int n)] [(.int 1), (.ref u), (.int 1), (.ref b22), (.ref b22), (.ref b21), (.ref b21)]))
        have f28 := (f24.other W25 (own_ne (Nat.lt_of_lt_of_le g5_V.lt E21.1) (Nat.le_of_eq z22.symm)))
        obtain ⟨c27, Ar27, q27, S27, M27, H27, G27⟩ := id f28
        have hin27 : ¬ ((1 : Int32) < 0 ∨ c27.slots.size ≤ (1 : Int32).toNatClampNeg) := inb_of S27 ⟨by decide, by decide⟩
        refine hG _ _ (X25.caload hx (j := (1 : Int32)) (v := (.int x1)) (by rw [e25]; exact Ar27.1) (State.isArrayOf_alike hZ.alike Ar27.2.1) Ar27.2.2 hin27 (Has.at H27 hin27 rfl) (g := (mkF m 59 #[.val (.ref u), .val (.int n)] [(.int 1), (.ref u), (.int 1), (.ref b22), (.ref b22), (.ref b21), (.ref b21)])) rfl rfl (hb hby d2_59)) ?_
        show G (T25.setTop (mkF m 60 #[.val (.ref u), .val (.int n)] [(.int x1), (.int 1), (.ref b22), (.ref b22), (.ref b21), (.ref b21)]))
        obtain ⟨c29, Ar29, q29, S29, M29, H29, G29⟩ := id V25
        obtain ⟨T29, h29, X29, e29, W29, st29⟩ := stC X25 hx hZ e25 Ar29 (j := (1 : Int32)) (inb_of S29 ⟨by decide, by decide⟩) (g := (mkF m 60 #[.val (.ref u), .val (.int n)] [(.int x1), (.int 1), (.ref b22), (.ref b22), (.ref b21), (.ref b21)])) rfl rfl (hb hby d2_60)
        refine hG _ _ st29 ?_
        have sf30 := (R25.safe V22.lt sf26)
        have R29 := (CHr.wr W29 sf30 R25.1)
        have C29 := C25.trans R29
        have K29 : Keep h0 h29 [] := K25.wr W29 (Or.inr (Nat.le_trans K21.1 (Nat.le_of_eq z22.symm)))
        have O29 : own_Old Z h29 := O25.wr W29 (own_ge O21 (Nat.le_of_eq z22.symm))
        rw [own_narC (g7_hx x1 (List.mem_of_getElem? (i := 1) rfl))] at W29
        have V29 : Arv Z h29 b22 k22 .char (2 : Int32) [(.int x0), (.int x1)] (.int 0) := Arv.set Ar29 q29 S29 M29 H29 G29 (own_fitC (g7_hx x1 (List.mem_of_getElem? (i := 1) rfl))) W29 1 rfl (Nat.le_of_ble_eq_true rfl)
        have N29 := Fr.snoc X29 N25 (own_ge O21 (Nat.le_of_eq z22.symm))
        show G (T29.setTop (mkF m 61 #[.val (.ref u), .val (.int n)] [(.ref b22), (.ref b21), (.ref b21)]))
        have f32 := (((A21.ext E22).wr W25).wr W29)
        have f33 := ((((D21 (Or.inr (ow hw 27 rfl)) (ty := .byte) (by decide)).ext E22).other W25 (Or.inl (own_ne A21.lt (Nat.le_of_eq z22.symm)))).other W29 (Or.inl (own_ne A21.lt (Nat.le_of_eq z22.symm))))
        have f34 := ((((D21 (Or.inr (ow hw 26 rfl)) (ty := (.array .byte)) (by decide)).ext E22).other W25 (Or.inl (own_ne A21.lt (Nat.le_of_eq z22.symm)))).other W29 (Or.inl (own_ne A21.lt (Nat.le_of_eq z22.symm))))
        refine own_callI X29 hx hZ hG hown rfl (ow hw 14 rfl) (ow hw 15 rfl) (ow hw 13 rfl) (ow hw 16 rfl) (by decide) 1 (own_gstr1 l Z a0 hw b21 b22 k22 [x0, x1] cpt (.int 0) .null h29 O29 f32 f33 f34 (own_ge O0 (Nat.le_of_eq z21.symm)) V29 (Nat.le_of_ble_eq_true rfl) (Nat.le_of_ble_eq_true rfl) (own_allc (g7_hx x0 (List.mem_of_getElem? (i := 0) rfl)) (own_allc (g7_hx x1 (List.mem_of_getElem? (i := 1) rfl)) own_alln)) g0_S g1_hcpt g2_S g3_S g4_S) (by decide) (by decide) e29 (by rw [hml]; rfl) (lenOf own_pd8 rfl) (argsL := [(.ref b22)]) (rest := [(.ref b21)]) rfl rfl (Nat.le_of_eq rfl) (hb hby d2_61) (by decide) (by decide) ?_
        intro T31 h31 v31 L31 X31 e31 q31
        obtain ⟨t_31, kt_31, cd_31, nb_31, vs_31, rfl, M31, J31, y31_0, r31_0, r31_1, r31_2, r31_3, r31_4⟩ := q31
        have N31 := Fr.app N29 M31
        have sf35 : Safe Z consts_1 _ h29 b21 := (own_safeStr hZ.alike f32 f34)
        have R31 := (CHr.keep J31 (allS sf35 all0) R29.1)
        have C31 := C29.trans R31
        have K31 : Keep h0 h31 [] := K29.trans J31 (allS (Or.inr (Nat.le_trans (Keep.refl h0 []).1 (Nat.le_of_eq z21.symm))) all0)
        have O31 : own_Old Z h31 := O29.keep J31 (allS (own_ge O0 (Nat.le_of_eq z21.symm)) all0)
        show G (T31.setTop (mkF m 64 #[.val (.ref u), .val (.int n)] [(.ref b21)]))
        exact own_retAW hR hret rfl rfl X31 hx (hb hby d2_64) e31 SI0 (Nat.le_trans (Nat.le_trans (Nat.le_trans (Nat.le_trans (Nat.le_trans (Nat.le_refl _) R21.2.1) R22.2.1) R25.2.1) R29.2.1) R31.2.1) hZ C31 (by decide) (by decide) ⟨b21, t_31, kt_31, cd_31, nb_31, vs_31, rfl, N31, K31, (Nat.le_trans (Keep.refl h0 []).1 (Nat.le_of_eq z21.symm)), r31_0, r31_1, r31_2, r31_3, (by rw [hc39_20]; exact r31_4)⟩
      · skip
        refine hG _ _ (fun t_ k_ => XS.icmpYes X0.here hx rfl (pc0 := 39) (pc' := 65) rfl (hb hby d2_39) rfl (feq hc39_20).2 (by decide) (by decide) k_) ?_
        show G (s₁.setTop (mkF m 65 #[.val (.ref u), .val (.int n)] []))
        refine hG _ _ (fun t_ k_ => XS.iloadN X0.here hx rfl (hb hby d2_65) rfl k_) ?_
        refine hG _ _ (fun t_ k_ => XS.iconst X0.here hx rfl (hb hby d2_66) k_) ?_
        show G (s₁.setTop (mkF m 67 #[.val (.ref u), .val (.int n)] [(.int 3), (.int n)]))
        by_cases hc67_36 : n = (3 : Int32)
        · skip
          refine hG _ _ (fun t_ k_ => XS.icmpNo X0.here hx rfl (hb hby d2_67) rfl (teq hc67_36).2 k_) ?_
          show G (s₁.setTop (mkF m 70 #[.val (.ref u), .val (.int n)] []))
          obtain ⟨T37, h37, X37, e37, E37, A37, D37, -, st37⟩ := newO X0 hx hZ hown (ow hw 11 rfl) (ow hw 12 rfl) (ow hw 13 rfl) e0 (g := (mkF m 70 #[.val (.ref u), .val (.int n)] [])) rfl (hb hby d2_70) (by decide) (by decide)
          obtain ⟨b37, z37⟩ : ∃ z, z = h0.size := ⟨_, rfl⟩
          rw [← z37] at A37 D37 st37
          refine hG _ _ st37 ?_
          have R37 := (CHr.ext E37 H0)
          have C37 := (CHr.refl H0).trans R37
          have K37 : Keep h0 h37 [] := (Keep.refl h0 []).ext E37
          have O37 : own_Old Z h37 := O0.ext E37
          show G (T37.setTop (mkF m 73 #[.val (.ref u), .val (.int n)] [(.ref b37)]))
          refine hG _ _ (fun t_ k_ => XS.dup X37.here hx rfl (hb hby d2_73) rfl rfl k_) ?_
          refine hG _ _ (fun t_ k_ => XS.iconst X37.here hx rfl (hb hby d2_74) k_) ?_
          show G (T37.setTop (mkF m 75 #[.val (.ref u), .val (.int n)] [(.int 3), (.ref b37), (.ref b37)]))
          obtain ⟨T38, h38, k38, X38, e38, E38, A38, st38⟩ := newP X37 hx hZ (ow hw 1 rfl) e37 (g := (mkF m 75 #[.val (.ref u), .val (.int n)] [(.int 3), (.ref b37), (.ref b37)])) rfl (hb hby d2_75) rfl (by decide) (cap := 3) (by decide) (by decide) (by decide) (by decide)
          obtain ⟨b38, z38⟩ : ∃ z, z = h37.size := ⟨_, rfl⟩
          rw [← z38] at A38 st38
          refine hG _ _ st38 ?_
          have R38 := (CHr.ext E38 R37.1)
          have C38 := C37.trans R38
          have K38 : Keep h0 h38 [] := K37.ext E38
          have O38 : own_Old Z h38 := O37.ext E38
          have V38 : Arv Z h38 b38 k38 .char (3 : Int32) [(.int 0), (.int 0), (.int 0)] (.int 0) := (Arv.new A38 (by decide)).pad (pad_rep [] (.int 0) 3)
          show G (T38.setTop (mkF m 77 #[.val (.ref u), .val (.int n)] [(.ref b38), (.ref b37), (.ref b37)]))
          refine hG _ _ (fun t_ k_ => XS.dup X38.here hx rfl (hb hby d2_77) rfl rfl k_) ?_
          refine hG _ _ (fun t_ k_ => XS.iconst X38.here hx rfl (hb hby d2_78) k_) ?_
          refine hG _ _ (fun t_ k_ => XS.aloadN X38.here hx rfl (hb hby d2_79) rfl rfl k_) ?_
          refine hG _ _ (fun t_ k_ => XS.iconst X38.here hx rfl (hb hby d2_80) k_) ?_
          show G (T38.setTop (mkF m 81 #[.val (.ref u), .val (.int n)] [(.int 0), (.ref u), (.int 0), (.ref b38), (.ref b38), (.ref b37), (.ref b37)]))
          have f40 := ((g5_V.ext E37).ext E38)
          obtain ⟨c39, Ar39, q39, S39, M39, H39, G39⟩ := id f40
          have hin39 : ¬ ((0 : Int32) < 0 ∨ c39.slots.size ≤ (0 : Int32).toNatClampNeg) := inb_of S39 ⟨by decide, by decide⟩
          refine hG _ _ (X38.caload hx (j := (0 : Int32)) (v := (.int x0)) (by rw [e38]; exact Ar39.1) (State.isArrayOf_alike hZ.alike Ar39.2.1) Ar39.2.2 hin39 (Has.at H39 hin39 rfl) (g := (mkF m 81 #[.val (.ref u), .val (.int n)] [(.int 0), (.ref u), (.int 0), (.ref b38), (.ref b38), (.ref b37), (.ref b37)])) rfl rfl (hb hby d2_81)) ?_
          show G (T38.setTop (mkF m 82 #[.val (.ref u), .val (.int n)] [(.int x0), (.int 0), (.ref b38), (.ref b38), (.ref b37), (.ref b37)]))
          obtain ⟨c41, Ar41, q41, S41, M41, H41, G41⟩ := id V38
          obtain ⟨T41, h41, X41, e41, W41, st41⟩ := stC X38 hx hZ e38 Ar41 (j := (0 : Int32)) (inb_of S41 ⟨by decide, by decide⟩) (g := (mkF m 82 #[.val (.ref u), .val (.int n)] [(.int x0), (.int 0), (.ref b38), (.ref b38), (.ref b37), (.ref b37)])) rfl rfl (hb hby d2_82)
          refine hG _ _ st41 ?_
          have sf42 : Safe Z consts_1 _ h38 b38 := (own_safeArv hZ.alike V38 (by decide))
          have R41 := (CHr.wr W41 sf42 R38.1)
          have C41 := C38.trans R41
          have K41 : Keep h0 h41 [] := K38.wr W41 (Or.inr (Nat.le_trans K37.1 (Nat.le_of_eq z38.symm)))
          have O41 : own_Old Z h41 := O38.wr W41 (own_ge O37 (Nat.le_of_eq z38.symm))
          rw [own_narC (g7_hx x0 (List.mem_of_getElem? (i := 0) rfl))] at W41
          have V41 : Arv Z h41 b38 k38 .char (3 : Int32) [(.int x0), (.int 0), (.int 0)] (.int 0) := Arv.set Ar41 q41 S41 M41 H41 G41 (own_fitC (g7_hx x0 (List.mem_of_getElem? (i := 0) rfl))) W41 0 rfl (Nat.le_of_ble_eq_true rfl)
          have N41 := Fr.snoc X41 N0 (own_ge O37 (Nat.le_of_eq z38.symm))
          show G (T41.setTop (mkF m 83 #[.val (.ref u), .val (.int n)] [(.ref b38), (.ref b37), (.ref b37)]))
          refine hG _ _ (fun t_ k_ => XS.dup X41.here hx rfl (hb hby d2_83) rfl rfl k_) ?_
          refine hG _ _ (fun t_ k_ => XS.iconst X41.here hx rfl (hb hby d2_84) k_) ?_
          refine hG _ _ (fun t_ k_ => XS.aloadN X41.here hx rfl (hb hby d2_85) rfl rfl k_) ?_
          refine hG _ _ (fun t_ k_ => XS.iconst X41.here hx rfl (hb hby d2_86) k_) ?_
          show G (T41.setTop (mkF m 87 #[.val (.ref u), .val (.int n)] [(.int 1), (.ref u), (.int 1), (.ref b38), (.ref b38), (.ref b37), (.ref b37)]))
          have f44 := (f40.other W41 (own_ne (Nat.lt_of_lt_of_le g5_V.lt E37.1) (Nat.le_of_eq z38.symm)))
          obtain ⟨c43, Ar43, q43, S43, M43, H43, G43⟩ := id f44
          have hin43 : ¬ ((1 : Int32) < 0 ∨ c43.slots.size ≤ (1 : Int32).toNatClampNeg) := inb_of S43 ⟨by decide, by decide⟩
          refine hG _ _ (X41.caload hx (j := (1 : Int32)) (v := (.int x1)) (by rw [e41]; exact Ar43.1) (State.isArrayOf_alike hZ.alike Ar43.2.1) Ar43.2.2 hin43 (Has.at H43 hin43 rfl) (g := (mkF m 87 #[.val (.ref u), .val (.int n)] [(.int 1), (.ref u), (.int 1), (.ref b38), (.ref b38), (.ref b37), (.ref b37)])) rfl rfl (hb hby d2_87)) ?_
          show G (T41.setTop (mkF m 88 #[.val (.ref u), .val (.int n)] [(.int x1), (.int 1), (.ref b38), (.ref b38), (.ref b37), (.ref b37)]))
          obtain ⟨c45, Ar45, q45, S45, M45, H45, G45⟩ := id V41
          obtain ⟨T45, h45, X45, e45, W45, st45⟩ := stC X41 hx hZ e41 Ar45 (j := (1 : Int32)) (inb_of S45 ⟨by decide, by decide⟩) (g := (mkF m 88 #[.val (.ref u), .val (.int n)] [(.int x1), (.int 1), (.ref b38), (.ref b38), (.ref b37), (.ref b37)])) rfl rfl (hb hby d2_88)
          refine hG _ _ st45 ?_
          have sf46 := (R41.safe V38.lt sf42)
          have R45 := (CHr.wr W45 sf46 R41.1)
          have C45 := C41.trans R45
          have K45 : Keep h0 h45 [] := K41.wr W45 (Or.inr (Nat.le_trans K37.1 (Nat.le_of_eq z38.symm)))
          have O45 : own_Old Z h45 := O41.wr W45 (own_ge O37 (Nat.le_of_eq z38.symm))
          rw [own_narC (g7_hx x1 (List.mem_of_getElem? (i := 1) rfl))] at W45
          have V45 : Arv Z h45 b38 k38 .char (3 : Int32) [(.int x0), (.int x1), (.int 0)] (.int 0) := Arv.set Ar45 q45 S45 M45 H45 G45 (own_fitC (g7_hx x1 (List.mem_of_getElem? (i := 1) rfl))) W45 1 rfl (Nat.le_of_ble_eq_true rfl)
          have N45 := Fr.snoc X45 N41 (own_ge O37 (Nat.le_of_eq z38.symm))
          show G (T45.setTop (mkF m 89 #[.val (.ref u), .val (.int n)] [(.ref b38), (.ref b37), (.ref b37)]))
          refine hG _ _ (fun t_ k_ => XS.dup X45.here hx rfl (hb hby d2_89) rfl rfl k_) ?_
          refine hG _ _ (fun t_ k_ => XS.iconst X45.here hx rfl (hb hby d2_90) k_) ?_
          refine hG _ _ (fun t_ k_ => XS.aloadN X45.here hx rfl (hb hby d2_91) rfl rfl k_) ?_
          refine hG _ _ (fun t_ k_ => XS.iconst X45.here hx rfl (hb hby d2_92) k_) ?_
          show G (T45.setTop (mkF m 93 #[.val (.ref u), .val (.int n)] [(.int 2), (.ref u), (.int 2), (.ref b38), (.ref b38), (.ref b37), (.ref b37)]))
          have f48 := (f44.other W45 (own_ne (Nat.lt_of_lt_of_le g5_V.lt E37.1) (Nat.le_of_eq z38.symm)))
          obtain ⟨c47, Ar47, q47, S47, M47, H47, G47⟩ := id f48
          have hin47 : ¬ ((2 : Int32) < 0 ∨ c47.slots.size ≤ (2 : Int32).toNatClampNeg) := inb_of S47 ⟨by decide, by decide⟩
          refine hG _ _ (X45.caload hx (j := (2 : Int32)) (v := (.int x2)) (by rw [e45]; exact Ar47.1) (State.isArrayOf_alike hZ.alike Ar47.2.1) Ar47.2.2 hin47 (Has.at H47 hin47 rfl) (g := (mkF m 93 #[.val (.ref u), .val (.int n)] [(.int 2), (.ref u), (.int 2), (.ref b38), (.ref b38), (.ref b37), (.ref b37)])) rfl rfl (hb hby d2_93)) ?_
          show G (T45.setTop (mkF m 94 #[.val (.ref u), .val (.int n)] [(.int x2), (.int 2), (.ref b38), (.ref b38), (.ref b37), (.ref b37)]))
          obtain ⟨c49, Ar49, q49, S49, M49, H49, G49⟩ := id V45
          obtain ⟨T49, h49, X49, e49, W49, st49⟩ := stC X45 hx hZ e45 Ar49 (j := (2 : Int32)) (inb_of S49 ⟨by decide, by decide⟩) (g := (mkF m 94 #[.val (.ref u), .val (.int n)] [(.int x2), (.int 2), (.ref b38), (.ref b38), (.ref b37), (.ref b37)])) rfl rfl (hb hby d2_94)
          refine hG _ _ st49 ?_
          have sf50 := (R45.safe V41.lt sf46)
          have R49 := (CHr.wr W49 sf50 R45.1)
          have C49 := C45.trans R49
          have K49 : Keep h0 h49 [] := K45.wr W49 (Or.inr (Nat.le_trans K37.1 (Nat.le_of_eq z38.symm)))
          have O49 : own_Old Z h49 := O45.wr W49 (own_ge O37 (Nat.le_of_eq z38.symm))
          rw [own_narC (g7_hx x2 (List.mem_of_getElem? (i := 2) rfl))] at W49
          have V49 : Arv Z h49 b38 k38 .char (3 : Int32) [(.int x0), (.int x1), (.int x2)] (.int 0) := Arv.set Ar49 q49 S49 M49 H49 G49 (own_fitC (g7_hx x2 (List.mem_of_getElem? (i := 2) rfl))) W49 2 rfl (Nat.le_of_ble_eq_true rfl)
          have N49 := Fr.snoc X49 N45 (own_ge O37 (Nat.le_of_eq z38.symm))
          show G (T49.setTop (mkF m 95 #[.val (.ref u), .val (.int n)] [(.ref b38), (.ref b37), (.ref b37)]))
          have f52 := ((((A37.ext E38).wr W41).wr W45).wr W49)
          have f53 := (((((D37 (Or.inr (ow hw 27 rfl)) (ty := .byte) (by decide)).ext E38).other W41 (Or.inl (own_ne A37.lt (Nat.le_of_eq z38.symm)))).other W45 (Or.inl (own_ne A37.lt (Nat.le_of_eq z38.symm)))).other W49 (Or.inl (own_ne A37.lt (Nat.le_of_eq z38.symm))))
          have f54 := (((((D37 (Or.inr (ow hw 26 rfl)) (ty := (.array .byte)) (by decide)).ext E38).other W41 (Or.inl (own_ne A37.lt (Nat.le_of_eq z38.symm)))).other W45 (Or.inl (own_ne A37.lt (Nat.le_of_eq z38.symm)))).other W49 (Or.inl (own_ne A37.lt (Nat.le_of_eq z38.symm))))
          refine own_callI X49 hx hZ hG hown rfl (ow hw 14 rfl) (ow hw 15 rfl) (ow hw 13 rfl) (ow hw 16 rfl) (by decide) 1 (own_gstr1 l Z a0 hw b37 b38 k38 [x0, x1, x2] cpt (.int 0) .null h49 O49 f52 f53 f54 (own_ge O0 (Nat.le_of_eq z37.symm)) V49 (Nat.le_of_ble_eq_true rfl) (Nat.le_of_ble_eq_true rfl) (own_allc (g7_hx x0 (List.mem_of_getElem? (i := 0) rfl)) (own_allc (g7_hx x1 (List.mem_of_getElem? (i := 1) rfl)) (own_allc (g7_hx x2 (List.mem_of_getElem? (i := 2) rfl)) own_alln))) g0_S g1_hcpt g2_S g3_S g4_S) (by decide) (by decide) e49 (by rw [hml]; rfl) (lenOf own_pd8 rfl) (argsL := [(.ref b38)]) (rest := [(.ref b37)]) rfl rfl (Nat.le_of_eq rfl) (hb hby d2_95) (by decide) (by decide) ?_
          intro T51 h51 v51 L51 X51 e51 q51
          obtain ⟨t_51, kt_51, cd_51, nb_51, vs_51, rfl, M51, J51, y51_0, r51_0, r51_1, r51_2, r51_3, r51_4⟩ := q51
          have N51 := Fr.app N49 M51
          have sf55 : Safe Z consts_1 _ h49 b37 := (own_safeStr hZ.alike f52 f54)
          have R51 := (CHr.keep J51 (allS sf55 all0) R49.1)
          have C51 := C49.trans R51
          have K51 : Keep h0 h51 [] := K49.trans J51 (allS (Or.inr (Nat.le_trans (Keep.refl h0 []).1 (Nat.le_of_eq z37.symm))) all0)
          have O51 : own_Old Z h51 := O49.keep J51 (allS (own_ge O0 (Nat.le_of_eq z37.symm)) all0)
          show G (T51.setTop (mkF m 98 #[.val (.ref u), .val (.int n)] [(.ref b37)]))
          exact own_retAW hR hret rfl rfl X51 hx (hb hby d2_98) e51 SI0 (Nat.le_trans (Nat.le_trans (Nat.le_trans (Nat.le_trans (Nat.le_trans (Nat.le_trans (Nat.le_refl _) R37.2.1) R38.2.1) R41.2.1) R45.2.1) R49.2.1) R51.2.1) hZ C51 (by decide) (by decide) ⟨b37, t_51, kt_51, cd_51, nb_51, vs_51, rfl, N51, K51, (Nat.le_trans (Keep.refl h0 []).1 (Nat.le_of_eq z37.symm)), r51_0, r51_1, r51_2, r51_3, (by rw [hc67_36]; exact r51_4)⟩
        · skip
          refine hG _ _ (fun t_ k_ => XS.icmpYes X0.here hx rfl (pc0 := 67) (pc' := 99) rfl (hb hby d2_67) rfl (feq hc67_36).2 (by decide) (by decide) k_) ?_
          show G (s₁.setTop (mkF m 99 #[.val (.ref u), .val (.int n)] []))
          refine hG _ _ (fun t_ k_ => XS.iloadN X0.here hx rfl (hb hby d2_99) rfl k_) ?_
          refine hG _ _ (fun t_ k_ => XS.iconst X0.here hx rfl (hb hby d2_100) k_) ?_
          show G (s₁.setTop (mkF m 101 #[.val (.ref u), .val (.int n)] [(.int 4), (.int n)]))
          by_cases hc101_56 : n = (4 : Int32)
          · skip
            refine hG _ _ (fun t_ k_ => XS.icmpNo X0.here hx rfl (hb hby d2_101) rfl (teq hc101_56).2 k_) ?_
            show G (s₁.setTop (mkF m 104 #[.val (.ref u), .val (.int n)] []))
            obtain ⟨T57, h57, X57, e57, E57, A57, D57, -, st57⟩ := newO X0 hx hZ hown (ow hw 11 rfl) (ow hw 12 rfl) (ow hw 13 rfl) e0 (g := (mkF m 104 #[.val (.ref u), .val (.int n)] [])) rfl (hb hby d2_104) (by decide) (by decide)
            obtain ⟨b57, z57⟩ : ∃ z, z = h0.size := ⟨_, rfl⟩
            rw [← z57] at A57 D57 st57
            refine hG _ _ st57 ?_
            have R57 := (CHr.ext E57 H0)
            have C57 := (CHr.refl H0).trans R57
            have K57 : Keep h0 h57 [] := (Keep.refl h0 []).ext E57
            have O57 : own_Old Z h57 := O0.ext E57
            show G (T57.setTop (mkF m 107 #[.val (.ref u), .val (.int n)] [(.ref b57)]))
            refine hG _ _ (fun t_ k_ => XS.dup X57.here hx rfl (hb hby d2_107) rfl rfl k_) ?_
            refine hG _ _ (fun t_ k_ => XS.iconst X57.here hx rfl (hb hby d2_108) k_) ?_
            show G (T57.setTop (mkF m 109 #[.val (.ref u), .val (.int n)] [(.int 4), (.ref b57), (.ref b57)]))
            obtain ⟨T58, h58, k58, X58, e58, E58, A58, st58⟩ := newP X57 hx hZ (ow hw 1 rfl) e57 (g := (mkF m 109 #[.val (.ref u), .val (.int n)] [(.int 4), (.ref b57), (.ref b57)])) rfl (hb hby d2_109) rfl (by decide) (cap := 4) (by decide) (by decide) (by decide) (by decide)
            obtain ⟨b58, z58⟩ : ∃ z, z = h57.size := ⟨_, rfl⟩
            rw [← z58] at A58 st58
            refine hG _ _ st58 ?_
            have R58 := (CHr.ext E58 R57.1)
            have C58 := C57.trans R58
            have K58 : Keep h0 h58 [] := K57.ext E58
            have O58 : own_Old Z h58 := O57.ext E58
            have V58 : Arv Z h58 b58 k58 .char (4 : Int32) [(.int 0), (.int 0), (.int 0), (.int 0)] (.int 0) := (Arv.new A58 (by decide)).pad (pad_rep [] (.int 0) 4)
            show G (T58.setTop (mkF m 111 #[.val (.ref u), .val (.int n)] [(.ref b58), (.ref b57), (.ref b57)]))
            refine hG _ _ (fun t_ k_ => XS.dup X58.here hx rfl (hb hby d2_111) rfl rfl k_) ?_
            refine hG _ _ (fun t_ k_ => XS.iconst X58.here hx rfl (hb hby d2_112) k_) ?_
            refine hG _ _ (fun t_ k_ => XS.aloadN X58.here hx rfl (hb hby d2_113) rfl rfl k_) ?_
            refine hG _ _ (fun t_ k_ => XS.iconst X58.here hx rfl (hb hby d2_114) k_) ?_
            show G (T58.setTop (mkF m 115 #[.val (.ref u), .val (.int n)] [(.int 0), (.ref u), (.int 0), (.ref b58), (.ref b58), (.ref b57), (.ref b57)]))
            have f60 := ((g5_V.ext E57).ext E58)
            obtain ⟨c59, Ar59, q59, S59, M59, H59, G59⟩ := id f60
            have hin59 : ¬ ((0 : Int32) < 0 ∨ c59.slots.size ≤ (0 : Int32).toNatClampNeg) := inb_of S59 ⟨by decide, by decide⟩
            refine hG _ _ (X58.caload hx (j := (0 : Int32)) (v := (.int x0)) (by rw [e58]; exact Ar59.1) (State.isArrayOf_alike hZ.alike Ar59.2.1) Ar59.2.2 hin59 (Has.at H59 hin59 rfl) (g := (mkF m 115 #[.val (.ref u), .val (.int n)] [(.int 0), (.ref u), (.int 0), (.ref b58), (.ref b58), (.ref b57), (.ref b57)])) rfl rfl (hb hby d2_115)) ?_
            show G (T58.setTop (mkF m 116 #[.val (.ref u), .val (.int n)] [(.int x0), (.int 0), (.ref b58), (.ref b58), (.ref b57), (.ref b57)]))
            obtain ⟨c61, Ar61, q61, S61, M61, H61, G61⟩ := id V58
            obtain ⟨T61, h61, X61, e61, W61, st61⟩ := stC X58 hx hZ e58 Ar61 (j := (0 : Int32)) (inb_of S61 ⟨by decide, by decide⟩) (g := (mkF m 116 #[.val (.ref u), .val (.int n)] [(.int x0), (.int 0), (.ref b58), (.ref b58), (.ref b57), (.ref b57)])) rfl rfl (hb hby d2_116)
            refine hG _ _ st61 ?_
            have sf62 : Safe Z consts_1 _ h58 b58 := (own_safeArv hZ.alike V58 (by decide))
            have R61 := (CHr.wr W61 sf62 R58.1)
            have C61 := C58.trans R61
            have K61 : Keep h0 h61 [] := K58.wr W61 (Or.inr (Nat.le_trans K57.1 (Nat.le_of_eq z58.symm)))
            have O61 : own_Old Z h61 := O58.wr W61 (own_ge O57 (Nat.le_of_eq z58.symm))
            rw [own_narC (g7_hx x0 (List.mem_of_getElem? (i := 0) rfl))] at W61
            have V61 : Arv Z h61 b58 k58 .char (4 : Int32) [(.int x0), (.int 0), (.int 0), (.int 0)] (.int 0) := Arv.set Ar61 q61 S61 M61 H61 G61 (own_fitC (g7_hx x0 (List.mem_of_getElem? (i := 0) rfl))) W61 0 rfl (Nat.le_of_ble_eq_true rfl)
            have N61 := Fr.snoc X61 N0 (own_ge O57 (Nat.le_of_eq z58.symm))
            show G (T61.setTop (mkF m 117 #[.val (.ref u), .val (.int n)] [(.ref b58), (.ref b57), (.ref b57)]))
            refine hG _ _ (fun t_ k_ => XS.dup X61.here hx rfl (hb hby d2_117) rfl rfl k_) ?_
            refine hG _ _ (fun t_ k_ => XS.iconst X61.here hx rfl (hb hby d2_118) k_) ?_
            refine hG _ _ (fun t_ k_ => XS.aloadN X61.here hx rfl (hb hby d2_119) rfl rfl k_) ?_
            refine hG _ _ (fun t_ k_ => XS.iconst X61.here hx rfl (hb hby d2_120) k_) ?_
            show G (T61.setTop (mkF m 121 #[.val (.ref u), .val (.int n)] [(.int 1), (.ref u), (.int 1), (.ref b58), (.ref b58), (.ref b57), (.ref b57)]))
            have f64 := (f60.other W61 (own_ne (Nat.lt_of_lt_of_le g5_V.lt E57.1) (Nat.le_of_eq z58.symm)))
            obtain ⟨c63, Ar63, q63, S63, M63, H63, G63⟩ := id f64
            have hin63 : ¬ ((1 : Int32) < 0 ∨ c63.slots.size ≤ (1 : Int32).toNatClampNeg) := inb_of S63 ⟨by decide, by decide⟩
            refine hG _ _ (X61.caload hx (j := (1 : Int32)) (v := (.int x1)) (by rw [e61]; exact Ar63.1) (State.isArrayOf_alike hZ.alike Ar63.2.1) Ar63.2.2 hin63 (Has.at H63 hin63 rfl) (g := (mkF m 121 #[.val (.ref u), .val (.int n)] [(.int 1), (.ref u), (.int 1), (.ref b58), (.ref b58), (.ref b57), (.ref b57)])) rfl rfl (hb hby d2_121)) ?_
            show G (T61.setTop (mkF m 122 #[.val (.ref u), .val (.int n)] [(.int x1), (.int 1), (.ref b58), (.ref b58), (.ref b57), (.ref b57)]))
            obtain ⟨c65, Ar65, q65, S65, M65, H65, G65⟩ := id V61
            obtain ⟨T65, h65, X65, e65, W65, st65⟩ := stC X61 hx hZ e61 Ar65 (j := (1 : Int32)) (inb_of S65 ⟨by decide, by decide⟩) (g := (mkF m 122 #[.val (.ref u), .val (.int n)] [(.int x1), (.int 1), (.ref b58), (.ref b58), (.ref b57), (.ref b57)])) rfl rfl (hb hby d2_122)
            refine hG _ _ st65 ?_
            have sf66 := (R61.safe V58.lt sf62)
            have R65 := (CHr.wr W65 sf66 R61.1)
            have C65 := C61.trans R65
            have K65 : Keep h0 h65 [] := K61.wr W65 (Or.inr (Nat.le_trans K57.1 (Nat.le_of_eq z58.symm)))
            have O65 : own_Old Z h65 := O61.wr W65 (own_ge O57 (Nat.le_of_eq z58.symm))
            rw [own_narC (g7_hx x1 (List.mem_of_getElem? (i := 1) rfl))] at W65
            have V65 : Arv Z h65 b58 k58 .char (4 : Int32) [(.int x0), (.int x1), (.int 0), (.int 0)] (.int 0) := Arv.set Ar65 q65 S65 M65 H65 G65 (own_fitC (g7_hx x1 (List.mem_of_getElem? (i := 1) rfl))) W65 1 rfl (Nat.le_of_ble_eq_true rfl)
            have N65 := Fr.snoc X65 N61 (own_ge O57 (Nat.le_of_eq z58.symm))
            show G (T65.setTop (mkF m 123 #[.val (.ref u), .val (.int n)] [(.ref b58), (.ref b57), (.ref b57)]))
            refine hG _ _ (fun t_ k_ => XS.dup X65.here hx rfl (hb hby d2_123) rfl rfl k_) ?_
            refine hG _ _ (fun t_ k_ => XS.iconst X65.here hx rfl (hb hby d2_124) k_) ?_
            refine hG _ _ (fun t_ k_ => XS.aloadN X65.here hx rfl (hb hby d2_125) rfl rfl k_) ?_
            refine hG _ _ (fun t_ k_ => XS.iconst X65.here hx rfl (hb hby d2_126) k_) ?_
            show G (T65.setTop (mkF m 127 #[.val (.ref u), .val (.int n)] [(.int 2), (.ref u), (.int 2), (.ref b58), (.ref b58), (.ref b57), (.ref b57)]))
            have f68 := (f64.other W65 (own_ne (Nat.lt_of_lt_of_le g5_V.lt E57.1) (Nat.le_of_eq z58.symm)))
            obtain ⟨c67, Ar67, q67, S67, M67, H67, G67⟩ := id f68
            have hin67 : ¬ ((2 : Int32) < 0 ∨ c67.slots.size ≤ (2 : Int32).toNatClampNeg) := inb_of S67 ⟨by decide, by decide⟩
            refine hG _ _ (X65.caload hx (j := (2 : Int32)) (v := (.int x2)) (by rw [e65]; exact Ar67.1) (State.isArrayOf_alike hZ.alike Ar67.2.1) Ar67.2.2 hin67 (Has.at H67 hin67 rfl) (g := (mkF m 127 #[.val (.ref u), .val (.int n)] [(.int 2), (.ref u), (.int 2), (.ref b58), (.ref b58), (.ref b57), (.ref b57)])) rfl rfl (hb hby d2_127)) ?_
            show G (T65.setTop (mkF m 128 #[.val (.ref u), .val (.int n)] [(.int x2), (.int 2), (.ref b58), (.ref b58), (.ref b57), (.ref b57)]))
            obtain ⟨c69, Ar69, q69, S69, M69, H69, G69⟩ := id V65
            obtain ⟨T69, h69, X69, e69, W69, st69⟩ := stC X65 hx hZ e65 Ar69 (j := (2 : Int32)) (inb_of S69 ⟨by decide, by decide⟩) (g := (mkF m 128 #[.val (.ref u), .val (.int n)] [(.int x2), (.int 2), (.ref b58), (.ref b58), (.ref b57), (.ref b57)])) rfl rfl (hb hby d2_128)
            refine hG _ _ st69 ?_
            have sf70 := (R65.safe V61.lt sf66)
            have R69 := (CHr.wr W69 sf70 R65.1)
            have C69 := C65.trans R69
            have K69 : Keep h0 h69 [] := K65.wr W69 (Or.inr (Nat.le_trans K57.1 (Nat.le_of_eq z58.symm)))
            have O69 : own_Old Z h69 := O65.wr W69 (own_ge O57 (Nat.le_of_eq z58.symm))
            rw [own_narC (g7_hx x2 (List.mem_of_getElem? (i := 2) rfl))] at W69
            have V69 : Arv Z h69 b58 k58 .char (4 : Int32) [(.int x0), (.int x1), (.int x2), (.int 0)] (.int 0) := Arv.set Ar69 q69 S69 M69 H69 G69 (own_fitC (g7_hx x2 (List.mem_of_getElem? (i := 2) rfl))) W69 2 rfl (Nat.le_of_ble_eq_true rfl)
            have N69 := Fr.snoc X69 N65 (own_ge O57 (Nat.le_of_eq z58.symm))
            show G (T69.setTop (mkF m 129 #[.val (.ref u), .val (.int n)] [(.ref b58), (.ref b57), (.ref b57)]))
            refine hG _ _ (fun t_ k_ => XS.dup X69.here hx rfl (hb hby d2_129) rfl rfl k_) ?_
            refine hG _ _ (fun t_ k_ => XS.iconst X69.here hx rfl (hb hby d2_130) k_) ?_
            refine hG _ _ (fun t_ k_ => XS.aloadN X69.here hx rfl (hb hby d2_131) rfl rfl k_) ?_
            refine hG _ _ (fun t_ k_ => XS.iconst X69.here hx rfl (hb hby d2_132) k_) ?_
            show G (T69.setTop (mkF m 133 #[.val (.ref u), .val (.int n)] [(.int 3), (.ref u), (.int 3), (.ref b58), (.ref b58), (.ref b57), (.ref b57)]))
            have f72 := (f68.other W69 (own_ne (Nat.lt_of_lt_of_le g5_V.lt E57.1) (Nat.le_of_eq z58.symm)))
            obtain ⟨c71, Ar71, q71, S71, M71, H71, G71⟩ := id f72
            have hin71 : ¬ ((3 : Int32) < 0 ∨ c71.slots.size ≤ (3 : Int32).toNatClampNeg) := inb_of S71 ⟨by decide, by decide⟩
            refine hG _ _ (X69.caload hx (j := (3 : Int32)) (v := (.int x3)) (by rw [e69]; exact Ar71.1) (State.isArrayOf_alike hZ.alike Ar71.2.1) Ar71.2.2 hin71 (Has.at H71 hin71 rfl) (g := (mkF m 133 #[.val (.ref u), .val (.int n)] [(.int 3), (.ref u), (.int 3), (.ref b58), (.ref b58), (.ref b57), (.ref b57)])) rfl rfl (hb hby d2_133)) ?_
            show G (T69.setTop (mkF m 134 #[.val (.ref u), .val (.int n)] [(.int x3), (.int 3), (.ref b58), (.ref b58), (.ref b57), (.ref b57)]))
            obtain ⟨c73, Ar73, q73, S73, M73, H73, G73⟩ := id V69
            obtain ⟨T73, h73, X73, e73, W73, st73⟩ := stC X69 hx hZ e69 Ar73 (j := (3 : Int32)) (inb_of S73 ⟨by decide, by decide⟩) (g := (mkF m 134 #[.val (.ref u), .val (.int n)] [(.int x3), (.int 3), (.ref b58), (.ref b58), (.ref b57), (.ref b57)])) rfl rfl (hb hby d2_134)
            refine hG _ _ st73 ?_
            have sf74 := (R69.safe V65.lt sf70)
            have R73 := (CHr.wr W73 sf74 R69.1)
            have C73 := C69.trans R73
            have K73 : Keep h0 h73 [] := K69.wr W73 (Or.inr (Nat.le_trans K57.1 (Nat.le_of_eq z58.symm)))
            have O73 : own_Old Z h73 := O69.wr W73 (own_ge O57 (Nat.le_of_eq z58.symm))
            rw [own_narC (g7_hx x3 (List.mem_of_getElem? (i := 3) rfl))] at W73
            have V73 : Arv Z h73 b58 k58 .char (4 : Int32) [(.int x0), (.int x1), (.int x2), (.int x3)] (.int 0) := Arv.set Ar73 q73 S73 M73 H73 G73 (own_fitC (g7_hx x3 (List.mem_of_getElem? (i := 3) rfl))) W73 3 rfl (Nat.le_of_ble_eq_true rfl)
            have N73 := Fr.snoc X73 N69 (own_ge O57 (Nat.le_of_eq z58.symm))
            show G (T73.setTop (mkF m 135 #[.val (.ref u), .val (.int n)] [(.ref b58), (.ref b57), (.ref b57)]))
            have f76 := (((((A57.ext E58).wr W61).wr W65).wr W69).wr W73)
            have f77 := ((((((D57 (Or.inr (ow hw 27 rfl)) (ty := .byte) (by decide)).ext E58).other W61 (Or.inl (own_ne A57.lt (Nat.le_of_eq z58.symm)))).other W65 (Or.inl (own_ne A57.lt (Nat.le_of_eq z58.symm)))).other W69 (Or.inl (own_ne A57.lt (Nat.le_of_eq z58.symm)))).other W73 (Or.inl (own_ne A57.lt (Nat.le_of_eq z58.symm))))
            have f78 := ((((((D57 (Or.inr (ow hw 26 rfl)) (ty := (.array .byte)) (by decide)).ext E58).other W61 (Or.inl (own_ne A57.lt (Nat.le_of_eq z58.symm)))).other W65 (Or.inl (own_ne A57.lt (Nat.le_of_eq z58.symm)))).other W69 (Or.inl (own_ne A57.lt (Nat.le_of_eq z58.symm)))).other W73 (Or.inl (own_ne A57.lt (Nat.le_of_eq z58.symm))))
            refine own_callI X73 hx hZ hG hown rfl (ow hw 14 rfl) (ow hw 15 rfl) (ow hw 13 rfl) (ow hw 16 rfl) (by decide) 1 (own_gstr1 l Z a0 hw b57 b58 k58 [x0, x1, x2, x3] cpt (.int 0) .null h73 O73 f76 f77 f78 (own_ge O0 (Nat.le_of_eq z57.symm)) V73 (Nat.le_of_ble_eq_true rfl) (Nat.le_of_ble_eq_true rfl) (own_allc (g7_hx x0 (List.mem_of_getElem? (i := 0) rfl)) (own_allc (g7_hx x1 (List.mem_of_getElem? (i := 1) rfl)) (own_allc (g7_hx x2 (List.mem_of_getElem? (i := 2) rfl)) (own_allc (g7_hx x3 (List.mem_of_getElem? (i := 3) rfl)) own_alln)))) g0_S g1_hcpt g2_S g3_S g4_S) (by decide) (by decide) e73 (by rw [hml]; rfl) (lenOf own_pd8 rfl) (argsL := [(.ref b58)]) (rest := [(.ref b57)]) rfl rfl (Nat.le_of_eq rfl) (hb hby d2_135) (by decide) (by decide) ?_
            intro T75 h75 v75 L75 X75 e75 q75
            obtain ⟨t_75, kt_75, cd_75, nb_75, vs_75, rfl, M75, J75, y75_0, r75_0, r75_1, r75_2, r75_3, r75_4⟩ := q75
            have N75 := Fr.app N73 M75
            have sf79 : Safe Z consts_1 _ h73 b57 := (own_safeStr hZ.alike f76 f78)
            have R75 := (CHr.keep J75 (allS sf79 all0) R73.1)
            have C75 := C73.trans R75
            have K75 : Keep h0 h75 [] := K73.trans J75 (allS (Or.inr (Nat.le_trans (Keep.refl h0 []).1 (Nat.le_of_eq z57.symm))) all0)
            have O75 : own_Old Z h75 := O73.keep J75 (allS (own_ge O0 (Nat.le_of_eq z57.symm)) all0)
            show G (T75.setTop (mkF m 138 #[.val (.ref u), .val (.int n)] [(.ref b57)]))
            exact own_retAW hR hret rfl rfl X75 hx (hb hby d2_138) e75 SI0 (Nat.le_trans (Nat.le_trans (Nat.le_trans (Nat.le_trans (Nat.le_trans (Nat.le_trans (Nat.le_trans (Nat.le_refl _) R57.2.1) R58.2.1) R61.2.1) R65.2.1) R69.2.1) R73.2.1) R75.2.1) hZ C75 (by decide) (by decide) ⟨b57, t_75, kt_75, cd_75, nb_75, vs_75, rfl, N75, K75, (Nat.le_trans (Keep.refl h0 []).1 (Nat.le_of_eq z57.symm)), r75_0, r75_1, r75_2, r75_3, (by rw [hc101_56]; exact r75_4)⟩
          · skip
            refine hG _ _ (fun t_ k_ => XS.icmpYes X0.here hx rfl (pc0 := 101) (pc' := 139) rfl (hb hby d2_101) rfl (feq hc101_56).2 (by decide) (by decide) k_) ?_
            show G (s₁.setTop (mkF m 139 #[.val (.ref u), .val (.int n)] []))
            refine hG _ _ (fun t_ k_ => XS.iloadN X0.here hx rfl (hb hby d2_139) rfl k_) ?_
            refine hG _ _ (fun t_ k_ => XS.iconst X0.here hx rfl (hb hby d2_140) k_) ?_
            show G (s₁.setTop (mkF m 141 #[.val (.ref u), .val (.int n)] [(.int 5), (.int n)]))
            by_cases hc141_80 : n = (5 : Int32)
            · skip
              refine hG _ _ (fun t_ k_ => XS.icmpNo X0.here hx rfl (hb hby d2_141) rfl (teq hc141_80).2 k_) ?_
              show G (s₁.setTop (mkF m 144 #[.val (.ref u), .val (.int n)] []))
              obtain ⟨T81, h81, X81, e81, E81, A81, D81, -, st81⟩ := newO X0 hx hZ hown (ow hw 11 rfl) (ow hw 12 rfl) (ow hw 13 rfl) e0 (g := (mkF m 144 #[.val (.ref u), .val (.int n)] [])) rfl (hb hby d2_144) (by decide) (by decide)
              obtain ⟨b81, z81⟩ : ∃ z, z = h0.size := ⟨_, rfl⟩
              rw [← z81] at A81 D81 st81
              refine hG _ _ st81 ?_
              have R81 := (CHr.ext E81 H0)
              have C81 := (CHr.refl H0).trans R81
              have K81 : Keep h0 h81 [] := (Keep.refl h0 []).ext E81
              have O81 : own_Old Z h81 := O0.ext E81
              show G (T81.setTop (mkF m 147 #[.val (.ref u), .val (.int n)] [(.ref b81)]))
              refine hG _ _ (fun t_ k_ => XS.dup X81.here hx rfl (hb hby d2_147) rfl rfl k_) ?_
              refine hG _ _ (fun t_ k_ => XS.iconst X81.here hx rfl (hb hby d2_148) k_) ?_
              show G (T81.setTop (mkF m 149 #[.val (.ref u), .val (.int n)] [(.int 5), (.ref b81), (.ref b81)]))
              obtain ⟨T82, h82, k82, X82, e82, E82, A82, st82⟩ := newP X81 hx hZ (ow hw 1 rfl) e81 (g := (mkF m 149 #[.val (.ref u), .val (.int n)] [(.int 5), (.ref b81), (.ref b81)])) rfl (hb hby d2_149) rfl (by decide) (cap := 5) (by decide) (by decide) (by decide) (by decide)
              obtain ⟨b82, z82⟩ : ∃ z, z = h81.size := ⟨_, rfl⟩
              rw [← z82] at A82 st82
              refine hG _ _ st82 ?_
              have R82 := (CHr.ext E82 R81.1)
              have C82 := C81.trans R82
              have K82 : Keep h0 h82 [] := K81.ext E82
              have O82 : own_Old Z h82 := O81.ext E82
              have V82 : Arv Z h82 b82 k82 .char (5 : Int32) [(.int 0), (.int 0), (.int 0), (.int 0), (.int 0)] (.int 0) := (Arv.new A82 (by decide)).pad (pad_rep [] (.int 0) 5)
              show G (T82.setTop (mkF m 151 #[.val (.ref u), .val (.int n)] [(.ref b82), (.ref b81), (.ref b81)]))
              refine hG _ _ (fun t_ k_ => XS.dup X82.here hx rfl (hb hby d2_151) rfl rfl k_) ?_
              refine hG _ _ (fun t_ k_ => XS.iconst X82.here hx rfl (hb hby d2_152) k_) ?_
              refine hG _ _ (fun t_ k_ => XS.aloadN X82.here hx rfl (hb hby d2_153) rfl rfl k_) ?_
              refine hG _ _ (fun t_ k_ => XS.iconst X82.here hx rfl (hb hby d2_154) k_) ?_
              show G (T82.setTop (mkF m 155 #[.val (.ref u), .val (.int n)] [(.int 0), (.ref u), (.int 0), (.ref b82), (.ref b82), (.ref b81), (.ref b81)]))
              have f84 := ((g5_V.ext E81).ext E82)
              obtain ⟨c83, Ar83, q83, S83, M83, H83, G83⟩ := id f84
              have hin83 : ¬ ((0 : Int32) < 0 ∨ c83.slots.size ≤ (0 : Int32).toNatClampNeg) := inb_of S83 ⟨by decide, by decide⟩
              refine hG _ _ (X82.caload hx (j := (0 : Int32)) (v := (.int x0)) (by rw [e82]; exact Ar83.1) (State.isArrayOf_alike hZ.alike Ar83.2.1) Ar83.2.2 hin83 (Has.at H83 hin83 rfl) (g := (mkF m 155 #[.val (.ref u), .val (.int n)] [(.int 0), (.ref u), (.int 0), (.ref b82), (.ref b82), (.ref b81), (.ref b81)])) rfl rfl (hb hby d2_155)) ?_
              show G (T82.setTop (mkF m 156 #[.val (.ref u), .val (.int n)] [(.int x0), (.int 0), (.ref b82), (.ref b82), (.ref b81), (.ref b81)]))
              obtain ⟨c85, Ar85, q85, S85, M85, H85, G85⟩ := id V82
              obtain ⟨T85, h85, X85, e85, W85, st85⟩ := stC X82 hx hZ e82 Ar85 (j := (0 : Int32)) (inb_of S85 ⟨by decide, by decide⟩) (g := (mkF m 156 #[.val (.ref u), .val (.int n)] [(.int x0), (.int 0), (.ref b82), (.ref b82), (.ref b81), (.ref b81)])) rfl rfl (hb hby d2_156)
              refine hG _ _ st85 ?_
              have sf86 : Safe Z consts_1 _ h82 b82 := (own_safeArv hZ.alike V82 (by decide))
              have R85 := (CHr.wr W85 sf86 R82.1)
              have C85 := C82.trans R85
              have K85 : Keep h0 h85 [] := K82.wr W85 (Or.inr (Nat.le_trans K81.1 (Nat.le_of_eq z82.symm)))
              have O85 : own_Old Z h85 := O82.wr W85 (own_ge O81 (Nat.le_of_eq z82.symm))
              rw [own_narC (g7_hx x0 (List.mem_of_getElem? (i := 0) rfl))] at W85
              have V85 : Arv Z h85 b82 k82 .char (5 : Int32) [(.int x0), (.int 0), (.int 0), (.int 0), (.int 0)] (.int 0) := Arv.set Ar85 q85 S85 M85 H85 G85 (own_fitC (g7_hx x0 (List.mem_of_getElem? (i := 0) rfl))) W85 0 rfl (Nat.le_of_ble_eq_true rfl)
              have N85 := Fr.snoc X85 N0 (own_ge O81 (Nat.le_of_eq z82.symm))
              show G (T85.setTop (mkF m 157 #[.val (.ref u), .val (.int n)] [(.ref b82), (.ref b81), (.ref b81)]))
              refine hG _ _ (fun t_ k_ => XS.dup X85.here hx rfl (hb hby d2_157) rfl rfl k_) ?_
              refine hG _ _ (fun t_ k_ => XS.iconst X85.here hx rfl (hb hby d2_158) k_) ?_
              refine hG _ _ (fun t_ k_ => XS.aloadN X85.here hx rfl (hb hby d2_159) rfl rfl k_) ?_
              refine hG _ _ (fun t_ k_ => XS.iconst X85.here hx rfl (hb hby d2_160) k_) ?_
              show G (T85.setTop (mkF m 161 #[.val (.ref u), .val (.int n)] [(.int 1), (.ref u), (.int 1), (.ref b82), (.ref b82), (.ref b81), (.ref b81)]))
              have f88 := (f84.other W85 (own_ne (Nat.lt_of_lt_of_le g5_V.lt E81.1) (Nat.le_of_eq z82.symm)))
              obtain ⟨c87, Ar87, q87, S87, M87, H87, G87⟩ := id f88
              have hin87 : ¬ ((1 : Int32) < 0 ∨ c87.slots.size ≤ (1 : Int32).toNatClampNeg) := inb_of S87 ⟨by decide, by decide⟩
              refine hG _ _ (X85.caload hx (j := (1 : Int32)) (v := (.int x1)) (by rw [e85]; exact Ar87.1) (State.isArrayOf_alike hZ.alike Ar87.2.1) Ar87.2.2 hin87 (Has.at H87 hin87 rfl) (g := (mkF m 161 #[.val (.ref u), .val (.int n)] [(.int 1), (.ref u), (.int 1), (.ref b82), (.ref b82), (.ref b81), (.ref b81)])) rfl rfl (hb hby d2_161)) ?_
              show G (T85.setTop (mkF m 162 #[.val (.ref u), .val (.int n)] [(.int x1), (.int 1), (.ref b82), (.ref b82), (.ref b81), (.ref b81)]))
              obtain ⟨c89, Ar89, q89, S89, M89, H89, G89⟩ := id V85
              obtain ⟨T89, h89, X89, e89, W89, st89⟩ := stC X85 hx hZ e85 Ar89 (j := (1 : Int32)) (inb_of S89 ⟨by decide, by decide⟩) (g := (mkF m 162 #[.val (.ref u), .val (.int n)] [(.int x1), (.int 1), (.ref b82), (.ref b82), (.ref b81), (.ref b81)])) rfl rfl (hb hby d2_162)
              refine hG _ _ st89 ?_
              have sf90 := (R85.safe V82.lt sf86)
              have R89 := (CHr.wr W89 sf90 R85.1)
              have C89 := C85.trans R89
              have K89 : Keep h0 h89 [] := K85.wr W89 (Or.inr (Nat.le_trans K81.1 (Nat.le_of_eq z82.symm)))
              have O89 : own_Old Z h89 := O85.wr W89 (own_ge O81 (Nat.le_of_eq z82.symm))
              rw [own_narC (g7_hx x1 (List.mem_of_getElem? (i := 1) rfl))] at W89
              have V89 : Arv Z h89 b82 k82 .char (5 : Int32) [(.int x0), (.int x1), (.int 0), (.int 0), (.int 0)] (.int 0) := Arv.set Ar89 q89 S89 M89 H89 G89 (own_fitC (g7_hx x1 (List.mem_of_getElem? (i := 1) rfl))) W89 1 rfl (Nat.le_of_ble_eq_true rfl)
              have N89 := Fr.snoc X89 N85 (own_ge O81 (Nat.le_of_eq z82.symm))
              show G (T89.setTop (mkF m 163 #[.val (.ref u), .val (.int n)] [(.ref b82), (.ref b81), (.ref b81)]))
              refine hG _ _ (fun t_ k_ => XS.dup X89.here hx rfl (hb hby d2_163) rfl rfl k_) ?_
              refine hG _ _ (fun t_ k_ => XS.iconst X89.here hx rfl (hb hby d2_164) k_) ?_
              refine hG _ _ (fun t_ k_ => XS.aloadN X89.here hx rfl (hb hby d2_165) rfl rfl k_) ?_
              refine hG _ _ (fun t_ k_ => XS.iconst X89.here hx rfl (hb hby d2_166) k_) ?_
              show G (T89.setTop (mkF m 167 #[.val (.ref u), .val (.int n)] [(.int 2), (.ref u), (.int 2), (.ref b82), (.ref b82), (.ref b81), (.ref b81)]))
              have f92 := (f88.other W89 (own_ne (Nat.lt_of_lt_of_le g5_V.lt E81.1) (Nat.le_of_eq z82.symm)))
              obtain ⟨c91, Ar91, q91, S91, M91, H91, G91⟩ := id f92
              have hin91 : ¬ ((2 : Int32) < 0 ∨ c91.slots.size ≤ (2 : Int32).toNatClampNeg) := inb_of S91 ⟨by decide, by decide⟩
              refine hG _ _ (X89.caload hx (j := (2 : Int32)) (v := (.int x2)) (by rw [e89]; exact Ar91.1) (State.isArrayOf_alike hZ.alike Ar91.2.1) Ar91.2.2 hin91 (Has.at H91 hin91 rfl) (g := (mkF m 167 #[.val (.ref u), .val (.int n)] [(.int 2), (.ref u), (.int 2), (.ref b82), (.ref b82), (.ref b81), (.ref b81)])) rfl rfl (hb hby d2_167)) ?_
              show G (T89.setTop (mkF m 168 #[.val (.ref u), .val (.int n)] [(.int x2), (.int 2), (.ref b82), (.ref b82), (.ref b81), (.ref b81)]))
              obtain ⟨c93, Ar93, q93, S93, M93, H93, G93⟩ := id V89
              obtain ⟨T93, h93, X93, e93, W93, st93⟩ := stC X89 hx hZ e89 Ar93 (j := (2 : Int32)) (inb_of S93 ⟨by decide, by decide⟩) (g := (mkF m 168 #[.val (.ref u), .val (.int n)] [(.int x2), (.int 2), (.ref b82), (.ref b82), (.ref b81), (.ref b81)])) rfl rfl (hb hby d2_168)
              refine hG _ _ st93 ?_
              have sf94 := (R89.safe V85.lt sf90)
              have R93 := (CHr.wr W93 sf94 R89.1)
              have C93 := C89.trans R93
              have K93 : Keep h0 h93 [] := K89.wr W93 (Or.inr (Nat.le_trans K81.1 (Nat.le_of_eq z82.symm)))
              have O93 : own_Old Z h93 := O89.wr W93 (own_ge O81 (Nat.le_of_eq z82.symm))
              rw [own_narC (g7_hx x2 (List.mem_of_getElem? (i := 2) rfl))] at W93
              have V93 : Arv Z h93 b82 k82 .char (5 : Int32) [(.int x0), (.int x1), (.int x2), (.int 0), (.int 0)] (.int 0) := Arv.set Ar93 q93 S93 M93 H93 G93 (own_fitC (g7_hx x2 (List.mem_of_getElem? (i := 2) rfl))) W93 2 rfl (Nat.le_of_ble_eq_true rfl)
              have N93 := Fr.snoc X93 N89 (own_ge O81 (Nat.le_of_eq z82.symm))
              show G (T93.setTop (mkF m 169 #[.val (.ref u), .val (.int n)] [(.ref b82), (.ref b81), (.ref b81)]))
              refine hG _ _ (fun t_ k_ => XS.dup X93.here hx rfl (hb hby d2_169) rfl rfl k_) ?_
              refine hG _ _ (fun t_ k_ => XS.iconst X93.here hx rfl (hb hby d2_170) k_) ?_
              refine hG _ _ (fun t_ k_ => XS.aloadN X93.here hx rfl (hb hby d2_171) rfl rfl k_) ?_
              refine hG _ _ (fun t_ k_ => XS.iconst X93.here hx rfl (hb hby d2_172) k_) ?_
              show G (T93.setTop (mkF m 173 #[.val (.ref u), .val (.int n)] [(.int 3), (.ref u), (.int 3), (.ref b82), (.ref b82), (.ref b81), (.ref b81)]))
              have f96 := (f92.other W93 (own_ne (Nat.lt_of_lt_of_le g5_V.lt E81.1) (Nat.le_of_eq z82.symm)))
              obtain ⟨c95, Ar95, q95, S95, M95, H95, G95⟩ := id f96
              have hin95 : ¬ ((3 : Int32) < 0 ∨ c95.slots.size ≤ (3 : Int32).toNatClampNeg) := inb_of S95 ⟨by decide, by decide⟩
              refine hG _ _ (X93.caload hx (j := (3 : Int32)) (v := (.int x3)) (by rw [e93]; exact Ar95.1) (State.isArrayOf_alike hZ.alike Ar95.2.1) Ar95.2.2 hin95 (Has.at H95 hin95 rfl) (g := (mkF m 173 #[.val (.ref u), .val (.int n)] [(.int 3), (.ref u), (.int 3), (.ref b82), (.ref b82), (.ref b81), (.ref b81)])) rfl rfl (hb hby d2_173)) ?_
              show G (T93.setTop (mkF m 174 #[.val (.ref u), .val (.int n)] [(.int x3), (.int 3), (.ref b82), (.ref b82), (.ref b81), (.ref b81)]))
              obtain ⟨c97, Ar97, q97, S97, M97, H97, G97⟩ := id V93
              obtain ⟨T97, h97, X97, e97, W97, st97⟩ := stC X93 hx hZ e93 Ar97 (j := (3 : Int32)) (inb_of S97 ⟨by decide, by decide⟩) (g := (mkF m 174 #[.val (.ref u), .val (.int n)] [(.int x3), (.int 3), (.ref b82), (.ref b82), (.ref b81), (.ref b81)])) rfl rfl (hb hby d2_174)
              refine hG _ _ st97 ?_
              have sf98 := (R93.safe V89.lt sf94)
              have R97 := (CHr.wr W97 sf98 R93.1)
              have C97 := C93.trans R97
              have K97 : Keep h0 h97 [] := K93.wr W97 (Or.inr (Nat.le_trans K81.1 (Nat.le_of_eq z82.symm)))
              have O97 : own_Old Z h97 := O93.wr W97 (own_ge O81 (Nat.le_of_eq z82.symm))
              rw [own_narC (g7_hx x3 (List.mem_of_getElem? (i := 3) rfl))] at W97
              have V97 : Arv Z h97 b82 k82 .char (5 : Int32) [(.int x0), (.int x1), (.int x2), (.int x3), (.int 0)] (.int 0) := Arv.set Ar97 q97 S97 M97 H97 G97 (own_fitC (g7_hx x3 (List.mem_of_getElem? (i := 3) rfl))) W97 3 rfl (Nat.le_of_ble_eq_true rfl)
              have N97 := Fr.snoc X97 N93 (own_ge O81 (Nat.le_of_eq z82.symm))
              show G (T97.setTop (mkF m 175 #[.val (.ref u), .val (.int n)] [(.ref b82), (.ref b81), (.ref b81)]))
              refine hG _ _ (fun t_ k_ => XS.dup X97.here hx rfl (hb hby d2_175) rfl rfl k_) ?_
              refine hG _ _ (fun t_ k_ => XS.iconst X97.here hx rfl (hb hby d2_176) k_) ?_
              refine hG _ _ (fun t_ k_ => XS.aloadN X97.here hx rfl (hb hby d2_177) rfl rfl k_) ?_
              refine hG _ _ (fun t_ k_ => XS.iconst X97.here hx rfl (hb hby d2_178) k_) ?_
              show G (T97.setTop (mkF m 179 #[.val (.ref u), .val (.int n)] [(.int 4), (.ref u), (.int 4), (.ref b82), (.ref b82), (.ref b81), (.ref b81)]))
              have f100 := (f96.other W97 (own_ne (Nat.lt_of_lt_of_le g5_V.lt E81.1) (Nat.le_of_eq z82.symm)))
              obtain ⟨c99, Ar99, q99, S99, M99, H99, G99⟩ := id f100
              have hin99 : ¬ ((4 : Int32) < 0 ∨ c99.slots.size ≤ (4 : Int32).toNatClampNeg) := inb_of S99 ⟨by decide, by decide⟩
              refine hG _ _ (X97.caload hx (j := (4 : Int32)) (v := (.int x4)) (by rw [e97]; exact Ar99.1) (State.isArrayOf_alike hZ.alike Ar99.2.1) Ar99.2.2 hin99 (Has.at H99 hin99 rfl) (g := (mkF m 179 #[.val (.ref u), .val (.int n)] [(.int 4), (.ref u), (.int 4), (.ref b82), (.ref b82), (.ref b81), (.ref b81)])) rfl rfl (hb hby d2_179)) ?_
              show G (T97.setTop (mkF m 180 #[.val (.ref u), .val (.int n)] [(.int x4), (.int 4), (.ref b82), (.ref b82), (.ref b81), (.ref b81)]))
              obtain ⟨c101, Ar101, q101, S101, M101, H101, G101⟩ := id V97
              obtain ⟨T101, h101, X101, e101, W101, st101⟩ := stC X97 hx hZ e97 Ar101 (j := (4 : Int32)) (inb_of S101 ⟨by decide, by decide⟩) (g := (mkF m 180 #[.val (.ref u), .val (.int n)] [(.int x4), (.int 4), (.ref b82), (.ref b82), (.ref b81), (.ref b81)])) rfl rfl (hb hby d2_180)
              refine hG _ _ st101 ?_
              have sf102 := (R97.safe V93.lt sf98)
              have R101 := (CHr.wr W101 sf102 R97.1)
              have C101 := C97.trans R101
              have K101 : Keep h0 h101 [] := K97.wr W101 (Or.inr (Nat.le_trans K81.1 (Nat.le_of_eq z82.symm)))
              have O101 : own_Old Z h101 := O97.wr W101 (own_ge O81 (Nat.le_of_eq z82.symm))
              rw [own_narC (g7_hx x4 (List.mem_of_getElem? (i := 4) rfl))] at W101
              have V101 : Arv Z h101 b82 k82 .char (5 : Int32) [(.int x0), (.int x1), (.int x2), (.int x3), (.int x4)] (.int 0) := Arv.set Ar101 q101 S101 M101 H101 G101 (own_fitC (g7_hx x4 (List.mem_of_getElem? (i := 4) rfl))) W101 4 rfl (Nat.le_of_ble_eq_true rfl)
              have N101 := Fr.snoc X101 N97 (own_ge O81 (Nat.le_of_eq z82.symm))
              show G (T101.setTop (mkF m 181 #[.val (.ref u), .val (.int n)] [(.ref b82), (.ref b81), (.ref b81)]))
              have f104 := ((((((A81.ext E82).wr W85).wr W89).wr W93).wr W97).wr W101)
              have f105 := (((((((D81 (Or.inr (ow hw 27 rfl)) (ty := .byte) (by decide)).ext E82).other W85 (Or.inl (own_ne A81.lt (Nat.le_of_eq z82.symm)))).other W89 (Or.inl (own_ne A81.lt (Nat.le_of_eq z82.symm)))).other W93 (Or.inl (own_ne A81.lt (Nat.le_of_eq z82.symm)))).other W97 (Or.inl (own_ne A81.lt (Nat.le_of_eq z82.symm)))).other W101 (Or.inl (own_ne A81.lt (Nat.le_of_eq z82.symm))))
              have f106 := (((((((D81 (Or.inr (ow hw 26 rfl)) (ty := (.array .byte)) (by decide)).ext E82).other W85 (Or.inl (own_ne A81.lt (Nat.le_of_eq z82.symm)))).other W89 (Or.inl (own_ne A81.lt (Nat.le_of_eq z82.symm)))).other W93 (Or.inl (own_ne A81.lt (Nat.le_of_eq z82.symm)))).other W97 (Or.inl (own_ne A81.lt (Nat.le_of_eq z82.symm)))).other W101 (Or.inl (own_ne A81.lt (Nat.le_of_eq z82.symm))))
              refine own_callI X101 hx hZ hG hown rfl (ow hw 14 rfl) (ow hw 15 rfl) (ow hw 13 rfl) (ow hw 16 rfl) (by decide) 1 (own_gstr1 l Z a0 hw b81 b82 k82 [x0, x1, x2, x3, x4] cpt (.int 0) .null h101 O101 f104 f105 f106 (own_ge O0 (Nat.le_of_eq z81.symm)) V101 (Nat.le_of_ble_eq_true rfl) (Nat.le_of_ble_eq_true rfl) (own_allc (g7_hx x0 (List.mem_of_getElem? (i := 0) rfl)) (own_allc (g7_hx x1 (List.mem_of_getElem? (i := 1) rfl)) (own_allc (g7_hx x2 (List.mem_of_getElem? (i := 2) rfl)) (own_allc (g7_hx x3 (List.mem_of_getElem? (i := 3) rfl)) (own_allc (g7_hx x4 (List.mem_of_getElem? (i := 4) rfl)) own_alln))))) g0_S g1_hcpt g2_S g3_S g4_S) (by decide) (by decide) e101 (by rw [hml]; rfl) (lenOf own_pd8 rfl) (argsL := [(.ref b82)]) (rest := [(.ref b81)]) rfl rfl (Nat.le_of_eq rfl) (hb hby d2_181) (by decide) (by decide) ?_
              intro T103 h103 v103 L103 X103 e103 q103
              obtain ⟨t_103, kt_103, cd_103, nb_103, vs_103, rfl, M103, J103, y103_0, r103_0, r103_1, r103_2, r103_3, r103_4⟩ := q103
              have N103 := Fr.app N101 M103
              have sf107 : Safe Z consts_1 _ h101 b81 := (own_safeStr hZ.alike f104 f106)
              have R103 := (CHr.keep J103 (allS sf107 all0) R101.1)
              have C103 := C101.trans R103
              have K103 : Keep h0 h103 [] := K101.trans J103 (allS (Or.inr (Nat.le_trans (Keep.refl h0 []).1 (Nat.le_of_eq z81.symm))) all0)
              have O103 : own_Old Z h103 := O101.keep J103 (allS (own_ge O0 (Nat.le_of_eq z81.symm)) all0)
              show G (T103.setTop (mkF m 184 #[.val (.ref u), .val (.int n)] [(.ref b81)]))
              exact own_retAW hR hret rfl rfl X103 hx (hb hby d2_184) e103 SI0 (Nat.le_trans (Nat.le_trans (Nat.le_trans (Nat.le_trans (Nat.le_trans (Nat.le_trans (Nat.le_trans (Nat.le_trans (Nat.le_refl _) R81.2.1) R82.2.1) R85.2.1) R89.2.1) R93.2.1) R97.2.1) R101.2.1) R103.2.1) hZ C103 (by decide) (by decide) ⟨b81, t_103, kt_103, cd_103, nb_103, vs_103, rfl, N103, K103, (Nat.le_trans (Keep.refl h0 []).1 (Nat.le_of_eq z81.symm)), r103_0, r103_1, r103_2, r103_3, (by rw [hc141_80]; exact r103_4)⟩
            · skip
              refine hG _ _ (fun t_ k_ => XS.icmpYes X0.here hx rfl (pc0 := 141) (pc' := 185) rfl (hb hby d2_141) rfl (feq hc141_80).2 (by decide) (by decide) k_) ?_
              show G (s₁.setTop (mkF m 185 #[.val (.ref u), .val (.int n)] []))
              refine hG _ _ (fun t_ k_ => XS.iloadN X0.here hx rfl (hb hby d2_185) rfl k_) ?_
              refine hG _ _ (fun t_ k_ => XS.bipush X0.here hx rfl (hb hby d2_186) k_) ?_
              show G (s₁.setTop (mkF m 188 #[.val (.ref u), .val (.int n)] [(.int 6), (.int n)]))
              by_cases hc188_108 : n = (6 : Int32)
              · skip
                refine hG _ _ (fun t_ k_ => XS.icmpNo X0.here hx rfl (hb hby d2_188) rfl (teq hc188_108).2 k_) ?_
                show G (s₁.setTop (mkF m 191 #[.val (.ref u), .val (.int n)] []))
                obtain ⟨T109, h109, X109, e109, E109, A109, D109, -, st109⟩ := newO X0 hx hZ hown (ow hw 11 rfl) (ow hw 12 rfl) (ow hw 13 rfl) e0 (g := (mkF m 191 #[.val (.ref u), .val (.int n)] [])) rfl (hb hby d2_191) (by decide) (by decide)
                obtain ⟨b109, z109⟩ : ∃ z, z = h0.size := ⟨_, rfl⟩
                rw [← z109] at A109 D109 st109
                refine hG _ _ st109 ?_
                have R109 := (CHr.ext E109 H0)
                have C109 := (CHr.refl H0).trans R109
                have K109 : Keep h0 h109 [] := (Keep.refl h0 []).ext E109
                have O109 : own_Old Z h109 := O0.ext E109
                show G (T109.setTop (mkF m 194 #[.val (.ref u), .val (.int n)] [(.ref b109)]))
                refine hG _ _ (fun t_ k_ => XS.dup X109.here hx rfl (hb hby d2_194) rfl rfl k_) ?_
                refine hG _ _ (fun t_ k_ => XS.bipush X109.here hx rfl (hb hby d2_195) k_) ?_
                show G (T109.setTop (mkF m 197 #[.val (.ref u), .val (.int n)] [(.int 6), (.ref b109), (.ref b109)]))
                obtain ⟨T110, h110, k110, X110, e110, E110, A110, st110⟩ := newP X109 hx hZ (ow hw 1 rfl) e109 (g := (mkF m 197 #[.val (.ref u), .val (.int n)] [(.int 6), (.ref b109), (.ref b109)])) rfl (hb hby d2_197) rfl (by decide) (cap := 6) (by decide) (by decide) (by decide) (by decide)
                obtain ⟨b110, z110⟩ : ∃ z, z = h109.size := ⟨_, rfl⟩
                rw [← z110] at A110 st110
                refine hG _ _ st110 ?_
                have R110 := (CHr.ext E110 R109.1)
                have C110 := C109.trans R110
                have K110 : Keep h0 h110 [] := K109.ext E110
                have O110 : own_Old Z h110 := O109.ext E110
                have V110 : Arv Z h110 b110 k110 .char (6 : Int32) [(.int 0), (.int 0), (.int 0), (.int 0), (.int 0), (.int 0)] (.int 0) := (Arv.new A110 (by decide)).pad (pad_rep [] (.int 0) 6)
                show G (T110.setTop (mkF m 199 #[.val (.ref u), .val (.int n)] [(.ref b110), (.ref b109), (.ref b109)]))
                refine hG _ _ (fun t_ k_ => XS.dup X110.here hx rfl (hb hby d2_199) rfl rfl k_) ?_
                refine hG _ _ (fun t_ k_ => XS.iconst X110.here hx rfl (hb hby d2_200) k_) ?_
                refine hG _ _ (fun t_ k_ => XS.aloadN X110.here hx rfl (hb hby d2_201) rfl rfl k_) ?_
                refine hG _ _ (fun t_ k_ => XS.iconst X110.here hx rfl (hb hby d2_202) k_) ?_
                show G (T110.setTop (mkF m 203 #[.val (.ref u), .val (.int n)] [(.int 0), (.ref u), (.int 0), (.ref b110), (.ref b110), (.ref b109), (.ref b109)]))
                have f112 := ((g5_V.ext E109).ext E110)
                obtain ⟨c111, Ar111, q111, S111, M111, H111, G111⟩ := id f112
                have hin111 : ¬ ((0 : Int32) < 0 ∨ c111.slots.size ≤ (0 : Int32).toNatClampNeg) := inb_of S111 ⟨by decide, by decide⟩
                refine hG _ _ (X110.caload hx (j := (0 : Int32)) (v := (.int x0)) (by rw [e110]; exact Ar111.1) (State.isArrayOf_alike hZ.alike Ar111.2.1) Ar111.2.2 hin111 (Has.at H111 hin111 rfl) (g := (mkF m 203 #[.val (.ref u), .val (.int n)] [(.int 0), (.ref u), (.int 0), (.ref b110), (.ref b110), (.ref b109), (.ref b109)])) rfl rfl (hb hby d2_203)) ?_
                show G (T110.setTop (mkF m 204 #[.val (.ref u), .val (.int n)] [(.int x0), (.int 0), (.ref b110), (.ref b110), (.ref b109), (.ref b109)]))
                obtain ⟨c113, Ar113, q113, S113, M113, H113, G113⟩ := id V110
                obtain ⟨T113, h113, X113, e113, W113, st113⟩ := stC X110 hx hZ e110 Ar113 (j := (0 : Int32)) (inb_of S113 ⟨by decide, by decide⟩) (g := (mkF m 204 #[.val (.ref u), .val (.int n)] [(.int x0), (.int 0), (.ref b110), (.ref b110), (.ref b109), (.ref b109)])) rfl rfl (hb hby d2_204)
                refine hG _ _ st113 ?_
                have sf114 : Safe Z consts_1 _ h110 b110 := (own_safeArv hZ.alike V110 (by decide))
                have R113 := (CHr.wr W113 sf114 R110.1)
                have C113 := C110.trans R113
                have K113 : Keep h0 h113 [] := K110.wr W113 (Or.inr (Nat.le_trans K109.1 (Nat.le_of_eq z110.symm)))
                have O113 : own_Old Z h113 := O110.wr W113 (own_ge O109 (Nat.le_of_eq z110.symm))
                rw [own_narC (g7_hx x0 (List.mem_of_getElem? (i := 0) rfl))] at W113
                have V113 : Arv Z h113 b110 k110 .char (6 : Int32) [(.int x0), (.int 0), (.int 0), (.int 0), (.int 0), (.int 0)] (.int 0) := Arv.set Ar113 q113 S113 M113 H113 G113 (own_fitC (g7_hx x0 (List.mem_of_getElem? (i := 0) rfl))) W113 0 rfl (Nat.le_of_ble_eq_true rfl)
                have N113 := Fr.snoc X113 N0 (own_ge O109 (Nat.le_of_eq z110.symm))
                show G (T113.setTop (mkF m 205 #[.val (.ref u), .val (.int n)] [(.ref b110), (.ref b109), (.ref b109)]))
                refine hG _ _ (fun t_ k_ => XS.dup X113.here hx rfl (hb hby d2_205) rfl rfl k_) ?_
                refine hG _ _ (fun t_ k_ => XS.iconst X113.here hx rfl (hb hby d2_206) k_) ?_
                refine hG _ _ (fun t_ k_ => XS.aloadN X113.here hx rfl (hb hby d2_207) rfl rfl k_) ?_
                refine hG _ _ (fun t_ k_ => XS.iconst X113.here hx rfl (hb hby d2_208) k_) ?_
                show G (T113.setTop (mkF m 209 #[.val (.ref u), .val (.int n)] [(.int 1), (.ref u), (.int 1), (.ref b110), (.ref b110), (.ref b109), (.ref b109)]))
                have f116 := (f112.other W113 (own_ne (Nat.lt_of_lt_of_le g5_V.lt E109.1) (Nat.le_of_eq z110.symm)))
                obtain ⟨c115, Ar115, q115, S115, M115, H115, G115⟩ := id f116
                have hin115 : ¬ ((1 : Int32) < 0 ∨ c115.slots.size ≤ (1 : Int32).toNatClampNeg) := inb_of S115 ⟨by decide, by decide⟩
                refine hG _ _ (X113.caload hx (j := (1 : Int32)) (v := (.int x1)) (by rw [e113]; exact Ar115.1) (State.isArrayOf_alike hZ.alike Ar115.2.1) Ar115.2.2 hin115 (Has.at H115 hin115 rfl) (g := (mkF m 209 #[.val (.ref u), .val (.int n)] [(.int 1), (.ref u), (.int 1), (.ref b110), (.ref b110), (.ref b109), (.ref b109)])) rfl rfl (hb hby d2_209)) ?_
                show G (T113.setTop (mkF m 210 #[.val (.ref u), .val (.int n)] [(.int x1), (.int 1), (.ref b110), (.ref b110), (.ref b109), (.ref b109)]))
                obtain ⟨c117, Ar117, q117, S117, M117, H117, G117⟩ := id V113
                obtain ⟨T117, h117, X117, e117, W117, st117⟩ := stC X113 hx hZ e113 Ar117 (j := (1 : Int32)) (inb_of S117 ⟨by decide, by decide⟩) (g := (mkF m 210 #[.val (.ref u), .val (.int n)] [(.int x1), (.int 1), (.ref b110), (.ref b110), (.ref b109), (.ref b109)])) rfl rfl (hb hby d2_210)
                refine hG _ _ st117 ?_
                have sf118 := (R113.safe V110.lt sf114)
                have R117 := (CHr.wr W117 sf118 R113.1)
                have C117 := C113.trans R117
                have K117 : Keep h0 h117 [] := K113.wr W117 (Or.inr (Nat.le_trans K109.1 (Nat.le_of_eq z110.symm)))
                have O117 : own_Old Z h117 := O113.wr W117 (own_ge O109 (Nat.le_of_eq z110.symm))
                rw [own_narC (g7_hx x1 (List.mem_of_getElem? (i := 1) rfl))] at W117
                have V117 : Arv Z h117 b110 k110 .char (6 : Int32) [(.int x0), (.int x1), (.int 0), (.int 0), (.int 0), (.int 0)] (.int 0) := Arv.set Ar117 q117 S117 M117 H117 G117 (own_fitC (g7_hx x1 (List.mem_of_getElem? (i := 1) rfl))) W117 1 rfl (Nat.le_of_ble_eq_true rfl)
                have N117 := Fr.snoc X117 N113 (own_ge O109 (Nat.le_of_eq z110.symm))
                show G (T117.setTop (mkF m 211 #[.val (.ref u), .val (.int n)] [(.ref b110), (.ref b109), (.ref b109)]))
                refine hG _ _ (fun t_ k_ => XS.dup X117.here hx rfl (hb hby d2_211) rfl rfl k_) ?_
                refine hG _ _ (fun t_ k_ => XS.iconst X117.here hx rfl (hb hby d2_212) k_) ?_
                refine hG _ _ (fun t_ k_ => XS.aloadN X117.here hx rfl (hb hby d2_213) rfl rfl k_) ?_
                refine hG _ _ (fun t_ k_ => XS.iconst X117.here hx rfl (hb hby d2_214) k_) ?_
                show G (T117.setTop (mkF m 215 #[.val (.ref u), .val (.int n)] [(.int 2), (.ref u), (.int 2), (.ref b110), (.ref b110), (.ref b109), (.ref b109)]))
                have f120 := (f116.other W117 (own_ne (Nat.lt_of_lt_of_le g5_V.lt E109.1) (Nat.le_of_eq z110.symm)))
                obtain ⟨c119, Ar119, q119, S119, M119, H119, G119⟩ := id f120
                have hin119 : ¬ ((2 : Int32) < 0 ∨ c119.slots.size ≤ (2 : Int32).toNatClampNeg) := inb_of S119 ⟨by decide, by decide⟩
                refine hG _ _ (X117.caload hx (j := (2 : Int32)) (v := (.int x2)) (by rw [e117]; exact Ar119.1) (State.isArrayOf_alike hZ.alike Ar119.2.1) Ar119.2.2 hin119 (Has.at H119 hin119 rfl) (g := (mkF m 215 #[.val (.ref u), .val (.int n)] [(.int 2), (.ref u), (.int 2), (.ref b110), (.ref b110), (.ref b109), (.ref b109)])) rfl rfl (hb hby d2_215)) ?_
                show G (T117.setTop (mkF m 216 #[.val (.ref u), .val (.int n)] [(.int x2), (.int 2), (.ref b110), (.ref b110), (.ref b109), (.ref b109)]))
                obtain ⟨c121, Ar121, q121, S121, M121, H121, G121⟩ := id V117
                obtain ⟨T121, h121, X121, e121, W121, st121⟩ := stC X117 hx hZ e117 Ar121 (j := (2 : Int32)) (inb_of S121 ⟨by decide, by decide⟩) (g := (mkF m 216 #[.val (.ref u), .val (.int n)] [(.int x2), (.int 2), (.ref b110), (.ref b110), (.ref b109), (.ref b109)])) rfl rfl (hb hby d2_216)
                refine hG _ _ st121 ?_
                have sf122 := (R117.safe V113.lt sf118)
                have R121 := (CHr.wr W121 sf122 R117.1)
                have C121 := C117.trans R121
                have K121 : Keep h0 h121 [] := K117.wr W121 (Or.inr (Nat.le_trans K109.1 (Nat.le_of_eq z110.symm)))
                have O121 : own_Old Z h121 := O117.wr W121 (own_ge O109 (Nat.le_of_eq z110.symm))
                rw [own_narC (g7_hx x2 (List.mem_of_getElem? (i := 2) rfl))] at W121
                have V121 : Arv Z h121 b110 k110 .char (6 : Int32) [(.int x0), (.int x1), (.int x2), (.int 0), (.int 0), (.int 0)] (.int 0) := Arv.set Ar121 q121 S121 M121 H121 G121 (own_fitC (g7_hx x2 (List.mem_of_getElem? (i := 2) rfl))) W121 2 rfl (Nat.le_of_ble_eq_true rfl)
                have N121 := Fr.snoc X121 N117 (own_ge O109 (Nat.le_of_eq z110.symm))
                show G (T121.setTop (mkF m 217 #[.val (.ref u), .val (.int n)] [(.ref b110), (.ref b109), (.ref b109)]))
                refine hG _ _ (fun t_ k_ => XS.dup X121.here hx rfl (hb hby d2_217) rfl rfl k_) ?_
                refine hG _ _ (fun t_ k_ => XS.iconst X121.here hx rfl (hb hby d2_218) k_) ?_
                refine hG _ _ (fun t_ k_ => XS.aloadN X121.here hx rfl (hb hby d2_219) rfl rfl k_) ?_
                refine hG _ _ (fun t_ k_ => XS.iconst X121.here hx rfl (hb hby d2_220) k_) ?_
                show G (T121.setTop (mkF m 221 #[.val (.ref u), .val (.int n)] [(.int 3), (.ref u), (.int 3), (.ref b110), (.ref b110), (.ref b109), (.ref b109)]))
                have f124 := (f120.other W121 (own_ne (Nat.lt_of_lt_of_le g5_V.lt E109.1) (Nat.le_of_eq z110.symm)))
                obtain ⟨c123, Ar123, q123, S123, M123, H123, G123⟩ := id f124
                have hin123 : ¬ ((3 : Int32) < 0 ∨ c123.slots.size ≤ (3 : Int32).toNatClampNeg) := inb_of S123 ⟨by decide, by decide⟩
                refine hG _ _ (X121.caload hx (j := (3 : Int32)) (v := (.int x3)) (by rw [e121]; exact Ar123.1) (State.isArrayOf_alike hZ.alike Ar123.2.1) Ar123.2.2 hin123 (Has.at H123 hin123 rfl) (g := (mkF m 221 #[.val (.ref u), .val (.int n)] [(.int 3), (.ref u), (.int 3), (.ref b110), (.ref b110), (.ref b109), (.ref b109)])) rfl rfl (hb hby d2_221)) ?_
                show G (T121.setTop (mkF m 222 #[.val (.ref u), .val (.int n)] [(.int x3), (.int 3), (.ref b110), (.ref b110), (.ref b109), (.ref b109)]))
                obtain ⟨c125, Ar125, q125, S125, M125, H125, G125⟩ := id V121
                obtain ⟨T125, h125, X125, e125, W125, st125⟩ := stC X121 hx hZ e121 Ar125 (j := (3 : Int32)) (inb_of S125 ⟨by decide, by decide⟩) (g := (mkF m 222 #[.val (.ref u), .val (.int n)] [(.int x3), (.int 3), (.ref b110), (.ref b110), (.ref b109), (.ref b109)])) rfl rfl (hb hby d2_222)
                refine hG _ _ st125 ?_
                have sf126 := (R121.safe V117.lt sf122)
                have R125 := (CHr.wr W125 sf126 R121.1)
                have C125 := C121.trans R125
                have K125 : Keep h0 h125 [] := K121.wr W125 (Or.inr (Nat.le_trans K109.1 (Nat.le_of_eq z110.symm)))
                have O125 : own_Old Z h125 := O121.wr W125 (own_ge O109 (Nat.le_of_eq z110.symm))
                rw [own_narC (g7_hx x3 (List.mem_of_getElem? (i := 3) rfl))] at W125
                have V125 : Arv Z h125 b110 k110 .char (6 : Int32) [(.int x0), (.int x1), (.int x2), (.int x3), (.int 0), (.int 0)] (.int 0) := Arv.set Ar125 q125 S125 M125 H125 G125 (own_fitC (g7_hx x3 (List.mem_of_getElem? (i := 3) rfl))) W125 3 rfl (Nat.le_of_ble_eq_true rfl)
                have N125 := Fr.snoc X125 N121 (own_ge O109 (Nat.le_of_eq z110.symm))
                show G (T125.setTop (mkF m 223 #[.val (.ref u), .val (.int n)] [(.ref b110), (.ref b109), (.ref b109)]))
                refine hG _ _ (fun t_ k_ => XS.dup X125.here hx rfl (hb hby d2_223) rfl rfl k_) ?_
                refine hG _ _ (fun t_ k_ => XS.iconst X125.here hx rfl (hb hby d2_224) k_) ?_
                refine hG _ _ (fun t_ k_ => XS.aloadN X125.here hx rfl (hb hby d2_225) rfl rfl k_) ?_
                refine hG _ _ (fun t_ k_ => XS.iconst X125.here hx rfl (hb hby d2_226) k_) ?_
                show G (T125.setTop (mkF m 227 #[.val (.ref u), .val (.int n)] [(.int 4), (.ref u), (.int 4), (.ref b110), (.ref b110), (.ref b109), (.ref b109)]))
                have f128 := (f124.other W125 (own_ne (Nat.lt_of_lt_of_le g5_V.lt E109.1) (Nat.le_of_eq z110.symm)))
                obtain ⟨c127, Ar127, q127, S127, M127, H127, G127⟩ := id f128
                have hin127 : ¬ ((4 : Int32) < 0 ∨ c127.slots.size ≤ (4 : Int32).toNatClampNeg) := inb_of S127 ⟨by decide, by decide⟩
                refine hG _ _ (X125.caload hx (j := (4 : Int32)) (v := (.int x4)) (by rw [e125]; exact Ar127.1) (State.isArrayOf_alike hZ.alike Ar127.2.1) Ar127.2.2 hin127 (Has.at H127 hin127 rfl) (g := (mkF m 227 #[.val (.ref u), .val (.int n)] [(.int 4), (.ref u), (.int 4), (.ref b110), (.ref b110), (.ref b109), (.ref b109)])) rfl rfl (hb hby d2_227)) ?_
                show G (T125.setTop (mkF m 228 #[.val (.ref u), .val (.int n)] [(.int x4), (.int 4), (.ref b110), (.ref b110), (.ref b109), (.ref b109)]))
                obtain ⟨c129, Ar129, q129, S129, M129, H129, G129⟩ := id V125
                obtain ⟨T129, h129, X129, e129, W129, st129⟩ := stC X125 hx hZ e125 Ar129 (j := (4 : Int32)) (inb_of S129 ⟨by decide, by decide⟩) (g := (mkF m 228 #[.val (.ref u), .val (.int n)] [(.int x4), (.int 4), (.ref b110), (.ref b110), (.ref b109), (.ref b109)])) rfl rfl (hb hby d2_228)
                refine hG _ _ st129 ?_
                have sf130 := (R125.safe V121.lt sf126)
                have R129 := (CHr.wr W129 sf130 R125.1)
                have C129 := C125.trans R129
                have K129 : Keep h0 h129 [] := K125.wr W129 (Or.inr (Nat.le_trans K109.1 (Nat.le_of_eq z110.symm)))
                have O129 : own_Old Z h129 := O125.wr W129 (own_ge O109 (Nat.le_of_eq z110.symm))
                rw [own_narC (g7_hx x4 (List.mem_of_getElem? (i := 4) rfl))] at W129
                have V129 : Arv Z h129 b110 k110 .char (6 : Int32) [(.int x0), (.int x1), (.int x2), (.int x3), (.int x4), (.int 0)] (.int 0) := Arv.set Ar129 q129 S129 M129 H129 G129 (own_fitC (g7_hx x4 (List.mem_of_getElem? (i := 4) rfl))) W129 4 rfl (Nat.le_of_ble_eq_true rfl)
                have N129 := Fr.snoc X129 N125 (own_ge O109 (Nat.le_of_eq z110.symm))
                show G (T129.setTop (mkF m 229 #[.val (.ref u), .val (.int n)] [(.ref b110), (.ref b109), (.ref b109)]))
                refine hG _ _ (fun t_ k_ => XS.dup X129.here hx rfl (hb hby d2_229) rfl rfl k_) ?_
                refine hG _ _ (fun t_ k_ => XS.iconst X129.here hx rfl (hb hby d2_230) k_) ?_
                refine hG _ _ (fun t_ k_ => XS.aloadN X129.here hx rfl (hb hby d2_231) rfl rfl k_) ?_
                refine hG _ _ (fun t_ k_ => XS.iconst X129.here hx rfl (hb hby d2_232) k_) ?_
                show G (T129.setTop (mkF m 233 #[.val (.ref u), .val (.int n)] [(.int 5), (.ref u), (.int 5), (.ref b110), (.ref b110), (.ref b109), (.ref b109)]))
                have f132 := (f128.other W129 (own_ne (Nat.lt_of_lt_of_le g5_V.lt E109.1) (Nat.le_of_eq z110.symm)))
                obtain ⟨c131, Ar131, q131, S131, M131, H131, G131⟩ := id f132
                have hin131 : ¬ ((5 : Int32) < 0 ∨ c131.slots.size ≤ (5 : Int32).toNatClampNeg) := inb_of S131 ⟨by decide, by decide⟩
                refine hG _ _ (X129.caload hx (j := (5 : Int32)) (v := (.int x5)) (by rw [e129]; exact Ar131.1) (State.isArrayOf_alike hZ.alike Ar131.2.1) Ar131.2.2 hin131 (Has.at H131 hin131 rfl) (g := (mkF m 233 #[.val (.ref u), .val (.int n)] [(.int 5), (.ref u), (.int 5), (.ref b110), (.ref b110), (.ref b109), (.ref b109)])) rfl rfl (hb hby d2_233)) ?_
                show G (T129.setTop (mkF m 234 #[.val (.ref u), .val (.int n)] [(.int x5), (.int 5), (.ref b110), (.ref b110), (.ref b109), (.ref b109)]))
                obtain ⟨c133, Ar133, q133, S133, M133, H133, G133⟩ := id V129
                obtain ⟨T133, h133, X133, e133, W133, st133⟩ := stC X129 hx hZ e129 Ar133 (j := (5 : Int32)) (inb_of S133 ⟨by decide, by decide⟩) (g := (mkF m 234 #[.val (.ref u), .val (.int n)] [(.int x5), (.int 5), (.ref b110), (.ref b110), (.ref b109), (.ref b109)])) rfl rfl (hb hby d2_234)
                refine hG _ _ st133 ?_
                have sf134 := (R129.safe V125.lt sf130)
                have R133 := (CHr.wr W133 sf134 R129.1)
                have C133 := C129.trans R133
                have K133 : Keep h0 h133 [] := K129.wr W133 (Or.inr (Nat.le_trans K109.1 (Nat.le_of_eq z110.symm)))
                have O133 : own_Old Z h133 := O129.wr W133 (own_ge O109 (Nat.le_of_eq z110.symm))
                rw [own_narC (g7_hx x5 (List.mem_of_getElem? (i := 5) rfl))] at W133
                have V133 : Arv Z h133 b110 k110 .char (6 : Int32) [(.int x0), (.int x1), (.int x2), (.int x3), (.int x4), (.int x5)] (.int 0) := Arv.set Ar133 q133 S133 M133 H133 G133 (own_fitC (g7_hx x5 (List.mem_of_getElem? (i := 5) rfl))) W133 5 rfl (Nat.le_of_ble_eq_true rfl)
                have N133 := Fr.snoc X133 N129 (own_ge O109 (Nat.le_of_eq z110.symm))
                show G (T133.setTop (mkF m 235 #[.val (.ref u), .val (.int n)] [(.ref b110), (.ref b109), (.ref b109)]))
                have f136 := (((((((A109.ext E110).wr W113).wr W117).wr W121).wr W125).wr W129).wr W133)
                have f137 := ((((((((D109 (Or.inr (ow hw 27 rfl)) (ty := .byte) (by decide)).ext E110).other W113 (Or.inl (own_ne A109.lt (Nat.le_of_eq z110.symm)))).other W117 (Or.inl (own_ne A109.lt (Nat.le_of_eq z110.symm)))).other W121 (Or.inl (own_ne A109.lt (Nat.le_of_eq z110.symm)))).other W125 (Or.inl (own_ne A109.lt (Nat.le_of_eq z110.symm)))).other W129 (Or.inl (own_ne A109.lt (Nat.le_of_eq z110.symm)))).other W133 (Or.inl (own_ne A109.lt (Nat.le_of_eq z110.symm))))
                have f138 := ((((((((D109 (Or.inr (ow hw 26 rfl)) (ty := (.array .byte)) (by decide)).ext E110).other W113 (Or.inl (own_ne A109.lt (Nat.le_of_eq z110.symm)))).other W117 (Or.inl (own_ne A109.lt (Nat.le_of_eq z110.symm)))).other W121 (Or.inl (own_ne A109.lt (Nat.le_of_eq z110.symm)))).other W125 (Or.inl (own_ne A109.lt (Nat.le_of_eq z110.symm)))).other W129 (Or.inl (own_ne A109.lt (Nat.le_of_eq z110.symm)))).other W133 (Or.inl (own_ne A109.lt (Nat.le_of_eq z110.symm))))
                refine own_callI X133 hx hZ hG hown rfl (ow hw 14 rfl) (ow hw 15 rfl) (ow hw 13 rfl) (ow hw 16 rfl) (by decide) 1 (own_gstr1 l Z a0 hw b109 b110 k110 [x0, x1, x2, x3, x4, x5] cpt (.int 0) .null h133 O133 f136 f137 f138 (own_ge O0 (Nat.le_of_eq z109.symm)) V133 (Nat.le_of_ble_eq_true rfl) (Nat.le_of_ble_eq_true rfl) (own_allc (g7_hx x0 (List.mem_of_getElem? (i := 0) rfl)) (own_allc (g7_hx x1 (List.mem_of_getElem? (i := 1) rfl)) (own_allc (g7_hx x2 (List.mem_of_getElem? (i := 2) rfl)) (own_allc (g7_hx x3 (List.mem_of_getElem? (i := 3) rfl)) (own_allc (g7_hx x4 (List.mem_of_getElem? (i := 4) rfl)) (own_allc (g7_hx x5 (List.mem_of_getElem? (i := 5) rfl)) own_alln)))))) g0_S g1_hcpt g2_S g3_S g4_S) (by decide) (by decide) e133 (by rw [hml]; rfl) (lenOf own_pd8 rfl) (argsL := [(.ref b110)]) (rest := [(.ref b109)]) rfl rfl (Nat.le_of_eq rfl) (hb hby d2_235) (by decide) (by decide) ?_
                intro T135 h135 v135 L135 X135 e135 q135
                obtain ⟨t_135, kt_135, cd_135, nb_135, vs_135, rfl, M135, J135, y135_0, r135_0, r135_1, r135_2, r135_3, r135_4⟩ := q135
                have N135 := Fr.app N133 M135
                have sf139 : Safe Z consts_1 _ h133 b109 := (own_safeStr hZ.alike f136 f138)
                have R135 := (CHr.keep J135 (allS sf139 all0) R133.1)
                have C135 := C133.trans R135
                have K135 : Keep h0 h135 [] := K133.trans J135 (allS (Or.inr (Nat.le_trans (Keep.refl h0 []).1 (Nat.le_of_eq z109.symm))) all0)
                have O135 : own_Old Z h135 := O133.keep J135 (allS (own_ge O0 (Nat.le_of_eq z109.symm)) all0)
                show G (T135.setTop (mkF m 238 #[.val (.ref u), .val (.int n)] [(.ref b109)]))
                exact own_retAW hR hret rfl rfl X135 hx (hb hby d2_238) e135 SI0 (Nat.le_trans (Nat.le_trans (Nat.le_trans (Nat.le_trans (Nat.le_trans (Nat.le_trans (Nat.le_trans (Nat.le_trans (Nat.le_trans (Nat.le_refl _) R109.2.1) R110.2.1) R113.2.1) R117.2.1) R121.2.1) R125.2.1) R129.2.1) R133.2.1) R135.2.1) hZ C135 (by decide) (by decide) ⟨b109, t_135, kt_135, cd_135, nb_135, vs_135, rfl, N135, K135, (Nat.le_trans (Keep.refl h0 []).1 (Nat.le_of_eq z109.symm)), r135_0, r135_1, r135_2, r135_3, (by rw [hc188_108]; exact r135_4)⟩
              · skip
                refine hG _ _ (fun t_ k_ => XS.icmpYes X0.here hx rfl (pc0 := 188) (pc' := 239) rfl (hb hby d2_188) rfl (feq hc188_108).2 (by decide) (by decide) k_) ?_
                show G (s₁.setTop (mkF m 239 #[.val (.ref u), .val (.int n)] []))
                obtain ⟨T140, h140, X140, e140, E140, A140, D140, -, st140⟩ := newO X0 hx hZ hown (ow hw 11 rfl) (ow hw 12 rfl) (ow hw 13 rfl) e0 (g := (mkF m 239 #[.val (.ref u), .val (.int n)] [])) rfl (hb hby d2_239) (by decide) (by decide)
                obtain ⟨b140, z140⟩ : ∃ z, z = h0.size := ⟨_, rfl⟩
                rw [← z140] at A140 D140 st140
                refine hG _ _ st140 ?_
                have R140 := (CHr.ext E140 H0)
                have C140 := (CHr.refl H0).trans R140
                have K140 : Keep h0 h140 [] := (Keep.refl h0 []).ext E140
                have O140 : own_Old Z h140 := O0.ext E140
                show G (T140.setTop (mkF m 242 #[.val (.ref u), .val (.int n)] [(.ref b140)]))
                refine hG _ _ (fun t_ k_ => XS.dup X140.here hx rfl (hb hby d2_242) rfl rfl k_) ?_
                refine hG _ _ (fun t_ k_ => XS.bipush X140.here hx rfl (hb hby d2_243) k_) ?_
                show G (T140.setTop (mkF m 245 #[.val (.ref u), .val (.int n)] [(.int 7), (.ref b140), (.ref b140)]))
                obtain ⟨T141, h141, k141, X141, e141, E141, A141, st141⟩ := newP X140 hx hZ (ow hw 1 rfl) e140 (g := (mkF m 245 #[.val (.ref u), .val (.int n)] [(.int 7), (.ref b140), (.ref b140)])) rfl (hb hby d2_245) rfl (by decide) (cap := 7) (by decide) (by decide) (by decide) (by decide)
                obtain ⟨b141, z141⟩ : ∃ z, z = h140.size := ⟨_, rfl⟩
                rw [← z141] at A141 st141
                refine hG _ _ st141 ?_
                have R141 := (CHr.ext E141 R140.1)
                have C141 := C140.trans R141
                have K141 : Keep h0 h141 [] := K140.ext E141
                have O141 : own_Old Z h141 := O140.ext E141
                have V141 : Arv Z h141 b141 k141 .char (7 : Int32) [(.int 0), (.int 0), (.int 0), (.int 0), (.int 0), (.int 0), (.int 0)] (.int 0) := (Arv.new A141 (by decide)).pad (pad_rep [] (.int 0) 7)
                show G (T141.setTop (mkF m 247 #[.val (.ref u), .val (.int n)] [(.ref b141), (.ref b140), (.ref b140)]))
                refine hG _ _ (fun t_ k_ => XS.dup X141.here hx rfl (hb hby d2_247) rfl rfl k_) ?_
                refine hG _ _ (fun t_ k_ => XS.iconst X141.here hx rfl (hb hby d2_248) k_) ?_
                refine hG _ _ (fun t_ k_ => XS.aloadN X141.here hx rfl (hb hby d2_249) rfl rfl k_) ?_
                refine hG _ _ (fun t_ k_ => XS.iconst X141.here hx rfl (hb hby d2_250) k_) ?_
                show G (T141.setTop (mkF m 251 #[.val (.ref u), .val (.int n)] [(.int 0), (.ref u), (.int 0), (.ref b141), (.ref b141), (.ref b140), (.ref b140)]))
                have f143 := ((g5_V.ext E140).ext E141)
                obtain ⟨c142, Ar142, q142, S142, M142, H142, G142⟩ := id f143
                have hin142 : ¬ ((0 : Int32) < 0 ∨ c142.slots.size ≤ (0 : Int32).toNatClampNeg) := inb_of S142 ⟨by decide, by decide⟩
                refine hG _ _ (X141.caload hx (j := (0 : Int32)) (v := (.int x0)) (by rw [e141]; exact Ar142.1) (State.isArrayOf_alike hZ.alike Ar142.2.1) Ar142.2.2 hin142 (Has.at H142 hin142 rfl) (g := (mkF m 251 #[.val (.ref u), .val (.int n)] [(.int 0), (.ref u), (.int 0), (.ref b141), (.ref b141), (.ref b140), (.ref b140)])) rfl rfl (hb hby d2_251)) ?_
                show G (T141.setTop (mkF m 252 #[.val (.ref u), .val (.int n)] [(.int x0), (.int 0), (.ref b141), (.ref b141), (.ref b140), (.ref b140)]))
                obtain ⟨c144, Ar144, q144, S144, M144, H144, G144⟩ := id V141
                obtain ⟨T144, h144, X144, e144, W144, st144⟩ := stC X141 hx hZ e141 Ar144 (j := (0 : Int32)) (inb_of S144 ⟨by decide, by decide⟩) (g := (mkF m 252 #[.val (.ref u), .val (.int n)] [(.int x0), (.int 0), (.ref b141), (.ref b141), (.ref b140), (.ref b140)])) rfl rfl (hb hby d2_252)
                refine hG _ _ st144 ?_
                have sf145 : Safe Z consts_1 _ h141 b141 := (own_safeArv hZ.alike V141 (by decide))
                have R144 := (CHr.wr W144 sf145 R141.1)
                have C144 := C141.trans R144
                have K144 : Keep h0 h144 [] := K141.wr W144 (Or.inr (Nat.le_trans K140.1 (Nat.le_of_eq z141.symm)))
                have O144 : own_Old Z h144 := O141.wr W144 (own_ge O140 (Nat.le_of_eq z141.symm))
                rw [own_narC (g7_hx x0 (List.mem_of_getElem? (i := 0) rfl))] at W144
                have V144 : Arv Z h144 b141 k141 .char (7 : Int32) [(.int x0), (.int 0), (.int 0), (.int 0), (.int 0), (.int 0), (.int 0)] (.int 0) := Arv.set Ar144 q144 S144 M144 H144 G144 (own_fitC (g7_hx x0 (List.mem_of_getElem? (i := 0) rfl))) W144 0 rfl (Nat.le_of_ble_eq_true rfl)
                have N144 := Fr.snoc X144 N0 (own_ge O140 (Nat.le_of_eq z141.symm))
                show G (T144.setTop (mkF m 253 #[.val (.ref u), .val (.int n)] [(.ref b141), (.ref b140), (.ref b140)]))
                refine hG _ _ (fun t_ k_ => XS.dup X144.here hx rfl (hb hby d2_253) rfl rfl k_) ?_
                refine hG _ _ (fun t_ k_ => XS.iconst X144.here hx rfl (hb hby d2_254) k_) ?_
                refine hG _ _ (fun t_ k_ => XS.aloadN X144.here hx rfl (hb hby d2_255) rfl rfl k_) ?_
                refine hG _ _ (fun t_ k_ => XS.iconst X144.here hx rfl (hb hby d2_256) k_) ?_
                show G (T144.setTop (mkF m 257 #[.val (.ref u), .val (.int n)] [(.int 1), (.ref u), (.int 1), (.ref b141), (.ref b141), (.ref b140), (.ref b140)]))
                have f147 := (f143.other W144 (own_ne (Nat.lt_of_lt_of_le g5_V.lt E140.1) (Nat.le_of_eq z141.symm)))
                obtain ⟨c146, Ar146, q146, S146, M146, H146, G146⟩ := id f147
                have hin146 : ¬ ((1 : Int32) < 0 ∨ c146.slots.size ≤ (1 : Int32).toNatClampNeg) := inb_of S146 ⟨by decide, by decide⟩
                refine hG _ _ (X144.caload hx (j := (1 : Int32)) (v := (.int x1)) (by rw [e144]; exact Ar146.1) (State.isArrayOf_alike hZ.alike Ar146.2.1) Ar146.2.2 hin146 (Has.at H146 hin146 rfl) (g := (mkF m 257 #[.val (.ref u), .val (.int n)] [(.int 1), (.ref u), (.int 1), (.ref b141), (.ref b141), (.ref b140), (.ref b140)])) rfl rfl (hb hby d2_257)) ?_
                show G (T144.setTop (mkF m 258 #[.val (.ref u), .val (.int n)] [(.int x1), (.int 1), (.ref b141), (.ref b141), (.ref b140), (.ref b140)]))
                obtain ⟨c148, Ar148, q148, S148, M148, H148, G148⟩ := id V144
                obtain ⟨T148, h148, X148, e148, W148, st148⟩ := stC X144 hx hZ e144 Ar148 (j := (1 : Int32)) (inb_of S148 ⟨by decide, by decide⟩) (g := (mkF m 258 #[.val (.ref u), .val (.int n)] [(.int x1), (.int 1), (.ref b141), (.ref b141), (.ref b140), (.ref b140)])) rfl rfl (hb hby d2_258)
                refine hG _ _ st148 ?_
                have sf149 := (R144.safe V141.lt sf145)
                have R148 := (CHr.wr W148 sf149 R144.1)
                have C148 := C144.trans R148
                have K148 : Keep h0 h148 [] := K144.wr W148 (Or.inr (Nat.le_trans K140.1 (Nat.le_of_eq z141.symm)))
                have O148 : own_Old Z h148 := O144.wr W148 (own_ge O140 (Nat.le_of_eq z141.symm))
                rw [own_narC (g7_hx x1 (List.mem_of_getElem? (i := 1) rfl))] at W148
                have V148 : Arv Z h148 b141 k141 .char (7 : Int32) [(.int x0), (.int x1), (.int 0), (.int 0), (.int 0), (.int 0), (.int 0)] (.int 0) := Arv.set Ar148 q148 S148 M148 H148 G148 (own_fitC (g7_hx x1 (List.mem_of_getElem? (i := 1) rfl))) W148 1 rfl (Nat.le_of_ble_eq_true rfl)
                have N148 := Fr.snoc X148 N144 (own_ge O140 (Nat.le_of_eq z141.symm))
                show G (T148.setTop (mkF m 259 #[.val (.ref u), .val (.int n)] [(.ref b141), (.ref b140), (.ref b140)]))
                refine hG _ _ (fun t_ k_ => XS.dup X148.here hx rfl (hb hby d2_259) rfl rfl k_) ?_
                refine hG _ _ (fun t_ k_ => XS.iconst X148.here hx rfl (hb hby d2_260) k_) ?_
                refine hG _ _ (fun t_ k_ => XS.aloadN X148.here hx rfl (hb hby d2_261) rfl rfl k_) ?_
                refine hG _ _ (fun t_ k_ => XS.iconst X148.here hx rfl (hb hby d2_262) k_) ?_
                show G (T148.setTop (mkF m 263 #[.val (.ref u), .val (.int n)] [(.int 2), (.ref u), (.int 2), (.ref b141), (.ref b141), (.ref b140), (.ref b140)]))
                have f151 := (f147.other W148 (own_ne (Nat.lt_of_lt_of_le g5_V.lt E140.1) (Nat.le_of_eq z141.symm)))
                obtain ⟨c150, Ar150, q150, S150, M150, H150, G150⟩ := id f151
                have hin150 : ¬ ((2 : Int32) < 0 ∨ c150.slots.size ≤ (2 : Int32).toNatClampNeg) := inb_of S150 ⟨by decide, by decide⟩
                refine hG _ _ (X148.caload hx (j := (2 : Int32)) (v := (.int x2)) (by rw [e148]; exact Ar150.1) (State.isArrayOf_alike hZ.alike Ar150.2.1) Ar150.2.2 hin150 (Has.at H150 hin150 rfl) (g := (mkF m 263 #[.val (.ref u), .val (.int n)] [(.int 2), (.ref u), (.int 2), (.ref b141), (.ref b141), (.ref b140), (.ref b140)])) rfl rfl (hb hby d2_263)) ?_
                show G (T148.setTop (mkF m 264 #[.val (.ref u), .val (.int n)] [(.int x2), (.int 2), (.ref b141), (.ref b141), (.ref b140), (.ref b140)]))
                obtain ⟨c152, Ar152, q152, S152, M152, H152, G152⟩ := id V148
                obtain ⟨T152, h152, X152, e152, W152, st152⟩ := stC X148 hx hZ e148 Ar152 (j := (2 : Int32)) (inb_of S152 ⟨by decide, by decide⟩) (g := (mkF m 264 #[.val (.ref u), .val (.int n)] [(.int x2), (.int 2), (.ref b141), (.ref b141), (.ref b140), (.ref b140)])) rfl rfl (hb hby d2_264)
                refine hG _ _ st152 ?_
                have sf153 := (R148.safe V144.lt sf149)
                have R152 := (CHr.wr W152 sf153 R148.1)
                have C152 := C148.trans R152
                have K152 : Keep h0 h152 [] := K148.wr W152 (Or.inr (Nat.le_trans K140.1 (Nat.le_of_eq z141.symm)))
                have O152 : own_Old Z h152 := O148.wr W152 (own_ge O140 (Nat.le_of_eq z141.symm))
                rw [own_narC (g7_hx x2 (List.mem_of_getElem? (i := 2) rfl))] at W152
                have V152 : Arv Z h152 b141 k141 .char (7 : Int32) [(.int x0), (.int x1), (.int x2), (.int 0), (.int 0), (.int 0), (.int 0)] (.int 0) := Arv.set Ar152 q152 S152 M152 H152 G152 (own_fitC (g7_hx x2 (List.mem_of_getElem? (i := 2) rfl))) W152 2 rfl (Nat.le_of_ble_eq_true rfl)
                have N152 := Fr.snoc X152 N148 (own_ge O140 (Nat.le_of_eq z141.symm))
                show G (T152.setTop (mkF m 265 #[.val (.ref u), .val (.int n)] [(.ref b141), (.ref b140), (.ref b140)]))
                refine hG _ _ (fun t_ k_ => XS.dup X152.here hx rfl (hb hby d2_265) rfl rfl k_) ?_
                refine hG _ _ (fun t_ k_ => XS.iconst X152.here hx rfl (hb hby d2_266) k_) ?_
                refine hG _ _ (fun t_ k_ => XS.aloadN X152.here hx rfl (hb hby d2_267) rfl rfl k_) ?_
                refine hG _ _ (fun t_ k_ => XS.iconst X152.here hx rfl (hb hby d2_268) k_) ?_
                show G (T152.setTop (mkF m 269 #[.val (.ref u), .val (.int n)] [(.int 3), (.ref u), (.int 3), (.ref b141), (.ref b141), (.ref b140), (.ref b140)]))
                have f155 := (f151.other W152 (own_ne (Nat.lt_of_lt_of_le g5_V.lt E140.1) (Nat.le_of_eq z141.symm)))
                obtain ⟨c154, Ar154, q154, S154, M154, H154, G154⟩ := id f155
                have hin154 : ¬ ((3 : Int32) < 0 ∨ c154.slots.size ≤ (3 : Int32).toNatClampNeg) := inb_of S154 ⟨by decide, by decide⟩
                refine hG _ _ (X152.caload hx (j := (3 : Int32)) (v := (.int x3)) (by rw [e152]; exact Ar154.1) (State.isArrayOf_alike hZ.alike Ar154.2.1) Ar154.2.2 hin154 (Has.at H154 hin154 rfl) (g := (mkF m 269 #[.val (.ref u), .val (.int n)] [(.int 3), (.ref u), (.int 3), (.ref b141), (.ref b141), (.ref b140), (.ref b140)])) rfl rfl (hb hby d2_269)) ?_
                show G (T152.setTop (mkF m 270 #[.val (.ref u), .val (.int n)] [(.int x3), (.int 3), (.ref b141), (.ref b141), (.ref b140), (.ref b140)]))
                obtain ⟨c156, Ar156, q156, S156, M156, H156, G156⟩ := id V152
                obtain ⟨T156, h156, X156, e156, W156, st156⟩ := stC X152 hx hZ e152 Ar156 (j := (3 : Int32)) (inb_of S156 ⟨by decide, by decide⟩) (g := (mkF m 270 #[.val (.ref u), .val (.int n)] [(.int x3), (.int 3), (.ref b141), (.ref b141), (.ref b140), (.ref b140)])) rfl rfl (hb hby d2_270)
                refine hG _ _ st156 ?_
                have sf157 := (R152.safe V148.lt sf153)
                have R156 := (CHr.wr W156 sf157 R152.1)
                have C156 := C152.trans R156
                have K156 : Keep h0 h156 [] := K152.wr W156 (Or.inr (Nat.le_trans K140.1 (Nat.le_of_eq z141.symm)))
                have O156 : own_Old Z h156 := O152.wr W156 (own_ge O140 (Nat.le_of_eq z141.symm))
                rw [own_narC (g7_hx x3 (List.mem_of_getElem? (i := 3) rfl))] at W156
                have V156 : Arv Z h156 b141 k141 .char (7 : Int32) [(.int x0), (.int x1), (.int x2), (.int x3), (.int 0), (.int 0), (.int 0)] (.int 0) := Arv.set Ar156 q156 S156 M156 H156 G156 (own_fitC (g7_hx x3 (List.mem_of_getElem? (i := 3) rfl))) W156 3 rfl (Nat.le_of_ble_eq_true rfl)
                have N156 := Fr.snoc X156 N152 (own_ge O140 (Nat.le_of_eq z141.symm))
                show G (T156.setTop (mkF m 271 #[.val (.ref u), .val (.int n)] [(.ref b141), (.ref b140), (.ref b140)]))
                refine hG _ _ (fun t_ k_ => XS.dup X156.here hx rfl (hb hby d2_271) rfl rfl k_) ?_
                refine hG _ _ (fun t_ k_ => XS.iconst X156.here hx rfl (hb hby d2_272) k_) ?_
                refine hG _ _ (fun t_ k_ => XS.aloadN X156.here hx rfl (hb hby d2_273) rfl rfl k_) ?_
                refine hG _ _ (fun t_ k_ => XS.iconst X156.here hx rfl (hb hby d2_274) k_) ?_
                show G (T156.setTop (mkF m 275 #[.val (.ref u), .val (.int n)] [(.int 4), (.ref u), (.int 4), (.ref b141), (.ref b141), (.ref b140), (.ref b140)]))
                have f159 := (f155.other W156 (own_ne (Nat.lt_of_lt_of_le g5_V.lt E140.1) (Nat.le_of_eq z141.symm)))
                obtain ⟨c158, Ar158, q158, S158, M158, H158, G158⟩ := id f159
                have hin158 : ¬ ((4 : Int32) < 0 ∨ c158.slots.size ≤ (4 : Int32).toNatClampNeg) := inb_of S158 ⟨by decide, by decide⟩
                refine hG _ _ (X156.caload hx (j := (4 : Int32)) (v := (.int x4)) (by rw [e156]; exact Ar158.1) (State.isArrayOf_alike hZ.alike Ar158.2.1) Ar158.2.2 hin158 (Has.at H158 hin158 rfl) (g := (mkF m 275 #[.val (.ref u), .val (.int n)] [(.int 4), (.ref u), (.int 4), (.ref b141), (.ref b141), (.ref b140), (.ref b140)])) rfl rfl (hb hby d2_275)) ?_
                show G (T156.setTop (mkF m 276 #[.val (.ref u), .val (.int n)] [(.int x4), (.int 4), (.ref b141), (.ref b141), (.ref b140), (.ref b140)]))
                obtain ⟨c160, Ar160, q160, S160, M160, H160, G160⟩ := id V156
                obtain ⟨T160, h160, X160, e160, W160, st160⟩ := stC X156 hx hZ e156 Ar160 (j := (4 : Int32)) (inb_of S160 ⟨by decide, by decide⟩) (g := (mkF m 276 #[.val (.ref u), .val (.int n)] [(.int x4), (.int 4), (.ref b141), (.ref b141), (.ref b140), (.ref b140)])) rfl rfl (hb hby d2_276)
                refine hG _ _ st160 ?_
                have sf161 := (R156.safe V152.lt sf157)
                have R160 := (CHr.wr W160 sf161 R156.1)
                have C160 := C156.trans R160
                have K160 : Keep h0 h160 [] := K156.wr W160 (Or.inr (Nat.le_trans K140.1 (Nat.le_of_eq z141.symm)))
                have O160 : own_Old Z h160 := O156.wr W160 (own_ge O140 (Nat.le_of_eq z141.symm))
                rw [own_narC (g7_hx x4 (List.mem_of_getElem? (i := 4) rfl))] at W160
                have V160 : Arv Z h160 b141 k141 .char (7 : Int32) [(.int x0), (.int x1), (.int x2), (.int x3), (.int x4), (.int 0), (.int 0)] (.int 0) := Arv.set Ar160 q160 S160 M160 H160 G160 (own_fitC (g7_hx x4 (List.mem_of_getElem? (i := 4) rfl))) W160 4 rfl (Nat.le_of_ble_eq_true rfl)
                have N160 := Fr.snoc X160 N156 (own_ge O140 (Nat.le_of_eq z141.symm))
                show G (T160.setTop (mkF m 277 #[.val (.ref u), .val (.int n)] [(.ref b141), (.ref b140), (.ref b140)]))
                refine hG _ _ (fun t_ k_ => XS.dup X160.here hx rfl (hb hby d2_277) rfl rfl k_) ?_
                refine hG _ _ (fun t_ k_ => XS.iconst X160.here hx rfl (hb hby d2_278) k_) ?_
                refine hG _ _ (fun t_ k_ => XS.aloadN X160.here hx rfl (hb hby d2_279) rfl rfl k_) ?_
                refine hG _ _ (fun t_ k_ => XS.iconst X160.here hx rfl (hb hby d2_280) k_) ?_
                show G (T160.setTop (mkF m 281 #[.val (.ref u), .val (.int n)] [(.int 5), (.ref u), (.int 5), (.ref b141), (.ref b141), (.ref b140), (.ref b140)]))
                have f163 := (f159.other W160 (own_ne (Nat.lt_of_lt_of_le g5_V.lt E140.1) (Nat.le_of_eq z141.symm)))
                obtain ⟨c162, Ar162, q162, S162, M162, H162, G162⟩ := id f163
                have hin162 : ¬ ((5 : Int32) < 0 ∨ c162.slots.size ≤ (5 : Int32).toNatClampNeg) := inb_of S162 ⟨by decide, by decide⟩
                refine hG _ _ (X160.caload hx (j := (5 : Int32)) (v := (.int x5)) (by rw [e160]; exact Ar162.1) (State.isArrayOf_alike hZ.alike Ar162.2.1) Ar162.2.2 hin162 (Has.at H162 hin162 rfl) (g := (mkF m 281 #[.val (.ref u), .val (.int n)] [(.int 5), (.ref u), (.int 5), (.ref b141), (.ref b141), (.ref b140), (.ref b140)])) rfl rfl (hb hby d2_281)) ?_
                show G (T160.setTop (mkF m 282 #[.val (.ref u), .val (.int n)] [(.int x5), (.int 5), (.ref b141), (.ref b141), (.ref b140), (.ref b140)]))
                obtain ⟨c164, Ar164, q164, S164, M164, H164, G164⟩ := id V160
                obtain ⟨T164, h164, X164, e164, W164, st164⟩ := stC X160 hx hZ e160 Ar164 (j := (5 : Int32)) (inb_of S164 ⟨by decide, by decide⟩) (g := (mkF m 282 #[.val (.ref u), .val (.int n)] [(.int x5), (.int 5), (.ref b141), (.ref b141), (.ref b140), (.ref b140)])) rfl rfl (hb hby d2_282)
                refine hG _ _ st164 ?_
                have sf165 := (R160.safe V156.lt sf161)
                have R164 := (CHr.wr W164 sf165 R160.1)
                have C164 := C160.trans R164
                have K164 : Keep h0 h164 [] := K160.wr W164 (Or.inr (Nat.le_trans K140.1 (Nat.le_of_eq z141.symm)))
                have O164 : own_Old Z h164 := O160.wr W164 (own_ge O140 (Nat.le_of_eq z141.symm))
                rw [own_narC (g7_hx x5 (List.mem_of_getElem? (i := 5) rfl))] at W164
                have V164 : Arv Z h164 b141 k141 .char (7 : Int32) [(.int x0), (.int x1), (.int x2), (.int x3), (.int x4), (.int x5), (.int 0)] (.int 0) := Arv.set Ar164 q164 S164 M164 H164 G164 (own_fitC (g7_hx x5 (List.mem_of_getElem? (i := 5) rfl))) W164 5 rfl (Nat.le_of_ble_eq_true rfl)
                have N164 := Fr.snoc X164 N160 (own_ge O140 (Nat.le_of_eq z141.symm))
                show G (T164.setTop (mkF m 283 #[.val (.ref u), .val (.int n)] [(.ref b141), (.ref b140), (.ref b140)]))
                refine hG _ _ (fun t_ k_ => XS.dup X164.here hx rfl (hb hby d2_283) rfl rfl k_) ?_
                refine hG _ _ (fun t_ k_ => XS.bipush X164.here hx rfl (hb hby d2_284) k_) ?_
                refine hG _ _ (fun t_ k_ => XS.aloadN X164.here hx rfl (hb hby d2_286) rfl rfl k_) ?_
                refine hG _ _ (fun t_ k_ => XS.bipush X164.here hx rfl (hb hby d2_287) k_) ?_
                show G (T164.setTop (mkF m 289 #[.val (.ref u), .val (.int n)] [(.int 6), (.ref u), (.int 6), (.ref b141), (.ref b141), (.ref b140), (.ref b140)]))
                have f167 := (f163.other W164 (own_ne (Nat.lt_of_lt_of_le g5_V.lt E140.1) (Nat.le_of_eq z141.symm)))
                obtain ⟨c166, Ar166, q166, S166, M166, H166, G166⟩ := id f167
                have hin166 : ¬ ((6 : Int32) < 0 ∨ c166.slots.size ≤ (6 : Int32).toNatClampNeg) := inb_of S166 ⟨by decide, by decide⟩
                refine hG _ _ (X164.caload hx (j := (6 : Int32)) (v := (.int x6)) (by rw [e164]; exact Ar166.1) (State.isArrayOf_alike hZ.alike Ar166.2.1) Ar166.2.2 hin166 (Has.at H166 hin166 rfl) (g := (mkF m 289 #[.val (.ref u), .val (.int n)] [(.int 6), (.ref u), (.int 6), (.ref b141), (.ref b141), (.ref b140), (.ref b140)])) rfl rfl (hb hby d2_289)) ?_
                show G (T164.setTop (mkF m 290 #[.val (.ref u), .val (.int n)] [(.int x6), (.int 6), (.ref b141), (.ref b141), (.ref b140), (.ref b140)]))
                obtain ⟨c168, Ar168, q168, S168, M168, H168, G168⟩ := id V164
                obtain ⟨T168, h168, X168, e168, W168, st168⟩ := stC X164 hx hZ e164 Ar168 (j := (6 : Int32)) (inb_of S168 ⟨by decide, by decide⟩) (g := (mkF m 290 #[.val (.ref u), .val (.int n)] [(.int x6), (.int 6), (.ref b141), (.ref b141), (.ref b140), (.ref b140)])) rfl rfl (hb hby d2_290)
                refine hG _ _ st168 ?_
                have sf169 := (R164.safe V160.lt sf165)
                have R168 := (CHr.wr W168 sf169 R164.1)
                have C168 := C164.trans R168
                have K168 : Keep h0 h168 [] := K164.wr W168 (Or.inr (Nat.le_trans K140.1 (Nat.le_of_eq z141.symm)))
                have O168 : own_Old Z h168 := O164.wr W168 (own_ge O140 (Nat.le_of_eq z141.symm))
                rw [own_narC (g7_hx x6 (List.mem_of_getElem? (i := 6) rfl))] at W168
                have V168 : Arv Z h168 b141 k141 .char (7 : Int32) [(.int x0), (.int x1), (.int x2), (.int x3), (.int x4), (.int x5), (.int x6)] (.int 0) := Arv.set Ar168 q168 S168 M168 H168 G168 (own_fitC (g7_hx x6 (List.mem_of_getElem? (i := 6) rfl))) W168 6 rfl (Nat.le_of_ble_eq_true rfl)
                have N168 := Fr.snoc X168 N164 (own_ge O140 (Nat.le_of_eq z141.symm))
                show G (T168.setTop (mkF m 291 #[.val (.ref u), .val (.int n)] [(.ref b141), (.ref b140), (.ref b140)]))
                have f171 := ((((((((A140.ext E141).wr W144).wr W148).wr W152).wr W156).wr W160).wr W164).wr W168)
                have f172 := (((((((((D140 (Or.inr (ow hw 27 rfl)) (ty := .byte) (by decide)).ext E141).other W144 (Or.inl (own_ne A140.lt (Nat.le_of_eq z141.symm)))).other W148 (Or.inl (own_ne A140.lt (Nat.le_of_eq z141.symm)))).other W152 (Or.inl (own_ne A140.lt (Nat.le_of_eq z141.symm)))).other W156 (Or.inl (own_ne A140.lt (Nat.le_of_eq z141.symm)))).other W160 (Or.inl (own_ne A140.lt (Nat.le_of_eq z141.symm)))).other W164 (Or.inl (own_ne A140.lt (Nat.le_of_eq z141.symm)))).other W168 (Or.inl (own_ne A140.lt (Nat.le_of_eq z141.symm))))
                have f173 := (((((((((D140 (Or.inr (ow hw 26 rfl)) (ty := (.array .byte)) (by decide)).ext E141).other W144 (Or.inl (own_ne A140.lt (Nat.le_of_eq z141.symm)))).other W148 (Or.inl (own_ne A140.lt (Nat.le_of_eq z141.symm)))).other W152 (Or.inl (own_ne A140.lt (Nat.le_of_eq z141.symm)))).other W156 (Or.inl (own_ne A140.lt (Nat.le_of_eq z141.symm)))).other W160 (Or.inl (own_ne A140.lt (Nat.le_of_eq z141.symm)))).other W164 (Or.inl (own_ne A140.lt (Nat.le_of_eq z141.symm)))).other W168 (Or.inl (own_ne A140.lt (Nat.le_of_eq z141.symm))))
                refine own_callI X168 hx hZ hG hown rfl (ow hw 14 rfl) (ow hw 15 rfl) (ow hw 13 rfl) (ow hw 16 rfl) (by decide) 1 (own_gstr1 l Z a0 hw b140 b141 k141 [x0, x1, x2, x3, x4, x5, x6] cpt (.int 0) .null h168 O168 f171 f172 f173 (own_ge O0 (Nat.le_of_eq z140.symm)) V168 (Nat.le_of_ble_eq_true rfl) (Nat.le_of_ble_eq_true rfl) (own_allc (g7_hx x0 (List.mem_of_getElem? (i := 0) rfl)) (own_allc (g7_hx x1 (List.mem_of_getElem? (i := 1) rfl)) (own_allc (g7_hx x2 (List.mem_of_getElem? (i := 2) rfl)) (own_allc (g7_hx x3 (List.mem_of_getElem? (i := 3) rfl)) (own_allc (g7_hx x4 (List.mem_of_getElem? (i := 4) rfl)) (own_allc (g7_hx x5 (List.mem_of_getElem? (i := 5) rfl)) (own_allc (g7_hx x6 (List.mem_of_getElem? (i := 6) rfl)) own_alln))))))) g0_S g1_hcpt g2_S g3_S g4_S) (by decide) (by decide) e168 (by rw [hml]; rfl) (lenOf own_pd8 rfl) (argsL := [(.ref b141)]) (rest := [(.ref b140)]) rfl rfl (Nat.le_of_eq rfl) (hb hby d2_291) (by decide) (by decide) ?_
                intro T170 h170 v170 L170 X170 e170 q170
                obtain ⟨t_170, kt_170, cd_170, nb_170, vs_170, rfl, M170, J170, y170_0, r170_0, r170_1, r170_2, r170_3, r170_4⟩ := q170
                have N170 := Fr.app N168 M170
                have sf174 : Safe Z consts_1 _ h168 b140 := (own_safeStr hZ.alike f171 f173)
                have R170 := (CHr.keep J170 (allS sf174 all0) R168.1)
                have C170 := C168.trans R170
                have K170 : Keep h0 h170 [] := K168.trans J170 (allS (Or.inr (Nat.le_trans (Keep.refl h0 []).1 (Nat.le_of_eq z140.symm))) all0)
                have O170 : own_Old Z h170 := O168.keep J170 (allS (own_ge O0 (Nat.le_of_eq z140.symm)) all0)
                show G (T170.setTop (mkF m 294 #[.val (.ref u), .val (.int n)] [(.ref b140)]))
                exact own_retAW hR hret rfl rfl X170 hx (hb hby d2_294) e170 SI0 (Nat.le_trans (Nat.le_trans (Nat.le_trans (Nat.le_trans (Nat.le_trans (Nat.le_trans (Nat.le_trans (Nat.le_trans (Nat.le_trans (Nat.le_trans (Nat.le_refl _) R140.2.1) R141.2.1) R144.2.1) R148.2.1) R152.2.1) R156.2.1) R160.2.1) R164.2.1) R168.2.1) R170.2.1) hZ C170 (by decide) (by decide) ⟨b140, t_170, kt_170, cd_170, nb_170, vs_170, rfl, N170, K170, (Nat.le_trans (Keep.refl h0 []).1 (Nat.le_of_eq z140.symm)), r170_0, r170_1, r170_2, r170_3, (by rw [(own_is7 g6_hn hc1_1 hc17_8 hc39_20 hc67_36 hc101_56 hc141_80 hc188_108)]; exact r170_4)⟩
theorem own_pd21 : parseMethodDescriptor "(IIJJJ)Z" = some ⟨[.int, .int, .long, .long, .long], some .boolean⟩ := by decide +kernel
theorem own_takecap {xs : List Int32} {n : Int32} (hn : 0 ≤ n.toInt ∧ n.toInt ≤ 7) : (xs.take n.toNatClampNeg).length ≤ 7 := by
  have hc : n.toNatClampNeg = n.toInt.toNat := rfl
  rw [List.length_take, hc]; omega
set_option maxRecDepth 65536 in
set_option maxHeartbeats 40000000 in
theorem own_law (l : Launch) (Z : State) (a0 : Array Value) (hw : ∀ d ∈ tables_1, d.before a0 Z = true) (ws : List Jvm.Cond) (hEL : EW Z a0 consts_1) (i0 : Int32) (i1 : Int32) (i2 : Int64) (i3 : Int64) (i4 : Int64) (cpt : Int32) (fmt : Value) (h0 : Heap) (O0 : own_Old Z h0) (g0_S : Sta Z Z.heap "java/lang/String" "COMPACT_STRINGS" "Z" (.int cpt)) (g1_hcpt : ¬ (cpt = (0 : Int32))) (g2_S : Sta Z Z.heap "java/lang/StringUTF16" "$assertionsDisabled" "Z" (.int 1)) (g3_S : Sta Z Z.heap "java/lang/StringUTF16" "HI_BYTE_SHIFT" "I" (.int 0)) (g4_S : Sta Z Z.heap "java/lang/StringUTF16" "LO_BYTE_SHIFT" "I" (.int 8)) (g5_hfmt : fmt.isRef = true) (g6_S : Sta Z Z.heap "jdk/internal/util/Preconditions" "SIOOBE_FORMATTER" "Ljava/util/function/BiFunction;" fmt) :
    own_ConW l Z consts_1 x code maxLocals ret ws room_1 #[(.int i0), (.int i1), (.long i2), (.long i3), (.long i4)] h0 (fun rv rh rL => rv = some (.int 1) ∧ own_Fr Z rL ∧ Keep h0 rh []) := by
  refine own_introW hEL (plainFor_of_name (by first | (simp [plainName, overriddenIn]; done) | decide +kernel)) ?_
  intro p e s m below meth c s₁ G hx hby hml hown hnm hret hZ X0 e0 H0 SI0 hG hR
  have N0 := Fr.nil Z.heap.size
  refine own_entry (Ls := #[.val (.int i0), .val (.int i1), .val (.long i2), .second, .val (.long i3), .second, .val (.long i4), .second, .unset, .unset, .unset, .unset, .unset]) (by first | (simp [entryFrame, mkF, argsToLocals, Value.category, maxLocals]; done) | rfl) ?_
  show G (s₁.setTop (mkF m 0 #[.val (.int i0), .val (.int i1), .val (.long i2), .second, .val (.long i3), .second, .val (.long i4), .second, .unset, .unset, .unset, .unset, .unset] []))
  refine hG _ _ (fun t_ k_ => XS.iloadN X0.here hx rfl (hb hby at_0) rfl k_) ?_
  refine hG _ _ (fun t_ k_ => XS.bipush X0.here hx rfl (hb hby at_1) k_) ?_
  refine hG _ _ (fun t_ k_ => XS.iand X0.here hx rfl (hb hby at_3) rfl k_) ?_
  refine hG _ _ (fun t_ k_ => XS.istore X0.here hx rfl (hb hby at_4) rfl (l' := #[.val (.int i0), .val (.int i1), .val (.long i2), .second, .val (.long i3), .second, .val (.long i4), .second, .val (.int (i0 &&& (7 : Int32))), .unset, .unset, .unset, .unset]) rfl k_) ?_
  show G (s₁.setTop (mkF m 6 #[.val (.int i0), .val (.int i1), .val (.long i2), .second, .val (.long i3), .second, .val (.long i4), .second, .val (.int (i0 &&& (7 : Int32))), .unset, .unset, .unset, .unset] []))
  generalize hn_n1 : (i0 &&& (7 : Int32)) = n1
  have hn7 := own_n7 hn_n1
  show G (s₁.setTop (mkF m 6 #[.val (.int i0), .val (.int i1), .val (.long i2), .second, .val (.long i3), .second, .val (.long i4), .second, .val (.int n1), .unset, .unset, .unset, .unset] []))
  refine hG _ _ (fun t_ k_ => XS.iloadN X0.here hx rfl (hb hby at_6) rfl k_) ?_
  refine hG _ _ (fun t_ k_ => XS.iconst X0.here hx rfl (hb hby at_7) k_) ?_
  refine hG _ _ (fun t_ k_ => XS.iushr X0.here hx rfl (hb hby at_8) rfl k_) ?_
  refine hG _ _ (fun t_ k_ => XS.iconst X0.here hx rfl (hb hby at_9) k_) ?_
  refine hG _ _ (fun t_ k_ => XS.iand X0.here hx rfl (hb hby at_10) rfl k_) ?_
  show G (s₁.setTop (mkF m 11 #[.val (.int i0), .val (.int i1), .val (.long i2), .second, .val (.long i3), .second, .val (.long i4), .second, .val (.int n1), .unset, .unset, .unset, .unset] [(.int (((i0.toUInt32 >>> ((3 : Int32) &&& 31).toUInt32).toInt32) &&& (1 : Int32)))]))
  have jk : ∀ (k : Int32), G (s₁.setTop (mkF m 24 #[.val (.int i0), .val (.int i1), .val (.long i2), .second, .val (.long i3), .second, .val (.long i4), .second, .val (.int n1), .unset, .unset, .unset, .unset] [(.int k)])) := by
    intro k
    refine hG _ _ (fun t_ k_ => XS.istore X0.here hx rfl (hb hby at_24) rfl (l' := #[.val (.int i0), .val (.int i1), .val (.long i2), .second, .val (.long i3), .second, .val (.long i4), .second, .val (.int n1), .val (.int k), .unset, .unset, .unset]) rfl k_) ?_
    refine hG _ _ (fun t_ k_ => XS.iload X0.here hx rfl (hb hby at_26) rfl k_) ?_
    show G (s₁.setTop (mkF m 28 #[.val (.int i0), .val (.int i1), .val (.long i2), .second, .val (.long i3), .second, .val (.long i4), .second, .val (.int n1), .val (.int k), .unset, .unset, .unset] [(.int k)]))
    refine hG _ _ (X0.ldcInt hx hown (mvT hZ (ow hw 0 rfl)) (g := (mkF m 28 #[.val (.int i0), .val (.int i1), .val (.long i2), .second, .val (.long i3), .second, .val (.long i4), .second, .val (.int n1), .val (.int k), .unset, .unset, .unset] [(.int k)])) rfl (hb hby at_28)) ?_
    show G (s₁.setTop (mkF m 30 #[.val (.int i0), .val (.int i1), .val (.long i2), .second, .val (.long i3), .second, .val (.long i4), .second, .val (.int n1), .val (.int k), .unset, .unset, .unset] [(.int 2147483643), (.int k)]))
    by_cases hc30_2 : (2147483643 : Int32) < k
    · skip
      refine hG _ _ (fun t_ k_ => XS.icmpNo X0.here hx rfl (hb hby at_30) rfl (tlt hc30_2).2.2.2 k_) ?_
      show G (s₁.setTop (mkF m 33 #[.val (.int i0), .val (.int i1), .val (.long i2), .second, .val (.long i3), .second, .val (.long i4), .second, .val (.int n1), .val (.int k), .unset, .unset, .unset] []))
      refine hG _ _ (fun t_ k_ => XS.iconst X0.here hx rfl (hb hby at_33) k_) ?_
      show G (s₁.setTop (mkF m 34 #[.val (.int i0), .val (.int i1), .val (.long i2), .second, .val (.long i3), .second, .val (.long i4), .second, .val (.int n1), .val (.int k), .unset, .unset, .unset] [(.int 1)]))
      exact own_retNW hR hret (by simp) X0 hx (hb hby at_34) e0 SI0 (Nat.le_refl _) hZ (CHr.refl H0) (by decide) (by decide) ⟨rfl, N0, (Keep.refl h0 [])⟩
    · skip
      refine hG _ _ (fun t_ k_ => XS.icmpYes X0.here hx rfl (pc0 := 30) (pc' := 35) rfl (hb hby at_30) rfl (flt hc30_2).2.2.2 (by decide) (by decide) k_) ?_
      show G (s₁.setTop (mkF m 35 #[.val (.int i0), .val (.int i1), .val (.long i2), .second, .val (.long i3), .second, .val (.long i4), .second, .val (.int n1), .val (.int k), .unset, .unset, .unset] []))
      refine hG _ _ (fun t_ k_ => XS.bipush X0.here hx rfl (hb hby at_35) k_) ?_
      show G (s₁.setTop (mkF m 37 #[.val (.int i0), .val (.int i1), .val (.long i2), .second, .val (.long i3), .second, .val (.long i4), .second, .val (.int n1), .val (.int k), .unset, .unset, .unset] [(.int 9)]))
      obtain ⟨T3, h3, k3, X3, e3, E3, A3, st3⟩ := newP X0 hx hZ (ow hw 1 rfl) e0 (g := (mkF m 37 #[.val (.int i0), .val (.int i1), .val (.long i2), .second, .val (.long i3), .second, .val (.long i4), .second, .val (.int n1), .val (.int k), .unset, .unset, .unset] [(.int 9)])) rfl (hb hby at_37) rfl (by decide) (cap := 9) (by decide) (by decide) (by decide) (by decide)
      obtain ⟨b3, z3⟩ : ∃ z, z = h0.size := ⟨_, rfl⟩
      rw [← z3] at A3 st3
      refine hG _ _ st3 ?_
      have R3 := (CHr.ext E3 H0)
      have C3 := (CHr.refl H0).trans R3
      have K3 : Keep h0 h3 [] := (Keep.refl h0 []).ext E3
      have O3 : own_Old Z h3 := O0.ext E3
      have V3 : Arv Z h3 b3 k3 .char (9 : Int32) [(.int 0), (.int 0), (.int 0), (.int 0), (.int 0), (.int 0), (.int 0), (.int 0), (.int 0)] (.int 0) := (Arv.new A3 (by decide)).pad (pad_rep [] (.int 0) 9)
      show G (T3.setTop (mkF m 39 #[.val (.int i0), .val (.int i1), .val (.long i2), .second, .val (.long i3), .second, .val (.long i4), .second, .val (.int n1), .val (.int k), .unset, .unset, .unset] [(.ref b3)]))
      refine hG _ _ (fun t_ k_ => XS.astore X3.here hx rfl (hb hby at_39) rfl rfl (l' := #[.val (.int i0), .val (.int i1), .val (.long i2), .second, .val (.long i3), .second, .val (.long i4), .second, .val (.int n1), .val (.int k), .val (.ref b3), .unset, .unset]) rfl k_) ?_
      refine hG _ _ (fun t_ k_ => XS.aload X3.here hx rfl (hb hby at_41) rfl rfl k_) ?_
      refine hG _ _ (fun t_ k_ => XS.iconst X3.here hx rfl (hb hby at_43) k_) ?_
      refine hG _ _ (fun t_ k_ => XS.lloadN X3.here hx rfl (hb hby at_44) rfl k_) ?_
      show G (T3.setTop (mkF m 45 #[.val (.int i0), .val (.int i1), .val (.long i2), .second, .val (.long i3), .second, .val (.long i4), .second, .val (.int n1), .val (.int k), .val (.ref b3), .unset, .unset] [(.long i2), (.int 0), (.ref b3)]))
      refine own_callS X3 hx hZ hG hown (ow hw 2 rfl) (ow hw 3 rfl) (ow hw 4 rfl) (ow hw 5 rfl) (by decide) 2 (own_pick l Z a0 hw i2 h3 O3) (by decide) (by decide) e3 (by rw [hml]; rfl) (lenOf own_pd17 rfl) (argsL := [(.long i2)]) (rest := [(.int 0), (.ref b3)]) rfl rfl (Nat.le_of_eq rfl) (hb hby at_45) (by decide) (by decide) ?_
      intro T4 h4 v4 L4 X4 e4 q4
      obtain ⟨r_4, rfl, M4, rfl, r4_0⟩ := q4
      have N4 := Fr.app N0 M4
      show G (T4.setTop (mkF m 48 #[.val (.int i0), .val (.int i1), .val (.long i2), .second, .val (.long i3), .second, .val (.long i4), .second, .val (.int n1), .val (.int k), .val (.ref b3), .unset, .unset] [(.int r_4), (.int 0), (.ref b3)]))
      obtain ⟨c5, Ar5, q5, S5, M5, H5, G5⟩ := id V3
      obtain ⟨T5, h5, X5, e5, W5, st5⟩ := stC X4 hx hZ e4 Ar5 (j := (0 : Int32)) (inb_of S5 ⟨by decide, by decide⟩) (g := (mkF m 48 #[.val (.int i0), .val (.int i1), .val (.long i2), .second, .val (.long i3), .second, .val (.long i4), .second, .val (.int n1), .val (.int k), .val (.ref b3), .unset, .unset] [(.int r_4), (.int 0), (.ref b3)])) rfl rfl (hb hby at_48)
      refine hG _ _ st5 ?_
      have sf6 : Safe Z consts_1 _ h3 b3 := (own_safeArv hZ.alike V3 (by decide))
      have R5 := (CHr.wr W5 sf6 R3.1)
      have C5 := C3.trans R5
      have K5 : Keep h0 h5 [] := K3.wr W5 (Or.inr (Nat.le_trans (Keep.refl h0 []).1 (Nat.le_of_eq z3.symm)))
      have O5 : own_Old Z h5 := O3.wr W5 (own_ge O0 (Nat.le_of_eq z3.symm))
      rw [own_narC r4_0] at W5
      have V5 : Arv Z h5 b3 k3 .char (9 : Int32) [(.int r_4), (.int 0), (.int 0), (.int 0), (.int 0), (.int 0), (.int 0), (.int 0), (.int 0)] (.int 0) := Arv.set Ar5 q5 S5 M5 H5 G5 (own_fitC r4_0) W5 0 rfl (Nat.le_of_ble_eq_true rfl)
      have N5 := Fr.snoc X5 N4 (own_ge O0 (Nat.le_of_eq z3.symm))
      show G (T5.setTop (mkF m 49 #[.val (.int i0), .val (.int i1), .val (.long i2), .second, .val (.long i3), .second, .val (.long i4), .second, .val (.int n1), .val (.int k), .val (.ref b3), .unset, .unset] []))
      refine hG _ _ (fun t_ k_ => XS.aload X5.here hx rfl (hb hby at_49) rfl rfl k_) ?_
      refine hG _ _ (fun t_ k_ => XS.iconst X5.here hx rfl (hb hby at_51) k_) ?_
      refine hG _ _ (fun t_ k_ => XS.lloadN X5.here hx rfl (hb hby at_52) rfl k_) ?_
      refine hG _ _ (fun t_ k_ => XS.bipush X5.here hx rfl (hb hby at_53) k_) ?_
      refine hG _ _ (fun t_ k_ => XS.lushr X5.here hx rfl (hb hby at_55) rfl k_) ?_
      show G (T5.setTop (mkF m 56 #[.val (.int i0), .val (.int i1), .val (.long i2), .second, .val (.long i3), .second, .val (.long i4), .second, .val (.int n1), .val (.int k), .val (.ref b3), .unset, .unset] [(.long ((i2.toUInt64 >>> ((20 : Int32) &&& 0x3f).toInt64.toUInt64).toInt64)), (.int 1), (.ref b3)]))
      refine own_callS X5 hx hZ hG hown (ow hw 2 rfl) (ow hw 3 rfl) (ow hw 4 rfl) (ow hw 5 rfl) (by decide) 2 (own_pick l Z a0 hw ((i2.toUInt64 >>> ((20 : Int32) &&& 0x3f).toInt64.toUInt64).toInt64) h5 O5) (by decide) (by decide) e5 (by rw [hml]; rfl) (lenOf own_pd17 rfl) (argsL := [(.long ((i2.toUInt64 >>> ((20 : Int32) &&& 0x3f).toInt64.toUInt64).toInt64))]) (rest := [(.int 1), (.ref b3)]) rfl rfl (Nat.le_of_eq rfl) (hb hby at_56) (by decide) (by decide) ?_
      intro T7 h7 v7 L7 X7 e7 q7
      obtain ⟨r_7, rfl, M7, rfl, r7_0⟩ := q7
      have N7 := Fr.app N5 M7
      show G (T7.setTop (mkF m 59 #[.val (.int i0), .val (.int i1), .val (.long i2), .second, .val (.long i3), .second, .val (.long i4), .second, .val (.int n1), .val (.int k), .val (.ref b3), .unset, .unset] [(.int r_7), (.int 1), (.ref b3)]))
      obtain ⟨c8, Ar8, q8, S8, M8, H8, G8⟩ := id V5
      obtain ⟨T8, h8, X8, e8, W8, st8⟩ := stC X7 hx hZ e7 Ar8 (j := (1 : Int32)) (inb_of S8 ⟨by decide, by decide⟩) (g := (mkF m 59 #[.val (.int i0), .val (.int i1), .val (.long i2), .second, .val (.long i3), .second, .val (.long i4), .second, .val (.int n1), .val (.int k), .val (.ref b3), .unset, .unset] [(.int r_7), (.int 1), (.ref b3)])) rfl rfl (hb hby at_59)
      refine hG _ _ st8 ?_
      have sf9 := (R5.safe V3.lt sf6)
      have R8 := (CHr.wr W8 sf9 R5.1)
      have C8 := C5.trans R8
      have K8 : Keep h0 h8 [] := K5.wr W8 (Or.inr (Nat.le_trans (Keep.refl h0 []).1 (Nat.le_of_eq z3.symm)))
      have O8 : own_Old Z h8 := O5.wr W8 (own_ge O0 (Nat.le_of_eq z3.symm))
      rw [own_narC r7_0] at W8
      have V8 : Arv Z h8 b3 k3 .char (9 : Int32) [(.int r_4), (.int r_7), (.int 0), (.int 0), (.int 0), (.int 0), (.int 0), (.int 0), (.int 0)] (.int 0) := Arv.set Ar8 q8 S8 M8 H8 G8 (own_fitC r7_0) W8 1 rfl (Nat.le_of_ble_eq_true rfl)
      have N8 := Fr.snoc X8 N7 (own_ge O0 (Nat.le_of_eq z3.symm))
      show G (T8.setTop (mkF m 60 #[.val (.int i0), .val (.int i1), .val (.long i2), .second, .val (.long i3), .second, .val (.long i4), .second, .val (.int n1), .val (.int k), .val (.ref b3), .unset, .unset] []))
      refine hG _ _ (fun t_ k_ => XS.aload X8.here hx rfl (hb hby at_60) rfl rfl k_) ?_
      refine hG _ _ (fun t_ k_ => XS.iconst X8.here hx rfl (hb hby at_62) k_) ?_
      refine hG _ _ (fun t_ k_ => XS.lloadN X8.here hx rfl (hb hby at_63) rfl k_) ?_
      refine hG _ _ (fun t_ k_ => XS.bipush X8.here hx rfl (hb hby at_64) k_) ?_
      refine hG _ _ (fun t_ k_ => XS.lushr X8.here hx rfl (hb hby at_66) rfl k_) ?_
      show G (T8.setTop (mkF m 67 #[.val (.int i0), .val (.int i1), .val (.long i2), .second, .val (.long i3), .second, .val (.long i4), .second, .val (.int n1), .val (.int k), .val (.ref b3), .unset, .unset] [(.long ((i2.toUInt64 >>> ((40 : Int32) &&& 0x3f).toInt64.toUInt64).toInt64)), (.int 2), (.ref b3)]))
      refine own_callS X8 hx hZ hG hown (ow hw 2 rfl) (ow hw 3 rfl) (ow hw 4 rfl) (ow hw 5 rfl) (by decide) 2 (own_pick l Z a0 hw ((i2.toUInt64 >>> ((40 : Int32) &&& 0x3f).toInt64.toUInt64).toInt64) h8 O8) (by decide) (by decide) e8 (by rw [hml]; rfl) (lenOf own_pd17 rfl) (argsL := [(.long ((i2.toUInt64 >>> ((40 : Int32) &&& 0x3f).toInt64.toUInt64).toInt64))]) (rest := [(.int 2), (.ref b3)]) rfl rfl (Nat.le_of_eq rfl) (hb hby at_67) (by decide) (by decide) ?_
      intro T10 h10 v10 L10 X10 e10 q10
      obtain ⟨r_10, rfl, M10, rfl, r10_0⟩ := q10
      have N10 := Fr.app N8 M10
      show G (T10.setTop (mkF m 70 #[.val (.int i0), .val (.int i1), .val (.long i2), .second, .val (.long i3), .second, .val (.long i4), .second, .val (.int n1), .val (.int k), .val (.ref b3), .unset, .unset] [(.int r_10), (.int 2), (.ref b3)]))
      obtain ⟨c11, Ar11, q11, S11, M11, H11, G11⟩ := id V8
      obtain ⟨T11, h11, X11, e11, W11, st11⟩ := stC X10 hx hZ e10 Ar11 (j := (2 : Int32)) (inb_of S11 ⟨by decide, by decide⟩) (g := (mkF m 70 #[.val (.int i0), .val (.int i1), .val (.long i2), .second, .val (.long i3), .second, .val (.long i4), .second, .val (.int n1), .val (.int k), .val (.ref b3), .unset, .unset] [(.int r_10), (.int 2), (.ref b3)])) rfl rfl (hb hby at_70)
      refine hG _ _ st11 ?_
      have sf12 := (R8.safe V5.lt sf9)
      have R11 := (CHr.wr W11 sf12 R8.1)
      have C11 := C8.trans R11
      have K11 : Keep h0 h11 [] := K8.wr W11 (Or.inr (Nat.le_trans (Keep.refl h0 []).1 (Nat.le_of_eq z3.symm)))
      have O11 : own_Old Z h11 := O8.wr W11 (own_ge O0 (Nat.le_of_eq z3.symm))
      rw [own_narC r10_0] at W11
      have V11 : Arv Z h11 b3 k3 .char (9 : Int32) [(.int r_4), (.int r_7), (.int r_10), (.int 0), (.int 0), (.int 0), (.int 0), (.int 0), (.int 0)] (.int 0) := Arv.set Ar11 q11 S11 M11 H11 G11 (own_fitC r10_0) W11 2 rfl (Nat.le_of_ble_eq_true rfl)
      have N11 := Fr.snoc X11 N10 (own_ge O0 (Nat.le_of_eq z3.symm))
      show G (T11.setTop (mkF m 71 #[.val (.int i0), .val (.int i1), .val (.long i2), .second, .val (.long i3), .second, .val (.long i4), .second, .val (.int n1), .val (.int k), .val (.ref b3), .unset, .unset] []))
      refine hG _ _ (fun t_ k_ => XS.aload X11.here hx rfl (hb hby at_71) rfl rfl k_) ?_
      refine hG _ _ (fun t_ k_ => XS.iconst X11.here hx rfl (hb hby at_73) k_) ?_
      refine hG _ _ (fun t_ k_ => XS.lload X11.here hx rfl (hb hby at_74) rfl k_) ?_
      show G (T11.setTop (mkF m 76 #[.val (.int i0), .val (.int i1), .val (.long i2), .second, .val (.long i3), .second, .val (.long i4), .second, .val (.int n1), .val (.int k), .val (.ref b3), .unset, .unset] [(.long i3), (.int 3), (.ref b3)]))
      refine own_callS X11 hx hZ hG hown (ow hw 2 rfl) (ow hw 3 rfl) (ow hw 4 rfl) (ow hw 5 rfl) (by decide) 2 (own_pick l Z a0 hw i3 h11 O11) (by decide) (by decide) e11 (by rw [hml]; rfl) (lenOf own_pd17 rfl) (argsL := [(.long i3)]) (rest := [(.int 3), (.ref b3)]) rfl rfl (Nat.le_of_eq rfl) (hb hby at_76) (by decide) (by decide) ?_
      intro T13 h13 v13 L13 X13 e13 q13
      obtain ⟨r_13, rfl, M13, rfl, r13_0⟩ := q13
      have N13 := Fr.app N11 M13
      show G (T13.setTop (mkF m 79 #[.val (.int i0), .val (.int i1), .val (.long i2), .second, .val (.long i3), .second, .val (.long i4), .second, .val (.int n1), .val (.int k), .val (.ref b3), .unset, .unset] [(.int r_13), (.int 3), (.ref b3)]))
      obtain ⟨c14, Ar14, q14, S14, M14, H14, G14⟩ := id V11
      obtain ⟨T14, h14, X14, e14, W14, st14⟩ := stC X13 hx hZ e13 Ar14 (j := (3 : Int32)) (inb_of S14 ⟨by decide, by decide⟩) (g := (mkF m 79 #[.val (.int i0), .val (.int i1), .val (.long i2), .second, .val (.long i3), .second, .val (.long i4), .second, .val (.int n1), .val (.int k), .val (.ref b3), .unset, .unset] [(.int r_13), (.int 3), (.ref b3)])) rfl rfl (hb hby at_79)
      refine hG _ _ st14 ?_
      have sf15 := (R11.safe V8.lt sf12)
      have R14 := (CHr.wr W14 sf15 R11.1)
      have C14 := C11.trans R14
      have K14 : Keep h0 h14 [] := K11.wr W14 (Or.inr (Nat.le_trans (Keep.refl h0 []).1 (Nat.le_of_eq z3.symm)))
      have O14 : own_Old Z h14 := O11.wr W14 (own_ge O0 (Nat.le_of_eq z3.symm))
      rw [own_narC r13_0] at W14
      have V14 : Arv Z h14 b3 k3 .char (9 : Int32) [(.int r_4), (.int r_7), (.int r_10), (.int r_13), (.int 0), (.int 0), (.int 0), (.int 0), (.int 0)] (.int 0) := Arv.set Ar14 q14 S14 M14 H14 G14 (own_fitC r13_0) W14 3 rfl (Nat.le_of_ble_eq_true rfl)
      have N14 := Fr.snoc X14 N13 (own_ge O0 (Nat.le_of_eq z3.symm))
      show G (T14.setTop (mkF m 80 #[.val (.int i0), .val (.int i1), .val (.long i2), .second, .val (.long i3), .second, .val (.long i4), .second, .val (.int n1), .val (.int k), .val (.ref b3), .unset, .unset] []))
      refine hG _ _ (fun t_ k_ => XS.aload X14.here hx rfl (hb hby at_80) rfl rfl k_) ?_
      refine hG _ _ (fun t_ k_ => XS.iconst X14.here hx rfl (hb hby at_82) k_) ?_
      refine hG _ _ (fun t_ k_ => XS.lload X14.here hx rfl (hb hby at_83) rfl k_) ?_
      refine hG _ _ (fun t_ k_ => XS.bipush X14.here hx rfl (hb hby at_85) k_) ?_
      refine hG _ _ (fun t_ k_ => XS.lushr X14.here hx rfl (hb hby at_87) rfl k_) ?_
      show G (T14.setTop (mkF m 88 #[.val (.int i0), .val (.int i1), .val (.long i2), .second, .val (.long i3), .second, .val (.long i4), .second, .val (.int n1), .val (.int k), .val (.ref b3), .unset, .unset] [(.long ((i3.toUInt64 >>> ((20 : Int32) &&& 0x3f).toInt64.toUInt64).toInt64)), (.int 4), (.ref b3)]))
      refine own_callS X14 hx hZ hG hown (ow hw 2 rfl) (ow hw 3 rfl) (ow hw 4 rfl) (ow hw 5 rfl) (by decide) 2 (own_pick l Z a0 hw ((i3.toUInt64 >>> ((20 : Int32) &&& 0x3f).toInt64.toUInt64).toInt64) h14 O14) (by decide) (by decide) e14 (by rw [hml]; rfl) (lenOf own_pd17 rfl) (argsL := [(.long ((i3.toUInt64 >>> ((20 : Int32) &&& 0x3f).toInt64.toUInt64).toInt64))]) (rest := [(.int 4), (.ref b3)]) rfl rfl (Nat.le_of_eq rfl) (hb hby at_88) (by decide) (by decide) ?_
      intro T16 h16 v16 L16 X16 e16 q16
      obtain ⟨r_16, rfl, M16, rfl, r16_0⟩ := q16
      have N16 := Fr.app N14 M16
      show G (T16.setTop (mkF m 91 #[.val (.int i0), .val (.int i1), .val (.long i2), .second, .val (.long i3), .second, .val (.long i4), .second, .val (.int n1), .val (.int k), .val (.ref b3), .unset, .unset] [(.int r_16), (.int 4), (.ref b3)]))
      obtain ⟨c17, Ar17, q17, S17, M17, H17, G17⟩ := id V14
      obtain ⟨T17, h17, X17, e17, W17, st17⟩ := stC X16 hx hZ e16 Ar17 (j := (4 : Int32)) (inb_of S17 ⟨by decide, by decide⟩) (g := (mkF m 91 #[.val (.int i0), .val (.int i1), .val (.long i2), .second, .val (.long i3), .second, .val (.long i4), .second, .val (.int n1), .val (.int k), .val (.ref b3), .unset, .unset] [(.int r_16), (.int 4), (.ref b3)])) rfl rfl (hb hby at_91)
      refine hG _ _ st17 ?_
      have sf18 := (R14.safe V11.lt sf15)
      have R17 := (CHr.wr W17 sf18 R14.1)
      have C17 := C14.trans R17
      have K17 : Keep h0 h17 [] := K14.wr W17 (Or.inr (Nat.le_trans (Keep.refl h0 []).1 (Nat.le_of_eq z3.symm)))
      have O17 : own_Old Z h17 := O14.wr W17 (own_ge O0 (Nat.le_of_eq z3.symm))
      rw [own_narC r16_0] at W17
      have V17 : Arv Z h17 b3 k3 .char (9 : Int32) [(.int r_4), (.int r_7), (.int r_10), (.int r_13), (.int r_16), (.int 0), (.int 0), (.int 0), (.int 0)] (.int 0) := Arv.set Ar17 q17 S17 M17 H17 G17 (own_fitC r16_0) W17 4 rfl (Nat.le_of_ble_eq_true rfl)
      have N17 := Fr.snoc X17 N16 (own_ge O0 (Nat.le_of_eq z3.symm))
      show G (T17.setTop (mkF m 92 #[.val (.int i0), .val (.int i1), .val (.long i2), .second, .val (.long i3), .second, .val (.long i4), .second, .val (.int n1), .val (.int k), .val (.ref b3), .unset, .unset] []))
      refine hG _ _ (fun t_ k_ => XS.aload X17.here hx rfl (hb hby at_92) rfl rfl k_) ?_
      refine hG _ _ (fun t_ k_ => XS.iconst X17.here hx rfl (hb hby at_94) k_) ?_
      refine hG _ _ (fun t_ k_ => XS.lload X17.here hx rfl (hb hby at_95) rfl k_) ?_
      refine hG _ _ (fun t_ k_ => XS.bipush X17.here hx rfl (hb hby at_97) k_) ?_
      refine hG _ _ (fun t_ k_ => XS.lushr X17.here hx rfl (hb hby at_99) rfl k_) ?_
      show G (T17.setTop (mkF m 100 #[.val (.int i0), .val (.int i1), .val (.long i2), .second, .val (.long i3), .second, .val (.long i4), .second, .val (.int n1), .val (.int k), .val (.ref b3), .unset, .unset] [(.long ((i3.toUInt64 >>> ((40 : Int32) &&& 0x3f).toInt64.toUInt64).toInt64)), (.int 5), (.ref b3)]))
      refine own_callS X17 hx hZ hG hown (ow hw 2 rfl) (ow hw 3 rfl) (ow hw 4 rfl) (ow hw 5 rfl) (by decide) 2 (own_pick l Z a0 hw ((i3.toUInt64 >>> ((40 : Int32) &&& 0x3f).toInt64.toUInt64).toInt64) h17 O17) (by decide) (by decide) e17 (by rw [hml]; rfl) (lenOf own_pd17 rfl) (argsL := [(.long ((i3.toUInt64 >>> ((40 : Int32) &&& 0x3f).toInt64.toUInt64).toInt64))]) (rest := [(.int 5), (.ref b3)]) rfl rfl (Nat.le_of_eq rfl) (hb hby at_100) (by decide) (by decide) ?_
      intro T19 h19 v19 L19 X19 e19 q19
      obtain ⟨r_19, rfl, M19, rfl, r19_0⟩ := q19
      have N19 := Fr.app N17 M19
      show G (T19.setTop (mkF m 103 #[.val (.int i0), .val (.int i1), .val (.long i2), .second, .val (.long i3), .second, .val (.long i4), .second, .val (.int n1), .val (.int k), .val (.ref b3), .unset, .unset] [(.int r_19), (.int 5), (.ref b3)]))
      obtain ⟨c20, Ar20, q20, S20, M20, H20, G20⟩ := id V17
      obtain ⟨T20, h20, X20, e20, W20, st20⟩ := stC X19 hx hZ e19 Ar20 (j := (5 : Int32)) (inb_of S20 ⟨by decide, by decide⟩) (g := (mkF m 103 #[.val (.int i0), .val (.int i1), .val (.long i2), .second, .val (.long i3), .second, .val (.long i4), .second, .val (.int n1), .val (.int k), .val (.ref b3), .unset, .unset] [(.int r_19), (.int 5), (.ref b3)])) rfl rfl (hb hby at_103)
      refine hG _ _ st20 ?_
      have sf21 := (R17.safe V14.lt sf18)
      have R20 := (CHr.wr W20 sf21 R17.1)
      have C20 := C17.trans R20
      have K20 : Keep h0 h20 [] := K17.wr W20 (Or.inr (Nat.le_trans (Keep.refl h0 []).1 (Nat.le_of_eq z3.symm)))
      have O20 : own_Old Z h20 := O17.wr W20 (own_ge O0 (Nat.le_of_eq z3.symm))
      rw [own_narC r19_0] at W20
      have V20 : Arv Z h20 b3 k3 .char (9 : Int32) [(.int r_4), (.int r_7), (.int r_10), (.int r_13), (.int r_16), (.int r_19), (.int 0), (.int 0), (.int 0)] (.int 0) := Arv.set Ar20 q20 S20 M20 H20 G20 (own_fitC r19_0) W20 5 rfl (Nat.le_of_ble_eq_true rfl)
      have N20 := Fr.snoc X20 N19 (own_ge O0 (Nat.le_of_eq z3.symm))
      show G (T20.setTop (mkF m 104 #[.val (.int i0), .val (.int i1), .val (.long i2), .second, .val (.long i3), .second, .val (.long i4), .second, .val (.int n1), .val (.int k), .val (.ref b3), .unset, .unset] []))
      refine hG _ _ (fun t_ k_ => XS.aload X20.here hx rfl (hb hby at_104) rfl rfl k_) ?_
      refine hG _ _ (fun t_ k_ => XS.bipush X20.here hx rfl (hb hby at_106) k_) ?_
      refine hG _ _ (fun t_ k_ => XS.lload X20.here hx rfl (hb hby at_108) rfl k_) ?_
      show G (T20.setTop (mkF m 110 #[.val (.int i0), .val (.int i1), .val (.long i2), .second, .val (.long i3), .second, .val (.long i4), .second, .val (.int n1), .val (.int k), .val (.ref b3), .unset, .unset] [(.long i4), (.int 6), (.ref b3)]))
      refine own_callS X20 hx hZ hG hown (ow hw 2 rfl) (ow hw 3 rfl) (ow hw 4 rfl) (ow hw 5 rfl) (by decide) 2 (own_pick l Z a0 hw i4 h20 O20) (by decide) (by decide) e20 (by rw [hml]; rfl) (lenOf own_pd17 rfl) (argsL := [(.long i4)]) (rest := [(.int 6), (.ref b3)]) rfl rfl (Nat.le_of_eq rfl) (hb hby at_110) (by decide) (by decide) ?_
      intro T22 h22 v22 L22 X22 e22 q22
      obtain ⟨r_22, rfl, M22, rfl, r22_0⟩ := q22
      have N22 := Fr.app N20 M22
      show G (T22.setTop (mkF m 113 #[.val (.int i0), .val (.int i1), .val (.long i2), .second, .val (.long i3), .second, .val (.long i4), .second, .val (.int n1), .val (.int k), .val (.ref b3), .unset, .unset] [(.int r_22), (.int 6), (.ref b3)]))
      obtain ⟨c23, Ar23, q23, S23, M23, H23, G23⟩ := id V20
      obtain ⟨T23, h23, X23, e23, W23, st23⟩ := stC X22 hx hZ e22 Ar23 (j := (6 : Int32)) (inb_of S23 ⟨by decide, by decide⟩) (g := (mkF m 113 #[.val (.int i0), .val (.int i1), .val (.long i2), .second, .val (.long i3), .second, .val (.long i4), .second, .val (.int n1), .val (.int k), .val (.ref b3), .unset, .unset] [(.int r_22), (.int 6), (.ref b3)])) rfl rfl (hb hby at_113)
      refine hG _ _ st23 ?_
      have sf24 := (R20.safe V17.lt sf21)
      have R23 := (CHr.wr W23 sf24 R20.1)
      have C23 := C20.trans R23
      have K23 : Keep h0 h23 [] := K20.wr W23 (Or.inr (Nat.le_trans (Keep.refl h0 []).1 (Nat.le_of_eq z3.symm)))
      have O23 : own_Old Z h23 := O20.wr W23 (own_ge O0 (Nat.le_of_eq z3.symm))
      rw [own_narC r22_0] at W23
      have V23 : Arv Z h23 b3 k3 .char (9 : Int32) [(.int r_4), (.int r_7), (.int r_10), (.int r_13), (.int r_16), (.int r_19), (.int r_22), (.int 0), (.int 0)] (.int 0) := Arv.set Ar23 q23 S23 M23 H23 G23 (own_fitC r22_0) W23 6 rfl (Nat.le_of_ble_eq_true rfl)
      have N23 := Fr.snoc X23 N22 (own_ge O0 (Nat.le_of_eq z3.symm))
      show G (T23.setTop (mkF m 114 #[.val (.int i0), .val (.int i1), .val (.long i2), .second, .val (.long i3), .second, .val (.long i4), .second, .val (.int n1), .val (.int k), .val (.ref b3), .unset, .unset] []))
      refine hG _ _ (fun t_ k_ => XS.aload X23.here hx rfl (hb hby at_114) rfl rfl k_) ?_
      refine hG _ _ (fun t_ k_ => XS.bipush X23.here hx rfl (hb hby at_116) k_) ?_
      refine hG _ _ (fun t_ k_ => XS.lload X23.here hx rfl (hb hby at_118) rfl k_) ?_
      refine hG _ _ (fun t_ k_ => XS.bipush X23.here hx rfl (hb hby at_120) k_) ?_
      refine hG _ _ (fun t_ k_ => XS.lushr X23.here hx rfl (hb hby at_122) rfl k_) ?_
      show G (T23.setTop (mkF m 123 #[.val (.int i0), .val (.int i1), .val (.long i2), .second, .val (.long i3), .second, .val (.long i4), .second, .val (.int n1), .val (.int k), .val (.ref b3), .unset, .unset] [(.long ((i4.toUInt64 >>> ((20 : Int32) &&& 0x3f).toInt64.toUInt64).toInt64)), (.int 7), (.ref b3)]))
      refine own_callS X23 hx hZ hG hown (ow hw 2 rfl) (ow hw 3 rfl) (ow hw 4 rfl) (ow hw 5 rfl) (by decide) 2 (own_pick l Z a0 hw ((i4.toUInt64 >>> ((20 : Int32) &&& 0x3f).toInt64.toUInt64).toInt64) h23 O23) (by decide) (by decide) e23 (by rw [hml]; rfl) (lenOf own_pd17 rfl) (argsL := [(.long ((i4.toUInt64 >>> ((20 : Int32) &&& 0x3f).toInt64.toUInt64).toInt64))]) (rest := [(.int 7), (.ref b3)]) rfl rfl (Nat.le_of_eq rfl) (hb hby at_123) (by decide) (by decide) ?_
      intro T25 h25 v25 L25 X25 e25 q25
      obtain ⟨r_25, rfl, M25, rfl, r25_0⟩ := q25
      have N25 := Fr.app N23 M25
      show G (T25.setTop (mkF m 126 #[.val (.int i0), .val (.int i1), .val (.long i2), .second, .val (.long i3), .second, .val (.long i4), .second, .val (.int n1), .val (.int k), .val (.ref b3), .unset, .unset] [(.int r_25), (.int 7), (.ref b3)]))
      obtain ⟨c26, Ar26, q26, S26, M26, H26, G26⟩ := id V23
      obtain ⟨T26, h26, X26, e26, W26, st26⟩ := stC X25 hx hZ e25 Ar26 (j := (7 : Int32)) (inb_of S26 ⟨by decide, by decide⟩) (g := (mkF m 126 #[.val (.int i0), .val (.int i1), .val (.long i2), .second, .val (.long i3), .second, .val (.long i4), .second, .val (.int n1), .val (.int k), .val (.ref b3), .unset, .unset] [(.int r_25), (.int 7), (.ref b3)])) rfl rfl (hb hby at_126)
      refine hG _ _ st26 ?_
      have sf27 := (R23.safe V20.lt sf24)
      have R26 := (CHr.wr W26 sf27 R23.1)
      have C26 := C23.trans R26
      have K26 : Keep h0 h26 [] := K23.wr W26 (Or.inr (Nat.le_trans (Keep.refl h0 []).1 (Nat.le_of_eq z3.symm)))
      have O26 : own_Old Z h26 := O23.wr W26 (own_ge O0 (Nat.le_of_eq z3.symm))
      rw [own_narC r25_0] at W26
      have V26 : Arv Z h26 b3 k3 .char (9 : Int32) [(.int r_4), (.int r_7), (.int r_10), (.int r_13), (.int r_16), (.int r_19), (.int r_22), (.int r_25), (.int 0)] (.int 0) := Arv.set Ar26 q26 S26 M26 H26 G26 (own_fitC r25_0) W26 7 rfl (Nat.le_of_ble_eq_true rfl)
      have N26 := Fr.snoc X26 N25 (own_ge O0 (Nat.le_of_eq z3.symm))
      show G (T26.setTop (mkF m 127 #[.val (.int i0), .val (.int i1), .val (.long i2), .second, .val (.long i3), .second, .val (.long i4), .second, .val (.int n1), .val (.int k), .val (.ref b3), .unset, .unset] []))
      refine hG _ _ (fun t_ k_ => XS.aload X26.here hx rfl (hb hby at_127) rfl rfl k_) ?_
      refine hG _ _ (fun t_ k_ => XS.bipush X26.here hx rfl (hb hby at_129) k_) ?_
      refine hG _ _ (fun t_ k_ => XS.lload X26.here hx rfl (hb hby at_131) rfl k_) ?_
      refine hG _ _ (fun t_ k_ => XS.bipush X26.here hx rfl (hb hby at_133) k_) ?_
      refine hG _ _ (fun t_ k_ => XS.lushr X26.here hx rfl (hb hby at_135) rfl k_) ?_
      show G (T26.setTop (mkF m 136 #[.val (.int i0), .val (.int i1), .val (.long i2), .second, .val (.long i3), .second, .val (.long i4), .second, .val (.int n1), .val (.int k), .val (.ref b3), .unset, .unset] [(.long ((i4.toUInt64 >>> ((40 : Int32) &&& 0x3f).toInt64.toUInt64).toInt64)), (.int 8), (.ref b3)]))
      refine own_callS X26 hx hZ hG hown (ow hw 2 rfl) (ow hw 3 rfl) (ow hw 4 rfl) (ow hw 5 rfl) (by decide) 2 (own_pick l Z a0 hw ((i4.toUInt64 >>> ((40 : Int32) &&& 0x3f).toInt64.toUInt64).toInt64) h26 O26) (by decide) (by decide) e26 (by rw [hml]; rfl) (lenOf own_pd17 rfl) (argsL := [(.long ((i4.toUInt64 >>> ((40 : Int32) &&& 0x3f).toInt64.toUInt64).toInt64))]) (rest := [(.int 8), (.ref b3)]) rfl rfl (Nat.le_of_eq rfl) (hb hby at_136) (by decide) (by decide) ?_
      intro T28 h28 v28 L28 X28 e28 q28
      obtain ⟨r_28, rfl, M28, rfl, r28_0⟩ := q28
      have N28 := Fr.app N26 M28
      show G (T28.setTop (mkF m 139 #[.val (.int i0), .val (.int i1), .val (.long i2), .second, .val (.long i3), .second, .val (.long i4), .second, .val (.int n1), .val (.int k), .val (.ref b3), .unset, .unset] [(.int r_28), (.int 8), (.ref b3)]))
      obtain ⟨c29, Ar29, q29, S29, M29, H29, G29⟩ := id V26
      obtain ⟨T29, h29, X29, e29, W29, st29⟩ := stC X28 hx hZ e28 Ar29 (j := (8 : Int32)) (inb_of S29 ⟨by decide, by decide⟩) (g := (mkF m 139 #[.val (.int i0), .val (.int i1), .val (.long i2), .second, .val (.long i3), .second, .val (.long i4), .second, .val (.int n1), .val (.int k), .val (.ref b3), .unset, .unset] [(.int r_28), (.int 8), (.ref b3)])) rfl rfl (hb hby at_139)
      refine hG _ _ st29 ?_
      have sf30 := (R26.safe V23.lt sf27)
      have R29 := (CHr.wr W29 sf30 R26.1)
      have C29 := C26.trans R29
      have K29 : Keep h0 h29 [] := K26.wr W29 (Or.inr (Nat.le_trans (Keep.refl h0 []).1 (Nat.le_of_eq z3.symm)))
      have O29 : own_Old Z h29 := O26.wr W29 (own_ge O0 (Nat.le_of_eq z3.symm))
      rw [own_narC r28_0] at W29
      have V29 : Arv Z h29 b3 k3 .char (9 : Int32) [(.int r_4), (.int r_7), (.int r_10), (.int r_13), (.int r_16), (.int r_19), (.int r_22), (.int r_25), (.int r_28)] (.int 0) := Arv.set Ar29 q29 S29 M29 H29 G29 (own_fitC r28_0) W29 8 rfl (Nat.le_of_ble_eq_true rfl)
      have N29 := Fr.snoc X29 N28 (own_ge O0 (Nat.le_of_eq z3.symm))
      show G (T29.setTop (mkF m 140 #[.val (.int i0), .val (.int i1), .val (.long i2), .second, .val (.long i3), .second, .val (.long i4), .second, .val (.int n1), .val (.int k), .val (.ref b3), .unset, .unset] []))
      refine hG _ _ (fun t_ k_ => XS.aload X29.here hx rfl (hb hby at_140) rfl rfl k_) ?_
      refine hG _ _ (fun t_ k_ => XS.iload X29.here hx rfl (hb hby at_142) rfl k_) ?_
      show G (T29.setTop (mkF m 144 #[.val (.int i0), .val (.int i1), .val (.long i2), .second, .val (.long i3), .second, .val (.long i4), .second, .val (.int n1), .val (.int k), .val (.ref b3), .unset, .unset] [(.int n1), (.ref b3)]))
      refine own_callSW X29 hx hZ hG hown (ow hw 8 rfl) (ow hw 9 rfl) (ow hw 4 rfl) (ow hw 10 rfl) (by decide) 0 (own_text l Z a0 hw hEL b3 n1 k3 r_4 r_7 r_10 r_13 r_16 r_19 r_22 r_25 r_28 cpt h29 O29 g0_S g1_hcpt g2_S g3_S g4_S V29 hn7 (own_allc r4_0 (own_allc r7_0 (own_allc r10_0 (own_allc r13_0 (own_allc r16_0 (own_allc r19_0 (own_allc r22_0 (own_allc r25_0 (own_allc r28_0 own_alln)))))))))) (by decide) (by decide) e29 SI0 (Nat.le_trans (Nat.le_trans (Nat.le_trans (Nat.le_trans (Nat.le_trans (Nat.le_trans (Nat.le_trans (Nat.le_trans (Nat.le_trans (Nat.le_trans (Nat.le_refl _) R3.2.1) R5.2.1) R8.2.1) R11.2.1) R14.2.1) R17.2.1) R20.2.1) R23.2.1) R26.2.1) R29.2.1) hEL R29.1 (by rw [hml]; rfl) (lenOf own_pd20 rfl) (argsL := [(.ref b3), (.int n1)]) (rest := []) rfl rfl (Nat.le_of_eq rfl) (hb hby at_144) (by decide) (by decide) ?_
      intro T31 h31 v31 L31 X31 e31 SI31 hZ31 hown31 Y31 q31
      obtain ⟨q_31, t_31, kt_31, cd_31, nb_31, vs_31, rfl, M31, J31, y31_0, r31_0, r31_1, r31_2, r31_3, r31_4⟩ := q31
      have N31 := Fr.app N29 M31
      have R31 := Y31
      have C31 := C29.trans R31
      have K31 : Keep h0 h31 [] := K29.trans J31 all0
      have O31 : own_Old Z h31 := O29.keep J31 all0
      show G (T31.setTop (mkF m 147 #[.val (.int i0), .val (.int i1), .val (.long i2), .second, .val (.long i3), .second, .val (.long i4), .second, .val (.int n1), .val (.int k), .val (.ref b3), .unset, .unset] [(.ref q_31)]))
      refine hG _ _ (fun t_ k_ => XS.astore X31.here hx rfl (hb hby at_147) rfl rfl (l' := #[.val (.int i0), .val (.int i1), .val (.long i2), .second, .val (.long i3), .second, .val (.long i4), .second, .val (.int n1), .val (.int k), .val (.ref b3), .val (.ref q_31), .unset]) rfl k_) ?_
      show G (T31.setTop (mkF m 149 #[.val (.int i0), .val (.int i1), .val (.long i2), .second, .val (.long i3), .second, .val (.long i4), .second, .val (.int n1), .val (.int k), .val (.ref b3), .val (.ref q_31), .unset] []))
      have jn1 : (own_lab ([r_4, r_7, r_10, r_13, r_16, r_19, r_22, r_25, r_28].take n1.toNatClampNeg) k) → G (T31.setTop (mkF m 248 #[.val (.int i0), .val (.int i1), .val (.long i2), .second, .val (.long i3), .second, .val (.long i4), .second, .val (.int n1), .val (.int k), .val (.ref b3), .val (.ref q_31), .unset] [(.int 1)])) := by
        intro hL
        refine hG _ _ (fun t_ k_ => XS.istore X31.here hx rfl (hb hby at_248) rfl (l' := #[.val (.int i0), .val (.int i1), .val (.long i2), .second, .val (.long i3), .second, .val (.long i4), .second, .val (.int n1), .val (.int k), .val (.ref b3), .val (.ref q_31), .val (.int 1)]) rfl k_) ?_
        refine hG _ _ (fun t_ k_ => XS.aload X31.here hx rfl (hb hby at_250) rfl rfl k_) ?_
        refine hG _ _ (fun t_ k_ => XS.iload X31.here hx rfl (hb hby at_252) rfl k_) ?_
        show G (T31.setTop (mkF m 254 #[.val (.int i0), .val (.int i1), .val (.long i2), .second, .val (.long i3), .second, .val (.long i4), .second, .val (.int n1), .val (.int k), .val (.ref b3), .val (.ref q_31), .val (.int 1)] [(.int k), (.ref q_31)]))
        refine own_callSW X31 hx hZ31 hG hown31 (ow hw 32 rfl) (ow hw 33 rfl) (ow hw 34 rfl) (ow hw 35 rfl) (by decide) 0 (own_hla l Z a0 hw hEL q_31 t_31 kt_31 ([r_4, r_7, r_10, r_13, r_16, r_19, r_22, r_25, r_28].take n1.toNatClampNeg) cd_31 nb_31 vs_31 cpt k fmt h31 O31 r31_0 r31_1 r31_2 r31_3 r31_4 (own_takecap hn7) (fun c hc => ((own_allc r4_0 (own_allc r7_0 (own_allc r10_0 (own_allc r13_0 (own_allc r16_0 (own_allc r19_0 (own_allc r22_0 (own_allc r25_0 (own_allc r28_0 own_alln))))))))) : ∀ c ∈ [r_4, r_7, r_10, r_13, r_16, r_19, r_22, r_25, r_28], 0 ≤ c.toInt ∧ c.toInt ≤ 65535) c (List.mem_of_mem_take hc)) g0_S g1_hcpt g2_S g3_S g4_S g5_hfmt g6_S (own_top hc30_2)) (by decide) (by decide) e31 SI31 (Nat.le_refl _) hEL R31.1 (by rw [hml]; rfl) (lenOf own_pd19 rfl) (argsL := [(.ref q_31), (.int k)]) (rest := []) rfl rfl (Nat.le_of_eq rfl) (hb hby at_254) (by decide) (by decide) ?_
        intro T32 h32 v32 L32 X32 e32 SI32 hZ32 hown32 Y32 q32
        obtain ⟨r_32, rfl, M32, J32, r32_0⟩ := q32
        have N32 := Fr.app N31 M32
        have R32 := Y32
        have C32 := C31.trans R32
        have K32 : Keep h0 h32 [] := K31.trans J32 all0
        have O32 : own_Old Z h32 := O31.keep J32 all0
        show G (T32.setTop (mkF m 257 #[.val (.int i0), .val (.int i1), .val (.long i2), .second, .val (.long i3), .second, .val (.long i4), .second, .val (.int n1), .val (.int k), .val (.ref b3), .val (.ref q_31), .val (.int 1)] [(.int r_32)]))
        refine hG _ _ (fun t_ k_ => XS.iload X32.here hx rfl (hb hby at_257) rfl k_) ?_
        show G (T32.setTop (mkF m 259 #[.val (.int i0), .val (.int i1), .val (.long i2), .second, .val (.long i3), .second, .val (.long i4), .second, .val (.int n1), .val (.int k), .val (.ref b3), .val (.ref q_31), .val (.int 1)] [(.int 1), (.int r_32)]))
        refine hG _ _ (fun t_ k_ => XS.icmpNo X32.here hx rfl (hb hby at_259) rfl (teq (r32_0.elim (fun q => q.1) (fun q => absurd hL q.2))).2 k_) ?_
        show G (T32.setTop (mkF m 262 #[.val (.int i0), .val (.int i1), .val (.long i2), .second, .val (.long i3), .second, .val (.long i4), .second, .val (.int n1), .val (.int k), .val (.ref b3), .val (.ref q_31), .val (.int 1)] []))
        refine hG _ _ (fun t_ k_ => XS.iconst X32.here hx rfl (hb hby at_262) k_) ?_
        refine hG _ _ (fun t_ k_ => XS.goto X32.here hx rfl (pc0 := 263) (pc' := 267) rfl (hb hby at_263) (by decide) (by decide) k_) ?_
        show G (T32.setTop (mkF m 267 #[.val (.int i0), .val (.int i1), .val (.long i2), .second, .val (.long i3), .second, .val (.long i4), .second, .val (.int n1), .val (.int k), .val (.ref b3), .val (.ref q_31), .val (.int 1)] [(.int 1)]))
        exact own_retNW hR hret (by simp) X32 hx (hb hby at_267) e32 SI32 (Nat.le_refl _) hZ32 C32 (by decide) (by decide) ⟨rfl, N32, K32⟩
      have jn0 : (¬ own_lab ([r_4, r_7, r_10, r_13, r_16, r_19, r_22, r_25, r_28].take n1.toNatClampNeg) k) → G (T31.setTop (mkF m 248 #[.val (.int i0), .val (.int i1), .val (.long i2), .second, .val (.long i3), .second, .val (.long i4), .second, .val (.int n1), .val (.int k), .val (.ref b3), .val (.ref q_31), .unset] [(.int 0)])) := by
        intro hL
        refine hG _ _ (fun t_ k_ => XS.istore X31.here hx rfl (hb hby at_248) rfl (l' := #[.val (.int i0), .val (.int i1), .val (.long i2), .second, .val (.long i3), .second, .val (.long i4), .second, .val (.int n1), .val (.int k), .val (.ref b3), .val (.ref q_31), .val (.int 0)]) rfl k_) ?_
        refine hG _ _ (fun t_ k_ => XS.aload X31.here hx rfl (hb hby at_250) rfl rfl k_) ?_
        refine hG _ _ (fun t_ k_ => XS.iload X31.here hx rfl (hb hby at_252) rfl k_) ?_
        show G (T31.setTop (mkF m 254 #[.val (.int i0), .val (.int i1), .val (.long i2), .second, .val (.long i3), .second, .val (.long i4), .second, .val (.int n1), .val (.int k), .val (.ref b3), .val (.ref q_31), .val (.int 0)] [(.int k), (.ref q_31)]))
        refine own_callSW X31 hx hZ31 hG hown31 (ow hw 32 rfl) (ow hw 33 rfl) (ow hw 34 rfl) (ow hw 35 rfl) (by decide) 0 (own_hla l Z a0 hw hEL q_31 t_31 kt_31 ([r_4, r_7, r_10, r_13, r_16, r_19, r_22, r_25, r_28].take n1.toNatClampNeg) cd_31 nb_31 vs_31 cpt k fmt h31 O31 r31_0 r31_1 r31_2 r31_3 r31_4 (own_takecap hn7) (fun c hc => ((own_allc r4_0 (own_allc r7_0 (own_allc r10_0 (own_allc r13_0 (own_allc r16_0 (own_allc r19_0 (own_allc r22_0 (own_allc r25_0 (own_allc r28_0 own_alln))))))))) : ∀ c ∈ [r_4, r_7, r_10, r_13, r_16, r_19, r_22, r_25, r_28], 0 ≤ c.toInt ∧ c.toInt ≤ 65535) c (List.mem_of_mem_take hc)) g0_S g1_hcpt g2_S g3_S g4_S g5_hfmt g6_S (own_top hc30_2)) (by decide) (by decide) e31 SI31 (Nat.le_refl _) hEL R31.1 (by rw [hml]; rfl) (lenOf own_pd19 rfl) (argsL := [(.ref q_31), (.int k)]) (rest := []) rfl rfl (Nat.le_of_eq rfl) (hb hby at_254) (by decide) (by decide) ?_
        intro T33 h33 v33 L33 X33 e33 SI33 hZ33 hown33 Y33 q33
        obtain ⟨r_33, rfl, M33, J33, r33_0⟩ := q33
        have N33 := Fr.app N31 M33
        have R33 := Y33
        have C33 := C31.trans R33
        have K33 : Keep h0 h33 [] := K31.trans J33 all0
        have O33 : own_Old Z h33 := O31.keep J33 all0
        show G (T33.setTop (mkF m 257 #[.val (.int i0), .val (.int i1), .val (.long i2), .second, .val (.long i3), .second, .val (.long i4), .second, .val (.int n1), .val (.int k), .val (.ref b3), .val (.ref q_31), .val (.int 0)] [(.int r_33)]))
        refine hG _ _ (fun t_ k_ => XS.iload X33.here hx rfl (hb hby at_257) rfl k_) ?_
        show G (T33.setTop (mkF m 259 #[.val (.int i0), .val (.int i1), .val (.long i2), .second, .val (.long i3), .second, .val (.long i4), .second, .val (.int n1), .val (.int k), .val (.ref b3), .val (.ref q_31), .val (.int 0)] [(.int 0), (.int r_33)]))
        refine hG _ _ (fun t_ k_ => XS.icmpNo X33.here hx rfl (hb hby at_259) rfl (teq (r33_0.elim (fun q => q.1.trans (absurd q.2 hL)) (fun q => q.1))).2 k_) ?_
        show G (T33.setTop (mkF m 262 #[.val (.int i0), .val (.int i1), .val (.long i2), .second, .val (.long i3), .second, .val (.long i4), .second, .val (.int n1), .val (.int k), .val (.ref b3), .val (.ref q_31), .val (.int 0)] []))
        refine hG _ _ (fun t_ k_ => XS.iconst X33.here hx rfl (hb hby at_262) k_) ?_
        refine hG _ _ (fun t_ k_ => XS.goto X33.here hx rfl (pc0 := 263) (pc' := 267) rfl (hb hby at_263) (by decide) (by decide) k_) ?_
        show G (T33.setTop (mkF m 267 #[.val (.int i0), .val (.int i1), .val (.long i2), .second, .val (.long i3), .second, .val (.long i4), .second, .val (.int n1), .val (.int k), .val (.ref b3), .val (.ref q_31), .val (.int 0)] [(.int 1)]))
        exact own_retNW hR hret (by simp) X33 hx (hb hby at_267) e33 SI33 (Nat.le_refl _) hZ33 C33 (by decide) (by decide) ⟨rfl, N33, K33⟩
      have hT := own_labT (xs := [r_4, r_7, r_10, r_13, r_16, r_19, r_22, r_25, r_28]) (n := n1) (k := k) rfl hn7
      show G (T31.setTop (mkF m 149 #[.val (.int i0), .val (.int i1), .val (.long i2), .second, .val (.long i3), .second, .val (.long i4), .second, .val (.int n1), .val (.int k), .val (.ref b3), .val (.ref q_31), .unset] []))
      refine hG _ _ (fun t_ k_ => XS.iload X31.here hx rfl (hb hby at_149) rfl k_) ?_
      show G (T31.setTop (mkF m 151 #[.val (.int i0), .val (.int i1), .val (.long i2), .second, .val (.long i3), .second, .val (.long i4), .second, .val (.int n1), .val (.int k), .val (.ref b3), .val (.ref q_31), .unset] [(.int k)]))
      by_cases hc151_34 : k < (0 : Int32)
      · skip
        refine hG _ _ (fun t_ k_ => XS.ifYes X31.here hx rfl (pc0 := 151) (pc' := 247) rfl (hb hby at_151) rfl ((if0 _ _).trans (tlt hc151_34).1) (by decide) (by decide) k_) ?_
        show G (T31.setTop (mkF m 247 #[.val (.int i0), .val (.int i1), .val (.long i2), .second, .val (.long i3), .second, .val (.long i4), .second, .val (.int n1), .val (.int k), .val (.ref b3), .val (.ref q_31), .unset] []))
        refine hG _ _ (fun t_ k_ => XS.iconst X31.here hx rfl (hb hby at_247) k_) ?_
        show G (T31.setTop (mkF m 248 #[.val (.int i0), .val (.int i1), .val (.long i2), .second, .val (.long i3), .second, .val (.long i4), .second, .val (.int n1), .val (.int k), .val (.ref b3), .val (.ref q_31), .unset] [(.int 0)]))
        exact jn0 (own_labN hc151_34)
      · skip
        refine hG _ _ (fun t_ k_ => XS.ifNo X31.here hx rfl (hb hby at_151) rfl ((if0 _ _).trans (flt hc151_34).1) k_) ?_
        show G (T31.setTop (mkF m 154 #[.val (.int i0), .val (.int i1), .val (.long i2), .second, .val (.long i3), .second, .val (.long i4), .second, .val (.int n1), .val (.int k), .val (.ref b3), .val (.ref q_31), .unset] []))
        refine hG _ _ (fun t_ k_ => XS.iload X31.here hx rfl (hb hby at_154) rfl k_) ?_
        refine hG _ _ (fun t_ k_ => XS.iload X31.here hx rfl (hb hby at_156) rfl k_) ?_
        refine hG _ _ (fun t_ k_ => XS.iconst X31.here hx rfl (hb hby at_158) k_) ?_
        refine hG _ _ (fun t_ k_ => XS.isub X31.here hx rfl (hb hby at_159) rfl k_) ?_
        show G (T31.setTop (mkF m 160 #[.val (.int i0), .val (.int i1), .val (.long i2), .second, .val (.long i3), .second, .val (.long i4), .second, .val (.int n1), .val (.int k), .val (.ref b3), .val (.ref q_31), .unset] [(.int (n1 - (4 : Int32))), (.int k)]))
        by_cases hc160_35 : (n1 - (4 : Int32)) < k
        · skip
          refine hG _ _ (fun t_ k_ => XS.icmpYes X31.here hx rfl (pc0 := 160) (pc' := 247) rfl (hb hby at_160) rfl (tlt hc160_35).2.2.1 (by decide) (by decide) k_) ?_
          show G (T31.setTop (mkF m 247 #[.val (.int i0), .val (.int i1), .val (.long i2), .second, .val (.long i3), .second, .val (.long i4), .second, .val (.int n1), .val (.int k), .val (.ref b3), .val (.ref q_31), .unset] []))
          refine hG _ _ (fun t_ k_ => XS.iconst X31.here hx rfl (hb hby at_247) k_) ?_
          show G (T31.setTop (mkF m 248 #[.val (.int i0), .val (.int i1), .val (.long i2), .second, .val (.long i3), .second, .val (.long i4), .second, .val (.int n1), .val (.int k), .val (.ref b3), .val (.ref q_31), .unset] [(.int 0)]))
          exact jn0 (fun q => (hT.mp q).2.1 hc160_35)
        · skip
          refine hG _ _ (fun t_ k_ => XS.icmpNo X31.here hx rfl (hb hby at_160) rfl (flt hc160_35).2.2.1 k_) ?_
          show G (T31.setTop (mkF m 163 #[.val (.int i0), .val (.int i1), .val (.long i2), .second, .val (.long i3), .second, .val (.long i4), .second, .val (.int n1), .val (.int k), .val (.ref b3), .val (.ref q_31), .unset] []))
          rcases own_in3 hn7 hc151_34 hc160_35 with rfl | rfl | rfl | rfl
          · skip
            show G (T31.setTop (mkF m 163 #[.val (.int i0), .val (.int i1), .val (.long i2), .second, .val (.long i3), .second, .val (.long i4), .second, .val (.int n1), .val (.int 0), .val (.ref b3), .val (.ref q_31), .unset] []))
            refine hG _ _ (fun t_ k_ => XS.aload X31.here hx rfl (hb hby at_163) rfl rfl k_) ?_
            refine hG _ _ (fun t_ k_ => XS.iload X31.here hx rfl (hb hby at_165) rfl k_) ?_
            show G (T31.setTop (mkF m 167 #[.val (.int i0), .val (.int i1), .val (.long i2), .second, .val (.long i3), .second, .val (.long i4), .second, .val (.int n1), .val (.int 0), .val (.ref b3), .val (.ref q_31), .unset] [(.int 0), (.ref b3)]))
            have f37 := (V29.keep J31 nin0)
            obtain ⟨c36, Ar36, q36, S36, M36, H36, G36⟩ := id f37
            have hin36 : ¬ ((0 : Int32) < 0 ∨ c36.slots.size ≤ (0 : Int32).toNatClampNeg) := inb_of S36 ⟨by decide, by decide⟩
            refine hG _ _ (X31.caload hx (j := (0 : Int32)) (v := (.int r_4)) (by rw [e31]; exact Ar36.1) (State.isArrayOf_alike hZ31.alike Ar36.2.1) Ar36.2.2 hin36 (Has.at H36 hin36 rfl) (g := (mkF m 167 #[.val (.int i0), .val (.int i1), .val (.long i2), .second, .val (.long i3), .second, .val (.long i4), .second, .val (.int n1), .val (.int 0), .val (.ref b3), .val (.ref q_31), .unset] [(.int 0), (.ref b3)])) rfl rfl (hb hby at_167)) ?_
            show G (T31.setTop (mkF m 168 #[.val (.int i0), .val (.int i1), .val (.long i2), .second, .val (.long i3), .second, .val (.long i4), .second, .val (.int n1), .val (.int 0), .val (.ref b3), .val (.ref q_31), .unset] [(.int r_4)]))
            refine hG _ _ (fun t_ k_ => XS.bipush X31.here hx rfl (hb hby at_168) k_) ?_
            show G (T31.setTop (mkF m 170 #[.val (.int i0), .val (.int i1), .val (.long i2), .second, .val (.long i3), .second, .val (.long i4), .second, .val (.int n1), .val (.int 0), .val (.ref b3), .val (.ref q_31), .unset] [(.int 97), (.int r_4)]))
            by_cases hc170_38 : r_4 = (97 : Int32)
            · skip
              refine hG _ _ (fun t_ k_ => XS.icmpYes X31.here hx rfl (pc0 := 170) (pc' := 183) rfl (hb hby at_170) rfl (teq hc170_38).1 (by decide) (by decide) k_) ?_
              show G (T31.setTop (mkF m 183 #[.val (.int i0), .val (.int i1), .val (.long i2), .second, .val (.long i3), .second, .val (.long i4), .second, .val (.int n1), .val (.int 0), .val (.ref b3), .val (.ref q_31), .unset] []))
              refine hG _ _ (fun t_ k_ => XS.aload X31.here hx rfl (hb hby at_183) rfl rfl k_) ?_
              refine hG _ _ (fun t_ k_ => XS.iload X31.here hx rfl (hb hby at_185) rfl k_) ?_
              refine hG _ _ (fun t_ k_ => XS.iconst X31.here hx rfl (hb hby at_187) k_) ?_
              refine hG _ _ (fun t_ k_ => XS.iadd X31.here hx rfl (hb hby at_188) rfl k_) ?_
              show G (T31.setTop (mkF m 189 #[.val (.int i0), .val (.int i1), .val (.long i2), .second, .val (.long i3), .second, .val (.long i4), .second, .val (.int n1), .val (.int 0), .val (.ref b3), .val (.ref q_31), .unset] [(.int ((0 : Int32) + (1 : Int32))), (.ref b3)]))
              rw [show ((0 : Int32) + (1 : Int32)) = (1 : Int32) from by decide]
              show G (T31.setTop (mkF m 189 #[.val (.int i0), .val (.int i1), .val (.long i2), .second, .val (.long i3), .second, .val (.long i4), .second, .val (.int n1), .val (.int 0), .val (.ref b3), .val (.ref q_31), .unset] [(.int 1), (.ref b3)]))
              obtain ⟨c39, Ar39, q39, S39, M39, H39, G39⟩ := id f37
              have hin39 : ¬ ((1 : Int32) < 0 ∨ c39.slots.size ≤ (1 : Int32).toNatClampNeg) := inb_of S39 ⟨by decide, by decide⟩
              refine hG _ _ (X31.caload hx (j := (1 : Int32)) (v := (.int r_7)) (by rw [e31]; exact Ar39.1) (State.isArrayOf_alike hZ31.alike Ar39.2.1) Ar39.2.2 hin39 (Has.at H39 hin39 rfl) (g := (mkF m 189 #[.val (.int i0), .val (.int i1), .val (.long i2), .second, .val (.long i3), .second, .val (.long i4), .second, .val (.int n1), .val (.int 0), .val (.ref b3), .val (.ref q_31), .unset] [(.int 1), (.ref b3)])) rfl rfl (hb hby at_189)) ?_
              show G (T31.setTop (mkF m 190 #[.val (.int i0), .val (.int i1), .val (.long i2), .second, .val (.long i3), .second, .val (.long i4), .second, .val (.int n1), .val (.int 0), .val (.ref b3), .val (.ref q_31), .unset] [(.int r_7)]))
              refine hG _ _ (fun t_ k_ => XS.bipush X31.here hx rfl (hb hby at_190) k_) ?_
              show G (T31.setTop (mkF m 192 #[.val (.int i0), .val (.int i1), .val (.long i2), .second, .val (.long i3), .second, .val (.long i4), .second, .val (.int n1), .val (.int 0), .val (.ref b3), .val (.ref q_31), .unset] [(.int 114), (.int r_7)]))
              by_cases hc192_40 : r_7 = (114 : Int32)
              · skip
                refine hG _ _ (fun t_ k_ => XS.icmpYes X31.here hx rfl (pc0 := 192) (pc' := 207) rfl (hb hby at_192) rfl (teq hc192_40).1 (by decide) (by decide) k_) ?_
                show G (T31.setTop (mkF m 207 #[.val (.int i0), .val (.int i1), .val (.long i2), .second, .val (.long i3), .second, .val (.long i4), .second, .val (.int n1), .val (.int 0), .val (.ref b3), .val (.ref q_31), .unset] []))
                refine hG _ _ (fun t_ k_ => XS.aload X31.here hx rfl (hb hby at_207) rfl rfl k_) ?_
                refine hG _ _ (fun t_ k_ => XS.iload X31.here hx rfl (hb hby at_209) rfl k_) ?_
                refine hG _ _ (fun t_ k_ => XS.iconst X31.here hx rfl (hb hby at_211) k_) ?_
                refine hG _ _ (fun t_ k_ => XS.iadd X31.here hx rfl (hb hby at_212) rfl k_) ?_
                show G (T31.setTop (mkF m 213 #[.val (.int i0), .val (.int i1), .val (.long i2), .second, .val (.long i3), .second, .val (.long i4), .second, .val (.int n1), .val (.int 0), .val (.ref b3), .val (.ref q_31), .unset] [(.int ((0 : Int32) + (2 : Int32))), (.ref b3)]))
                rw [show ((0 : Int32) + (2 : Int32)) = (2 : Int32) from by decide]
                show G (T31.setTop (mkF m 213 #[.val (.int i0), .val (.int i1), .val (.long i2), .second, .val (.long i3), .second, .val (.long i4), .second, .val (.int n1), .val (.int 0), .val (.ref b3), .val (.ref q_31), .unset] [(.int 2), (.ref b3)]))
                obtain ⟨c41, Ar41, q41, S41, M41, H41, G41⟩ := id f37
                have hin41 : ¬ ((2 : Int32) < 0 ∨ c41.slots.size ≤ (2 : Int32).toNatClampNeg) := inb_of S41 ⟨by decide, by decide⟩
                refine hG _ _ (X31.caload hx (j := (2 : Int32)) (v := (.int r_10)) (by rw [e31]; exact Ar41.1) (State.isArrayOf_alike hZ31.alike Ar41.2.1) Ar41.2.2 hin41 (Has.at H41 hin41 rfl) (g := (mkF m 213 #[.val (.int i0), .val (.int i1), .val (.long i2), .second, .val (.long i3), .second, .val (.long i4), .second, .val (.int n1), .val (.int 0), .val (.ref b3), .val (.ref q_31), .unset] [(.int 2), (.ref b3)])) rfl rfl (hb hby at_213)) ?_
                show G (T31.setTop (mkF m 214 #[.val (.int i0), .val (.int i1), .val (.long i2), .second, .val (.long i3), .second, .val (.long i4), .second, .val (.int n1), .val (.int 0), .val (.ref b3), .val (.ref q_31), .unset] [(.int r_10)]))
                refine hG _ _ (fun t_ k_ => XS.bipush X31.here hx rfl (hb hby at_214) k_) ?_
                show G (T31.setTop (mkF m 216 #[.val (.int i0), .val (.int i1), .val (.long i2), .second, .val (.long i3), .second, .val (.long i4), .second, .val (.int n1), .val (.int 0), .val (.ref b3), .val (.ref q_31), .unset] [(.int 107), (.int r_10)]))
                by_cases hc216_42 : r_10 = (107 : Int32)
                · skip
                  refine hG _ _ (fun t_ k_ => XS.icmpYes X31.here hx rfl (pc0 := 216) (pc' := 231) rfl (hb hby at_216) rfl (teq hc216_42).1 (by decide) (by decide) k_) ?_
                  show G (T31.setTop (mkF m 231 #[.val (.int i0), .val (.int i1), .val (.long i2), .second, .val (.long i3), .second, .val (.long i4), .second, .val (.int n1), .val (.int 0), .val (.ref b3), .val (.ref q_31), .unset] []))
                  refine hG _ _ (fun t_ k_ => XS.aload X31.here hx rfl (hb hby at_231) rfl rfl k_) ?_
                  refine hG _ _ (fun t_ k_ => XS.iload X31.here hx rfl (hb hby at_233) rfl k_) ?_
                  refine hG _ _ (fun t_ k_ => XS.iconst X31.here hx rfl (hb hby at_235) k_) ?_
                  refine hG _ _ (fun t_ k_ => XS.iadd X31.here hx rfl (hb hby at_236) rfl k_) ?_
                  show G (T31.setTop (mkF m 237 #[.val (.int i0), .val (.int i1), .val (.long i2), .second, .val (.long i3), .second, .val (.long i4), .second, .val (.int n1), .val (.int 0), .val (.ref b3), .val (.ref q_31), .unset] [(.int ((0 : Int32) + (3 : Int32))), (.ref b3)]))
                  rw [show ((0 : Int32) + (3 : Int32)) = (3 : Int32) from by decide]
                  show G (T31.setTop (mkF m 237 #[.val (.int i0), .val (.int i1), .val (.long i2), .second, .val (.long i3), .second, .val (.long i4), .second, .val (.int n1), .val (.int 0), .val (.ref b3), .val (.ref q_31), .unset] [(.int 3), (.ref b3)]))
                  obtain ⟨c43, Ar43, q43, S43, M43, H43, G43⟩ := id f37
                  have hin43 : ¬ ((3 : Int32) < 0 ∨ c43.slots.size ≤ (3 : Int32).toNatClampNeg) := inb_of S43 ⟨by decide, by decide⟩
                  refine hG _ _ (X31.caload hx (j := (3 : Int32)) (v := (.int r_13)) (by rw [e31]; exact Ar43.1) (State.isArrayOf_alike hZ31.alike Ar43.2.1) Ar43.2.2 hin43 (Has.at H43 hin43 rfl) (g := (mkF m 237 #[.val (.int i0), .val (.int i1), .val (.long i2), .second, .val (.long i3), .second, .val (.long i4), .second, .val (.int n1), .val (.int 0), .val (.ref b3), .val (.ref q_31), .unset] [(.int 3), (.ref b3)])) rfl rfl (hb hby at_237)) ?_
                  show G (T31.setTop (mkF m 238 #[.val (.int i0), .val (.int i1), .val (.long i2), .second, .val (.long i3), .second, .val (.long i4), .second, .val (.int n1), .val (.int 0), .val (.ref b3), .val (.ref q_31), .unset] [(.int r_13)]))
                  refine hG _ _ (fun t_ k_ => XS.bipush X31.here hx rfl (hb hby at_238) k_) ?_
                  show G (T31.setTop (mkF m 240 #[.val (.int i0), .val (.int i1), .val (.long i2), .second, .val (.long i3), .second, .val (.long i4), .second, .val (.int n1), .val (.int 0), .val (.ref b3), .val (.ref q_31), .unset] [(.int 58), (.int r_13)]))
                  by_cases hc240_44 : r_13 = (58 : Int32)
                  · skip
                    refine hG _ _ (fun t_ k_ => XS.icmpNo X31.here hx rfl (hb hby at_240) rfl (teq hc240_44).2 k_) ?_
                    show G (T31.setTop (mkF m 243 #[.val (.int i0), .val (.int i1), .val (.long i2), .second, .val (.long i3), .second, .val (.long i4), .second, .val (.int n1), .val (.int 0), .val (.ref b3), .val (.ref q_31), .unset] []))
                    refine hG _ _ (fun t_ k_ => XS.iconst X31.here hx rfl (hb hby at_243) k_) ?_
                    refine hG _ _ (fun t_ k_ => XS.goto X31.here hx rfl (pc0 := 244) (pc' := 248) rfl (hb hby at_244) (by decide) (by decide) k_) ?_
                    show G (T31.setTop (mkF m 248 #[.val (.int i0), .val (.int i1), .val (.long i2), .second, .val (.long i3), .second, .val (.long i4), .second, .val (.int n1), .val (.int 0), .val (.ref b3), .val (.ref q_31), .unset] [(.int 1)]))
                    exact jn1 (hT.mpr ⟨hc151_34, hc160_35, Or.inl hc170_38, Or.inl hc192_40, Or.inl hc216_42, hc240_44⟩)
                  · skip
                    refine hG _ _ (fun t_ k_ => XS.icmpYes X31.here hx rfl (pc0 := 240) (pc' := 247) rfl (hb hby at_240) rfl (feq hc240_44).2 (by decide) (by decide) k_) ?_
                    show G (T31.setTop (mkF m 247 #[.val (.int i0), .val (.int i1), .val (.long i2), .second, .val (.long i3), .second, .val (.long i4), .second, .val (.int n1), .val (.int 0), .val (.ref b3), .val (.ref q_31), .unset] []))
                    refine hG _ _ (fun t_ k_ => XS.iconst X31.here hx rfl (hb hby at_247) k_) ?_
                    show G (T31.setTop (mkF m 248 #[.val (.int i0), .val (.int i1), .val (.long i2), .second, .val (.long i3), .second, .val (.long i4), .second, .val (.int n1), .val (.int 0), .val (.ref b3), .val (.ref q_31), .unset] [(.int 0)]))
                    exact jn0 (fun q => hc240_44 (hT.mp q).2.2.2.2.2)
                · skip
                  refine hG _ _ (fun t_ k_ => XS.icmpNo X31.here hx rfl (hb hby at_216) rfl (feq hc216_42).1 k_) ?_
                  show G (T31.setTop (mkF m 219 #[.val (.int i0), .val (.int i1), .val (.long i2), .second, .val (.long i3), .second, .val (.long i4), .second, .val (.int n1), .val (.int 0), .val (.ref b3), .val (.ref q_31), .unset] []))
                  refine hG _ _ (fun t_ k_ => XS.aload X31.here hx rfl (hb hby at_219) rfl rfl k_) ?_
                  refine hG _ _ (fun t_ k_ => XS.iload X31.here hx rfl (hb hby at_221) rfl k_) ?_
                  refine hG _ _ (fun t_ k_ => XS.iconst X31.here hx rfl (hb hby at_223) k_) ?_
                  refine hG _ _ (fun t_ k_ => XS.iadd X31.here hx rfl (hb hby at_224) rfl k_) ?_
                  show G (T31.setTop (mkF m 225 #[.val (.int i0), .val (.int i1), .val (.long i2), .second, .val (.long i3), .second, .val (.long i4), .second, .val (.int n1), .val (.int 0), .val (.ref b3), .val (.ref q_31), .unset] [(.int ((0 : Int32) + (2 : Int32))), (.ref b3)]))
                  rw [show ((0 : Int32) + (2 : Int32)) = (2 : Int32) from by decide]
                  show G (T31.setTop (mkF m 225 #[.val (.int i0), .val (.int i1), .val (.long i2), .second, .val (.long i3), .second, .val (.long i4), .second, .val (.int n1), .val (.int 0), .val (.ref b3), .val (.ref q_31), .unset] [(.int 2), (.ref b3)]))
                  obtain ⟨c45, Ar45, q45, S45, M45, H45, G45⟩ := id f37
                  have hin45 : ¬ ((2 : Int32) < 0 ∨ c45.slots.size ≤ (2 : Int32).toNatClampNeg) := inb_of S45 ⟨by decide, by decide⟩
                  refine hG _ _ (X31.caload hx (j := (2 : Int32)) (v := (.int r_10)) (by rw [e31]; exact Ar45.1) (State.isArrayOf_alike hZ31.alike Ar45.2.1) Ar45.2.2 hin45 (Has.at H45 hin45 rfl) (g := (mkF m 225 #[.val (.int i0), .val (.int i1), .val (.long i2), .second, .val (.long i3), .second, .val (.long i4), .second, .val (.int n1), .val (.int 0), .val (.ref b3), .val (.ref q_31), .unset] [(.int 2), (.ref b3)])) rfl rfl (hb hby at_225)) ?_
                  show G (T31.setTop (mkF m 226 #[.val (.int i0), .val (.int i1), .val (.long i2), .second, .val (.long i3), .second, .val (.long i4), .second, .val (.int n1), .val (.int 0), .val (.ref b3), .val (.ref q_31), .unset] [(.int r_10)]))
                  refine hG _ _ (fun t_ k_ => XS.bipush X31.here hx rfl (hb hby at_226) k_) ?_
                  show G (T31.setTop (mkF m 228 #[.val (.int i0), .val (.int i1), .val (.long i2), .second, .val (.long i3), .second, .val (.long i4), .second, .val (.int n1), .val (.int 0), .val (.ref b3), .val (.ref q_31), .unset] [(.int 75), (.int r_10)]))
                  by_cases hc228_46 : r_10 = (75 : Int32)
                  · skip
                    refine hG _ _ (fun t_ k_ => XS.icmpNo X31.here hx rfl (hb hby at_228) rfl (teq hc228_46).2 k_) ?_
                    show G (T31.setTop (mkF m 231 #[.val (.int i0), .val (.int i1), .val (.long i2), .second, .val (.long i3), .second, .val (.long i4), .second, .val (.int n1), .val (.int 0), .val (.ref b3), .val (.ref q_31), .unset] []))
                    refine hG _ _ (fun t_ k_ => XS.aload X31.here hx rfl (hb hby at_231) rfl rfl k_) ?_
                    refine hG _ _ (fun t_ k_ => XS.iload X31.here hx rfl (hb hby at_233) rfl k_) ?_
                    refine hG _ _ (fun t_ k_ => XS.iconst X31.here hx rfl (hb hby at_235) k_) ?_
                    refine hG _ _ (fun t_ k_ => XS.iadd X31.here hx rfl (hb hby at_236) rfl k_) ?_
                    show G (T31.setTop (mkF m 237 #[.val (.int i0), .val (.int i1), .val (.long i2), .second, .val (.long i3), .second, .val (.long i4), .second, .val (.int n1), .val (.int 0), .val (.ref b3), .val (.ref q_31), .unset] [(.int ((0 : Int32) + (3 : Int32))), (.ref b3)]))
                    rw [show ((0 : Int32) + (3 : Int32)) = (3 : Int32) from by decide]
                    show G (T31.setTop (mkF m 237 #[.val (.int i0), .val (.int i1), .val (.long i2), .second, .val (.long i3), .second, .val (.long i4), .second, .val (.int n1), .val (.int 0), .val (.ref b3), .val (.ref q_31), .unset] [(.int 3), (.ref b3)]))
                    obtain ⟨c47, Ar47, q47, S47, M47, H47, G47⟩ := id f37
                    have hin47 : ¬ ((3 : Int32) < 0 ∨ c47.slots.size ≤ (3 : Int32).toNatClampNeg) := inb_of S47 ⟨by decide, by decide⟩
                    refine hG _ _ (X31.caload hx (j := (3 : Int32)) (v := (.int r_13)) (by rw [e31]; exact Ar47.1) (State.isArrayOf_alike hZ31.alike Ar47.2.1) Ar47.2.2 hin47 (Has.at H47 hin47 rfl) (g := (mkF m 237 #[.val (.int i0), .val (.int i1), .val (.long i2), .second, .val (.long i3), .second, .val (.long i4), .second, .val (.int n1), .val (.int 0), .val (.ref b3), .val (.ref q_31), .unset] [(.int 3), (.ref b3)])) rfl rfl (hb hby at_237)) ?_
                    show G (T31.setTop (mkF m 238 #[.val (.int i0), .val (.int i1), .val (.long i2), .second, .val (.long i3), .second, .val (.long i4), .second, .val (.int n1), .val (.int 0), .val (.ref b3), .val (.ref q_31), .unset] [(.int r_13)]))
                    refine hG _ _ (fun t_ k_ => XS.bipush X31.here hx rfl (hb hby at_238) k_) ?_
                    show G (T31.setTop (mkF m 240 #[.val (.int i0), .val (.int i1), .val (.long i2), .second, .val (.long i3), .second, .val (.long i4), .second, .val (.int n1), .val (.int 0), .val (.ref b3), .val (.ref q_31), .unset] [(.int 58), (.int r_13)]))
                    by_cases hc240_48 : r_13 = (58 : Int32)
                    · skip
                      refine hG _ _ (fun t_ k_ => XS.icmpNo X31.here hx rfl (hb hby at_240) rfl (teq hc240_48).2 k_) ?_
                      show G (T31.setTop (mkF m 243 #[.val (.int i0), .val (.int i1), .val (.long i2), .second, .val (.long i3), .second, .val (.long i4), .second, .val (.int n1), .val (.int 0), .val (.ref b3), .val (.ref q_31), .unset] []))
                      refine hG _ _ (fun t_ k_ => XS.iconst X31.here hx rfl (hb hby at_243) k_) ?_
                      refine hG _ _ (fun t_ k_ => XS.goto X31.here hx rfl (pc0 := 244) (pc' := 248) rfl (hb hby at_244) (by decide) (by decide) k_) ?_
                      show G (T31.setTop (mkF m 248 #[.val (.int i0), .val (.int i1), .val (.long i2), .second, .val (.long i3), .second, .val (.long i4), .second, .val (.int n1), .val (.int 0), .val (.ref b3), .val (.ref q_31), .unset] [(.int 1)]))
                      exact jn1 (hT.mpr ⟨hc151_34, hc160_35, Or.inl hc170_38, Or.inl hc192_40, Or.inr hc228_46, hc240_48⟩)
                    · skip
                      refine hG _ _ (fun t_ k_ => XS.icmpYes X31.here hx rfl (pc0 := 240) (pc' := 247) rfl (hb hby at_240) rfl (feq hc240_48).2 (by decide) (by decide) k_) ?_
                      show G (T31.setTop (mkF m 247 #[.val (.int i0), .val (.int i1), .val (.long i2), .second, .val (.long i3), .second, .val (.long i4), .second, .val (.int n1), .val (.int 0), .val (.ref b3), .val (.ref q_31), .unset] []))
                      refine hG _ _ (fun t_ k_ => XS.iconst X31.here hx rfl (hb hby at_247) k_) ?_
                      show G (T31.setTop (mkF m 248 #[.val (.int i0), .val (.int i1), .val (.long i2), .second, .val (.long i3), .second, .val (.long i4), .second, .val (.int n1), .val (.int 0), .val (.ref b3), .val (.ref q_31), .unset] [(.int 0)]))
                      exact jn0 (fun q => hc240_48 (hT.mp q).2.2.2.2.2)
                  · skip
                    refine hG _ _ (fun t_ k_ => XS.icmpYes X31.here hx rfl (pc0 := 228) (pc' := 247) rfl (hb hby at_228) rfl (feq hc228_46).2 (by decide) (by decide) k_) ?_
                    show G (T31.setTop (mkF m 247 #[.val (.int i0), .val (.int i1), .val (.long i2), .second, .val (.long i3), .second, .val (.long i4), .second, .val (.int n1), .val (.int 0), .val (.ref b3), .val (.ref q_31), .unset] []))
                    refine hG _ _ (fun t_ k_ => XS.iconst X31.here hx rfl (hb hby at_247) k_) ?_
                    show G (T31.setTop (mkF m 248 #[.val (.int i0), .val (.int i1), .val (.long i2), .second, .val (.long i3), .second, .val (.long i4), .second, .val (.int n1), .val (.int 0), .val (.ref b3), .val (.ref q_31), .unset] [(.int 0)]))
                    exact jn0 (fun q => (hT.mp q).2.2.2.2.1.elim hc216_42 hc228_46)
              · skip
                refine hG _ _ (fun t_ k_ => XS.icmpNo X31.here hx rfl (hb hby at_192) rfl (feq hc192_40).1 k_) ?_
                show G (T31.setTop (mkF m 195 #[.val (.int i0), .val (.int i1), .val (.long i2), .second, .val (.long i3), .second, .val (.long i4), .second, .val (.int n1), .val (.int 0), .val (.ref b3), .val (.ref q_31), .unset] []))
                refine hG _ _ (fun t_ k_ => XS.aload X31.here hx rfl (hb hby at_195) rfl rfl k_) ?_
                refine hG _ _ (fun t_ k_ => XS.iload X31.here hx rfl (hb hby at_197) rfl k_) ?_
                refine hG _ _ (fun t_ k_ => XS.iconst X31.here hx rfl (hb hby at_199) k_) ?_
                refine hG _ _ (fun t_ k_ => XS.iadd X31.here hx rfl (hb hby at_200) rfl k_) ?_
                show G (T31.setTop (mkF m 201 #[.val (.int i0), .val (.int i1), .val (.long i2), .second, .val (.long i3), .second, .val (.long i4), .second, .val (.int n1), .val (.int 0), .val (.ref b3), .val (.ref q_31), .unset] [(.int ((0 : Int32) + (1 : Int32))), (.ref b3)]))
                rw [show ((0 : Int32) + (1 : Int32)) = (1 : Int32) from by decide]
                show G (T31.setTop (mkF m 201 #[.val (.int i0), .val (.int i1), .val (.long i2), .second, .val (.long i3), .second, .val (.long i4), .second, .val (.int n1), .val (.int 0), .val (.ref b3), .val (.ref q_31), .unset] [(.int 1), (.ref b3)]))
                obtain ⟨c49, Ar49, q49, S49, M49, H49, G49⟩ := id f37
                have hin49 : ¬ ((1 : Int32) < 0 ∨ c49.slots.size ≤ (1 : Int32).toNatClampNeg) := inb_of S49 ⟨by decide, by decide⟩
                refine hG _ _ (X31.caload hx (j := (1 : Int32)) (v := (.int r_7)) (by rw [e31]; exact Ar49.1) (State.isArrayOf_alike hZ31.alike Ar49.2.1) Ar49.2.2 hin49 (Has.at H49 hin49 rfl) (g := (mkF m 201 #[.val (.int i0), .val (.int i1), .val (.long i2), .second, .val (.long i3), .second, .val (.long i4), .second, .val (.int n1), .val (.int 0), .val (.ref b3), .val (.ref q_31), .unset] [(.int 1), (.ref b3)])) rfl rfl (hb hby at_201)) ?_
                show G (T31.setTop (mkF m 202 #[.val (.int i0), .val (.int i1), .val (.long i2), .second, .val (.long i3), .second, .val (.long i4), .second, .val (.int n1), .val (.int 0), .val (.ref b3), .val (.ref q_31), .unset] [(.int r_7)]))
                refine hG _ _ (fun t_ k_ => XS.bipush X31.here hx rfl (hb hby at_202) k_) ?_
                show G (T31.setTop (mkF m 204 #[.val (.int i0), .val (.int i1), .val (.long i2), .second, .val (.long i3), .second, .val (.long i4), .second, .val (.int n1), .val (.int 0), .val (.ref b3), .val (.ref q_31), .unset] [(.int 82), (.int r_7)]))
                by_cases hc204_50 : r_7 = (82 : Int32)
                · skip
                  refine hG _ _ (fun t_ k_ => XS.icmpNo X31.here hx rfl (hb hby at_204) rfl (teq hc204_50).2 k_) ?_
                  show G (T31.setTop (mkF m 207 #[.val (.int i0), .val (.int i1), .val (.long i2), .second, .val (.long i3), .second, .val (.long i4), .second, .val (.int n1), .val (.int 0), .val (.ref b3), .val (.ref q_31), .unset] []))
                  refine hG _ _ (fun t_ k_ => XS.aload X31.here hx rfl (hb hby at_207) rfl rfl k_) ?_
                  refine hG _ _ (fun t_ k_ => XS.iload X31.here hx rfl (hb hby at_209) rfl k_) ?_
                  refine hG _ _ (fun t_ k_ => XS.iconst X31.here hx rfl (hb hby at_211) k_) ?_
                  refine hG _ _ (fun t_ k_ => XS.iadd X31.here hx rfl (hb hby at_212) rfl k_) ?_
                  show G (T31.setTop (mkF m 213 #[.val (.int i0), .val (.int i1), .val (.long i2), .second, .val (.long i3), .second, .val (.long i4), .second, .val (.int n1), .val (.int 0), .val (.ref b3), .val (.ref q_31), .unset] [(.int ((0 : Int32) + (2 : Int32))), (.ref b3)]))
                  rw [show ((0 : Int32) + (2 : Int32)) = (2 : Int32) from by decide]
                  show G (T31.setTop (mkF m 213 #[.val (.int i0), .val (.int i1), .val (.long i2), .second, .val (.long i3), .second, .val (.long i4), .second, .val (.int n1), .val (.int 0), .val (.ref b3), .val (.ref q_31), .unset] [(.int 2), (.ref b3)]))
                  obtain ⟨c51, Ar51, q51, S51, M51, H51, G51⟩ := id f37
                  have hin51 : ¬ ((2 : Int32) < 0 ∨ c51.slots.size ≤ (2 : Int32).toNatClampNeg) := inb_of S51 ⟨by decide, by decide⟩
                  refine hG _ _ (X31.caload hx (j := (2 : Int32)) (v := (.int r_10)) (by rw [e31]; exact Ar51.1) (State.isArrayOf_alike hZ31.alike Ar51.2.1) Ar51.2.2 hin51 (Has.at H51 hin51 rfl) (g := (mkF m 213 #[.val (.int i0), .val (.int i1), .val (.long i2), .second, .val (.long i3), .second, .val (.long i4), .second, .val (.int n1), .val (.int 0), .val (.ref b3), .val (.ref q_31), .unset] [(.int 2), (.ref b3)])) rfl rfl (hb hby at_213)) ?_
                  show G (T31.setTop (mkF m 214 #[.val (.int i0), .val (.int i1), .val (.long i2), .second, .val (.long i3), .second, .val (.long i4), .second, .val (.int n1), .val (.int 0), .val (.ref b3), .val (.ref q_31), .unset] [(.int r_10)]))
                  refine hG _ _ (fun t_ k_ => XS.bipush X31.here hx rfl (hb hby at_214) k_) ?_
                  show G (T31.setTop (mkF m 216 #[.val (.int i0), .val (.int i1), .val (.long i2), .second, .val (.long i3), .second, .val (.long i4), .second, .val (.int n1), .val (.int 0), .val (.ref b3), .val (.ref q_31), .unset] [(.int 107), (.int r_10)]))
                  by_cases hc216_52 : r_10 = (107 : Int32)
                  · skip
                    refine hG _ _ (fun t_ k_ => XS.icmpYes X31.here hx rfl (pc0 := 216) (pc' := 231) rfl (hb hby at_216) rfl (teq hc216_52).1 (by decide) (by decide) k_) ?_
                    show G (T31.setTop (mkF m 231 #[.val (.int i0), .val (.int i1), .val (.long i2), .second, .val (.long i3), .second, .val (.long i4), .second, .val (.int n1), .val (.int 0), .val (.ref b3), .val (.ref q_31), .unset] []))
                    refine hG _ _ (fun t_ k_ => XS.aload X31.here hx rfl (hb hby at_231) rfl rfl k_) ?_
                    refine hG _ _ (fun t_ k_ => XS.iload X31.here hx rfl (hb hby at_233) rfl k_) ?_
                    refine hG _ _ (fun t_ k_ => XS.iconst X31.here hx rfl (hb hby at_235) k_) ?_
                    refine hG _ _ (fun t_ k_ => XS.iadd X31.here hx rfl (hb hby at_236) rfl k_) ?_
                    show G (T31.setTop (mkF m 237 #[.val (.int i0), .val (.int i1), .val (.long i2), .second, .val (.long i3), .second, .val (.long i4), .second, .val (.int n1), .val (.int 0), .val (.ref b3), .val (.ref q_31), .unset] [(.int ((0 : Int32) + (3 : Int32))), (.ref b3)]))
                    rw [show ((0 : Int32) + (3 : Int32)) = (3 : Int32) from by decide]
                    show G (T31.setTop (mkF m 237 #[.val (.int i0), .val (.int i1), .val (.long i2), .second, .val (.long i3), .second, .val (.long i4), .second, .val (.int n1), .val (.int 0), .val (.ref b3), .val (.ref q_31), .unset] [(.int 3), (.ref b3)]))
                    obtain ⟨c53, Ar53, q53, S53, M53, H53, G53⟩ := id f37
                    have hin53 : ¬ ((3 : Int32) < 0 ∨ c53.slots.size ≤ (3 : Int32).toNatClampNeg) := inb_of S53 ⟨by decide, by decide⟩
                    refine hG _ _ (X31.caload hx (j := (3 : Int32)) (v := (.int r_13)) (by rw [e31]; exact Ar53.1) (State.isArrayOf_alike hZ31.alike Ar53.2.1) Ar53.2.2 hin53 (Has.at H53 hin53 rfl) (g := (mkF m 237 #[.val (.int i0), .val (.int i1), .val (.long i2), .second, .val (.long i3), .second, .val (.long i4), .second, .val (.int n1), .val (.int 0), .val (.ref b3), .val (.ref q_31), .unset] [(.int 3), (.ref b3)])) rfl rfl (hb hby at_237)) ?_
                    show G (T31.setTop (mkF m 238 #[.val (.int i0), .val (.int i1), .val (.long i2), .second, .val (.long i3), .second, .val (.long i4), .second, .val (.int n1), .val (.int 0), .val (.ref b3), .val (.ref q_31), .unset] [(.int r_13)]))
                    refine hG _ _ (fun t_ k_ => XS.bipush X31.here hx rfl (hb hby at_238) k_) ?_
                    show G (T31.setTop (mkF m 240 #[.val (.int i0), .val (.int i1), .val (.long i2), .second, .val (.long i3), .second, .val (.long i4), .second, .val (.int n1), .val (.int 0), .val (.ref b3), .val (.ref q_31), .unset] [(.int 58), (.int r_13)]))
                    by_cases hc240_54 : r_13 = (58 : Int32)
                    · skip
                      refine hG _ _ (fun t_ k_ => XS.icmpNo X31.here hx rfl (hb hby at_240) rfl (teq hc240_54).2 k_) ?_
                      show G (T31.setTop (mkF m 243 #[.val (.int i0), .val (.int i1), .val (.long i2), .second, .val (.long i3), .second, .val (.long i4), .second, .val (.int n1), .val (.int 0), .val (.ref b3), .val (.ref q_31), .unset] []))
                      refine hG _ _ (fun t_ k_ => XS.iconst X31.here hx rfl (hb hby at_243) k_) ?_
                      refine hG _ _ (fun t_ k_ => XS.goto X31.here hx rfl (pc0 := 244) (pc' := 248) rfl (hb hby at_244) (by decide) (by decide) k_) ?_
                      show G (T31.setTop (mkF m 248 #[.val (.int i0), .val (.int i1), .val (.long i2), .second, .val (.long i3), .second, .val (.long i4), .second, .val (.int n1), .val (.int 0), .val (.ref b3), .val (.ref q_31), .unset] [(.int 1)]))
                      exact jn1 (hT.mpr ⟨hc151_34, hc160_35, Or.inl hc170_38, Or.inr hc204_50, Or.inl hc216_52, hc240_54⟩)
                    · skip
                      refine hG _ _ (fun t_ k_ => XS.icmpYes X31.here hx rfl (pc0 := 240) (pc' := 247) rfl (hb hby at_240) rfl (feq hc240_54).2 (by decide) (by decide) k_) ?_
                      show G (T31.setTop (mkF m 247 #[.val (.int i0), .val (.int i1), .val (.long i2), .second, .val (.long i3), .second, .val (.long i4), .second, .val (.int n1), .val (.int 0), .val (.ref b3), .val (.ref q_31), .unset] []))
                      refine hG _ _ (fun t_ k_ => XS.iconst X31.here hx rfl (hb hby at_247) k_) ?_
                      show G (T31.setTop (mkF m 248 #[.val (.int i0), .val (.int i1), .val (.long i2), .second, .val (.long i3), .second, .val (.long i4), .second, .val (.int n1), .val (.int 0), .val (.ref b3), .val (.ref q_31), .unset] [(.int 0)]))
                      exact jn0 (fun q => hc240_54 (hT.mp q).2.2.2.2.2)
                  · skip
                    refine hG _ _ (fun t_ k_ => XS.icmpNo X31.here hx rfl (hb hby at_216) rfl (feq hc216_52).1 k_) ?_
                    show G (T31.setTop (mkF m 219 #[.val (.int i0), .val (.int i1), .val (.long i2), .second, .val (.long i3), .second, .val (.long i4), .second, .val (.int n1), .val (.int 0), .val (.ref b3), .val (.ref q_31), .unset] []))
                    refine hG _ _ (fun t_ k_ => XS.aload X31.here hx rfl (hb hby at_219) rfl rfl k_) ?_
                    refine hG _ _ (fun t_ k_ => XS.iload X31.here hx rfl (hb hby at_221) rfl k_) ?_
                    refine hG _ _ (fun t_ k_ => XS.iconst X31.here hx rfl (hb hby at_223) k_) ?_
                    refine hG _ _ (fun t_ k_ => XS.iadd X31.here hx rfl (hb hby at_224) rfl k_) ?_
                    show G (T31.setTop (mkF m 225 #[.val (.int i0), .val (.int i1), .val (.long i2), .second, .val (.long i3), .second, .val (.long i4), .second, .val (.int n1), .val (.int 0), .val (.ref b3), .val (.ref q_31), .unset] [(.int ((0 : Int32) + (2 : Int32))), (.ref b3)]))
                    rw [show ((0 : Int32) + (2 : Int32)) = (2 : Int32) from by decide]
                    show G (T31.setTop (mkF m 225 #[.val (.int i0), .val (.int i1), .val (.long i2), .second, .val (.long i3), .second, .val (.long i4), .second, .val (.int n1), .val (.int 0), .val (.ref b3), .val (.ref q_31), .unset] [(.int 2), (.ref b3)]))
                    obtain ⟨c55, Ar55, q55, S55, M55, H55, G55⟩ := id f37
                    have hin55 : ¬ ((2 : Int32) < 0 ∨ c55.slots.size ≤ (2 : Int32).toNatClampNeg) := inb_of S55 ⟨by decide, by decide⟩
                    refine hG _ _ (X31.caload hx (j := (2 : Int32)) (v := (.int r_10)) (by rw [e31]; exact Ar55.1) (State.isArrayOf_alike hZ31.alike Ar55.2.1) Ar55.2.2 hin55 (Has.at H55 hin55 rfl) (g := (mkF m 225 #[.val (.int i0), .val (.int i1), .val (.long i2), .second, .val (.long i3), .second, .val (.long i4), .second, .val (.int n1), .val (.int 0), .val (.ref b3), .val (.ref q_31), .unset] [(.int 2), (.ref b3)])) rfl rfl (hb hby at_225)) ?_
                    show G (T31.setTop (mkF m 226 #[.val (.int i0), .val (.int i1), .val (.long i2), .second, .val (.long i3), .second, .val (.long i4), .second, .val (.int n1), .val (.int 0), .val (.ref b3), .val (.ref q_31), .unset] [(.int r_10)]))
                    refine hG _ _ (fun t_ k_ => XS.bipush X31.here hx rfl (hb hby at_226) k_) ?_
                    show G (T31.setTop (mkF m 228 #[.val (.int i0), .val (.int i1), .val (.long i2), .second, .val (.long i3), .second, .val (.long i4), .second, .val (.int n1), .val (.int 0), .val (.ref b3), .val (.ref q_31), .unset] [(.int 75), (.int r_10)]))
                    by_cases hc228_56 : r_10 = (75 : Int32)
                    · skip
                      refine hG _ _ (fun t_ k_ => XS.icmpNo X31.here hx rfl (hb hby at_228) rfl (teq hc228_56).2 k_) ?_
                      show G (T31.setTop (mkF m 231 #[.val (.int i0), .val (.int i1), .val (.long i2), .second, .val (.long i3), .second, .val (.long i4), .second, .val (.int n1), .val (.int 0), .val (.ref b3), .val (.ref q_31), .unset] []))
                      refine hG _ _ (fun t_ k_ => XS.aload X31.here hx rfl (hb hby at_231) rfl rfl k_) ?_
                      refine hG _ _ (fun t_ k_ => XS.iload X31.here hx rfl (hb hby at_233) rfl k_) ?_
                      refine hG _ _ (fun t_ k_ => XS.iconst X31.here hx rfl (hb hby at_235) k_) ?_
                      refine hG _ _ (fun t_ k_ => XS.iadd X31.here hx rfl (hb hby at_236) rfl k_) ?_
                      show G (T31.setTop (mkF m 237 #[.val (.int i0), .val (.int i1), .val (.long i2), .second, .val (.long i3), .second, .val (.long i4), .second, .val (.int n1), .val (.int 0), .val (.ref b3), .val (.ref q_31), .unset] [(.int ((0 : Int32) + (3 : Int32))), (.ref b3)]))
                      rw [show ((0 : Int32) + (3 : Int32)) = (3 : Int32) from by decide]
                      show G (T31.setTop (mkF m 237 #[.val (.int i0), .val (.int i1), .val (.long i2), .second, .val (.long i3), .second, .val (.long i4), .second, .val (.int n1), .val (.int 0), .val (.ref b3), .val (.ref q_31), .unset] [(.int 3), (.ref b3)]))
                      obtain ⟨c57, Ar57, q57, S57, M57, H57, G57⟩ := id f37
                      have hin57 : ¬ ((3 : Int32) < 0 ∨ c57.slots.size ≤ (3 : Int32).toNatClampNeg) := inb_of S57 ⟨by decide, by decide⟩
                      refine hG _ _ (X31.caload hx (j := (3 : Int32)) (v := (.int r_13)) (by rw [e31]; exact Ar57.1) (State.isArrayOf_alike hZ31.alike Ar57.2.1) Ar57.2.2 hin57 (Has.at H57 hin57 rfl) (g := (mkF m 237 #[.val (.int i0), .val (.int i1), .val (.long i2), .second, .val (.long i3), .second, .val (.long i4), .second, .val (.int n1), .val (.int 0), .val (.ref b3), .val (.ref q_31), .unset] [(.int 3), (.ref b3)])) rfl rfl (hb hby at_237)) ?_
                      show G (T31.setTop (mkF m 238 #[.val (.int i0), .val (.int i1), .val (.long i2), .second, .val (.long i3), .second, .val (.long i4), .second, .val (.int n1), .val (.int 0), .val (.ref b3), .val (.ref q_31), .unset] [(.int r_13)]))
                      refine hG _ _ (fun t_ k_ => XS.bipush X31.here hx rfl (hb hby at_238) k_) ?_
                      show G (T31.setTop (mkF m 240 #[.val (.int i0), .val (.int i1), .val (.long i2), .second, .val (.long i3), .second, .val (.long i4), .second, .val (.int n1), .val (.int 0), .val (.ref b3), .val (.ref q_31), .unset] [(.int 58), (.int r_13)]))
                      by_cases hc240_58 : r_13 = (58 : Int32)
                      · skip
                        refine hG _ _ (fun t_ k_ => XS.icmpNo X31.here hx rfl (hb hby at_240) rfl (teq hc240_58).2 k_) ?_
                        show G (T31.setTop (mkF m 243 #[.val (.int i0), .val (.int i1), .val (.long i2), .second, .val (.long i3), .second, .val (.long i4), .second, .val (.int n1), .val (.int 0), .val (.ref b3), .val (.ref q_31), .unset] []))
                        refine hG _ _ (fun t_ k_ => XS.iconst X31.here hx rfl (hb hby at_243) k_) ?_
                        refine hG _ _ (fun t_ k_ => XS.goto X31.here hx rfl (pc0 := 244) (pc' := 248) rfl (hb hby at_244) (by decide) (by decide) k_) ?_
                        show G (T31.setTop (mkF m 248 #[.val (.int i0), .val (.int i1), .val (.long i2), .second, .val (.long i3), .second, .val (.long i4), .second, .val (.int n1), .val (.int 0), .val (.ref b3), .val (.ref q_31), .unset] [(.int 1)]))
                        exact jn1 (hT.mpr ⟨hc151_34, hc160_35, Or.inl hc170_38, Or.inr hc204_50, Or.inr hc228_56, hc240_58⟩)
                      · skip
                        refine hG _ _ (fun t_ k_ => XS.icmpYes X31.here hx rfl (pc0 := 240) (pc' := 247) rfl (hb hby at_240) rfl (feq hc240_58).2 (by decide) (by decide) k_) ?_
                        show G (T31.setTop (mkF m 247 #[.val (.int i0), .val (.int i1), .val (.long i2), .second, .val (.long i3), .second, .val (.long i4), .second, .val (.int n1), .val (.int 0), .val (.ref b3), .val (.ref q_31), .unset] []))
                        refine hG _ _ (fun t_ k_ => XS.iconst X31.here hx rfl (hb hby at_247) k_) ?_
                        show G (T31.setTop (mkF m 248 #[.val (.int i0), .val (.int i1), .val (.long i2), .second, .val (.long i3), .second, .val (.long i4), .second, .val (.int n1), .val (.int 0), .val (.ref b3), .val (.ref q_31), .unset] [(.int 0)]))
                        exact jn0 (fun q => hc240_58 (hT.mp q).2.2.2.2.2)
                    · skip
                      refine hG _ _ (fun t_ k_ => XS.icmpYes X31.here hx rfl (pc0 := 228) (pc' := 247) rfl (hb hby at_228) rfl (feq hc228_56).2 (by decide) (by decide) k_) ?_
                      show G (T31.setTop (mkF m 247 #[.val (.int i0), .val (.int i1), .val (.long i2), .second, .val (.long i3), .second, .val (.long i4), .second, .val (.int n1), .val (.int 0), .val (.ref b3), .val (.ref q_31), .unset] []))
                      refine hG _ _ (fun t_ k_ => XS.iconst X31.here hx rfl (hb hby at_247) k_) ?_
                      show G (T31.setTop (mkF m 248 #[.val (.int i0), .val (.int i1), .val (.long i2), .second, .val (.long i3), .second, .val (.long i4), .second, .val (.int n1), .val (.int 0), .val (.ref b3), .val (.ref q_31), .unset] [(.int 0)]))
                      exact jn0 (fun q => (hT.mp q).2.2.2.2.1.elim hc216_52 hc228_56)
                · skip
                  refine hG _ _ (fun t_ k_ => XS.icmpYes X31.here hx rfl (pc0 := 204) (pc' := 247) rfl (hb hby at_204) rfl (feq hc204_50).2 (by decide) (by decide) k_) ?_
                  show G (T31.setTop (mkF m 247 #[.val (.int i0), .val (.int i1), .val (.long i2), .second, .val (.long i3), .second, .val (.long i4), .second, .val (.int n1), .val (.int 0), .val (.ref b3), .val (.ref q_31), .unset] []))
                  refine hG _ _ (fun t_ k_ => XS.iconst X31.here hx rfl (hb hby at_247) k_) ?_
                  show G (T31.setTop (mkF m 248 #[.val (.int i0), .val (.int i1), .val (.long i2), .second, .val (.long i3), .second, .val (.long i4), .second, .val (.int n1), .val (.int 0), .val (.ref b3), .val (.ref q_31), .unset] [(.int 0)]))
                  exact jn0 (fun q => (hT.mp q).2.2.2.1.elim hc192_40 hc204_50)
            · skip
              refine hG _ _ (fun t_ k_ => XS.icmpNo X31.here hx rfl (hb hby at_170) rfl (feq hc170_38).1 k_) ?_
              show G (T31.setTop (mkF m 173 #[.val (.int i0), .val (.int i1), .val (.long i2), .second, .val (.long i3), .second, .val (.long i4), .second, .val (.int n1), .val (.int 0), .val (.ref b3), .val (.ref q_31), .unset] []))
              refine hG _ _ (fun t_ k_ => XS.aload X31.here hx rfl (hb hby at_173) rfl rfl k_) ?_
              refine hG _ _ (fun t_ k_ => XS.iload X31.here hx rfl (hb hby at_175) rfl k_) ?_
              show G (T31.setTop (mkF m 177 #[.val (.int i0), .val (.int i1), .val (.long i2), .second, .val (.long i3), .second, .val (.long i4), .second, .val (.int n1), .val (.int 0), .val (.ref b3), .val (.ref q_31), .unset] [(.int 0), (.ref b3)]))
              obtain ⟨c59, Ar59, q59, S59, M59, H59, G59⟩ := id f37
              have hin59 : ¬ ((0 : Int32) < 0 ∨ c59.slots.size ≤ (0 : Int32).toNatClampNeg) := inb_of S59 ⟨by decide, by decide⟩
              refine hG _ _ (X31.caload hx (j := (0 : Int32)) (v := (.int r_4)) (by rw [e31]; exact Ar59.1) (State.isArrayOf_alike hZ31.alike Ar59.2.1) Ar59.2.2 hin59 (Has.at H59 hin59 rfl) (g := (mkF m 177 #[.val (.int i0), .val (.int i1), .val (.long i2), .second, .val (.long i3), .second, .val (.long i4), .second, .val (.int n1), .val (.int 0), .val (.ref b3), .val (.ref q_31), .unset] [(.int 0), (.ref b3)])) rfl rfl (hb hby at_177)) ?_
              show G (T31.setTop (mkF m 178 #[.val (.int i0), .val (.int i1), .val (.long i2), .second, .val (.long i3), .second, .val (.long i4), .second, .val (.int n1), .val (.int 0), .val (.ref b3), .val (.ref q_31), .unset] [(.int r_4)]))
              refine hG _ _ (fun t_ k_ => XS.bipush X31.here hx rfl (hb hby at_178) k_) ?_
              show G (T31.setTop (mkF m 180 #[.val (.int i0), .val (.int i1), .val (.long i2), .second, .val (.long i3), .second, .val (.long i4), .second, .val (.int n1), .val (.int 0), .val (.ref b3), .val (.ref q_31), .unset] [(.int 65), (.int r_4)]))
              by_cases hc180_60 : r_4 = (65 : Int32)
              · skip
                refine hG _ _ (fun t_ k_ => XS.icmpNo X31.here hx rfl (hb hby at_180) rfl (teq hc180_60).2 k_) ?_
                show G (T31.setTop (mkF m 183 #[.val (.int i0), .val (.int i1), .val (.long i2), .second, .val (.long i3), .second, .val (.long i4), .second, .val (.int n1), .val (.int 0), .val (.ref b3), .val (.ref q_31), .unset] []))
                refine hG _ _ (fun t_ k_ => XS.aload X31.here hx rfl (hb hby at_183) rfl rfl k_) ?_
                refine hG _ _ (fun t_ k_ => XS.iload X31.here hx rfl (hb hby at_185) rfl k_) ?_
                refine hG _ _ (fun t_ k_ => XS.iconst X31.here hx rfl (hb hby at_187) k_) ?_
                refine hG _ _ (fun t_ k_ => XS.iadd X31.here hx rfl (hb hby at_188) rfl k_) ?_
                show G (T31.setTop (mkF m 189 #[.val (.int i0), .val (.int i1), .val (.long i2), .second, .val (.long i3), .second, .val (.long i4), .second, .val (.int n1), .val (.int 0), .val (.ref b3), .val (.ref q_31), .unset] [(.int ((0 : Int32) + (1 : Int32))), (.ref b3)]))
                rw [show ((0 : Int32) + (1 : Int32)) = (1 : Int32) from by decide]
                show G (T31.setTop (mkF m 189 #[.val (.int i0), .val (.int i1), .val (.long i2), .second, .val (.long i3), .second, .val (.long i4), .second, .val (.int n1), .val (.int 0), .val (.ref b3), .val (.ref q_31), .unset] [(.int 1), (.ref b3)]))
                obtain ⟨c61, Ar61, q61, S61, M61, H61, G61⟩ := id f37
                have hin61 : ¬ ((1 : Int32) < 0 ∨ c61.slots.size ≤ (1 : Int32).toNatClampNeg) := inb_of S61 ⟨by decide, by decide⟩
                refine hG _ _ (X31.caload hx (j := (1 : Int32)) (v := (.int r_7)) (by rw [e31]; exact Ar61.1) (State.isArrayOf_alike hZ31.alike Ar61.2.1) Ar61.2.2 hin61 (Has.at H61 hin61 rfl) (g := (mkF m 189 #[.val (.int i0), .val (.int i1), .val (.long i2), .second, .val (.long i3), .second, .val (.long i4), .second, .val (.int n1), .val (.int 0), .val (.ref b3), .val (.ref q_31), .unset] [(.int 1), (.ref b3)])) rfl rfl (hb hby at_189)) ?_
                show G (T31.setTop (mkF m 190 #[.val (.int i0), .val (.int i1), .val (.long i2), .second, .val (.long i3), .second, .val (.long i4), .second, .val (.int n1), .val (.int 0), .val (.ref b3), .val (.ref q_31), .unset] [(.int r_7)]))
                refine hG _ _ (fun t_ k_ => XS.bipush X31.here hx rfl (hb hby at_190) k_) ?_
                show G (T31.setTop (mkF m 192 #[.val (.int i0), .val (.int i1), .val (.long i2), .second, .val (.long i3), .second, .val (.long i4), .second, .val (.int n1), .val (.int 0), .val (.ref b3), .val (.ref q_31), .unset] [(.int 114), (.int r_7)]))
                by_cases hc192_62 : r_7 = (114 : Int32)
                · skip
                  refine hG _ _ (fun t_ k_ => XS.icmpYes X31.here hx rfl (pc0 := 192) (pc' := 207) rfl (hb hby at_192) rfl (teq hc192_62).1 (by decide) (by decide) k_) ?_
                  show G (T31.setTop (mkF m 207 #[.val (.int i0), .val (.int i1), .val (.long i2), .second, .val (.long i3), .second, .val (.long i4), .second, .val (.int n1), .val (.int 0), .val (.ref b3), .val (.ref q_31), .unset] []))
                  refine hG _ _ (fun t_ k_ => XS.aload X31.here hx rfl (hb hby at_207) rfl rfl k_) ?_
                  refine hG _ _ (fun t_ k_ => XS.iload X31.here hx rfl (hb hby at_209) rfl k_) ?_
                  refine hG _ _ (fun t_ k_ => XS.iconst X31.here hx rfl (hb hby at_211) k_) ?_
                  refine hG _ _ (fun t_ k_ => XS.iadd X31.here hx rfl (hb hby at_212) rfl k_) ?_
                  show G (T31.setTop (mkF m 213 #[.val (.int i0), .val (.int i1), .val (.long i2), .second, .val (.long i3), .second, .val (.long i4), .second, .val (.int n1), .val (.int 0), .val (.ref b3), .val (.ref q_31), .unset] [(.int ((0 : Int32) + (2 : Int32))), (.ref b3)]))
                  rw [show ((0 : Int32) + (2 : Int32)) = (2 : Int32) from by decide]
                  show G (T31.setTop (mkF m 213 #[.val (.int i0), .val (.int i1), .val (.long i2), .second, .val (.long i3), .second, .val (.long i4), .second, .val (.int n1), .val (.int 0), .val (.ref b3), .val (.ref q_31), .unset] [(.int 2), (.ref b3)]))
                  obtain ⟨c63, Ar63, q63, S63, M63, H63, G63⟩ := id f37
                  have hin63 : ¬ ((2 : Int32) < 0 ∨ c63.slots.size ≤ (2 : Int32).toNatClampNeg) := inb_of S63 ⟨by decide, by decide⟩
                  refine hG _ _ (X31.caload hx (j := (2 : Int32)) (v := (.int r_10)) (by rw [e31]; exact Ar63.1) (State.isArrayOf_alike hZ31.alike Ar63.2.1) Ar63.2.2 hin63 (Has.at H63 hin63 rfl) (g := (mkF m 213 #[.val (.int i0), .val (.int i1), .val (.long i2), .second, .val (.long i3), .second, .val (.long i4), .second, .val (.int n1), .val (.int 0), .val (.ref b3), .val (.ref q_31), .unset] [(.int 2), (.ref b3)])) rfl rfl (hb hby at_213)) ?_
                  show G (T31.setTop (mkF m 214 #[.val (.int i0), .val (.int i1), .val (.long i2), .second, .val (.long i3), .second, .val (.long i4), .second, .val (.int n1), .val (.int 0), .val (.ref b3), .val (.ref q_31), .unset] [(.int r_10)]))
                  refine hG _ _ (fun t_ k_ => XS.bipush X31.here hx rfl (hb hby at_214) k_) ?_
                  show G (T31.setTop (mkF m 216 #[.val (.int i0), .val (.int i1), .val (.long i2), .second, .val (.long i3), .second, .val (.long i4), .second, .val (.int n1), .val (.int 0), .val (.ref b3), .val (.ref q_31), .unset] [(.int 107), (.int r_10)]))
                  by_cases hc216_64 : r_10 = (107 : Int32)
                  · skip
                    refine hG _ _ (fun t_ k_ => XS.icmpYes X31.here hx rfl (pc0 := 216) (pc' := 231) rfl (hb hby at_216) rfl (teq hc216_64).1 (by decide) (by decide) k_) ?_
                    show G (T31.setTop (mkF m 231 #[.val (.int i0), .val (.int i1), .val (.long i2), .second, .val (.long i3), .second, .val (.long i4), .second, .val (.int n1), .val (.int 0), .val (.ref b3), .val (.ref q_31), .unset] []))
                    refine hG _ _ (fun t_ k_ => XS.aload X31.here hx rfl (hb hby at_231) rfl rfl k_) ?_
                    refine hG _ _ (fun t_ k_ => XS.iload X31.here hx rfl (hb hby at_233) rfl k_) ?_
                    refine hG _ _ (fun t_ k_ => XS.iconst X31.here hx rfl (hb hby at_235) k_) ?_
                    refine hG _ _ (fun t_ k_ => XS.iadd X31.here hx rfl (hb hby at_236) rfl k_) ?_
                    show G (T31.setTop (mkF m 237 #[.val (.int i0), .val (.int i1), .val (.long i2), .second, .val (.long i3), .second, .val (.long i4), .second, .val (.int n1), .val (.int 0), .val (.ref b3), .val (.ref q_31), .unset] [(.int ((0 : Int32) + (3 : Int32))), (.ref b3)]))
                    rw [show ((0 : Int32) + (3 : Int32)) = (3 : Int32) from by decide]
                    show G (T31.setTop (mkF m 237 #[.val (.int i0), .val (.int i1), .val (.long i2), .second, .val (.long i3), .second, .val (.long i4), .second, .val (.int n1), .val (.int 0), .val (.ref b3), .val (.ref q_31), .unset] [(.int 3), (.ref b3)]))
                    obtain ⟨c65, Ar65, q65, S65, M65, H65, G65⟩ := id f37
                    have hin65 : ¬ ((3 : Int32) < 0 ∨ c65.slots.size ≤ (3 : Int32).toNatClampNeg) := inb_of S65 ⟨by decide, by decide⟩
                    refine hG _ _ (X31.caload hx (j := (3 : Int32)) (v := (.int r_13)) (by rw [e31]; exact Ar65.1) (State.isArrayOf_alike hZ31.alike Ar65.2.1) Ar65.2.2 hin65 (Has.at H65 hin65 rfl) (g := (mkF m 237 #[.val (.int i0), .val (.int i1), .val (.long i2), .second, .val (.long i3), .second, .val (.long i4), .second, .val (.int n1), .val (.int 0), .val (.ref b3), .val (.ref q_31), .unset] [(.int 3), (.ref b3)])) rfl rfl (hb hby at_237)) ?_
                    show G (T31.setTop (mkF m 238 #[.val (.int i0), .val (.int i1), .val (.long i2), .second, .val (.long i3), .second, .val (.long i4), .second, .val (.int n1), .val (.int 0), .val (.ref b3), .val (.ref q_31), .unset] [(.int r_13)]))
                    refine hG _ _ (fun t_ k_ => XS.bipush X31.here hx rfl (hb hby at_238) k_) ?_
                    show G (T31.setTop (mkF m 240 #[.val (.int i0), .val (.int i1), .val (.long i2), .second, .val (.long i3), .second, .val (.long i4), .second, .val (.int n1), .val (.int 0), .val (.ref b3), .val (.ref q_31), .unset] [(.int 58), (.int r_13)]))
                    by_cases hc240_66 : r_13 = (58 : Int32)
                    · skip
                      refine hG _ _ (fun t_ k_ => XS.icmpNo X31.here hx rfl (hb hby at_240) rfl (teq hc240_66).2 k_) ?_
                      show G (T31.setTop (mkF m 243 #[.val (.int i0), .val (.int i1), .val (.long i2), .second, .val (.long i3), .second, .val (.long i4), .second, .val (.int n1), .val (.int 0), .val (.ref b3), .val (.ref q_31), .unset] []))
                      refine hG _ _ (fun t_ k_ => XS.iconst X31.here hx rfl (hb hby at_243) k_) ?_
                      refine hG _ _ (fun t_ k_ => XS.goto X31.here hx rfl (pc0 := 244) (pc' := 248) rfl (hb hby at_244) (by decide) (by decide) k_) ?_
                      show G (T31.setTop (mkF m 248 #[.val (.int i0), .val (.int i1), .val (.long i2), .second, .val (.long i3), .second, .val (.long i4), .second, .val (.int n1), .val (.int 0), .val (.ref b3), .val (.ref q_31), .unset] [(.int 1)]))
                      exact jn1 (hT.mpr ⟨hc151_34, hc160_35, Or.inr hc180_60, Or.inl hc192_62, Or.inl hc216_64, hc240_66⟩)
                    · skip
                      refine hG _ _ (fun t_ k_ => XS.icmpYes X31.here hx rfl (pc0 := 240) (pc' := 247) rfl (hb hby at_240) rfl (feq hc240_66).2 (by decide) (by decide) k_) ?_
                      show G (T31.setTop (mkF m 247 #[.val (.int i0), .val (.int i1), .val (.long i2), .second, .val (.long i3), .second, .val (.long i4), .second, .val (.int n1), .val (.int 0), .val (.ref b3), .val (.ref q_31), .unset] []))
                      refine hG _ _ (fun t_ k_ => XS.iconst X31.here hx rfl (hb hby at_247) k_) ?_
                      show G (T31.setTop (mkF m 248 #[.val (.int i0), .val (.int i1), .val (.long i2), .second, .val (.long i3), .second, .val (.long i4), .second, .val (.int n1), .val (.int 0), .val (.ref b3), .val (.ref q_31), .unset] [(.int 0)]))
                      exact jn0 (fun q => hc240_66 (hT.mp q).2.2.2.2.2)
                  · skip
                    refine hG _ _ (fun t_ k_ => XS.icmpNo X31.here hx rfl (hb hby at_216) rfl (feq hc216_64).1 k_) ?_
                    show G (T31.setTop (mkF m 219 #[.val (.int i0), .val (.int i1), .val (.long i2), .second, .val (.long i3), .second, .val (.long i4), .second, .val (.int n1), .val (.int 0), .val (.ref b3), .val (.ref q_31), .unset] []))
                    refine hG _ _ (fun t_ k_ => XS.aload X31.here hx rfl (hb hby at_219) rfl rfl k_) ?_
                    refine hG _ _ (fun t_ k_ => XS.iload X31.here hx rfl (hb hby at_221) rfl k_) ?_
                    refine hG _ _ (fun t_ k_ => XS.iconst X31.here hx rfl (hb hby at_223) k_) ?_
                    refine hG _ _ (fun t_ k_ => XS.iadd X31.here hx rfl (hb hby at_224) rfl k_) ?_
                    show G (T31.setTop (mkF m 225 #[.val (.int i0), .val (.int i1), .val (.long i2), .second, .val (.long i3), .second, .val (.long i4), .second, .val (.int n1), .val (.int 0), .val (.ref b3), .val (.ref q_31), .unset] [(.int ((0 : Int32) + (2 : Int32))), (.ref b3)]))
                    rw [show ((0 : Int32) + (2 : Int32)) = (2 : Int32) from by decide]
                    show G (T31.setTop (mkF m 225 #[.val (.int i0), .val (.int i1), .val (.long i2), .second, .val (.long i3), .second, .val (.long i4), .second, .val (.int n1), .val (.int 0), .val (.ref b3), .val (.ref q_31), .unset] [(.int 2), (.ref b3)]))
                    obtain ⟨c67, Ar67, q67, S67, M67, H67, G67⟩ := id f37
                    have hin67 : ¬ ((2 : Int32) < 0 ∨ c67.slots.size ≤ (2 : Int32).toNatClampNeg) := inb_of S67 ⟨by decide, by decide⟩
                    refine hG _ _ (X31.caload hx (j := (2 : Int32)) (v := (.int r_10)) (by rw [e31]; exact Ar67.1) (State.isArrayOf_alike hZ31.alike Ar67.2.1) Ar67.2.2 hin67 (Has.at H67 hin67 rfl) (g := (mkF m 225 #[.val (.int i0), .val (.int i1), .val (.long i2), .second, .val (.long i3), .second, .val (.long i4), .second, .val (.int n1), .val (.int 0), .val (.ref b3), .val (.ref q_31), .unset] [(.int 2), (.ref b3)])) rfl rfl (hb hby at_225)) ?_
                    show G (T31.setTop (mkF m 226 #[.val (.int i0), .val (.int i1), .val (.long i2), .second, .val (.long i3), .second, .val (.long i4), .second, .val (.int n1), .val (.int 0), .val (.ref b3), .val (.ref q_31), .unset] [(.int r_10)]))
                    refine hG _ _ (fun t_ k_ => XS.bipush X31.here hx rfl (hb hby at_226) k_) ?_
                    show G (T31.setTop (mkF m 228 #[.val (.int i0), .val (.int i1), .val (.long i2), .second, .val (.long i3), .second, .val (.long i4), .second, .val (.int n1), .val (.int 0), .val (.ref b3), .val (.ref q_31), .unset] [(.int 75), (.int r_10)]))
                    by_cases hc228_68 : r_10 = (75 : Int32)
                    · skip
                      refine hG _ _ (fun t_ k_ => XS.icmpNo X31.here hx rfl (hb hby at_228) rfl (teq hc228_68).2 k_) ?_
                      show G (T31.setTop (mkF m 231 #[.val (.int i0), .val (.int i1), .val (.long i2), .second, .val (.long i3), .second, .val (.long i4), .second, .val (.int n1), .val (.int 0), .val (.ref b3), .val (.ref q_31), .unset] []))
                      refine hG _ _ (fun t_ k_ => XS.aload X31.here hx rfl (hb hby at_231) rfl rfl k_) ?_
                      refine hG _ _ (fun t_ k_ => XS.iload X31.here hx rfl (hb hby at_233) rfl k_) ?_
                      refine hG _ _ (fun t_ k_ => XS.iconst X31.here hx rfl (hb hby at_235) k_) ?_
                      refine hG _ _ (fun t_ k_ => XS.iadd X31.here hx rfl (hb hby at_236) rfl k_) ?_
                      show G (T31.setTop (mkF m 237 #[.val (.int i0), .val (.int i1), .val (.long i2), .second, .val (.long i3), .second, .val (.long i4), .second, .val (.int n1), .val (.int 0), .val (.ref b3), .val (.ref q_31), .unset] [(.int ((0 : Int32) + (3 : Int32))), (.ref b3)]))
                      rw [show ((0 : Int32) + (3 : Int32)) = (3 : Int32) from by decide]
                      show G (T31.setTop (mkF m 237 #[.val (.int i0), .val (.int i1), .val (.long i2), .second, .val (.long i3), .second, .val (.long i4), .second, .val (.int n1), .val (.int 0), .val (.ref b3), .val (.ref q_31), .unset] [(.int 3), (.ref b3)]))
                      obtain ⟨c69, Ar69, q69, S69, M69, H69, G69⟩ := id f37
                      have hin69 : ¬ ((3 : Int32) < 0 ∨ c69.slots.size ≤ (3 : Int32).toNatClampNeg) := inb_of S69 ⟨by decide, by decide⟩
                      refine hG _ _ (X31.caload hx (j := (3 : Int32)) (v := (.int r_13)) (by rw [e31]; exact Ar69.1) (State.isArrayOf_alike hZ31.alike Ar69.2.1) Ar69.2.2 hin69 (Has.at H69 hin69 rfl) (g := (mkF m 237 #[.val (.int i0), .val (.int i1), .val (.long i2), .second, .val (.long i3), .second, .val (.long i4), .second, .val (.int n1), .val (.int 0), .val (.ref b3), .val (.ref q_31), .unset] [(.int 3), (.ref b3)])) rfl rfl (hb hby at_237)) ?_
                      show G (T31.setTop (mkF m 238 #[.val (.int i0), .val (.int i1), .val (.long i2), .second, .val (.long i3), .second, .val (.long i4), .second, .val (.int n1), .val (.int 0), .val (.ref b3), .val (.ref q_31), .unset] [(.int r_13)]))
                      refine hG _ _ (fun t_ k_ => XS.bipush X31.here hx rfl (hb hby at_238) k_) ?_
                      show G (T31.setTop (mkF m 240 #[.val (.int i0), .val (.int i1), .val (.long i2), .second, .val (.long i3), .second, .val (.long i4), .second, .val (.int n1), .val (.int 0), .val (.ref b3), .val (.ref q_31), .unset] [(.int 58), (.int r_13)]))
                      by_cases hc240_70 : r_13 = (58 : Int32)
                      · skip
                        refine hG _ _ (fun t_ k_ => XS.icmpNo X31.here hx rfl (hb hby at_240) rfl (teq hc240_70).2 k_) ?_
                        show G (T31.setTop (mkF m 243 #[.val (.int i0), .val (.int i1), .val (.long i2), .second, .val (.long i3), .second, .val (.long i4), .second, .val (.int n1), .val (.int 0), .val (.ref b3), .val (.ref q_31), .unset] []))
                        refine hG _ _ (fun t_ k_ => XS.iconst X31.here hx rfl (hb hby at_243) k_) ?_
                        refine hG _ _ (fun t_ k_ => XS.goto X31.here hx rfl (pc0 := 244) (pc' := 248) rfl (hb hby at_244) (by decide) (by decide) k_) ?_
                        show G (T31.setTop (mkF m 248 #[.val (.int i0), .val (.int i1), .val (.long i2), .second, .val (.long i3), .second, .val (.long i4), .second, .val (.int n1), .val (.int 0), .val (.ref b3), .val (.ref q_31), .unset] [(.int 1)]))
                        exact jn1 (hT.mpr ⟨hc151_34, hc160_35, Or.inr hc180_60, Or.inl hc192_62, Or.inr hc228_68, hc240_70⟩)
                      · skip
                        refine hG _ _ (fun t_ k_ => XS.icmpYes X31.here hx rfl (pc0 := 240) (pc' := 247) rfl (hb hby at_240) rfl (feq hc240_70).2 (by decide) (by decide) k_) ?_
                        show G (T31.setTop (mkF m 247 #[.val (.int i0), .val (.int i1), .val (.long i2), .second, .val (.long i3), .second, .val (.long i4), .second, .val (.int n1), .val (.int 0), .val (.ref b3), .val (.ref q_31), .unset] []))
                        refine hG _ _ (fun t_ k_ => XS.iconst X31.here hx rfl (hb hby at_247) k_) ?_
                        show G (T31.setTop (mkF m 248 #[.val (.int i0), .val (.int i1), .val (.long i2), .second, .val (.long i3), .second, .val (.long i4), .second, .val (.int n1), .val (.int 0), .val (.ref b3), .val (.ref q_31), .unset] [(.int 0)]))
                        exact jn0 (fun q => hc240_70 (hT.mp q).2.2.2.2.2)
                    · skip
                      refine hG _ _ (fun t_ k_ => XS.icmpYes X31.here hx rfl (pc0 := 228) (pc' := 247) rfl (hb hby at_228) rfl (feq hc228_68).2 (by decide) (by decide) k_) ?_
                      show G (T31.setTop (mkF m 247 #[.val (.int i0), .val (.int i1), .val (.long i2), .second, .val (.long i3), .second, .val (.long i4), .second, .val (.int n1), .val (.int 0), .val (.ref b3), .val (.ref q_31), .unset] []))
                      refine hG _ _ (fun t_ k_ => XS.iconst X31.here hx rfl (hb hby at_247) k_) ?_
                      show G (T31.setTop (mkF m 248 #[.val (.int i0), .val (.int i1), .val (.long i2), .second, .val (.long i3), .second, .val (.long i4), .second, .val (.int n1), .val (.int 0), .val (.ref b3), .val (.ref q_31), .unset] [(.int 0)]))
                      exact jn0 (fun q => (hT.mp q).2.2.2.2.1.elim hc216_64 hc228_68)
                · skip
                  refine hG _ _ (fun t_ k_ => XS.icmpNo X31.here hx rfl (hb hby at_192) rfl (feq hc192_62).1 k_) ?_
                  show G (T31.setTop (mkF m 195 #[.val (.int i0), .val (.int i1), .val (.long i2), .second, .val (.long i3), .second, .val (.long i4), .second, .val (.int n1), .val (.int 0), .val (.ref b3), .val (.ref q_31), .unset] []))
                  refine hG _ _ (fun t_ k_ => XS.aload X31.here hx rfl (hb hby at_195) rfl rfl k_) ?_
                  refine hG _ _ (fun t_ k_ => XS.iload X31.here hx rfl (hb hby at_197) rfl k_) ?_
                  refine hG _ _ (fun t_ k_ => XS.iconst X31.here hx rfl (hb hby at_199) k_) ?_
                  refine hG _ _ (fun t_ k_ => XS.iadd X31.here hx rfl (hb hby at_200) rfl k_) ?_
                  show G (T31.setTop (mkF m 201 #[.val (.int i0), .val (.int i1), .val (.long i2), .second, .val (.long i3), .second, .val (.long i4), .second, .val (.int n1), .val (.int 0), .val (.ref b3), .val (.ref q_31), .unset] [(.int ((0 : Int32) + (1 : Int32))), (.ref b3)]))
                  rw [show ((0 : Int32) + (1 : Int32)) = (1 : Int32) from by decide]
                  show G (T31.setTop (mkF m 201 #[.val (.int i0), .val (.int i1), .val (.long i2), .second, .val (.long i3), .second, .val (.long i4), .second, .val (.int n1), .val (.int 0), .val (.ref b3), .val (.ref q_31), .unset] [(.int 1), (.ref b3)]))
                  obtain ⟨c71, Ar71, q71, S71, M71, H71, G71⟩ := id f37
                  have hin71 : ¬ ((1 : Int32) < 0 ∨ c71.slots.size ≤ (1 : Int32).toNatClampNeg) := inb_of S71 ⟨by decide, by decide⟩
                  refine hG _ _ (X31.caload hx (j := (1 : Int32)) (v := (.int r_7)) (by rw [e31]; exact Ar71.1) (State.isArrayOf_alike hZ31.alike Ar71.2.1) Ar71.2.2 hin71 (Has.at H71 hin71 rfl) (g := (mkF m 201 #[.val (.int i0), .val (.int i1), .val (.long i2), .second, .val (.long i3), .second, .val (.long i4), .second, .val (.int n1), .val (.int 0), .val (.ref b3), .val (.ref q_31), .unset] [(.int 1), (.ref b3)])) rfl rfl (hb hby at_201)) ?_
                  show G (T31.setTop (mkF m 202 #[.val (.int i0), .val (.int i1), .val (.long i2), .second, .val (.long i3), .second, .val (.long i4), .second, .val (.int n1), .val (.int 0), .val (.ref b3), .val (.ref q_31), .unset] [(.int r_7)]))
                  refine hG _ _ (fun t_ k_ => XS.bipush X31.here hx rfl (hb hby at_202) k_) ?_
                  show G (T31.setTop (mkF m 204 #[.val (.int i0), .val (.int i1), .val (.long i2), .second, .val (.long i3), .second, .val (.long i4), .second, .val (.int n1), .val (.int 0), .val (.ref b3), .val (.ref q_31), .unset] [(.int 82), (.int r_7)]))
                  by_cases hc204_72 : r_7 = (82 : Int32)
                  · skip
                    refine hG _ _ (fun t_ k_ => XS.icmpNo X31.here hx rfl (hb hby at_204) rfl (teq hc204_72).2 k_) ?_
                    show G (T31.setTop (mkF m 207 #[.val (.int i0), .val (.int i1), .val (.long i2), .second, .val (.long i3), .second, .val (.long i4), .second, .val (.int n1), .val (.int 0), .val (.ref b3), .val (.ref q_31), .unset] []))
                    refine hG _ _ (fun t_ k_ => XS.aload X31.here hx rfl (hb hby at_207) rfl rfl k_) ?_
                    refine hG _ _ (fun t_ k_ => XS.iload X31.here hx rfl (hb hby at_209) rfl k_) ?_
                    refine hG _ _ (fun t_ k_ => XS.iconst X31.here hx rfl (hb hby at_211) k_) ?_
                    refine hG _ _ (fun t_ k_ => XS.iadd X31.here hx rfl (hb hby at_212) rfl k_) ?_
                    show G (T31.setTop (mkF m 213 #[.val (.int i0), .val (.int i1), .val (.long i2), .second, .val (.long i3), .second, .val (.long i4), .second, .val (.int n1), .val (.int 0), .val (.ref b3), .val (.ref q_31), .unset] [(.int ((0 : Int32) + (2 : Int32))), (.ref b3)]))
                    rw [show ((0 : Int32) + (2 : Int32)) = (2 : Int32) from by decide]
                    show G (T31.setTop (mkF m 213 #[.val (.int i0), .val (.int i1), .val (.long i2), .second, .val (.long i3), .second, .val (.long i4), .second, .val (.int n1), .val (.int 0), .val (.ref b3), .val (.ref q_31), .unset] [(.int 2), (.ref b3)]))
                    obtain ⟨c73, Ar73, q73, S73, M73, H73, G73⟩ := id f37
                    have hin73 : ¬ ((2 : Int32) < 0 ∨ c73.slots.size ≤ (2 : Int32).toNatClampNeg) := inb_of S73 ⟨by decide, by decide⟩
                    refine hG _ _ (X31.caload hx (j := (2 : Int32)) (v := (.int r_10)) (by rw [e31]; exact Ar73.1) (State.isArrayOf_alike hZ31.alike Ar73.2.1) Ar73.2.2 hin73 (Has.at H73 hin73 rfl) (g := (mkF m 213 #[.val (.int i0), .val (.int i1), .val (.long i2), .second, .val (.long i3), .second, .val (.long i4), .second, .val (.int n1), .val (.int 0), .val (.ref b3), .val (.ref q_31), .unset] [(.int 2), (.ref b3)])) rfl rfl (hb hby at_213)) ?_
                    show G (T31.setTop (mkF m 214 #[.val (.int i0), .val (.int i1), .val (.long i2), .second, .val (.long i3), .second, .val (.long i4), .second, .val (.int n1), .val (.int 0), .val (.ref b3), .val (.ref q_31), .unset] [(.int r_10)]))
                    refine hG _ _ (fun t_ k_ => XS.bipush X31.here hx rfl (hb hby at_214) k_) ?_
                    show G (T31.setTop (mkF m 216 #[.val (.int i0), .val (.int i1), .val (.long i2), .second, .val (.long i3), .second, .val (.long i4), .second, .val (.int n1), .val (.int 0), .val (.ref b3), .val (.ref q_31), .unset] [(.int 107), (.int r_10)]))
                    by_cases hc216_74 : r_10 = (107 : Int32)
                    · skip
                      refine hG _ _ (fun t_ k_ => XS.icmpYes X31.here hx rfl (pc0 := 216) (pc' := 231) rfl (hb hby at_216) rfl (teq hc216_74).1 (by decide) (by decide) k_) ?_
                      show G (T31.setTop (mkF m 231 #[.val (.int i0), .val (.int i1), .val (.long i2), .second, .val (.long i3), .second, .val (.long i4), .second, .val (.int n1), .val (.int 0), .val (.ref b3), .val (.ref q_31), .unset] []))
                      refine hG _ _ (fun t_ k_ => XS.aload X31.here hx rfl (hb hby at_231) rfl rfl k_) ?_
                      refine hG _ _ (fun t_ k_ => XS.iload X31.here hx rfl (hb hby at_233) rfl k_) ?_
                      refine hG _ _ (fun t_ k_ => XS.iconst X31.here hx rfl (hb hby at_235) k_) ?_
                      refine hG _ _ (fun t_ k_ => XS.iadd X31.here hx rfl (hb hby at_236) rfl k_) ?_
                      show G (T31.setTop (mkF m 237 #[.val (.int i0), .val (.int i1), .val (.long i2), .second, .val (.long i3), .second, .val (.long i4), .second, .val (.int n1), .val (.int 0), .val (.ref b3), .val (.ref q_31), .unset] [(.int ((0 : Int32) + (3 : Int32))), (.ref b3)]))
                      rw [show ((0 : Int32) + (3 : Int32)) = (3 : Int32) from by decide]
                      show G (T31.setTop (mkF m 237 #[.val (.int i0), .val (.int i1), .val (.long i2), .second, .val (.long i3), .second, .val (.long i4), .second, .val (.int n1), .val (.int 0), .val (.ref b3), .val (.ref q_31), .unset] [(.int 3), (.ref b3)]))
                      obtain ⟨c75, Ar75, q75, S75, M75, H75, G75⟩ := id f37
                      have hin75 : ¬ ((3 : Int32) < 0 ∨ c75.slots.size ≤ (3 : Int32).toNatClampNeg) := inb_of S75 ⟨by decide, by decide⟩
                      refine hG _ _ (X31.caload hx (j := (3 : Int32)) (v := (.int r_13)) (by rw [e31]; exact Ar75.1) (State.isArrayOf_alike hZ31.alike Ar75.2.1) Ar75.2.2 hin75 (Has.at H75 hin75 rfl) (g := (mkF m 237 #[.val (.int i0), .val (.int i1), .val (.long i2), .second, .val (.long i3), .second, .val (.long i4), .second, .val (.int n1), .val (.int 0), .val (.ref b3), .val (.ref q_31), .unset] [(.int 3), (.ref b3)])) rfl rfl (hb hby at_237)) ?_
                      show G (T31.setTop (mkF m 238 #[.val (.int i0), .val (.int i1), .val (.long i2), .second, .val (.long i3), .second, .val (.long i4), .second, .val (.int n1), .val (.int 0), .val (.ref b3), .val (.ref q_31), .unset] [(.int r_13)]))
                      refine hG _ _ (fun t_ k_ => XS.bipush X31.here hx rfl (hb hby at_238) k_) ?_
                      show G (T31.setTop (mkF m 240 #[.val (.int i0), .val (.int i1), .val (.long i2), .second, .val (.long i3), .second, .val (.long i4), .second, .val (.int n1), .val (.int 0), .val (.ref b3), .val (.ref q_31), .unset] [(.int 58), (.int r_13)]))
                      by_cases hc240_76 : r_13 = (58 : Int32)
                      · skip
                        refine hG _ _ (fun t_ k_ => XS.icmpNo X31.here hx rfl (hb hby at_240) rfl (teq hc240_76).2 k_) ?_
                        show G (T31.setTop (mkF m 243 #[.val (.int i0), .val (.int i1), .val (.long i2), .second, .val (.long i3), .second, .val (.long i4), .second, .val (.int n1), .val (.int 0), .val (.ref b3), .val (.ref q_31), .unset] []))
                        refine hG _ _ (fun t_ k_ => XS.iconst X31.here hx rfl (hb hby at_243) k_) ?_
                        refine hG _ _ (fun t_ k_ => XS.goto X31.here hx rfl (pc0 := 244) (pc' := 248) rfl (hb hby at_244) (by decide) (by decide) k_) ?_
                        show G (T31.setTop (mkF m 248 #[.val (.int i0), .val (.int i1), .val (.long i2), .second, .val (.long i3), .second, .val (.long i4), .second, .val (.int n1), .val (.int 0), .val (.ref b3), .val (.ref q_31), .unset] [(.int 1)]))
                        exact jn1 (hT.mpr ⟨hc151_34, hc160_35, Or.inr hc180_60, Or.inr hc204_72, Or.inl hc216_74, hc240_76⟩)
                      · skip
                        refine hG _ _ (fun t_ k_ => XS.icmpYes X31.here hx rfl (pc0 := 240) (pc' := 247) rfl (hb hby at_240) rfl (feq hc240_76).2 (by decide) (by decide) k_) ?_
                        show G (T31.setTop (mkF m 247 #[.val (.int i0), .val (.int i1), .val (.long i2), .second, .val (.long i3), .second, .val (.long i4), .second, .val (.int n1), .val (.int 0), .val (.ref b3), .val (.ref q_31), .unset] []))
                        refine hG _ _ (fun t_ k_ => XS.iconst X31.here hx rfl (hb hby at_247) k_) ?_
                        show G (T31.setTop (mkF m 248 #[.val (.int i0), .val (.int i1), .val (.long i2), .second, .val (.long i3), .second, .val (.long i4), .second, .val (.int n1), .val (.int 0), .val (.ref b3), .val (.ref q_31), .unset] [(.int 0)]))
                        exact jn0 (fun q => hc240_76 (hT.mp q).2.2.2.2.2)
                    · skip
                      refine hG _ _ (fun t_ k_ => XS.icmpNo X31.here hx rfl (hb hby at_216) rfl (feq hc216_74).1 k_) ?_
                      show G (T31.setTop (mkF m 219 #[.val (.int i0), .val (.int i1), .val (.long i2), .second, .val (.long i3), .second, .val (.long i4), .second, .val (.int n1), .val (.int 0), .val (.ref b3), .val (.ref q_31), .unset] []))
                      refine hG _ _ (fun t_ k_ => XS.aload X31.here hx rfl (hb hby at_219) rfl rfl k_) ?_
                      refine hG _ _ (fun t_ k_ => XS.iload X31.here hx rfl (hb hby at_221) rfl k_) ?_
                      refine hG _ _ (fun t_ k_ => XS.iconst X31.here hx rfl (hb hby at_223) k_) ?_
                      refine hG _ _ (fun t_ k_ => XS.iadd X31.here hx rfl (hb hby at_224) rfl k_) ?_
                      show G (T31.setTop (mkF m 225 #[.val (.int i0), .val (.int i1), .val (.long i2), .second, .val (.long i3), .second, .val (.long i4), .second, .val (.int n1), .val (.int 0), .val (.ref b3), .val (.ref q_31), .unset] [(.int ((0 : Int32) + (2 : Int32))), (.ref b3)]))
                      rw [show ((0 : Int32) + (2 : Int32)) = (2 : Int32) from by decide]
                      show G (T31.setTop (mkF m 225 #[.val (.int i0), .val (.int i1), .val (.long i2), .second, .val (.long i3), .second, .val (.long i4), .second, .val (.int n1), .val (.int 0), .val (.ref b3), .val (.ref q_31), .unset] [(.int 2), (.ref b3)]))
                      obtain ⟨c77, Ar77, q77, S77, M77, H77, G77⟩ := id f37
                      have hin77 : ¬ ((2 : Int32) < 0 ∨ c77.slots.size ≤ (2 : Int32).toNatClampNeg) := inb_of S77 ⟨by decide, by decide⟩
                      refine hG _ _ (X31.caload hx (j := (2 : Int32)) (v := (.int r_10)) (by rw [e31]; exact Ar77.1) (State.isArrayOf_alike hZ31.alike Ar77.2.1) Ar77.2.2 hin77 (Has.at H77 hin77 rfl) (g := (mkF m 225 #[.val (.int i0), .val (.int i1), .val (.long i2), .second, .val (.long i3), .second, .val (.long i4), .second, .val (.int n1), .val (.int 0), .val (.ref b3), .val (.ref q_31), .unset] [(.int 2), (.ref b3)])) rfl rfl (hb hby at_225)) ?_
                      show G (T31.setTop (mkF m 226 #[.val (.int i0), .val (.int i1), .val (.long i2), .second, .val (.long i3), .second, .val (.long i4), .second, .val (.int n1), .val (.int 0), .val (.ref b3), .val (.ref q_31), .unset] [(.int r_10)]))
                      refine hG _ _ (fun t_ k_ => XS.bipush X31.here hx rfl (hb hby at_226) k_) ?_
                      show G (T31.setTop (mkF m 228 #[.val (.int i0), .val (.int i1), .val (.long i2), .second, .val (.long i3), .second, .val (.long i4), .second, .val (.int n1), .val (.int 0), .val (.ref b3), .val (.ref q_31), .unset] [(.int 75), (.int r_10)]))
                      by_cases hc228_78 : r_10 = (75 : Int32)
                      · skip
                        refine hG _ _ (fun t_ k_ => XS.icmpNo X31.here hx rfl (hb hby at_228) rfl (teq hc228_78).2 k_) ?_
                        show G (T31.setTop (mkF m 231 #[.val (.int i0), .val (.int i1), .val (.long i2), .second, .val (.long i3), .second, .val (.long i4), .second, .val (.int n1), .val (.int 0), .val (.ref b3), .val (.ref q_31), .unset] []))
                        refine hG _ _ (fun t_ k_ => XS.aload X31.here hx rfl (hb hby at_231) rfl rfl k_) ?_
                        refine hG _ _ (fun t_ k_ => XS.iload X31.here hx rfl (hb hby at_233) rfl k_) ?_
                        refine hG _ _ (fun t_ k_ => XS.iconst X31.here hx rfl (hb hby at_235) k_) ?_
                        refine hG _ _ (fun t_ k_ => XS.iadd X31.here hx rfl (hb hby at_236) rfl k_) ?_
                        show G (T31.setTop (mkF m 237 #[.val (.int i0), .val (.int i1), .val (.long i2), .second, .val (.long i3), .second, .val (.long i4), .second, .val (.int n1), .val (.int 0), .val (.ref b3), .val (.ref q_31), .unset] [(.int ((0 : Int32) + (3 : Int32))), (.ref b3)]))
                        rw [show ((0 : Int32) + (3 : Int32)) = (3 : Int32) from by decide]
                        show G (T31.setTop (mkF m 237 #[.val (.int i0), .val (.int i1), .val (.long i2), .second, .val (.long i3), .second, .val (.long i4), .second, .val (.int n1), .val (.int 0), .val (.ref b3), .val (.ref q_31), .unset] [(.int 3), (.ref b3)]))
                        obtain ⟨c79, Ar79, q79, S79, M79, H79, G79⟩ := id f37
                        have hin79 : ¬ ((3 : Int32) < 0 ∨ c79.slots.size ≤ (3 : Int32).toNatClampNeg) := inb_of S79 ⟨by decide, by decide⟩
                        refine hG _ _ (X31.caload hx (j := (3 : Int32)) (v := (.int r_13)) (by rw [e31]; exact Ar79.1) (State.isArrayOf_alike hZ31.alike Ar79.2.1) Ar79.2.2 hin79 (Has.at H79 hin79 rfl) (g := (mkF m 237 #[.val (.int i0), .val (.int i1), .val (.long i2), .second, .val (.long i3), .second, .val (.long i4), .second, .val (.int n1), .val (.int 0), .val (.ref b3), .val (.ref q_31), .unset] [(.int 3), (.ref b3)])) rfl rfl (hb hby at_237)) ?_
                        show G (T31.setTop (mkF m 238 #[.val (.int i0), .val (.int i1), .val (.long i2), .second, .val (.long i3), .second, .val (.long i4), .second, .val (.int n1), .val (.int 0), .val (.ref b3), .val (.ref q_31), .unset] [(.int r_13)]))
                        refine hG _ _ (fun t_ k_ => XS.bipush X31.here hx rfl (hb hby at_238) k_) ?_
                        show G (T31.setTop (mkF m 240 #[.val (.int i0), .val (.int i1), .val (.long i2), .second, .val (.long i3), .second, .val (.long i4), .second, .val (.int n1), .val (.int 0), .val (.ref b3), .val (.ref q_31), .unset] [(.int 58), (.int r_13)]))
                        by_cases hc240_80 : r_13 = (58 : Int32)
                        · skip
                          refine hG _ _ (fun t_ k_ => XS.icmpNo X31.here hx rfl (hb hby at_240) rfl (teq hc240_80).2 k_) ?_
                          show G (T31.setTop (mkF m 243 #[.val (.int i0), .val (.int i1), .val (.long i2), .second, .val (.long i3), .second, .val (.long i4), .second, .val (.int n1), .val (.int 0), .val (.ref b3), .val (.ref q_31), .unset] []))
                          refine hG _ _ (fun t_ k_ => XS.iconst X31.here hx rfl (hb hby at_243) k_) ?_
                          refine hG _ _ (fun t_ k_ => XS.goto X31.here hx rfl (pc0 := 244) (pc' := 248) rfl (hb hby at_244) (by decide) (by decide) k_) ?_
                          show G (T31.setTop (mkF m 248 #[.val (.int i0), .val (.int i1), .val (.long i2), .second, .val (.long i3), .second, .val (.long i4), .second, .val (.int n1), .val (.int 0), .val (.ref b3), .val (.ref q_31), .unset] [(.int 1)]))
                          exact jn1 (hT.mpr ⟨hc151_34, hc160_35, Or.inr hc180_60, Or.inr hc204_72, Or.inr hc228_78, hc240_80⟩)
                        · skip
                          refine hG _ _ (fun t_ k_ => XS.icmpYes X31.here hx rfl (pc0 := 240) (pc' := 247) rfl (hb hby at_240) rfl (feq hc240_80).2 (by decide) (by decide) k_) ?_
                          show G (T31.setTop (mkF m 247 #[.val (.int i0), .val (.int i1), .val (.long i2), .second, .val (.long i3), .second, .val (.long i4), .second, .val (.int n1), .val (.int 0), .val (.ref b3), .val (.ref q_31), .unset] []))
                          refine hG _ _ (fun t_ k_ => XS.iconst X31.here hx rfl (hb hby at_247) k_) ?_
                          show G (T31.setTop (mkF m 248 #[.val (.int i0), .val (.int i1), .val (.long i2), .second, .val (.long i3), .second, .val (.long i4), .second, .val (.int n1), .val (.int 0), .val (.ref b3), .val (.ref q_31), .unset] [(.int 0)]))
                          exact jn0 (fun q => hc240_80 (hT.mp q).2.2.2.2.2)
                      · skip
                        refine hG _ _ (fun t_ k_ => XS.icmpYes X31.here hx rfl (pc0 := 228) (pc' := 247) rfl (hb hby at_228) rfl (feq hc228_78).2 (by decide) (by decide) k_) ?_
                        show G (T31.setTop (mkF m 247 #[.val (.int i0), .val (.int i1), .val (.long i2), .second, .val (.long i3), .second, .val (.long i4), .second, .val (.int n1), .val (.int 0), .val (.ref b3), .val (.ref q_31), .unset] []))
                        refine hG _ _ (fun t_ k_ => XS.iconst X31.here hx rfl (hb hby at_247) k_) ?_
                        show G (T31.setTop (mkF m 248 #[.val (.int i0), .val (.int i1), .val (.long i2), .second, .val (.long i3), .second, .val (.long i4), .second, .val (.int n1), .val (.int 0), .val (.ref b3), .val (.ref q_31), .unset] [(.int 0)]))
                        exact jn0 (fun q => (hT.mp q).2.2.2.2.1.elim hc216_74 hc228_78)
                  · skip
                    refine hG _ _ (fun t_ k_ => XS.icmpYes X31.here hx rfl (pc0 := 204) (pc' := 247) rfl (hb hby at_204) rfl (feq hc204_72).2 (by decide) (by decide) k_) ?_
                    show G (T31.setTop (mkF m 247 #[.val (.int i0), .val (.int i1), .val (.long i2), .second, .val (.long i3), .second, .val (.long i4), .second, .val (.int n1), .val (.int 0), .val (.ref b3), .val (.ref q_31), .unset] []))
                    refine hG _ _ (fun t_ k_ => XS.iconst X31.here hx rfl (hb hby at_247) k_) ?_
                    show G (T31.setTop (mkF m 248 #[.val (.int i0), .val (.int i1), .val (.long i2), .second, .val (.long i3), .second, .val (.long i4), .second, .val (.int n1), .val (.int 0), .val (.ref b3), .val (.ref q_31), .unset] [(.int 0)]))
                    exact jn0 (fun q => (hT.mp q).2.2.2.1.elim hc192_62 hc204_72)
              · skip
                refine hG _ _ (fun t_ k_ => XS.icmpYes X31.here hx rfl (pc0 := 180) (pc' := 247) rfl (hb hby at_180) rfl (feq hc180_60).2 (by decide) (by decide) k_) ?_
                show G (T31.setTop (mkF m 247 #[.val (.int i0), .val (.int i1), .val (.long i2), .second, .val (.long i3), .second, .val (.long i4), .second, .val (.int n1), .val (.int 0), .val (.ref b3), .val (.ref q_31), .unset] []))
                refine hG _ _ (fun t_ k_ => XS.iconst X31.here hx rfl (hb hby at_247) k_) ?_
                show G (T31.setTop (mkF m 248 #[.val (.int i0), .val (.int i1), .val (.long i2), .second, .val (.long i3), .second, .val (.long i4), .second, .val (.int n1), .val (.int 0), .val (.ref b3), .val (.ref q_31), .unset] [(.int 0)]))
                exact jn0 (fun q => (hT.mp q).2.2.1.elim hc170_38 hc180_60)
          · skip
            show G (T31.setTop (mkF m 163 #[.val (.int i0), .val (.int i1), .val (.long i2), .second, .val (.long i3), .second, .val (.long i4), .second, .val (.int n1), .val (.int 1), .val (.ref b3), .val (.ref q_31), .unset] []))
            refine hG _ _ (fun t_ k_ => XS.aload X31.here hx rfl (hb hby at_163) rfl rfl k_) ?_
            refine hG _ _ (fun t_ k_ => XS.iload X31.here hx rfl (hb hby at_165) rfl k_) ?_
            show G (T31.setTop (mkF m 167 #[.val (.int i0), .val (.int i1), .val (.long i2), .second, .val (.long i3), .second, .val (.long i4), .second, .val (.int n1), .val (.int 1), .val (.ref b3), .val (.ref q_31), .unset] [(.int 1), (.ref b3)]))
            have f82 := (V29.keep J31 nin0)
            obtain ⟨c81, Ar81, q81, S81, M81, H81, G81⟩ := id f82
            have hin81 : ¬ ((1 : Int32) < 0 ∨ c81.slots.size ≤ (1 : Int32).toNatClampNeg) := inb_of S81 ⟨by decide, by decide⟩
            refine hG _ _ (X31.caload hx (j := (1 : Int32)) (v := (.int r_7)) (by rw [e31]; exact Ar81.1) (State.isArrayOf_alike hZ31.alike Ar81.2.1) Ar81.2.2 hin81 (Has.at H81 hin81 rfl) (g := (mkF m 167 #[.val (.int i0), .val (.int i1), .val (.long i2), .second, .val (.long i3), .second, .val (.long i4), .second, .val (.int n1), .val (.int 1), .val (.ref b3), .val (.ref q_31), .unset] [(.int 1), (.ref b3)])) rfl rfl (hb hby at_167)) ?_
            show G (T31.setTop (mkF m 168 #[.val (.int i0), .val (.int i1), .val (.long i2), .second, .val (.long i3), .second, .val (.long i4), .second, .val (.int n1), .val (.int 1), .val (.ref b3), .val (.ref q_31), .unset] [(.int r_7)]))
            refine hG _ _ (fun t_ k_ => XS.bipush X31.here hx rfl (hb hby at_168) k_) ?_
            show G (T31.setTop (mkF m 170 #[.val (.int i0), .val (.int i1), .val (.long i2), .second, .val (.long i3), .second, .val (.long i4), .second, .val (.int n1), .val (.int 1), .val (.ref b3), .val (.ref q_31), .unset] [(.int 97), (.int r_7)]))
            by_cases hc170_83 : r_7 = (97 : Int32)
            · skip
              refine hG _ _ (fun t_ k_ => XS.icmpYes X31.here hx rfl (pc0 := 170) (pc' := 183) rfl (hb hby at_170) rfl (teq hc170_83).1 (by decide) (by decide) k_) ?_
              show G (T31.setTop (mkF m 183 #[.val (.int i0), .val (.int i1), .val (.long i2), .second, .val (.long i3), .second, .val (.long i4), .second, .val (.int n1), .val (.int 1), .val (.ref b3), .val (.ref q_31), .unset] []))
              refine hG _ _ (fun t_ k_ => XS.aload X31.here hx rfl (hb hby at_183) rfl rfl k_) ?_
              refine hG _ _ (fun t_ k_ => XS.iload X31.here hx rfl (hb hby at_185) rfl k_) ?_
              refine hG _ _ (fun t_ k_ => XS.iconst X31.here hx rfl (hb hby at_187) k_) ?_
              refine hG _ _ (fun t_ k_ => XS.iadd X31.here hx rfl (hb hby at_188) rfl k_) ?_
              show G (T31.setTop (mkF m 189 #[.val (.int i0), .val (.int i1), .val (.long i2), .second, .val (.long i3), .second, .val (.long i4), .second, .val (.int n1), .val (.int 1), .val (.ref b3), .val (.ref q_31), .unset] [(.int ((1 : Int32) + (1 : Int32))), (.ref b3)]))
              rw [show ((1 : Int32) + (1 : Int32)) = (2 : Int32) from by decide]
              show G (T31.setTop (mkF m 189 #[.val (.int i0), .val (.int i1), .val (.long i2), .second, .val (.long i3), .second, .val (.long i4), .second, .val (.int n1), .val (.int 1), .val (.ref b3), .val (.ref q_31), .unset] [(.int 2), (.ref b3)]))
              obtain ⟨c84, Ar84, q84, S84, M84, H84, G84⟩ := id f82
              have hin84 : ¬ ((2 : Int32) < 0 ∨ c84.slots.size ≤ (2 : Int32).toNatClampNeg) := inb_of S84 ⟨by decide, by decide⟩
              refine hG _ _ (X31.caload hx (j := (2 : Int32)) (v := (.int r_10)) (by rw [e31]; exact Ar84.1) (State.isArrayOf_alike hZ31.alike Ar84.2.1) Ar84.2.2 hin84 (Has.at H84 hin84 rfl) (g := (mkF m 189 #[.val (.int i0), .val (.int i1), .val (.long i2), .second, .val (.long i3), .second, .val (.long i4), .second, .val (.int n1), .val (.int 1), .val (.ref b3), .val (.ref q_31), .unset] [(.int 2), (.ref b3)])) rfl rfl (hb hby at_189)) ?_
              show G (T31.setTop (mkF m 190 #[.val (.int i0), .val (.int i1), .val (.long i2), .second, .val (.long i3), .second, .val (.long i4), .second, .val (.int n1), .val (.int 1), .val (.ref b3), .val (.ref q_31), .unset] [(.int r_10)]))
              refine hG _ _ (fun t_ k_ => XS.bipush X31.here hx rfl (hb hby at_190) k_) ?_
              show G (T31.setTop (mkF m 192 #[.val (.int i0), .val (.int i1), .val (.long i2), .second, .val (.long i3), .second, .val (.long i4), .second, .val (.int n1), .val (.int 1), .val (.ref b3), .val (.ref q_31), .unset] [(.int 114), (.int r_10)]))
              by_cases hc192_85 : r_10 = (114 : Int32)
              · skip
                refine hG _ _ (fun t_ k_ => XS.icmpYes X31.here hx rfl (pc0 := 192) (pc' := 207) rfl (hb hby at_192) rfl (teq hc192_85).1 (by decide) (by decide) k_) ?_
                show G (T31.setTop (mkF m 207 #[.val (.int i0), .val (.int i1), .val (.long i2), .second, .val (.long i3), .second, .val (.long i4), .second, .val (.int n1), .val (.int 1), .val (.ref b3), .val (.ref q_31), .unset] []))
                refine hG _ _ (fun t_ k_ => XS.aload X31.here hx rfl (hb hby at_207) rfl rfl k_) ?_
                refine hG _ _ (fun t_ k_ => XS.iload X31.here hx rfl (hb hby at_209) rfl k_) ?_
                refine hG _ _ (fun t_ k_ => XS.iconst X31.here hx rfl (hb hby at_211) k_) ?_
                refine hG _ _ (fun t_ k_ => XS.iadd X31.here hx rfl (hb hby at_212) rfl k_) ?_
                show G (T31.setTop (mkF m 213 #[.val (.int i0), .val (.int i1), .val (.long i2), .second, .val (.long i3), .second, .val (.long i4), .second, .val (.int n1), .val (.int 1), .val (.ref b3), .val (.ref q_31), .unset] [(.int ((1 : Int32) + (2 : Int32))), (.ref b3)]))
                rw [show ((1 : Int32) + (2 : Int32)) = (3 : Int32) from by decide]
                show G (T31.setTop (mkF m 213 #[.val (.int i0), .val (.int i1), .val (.long i2), .second, .val (.long i3), .second, .val (.long i4), .second, .val (.int n1), .val (.int 1), .val (.ref b3), .val (.ref q_31), .unset] [(.int 3), (.ref b3)]))
                obtain ⟨c86, Ar86, q86, S86, M86, H86, G86⟩ := id f82
                have hin86 : ¬ ((3 : Int32) < 0 ∨ c86.slots.size ≤ (3 : Int32).toNatClampNeg) := inb_of S86 ⟨by decide, by decide⟩
                refine hG _ _ (X31.caload hx (j := (3 : Int32)) (v := (.int r_13)) (by rw [e31]; exact Ar86.1) (State.isArrayOf_alike hZ31.alike Ar86.2.1) Ar86.2.2 hin86 (Has.at H86 hin86 rfl) (g := (mkF m 213 #[.val (.int i0), .val (.int i1), .val (.long i2), .second, .val (.long i3), .second, .val (.long i4), .second, .val (.int n1), .val (.int 1), .val (.ref b3), .val (.ref q_31), .unset] [(.int 3), (.ref b3)])) rfl rfl (hb hby at_213)) ?_
                show G (T31.setTop (mkF m 214 #[.val (.int i0), .val (.int i1), .val (.long i2), .second, .val (.long i3), .second, .val (.long i4), .second, .val (.int n1), .val (.int 1), .val (.ref b3), .val (.ref q_31), .unset] [(.int r_13)]))
                refine hG _ _ (fun t_ k_ => XS.bipush X31.here hx rfl (hb hby at_214) k_) ?_
                show G (T31.setTop (mkF m 216 #[.val (.int i0), .val (.int i1), .val (.long i2), .second, .val (.long i3), .second, .val (.long i4), .second, .val (.int n1), .val (.int 1), .val (.ref b3), .val (.ref q_31), .unset] [(.int 107), (.int r_13)]))
                by_cases hc216_87 : r_13 = (107 : Int32)
                · skip
                  refine hG _ _ (fun t_ k_ => XS.icmpYes X31.here hx rfl (pc0 := 216) (pc' := 231) rfl (hb hby at_216) rfl (teq hc216_87).1 (by decide) (by decide) k_) ?_
                  show G (T31.setTop (mkF m 231 #[.val (.int i0), .val (.int i1), .val (.long i2), .second, .val (.long i3), .second, .val (.long i4), .second, .val (.int n1), .val (.int 1), .val (.ref b3), .val (.ref q_31), .unset] []))
                  refine hG _ _ (fun t_ k_ => XS.aload X31.here hx rfl (hb hby at_231) rfl rfl k_) ?_
                  refine hG _ _ (fun t_ k_ => XS.iload X31.here hx rfl (hb hby at_233) rfl k_) ?_
                  refine hG _ _ (fun t_ k_ => XS.iconst X31.here hx rfl (hb hby at_235) k_) ?_
                  refine hG _ _ (fun t_ k_ => XS.iadd X31.here hx rfl (hb hby at_236) rfl k_) ?_
                  show G (T31.setTop (mkF m 237 #[.val (.int i0), .val (.int i1), .val (.long i2), .second, .val (.long i3), .second, .val (.long i4), .second, .val (.int n1), .val (.int 1), .val (.ref b3), .val (.ref q_31), .unset] [(.int ((1 : Int32) + (3 : Int32))), (.ref b3)]))
                  rw [show ((1 : Int32) + (3 : Int32)) = (4 : Int32) from by decide]
                  show G (T31.setTop (mkF m 237 #[.val (.int i0), .val (.int i1), .val (.long i2), .second, .val (.long i3), .second, .val (.long i4), .second, .val (.int n1), .val (.int 1), .val (.ref b3), .val (.ref q_31), .unset] [(.int 4), (.ref b3)]))
                  obtain ⟨c88, Ar88, q88, S88, M88, H88, G88⟩ := id f82
                  have hin88 : ¬ ((4 : Int32) < 0 ∨ c88.slots.size ≤ (4 : Int32).toNatClampNeg) := inb_of S88 ⟨by decide, by decide⟩
                  refine hG _ _ (X31.caload hx (j := (4 : Int32)) (v := (.int r_16)) (by rw [e31]; exact Ar88.1) (State.isArrayOf_alike hZ31.alike Ar88.2.1) Ar88.2.2 hin88 (Has.at H88 hin88 rfl) (g := (mkF m 237 #[.val (.int i0), .val (.int i1), .val (.long i2), .second, .val (.long i3), .second, .val (.long i4), .second, .val (.int n1), .val (.int 1), .val (.ref b3), .val (.ref q_31), .unset] [(.int 4), (.ref b3)])) rfl rfl (hb hby at_237)) ?_
                  show G (T31.setTop (mkF m 238 #[.val (.int i0), .val (.int i1), .val (.long i2), .second, .val (.long i3), .second, .val (.long i4), .second, .val (.int n1), .val (.int 1), .val (.ref b3), .val (.ref q_31), .unset] [(.int r_16)]))
                  refine hG _ _ (fun t_ k_ => XS.bipush X31.here hx rfl (hb hby at_238) k_) ?_
                  show G (T31.setTop (mkF m 240 #[.val (.int i0), .val (.int i1), .val (.long i2), .second, .val (.long i3), .second, .val (.long i4), .second, .val (.int n1), .val (.int 1), .val (.ref b3), .val (.ref q_31), .unset] [(.int 58), (.int r_16)]))
                  by_cases hc240_89 : r_16 = (58 : Int32)
                  · skip
                    refine hG _ _ (fun t_ k_ => XS.icmpNo X31.here hx rfl (hb hby at_240) rfl (teq hc240_89).2 k_) ?_
                    show G (T31.setTop (mkF m 243 #[.val (.int i0), .val (.int i1), .val (.long i2), .second, .val (.long i3), .second, .val (.long i4), .second, .val (.int n1), .val (.int 1), .val (.ref b3), .val (.ref q_31), .unset] []))
                    refine hG _ _ (fun t_ k_ => XS.iconst X31.here hx rfl (hb hby at_243) k_) ?_
                    refine hG _ _ (fun t_ k_ => XS.goto X31.here hx rfl (pc0 := 244) (pc' := 248) rfl (hb hby at_244) (by decide) (by decide) k_) ?_
                    show G (T31.setTop (mkF m 248 #[.val (.int i0), .val (.int i1), .val (.long i2), .second, .val (.long i3), .second, .val (.long i4), .second, .val (.int n1), .val (.int 1), .val (.ref b3), .val (.ref q_31), .unset] [(.int 1)]))
                    exact jn1 (hT.mpr ⟨hc151_34, hc160_35, Or.inl hc170_83, Or.inl hc192_85, Or.inl hc216_87, hc240_89⟩)
                  · skip
                    refine hG _ _ (fun t_ k_ => XS.icmpYes X31.here hx rfl (pc0 := 240) (pc' := 247) rfl (hb hby at_240) rfl (feq hc240_89).2 (by decide) (by decide) k_) ?_
                    show G (T31.setTop (mkF m 247 #[.val (.int i0), .val (.int i1), .val (.long i2), .second, .val (.long i3), .second, .val (.long i4), .second, .val (.int n1), .val (.int 1), .val (.ref b3), .val (.ref q_31), .unset] []))
                    refine hG _ _ (fun t_ k_ => XS.iconst X31.here hx rfl (hb hby at_247) k_) ?_
                    show G (T31.setTop (mkF m 248 #[.val (.int i0), .val (.int i1), .val (.long i2), .second, .val (.long i3), .second, .val (.long i4), .second, .val (.int n1), .val (.int 1), .val (.ref b3), .val (.ref q_31), .unset] [(.int 0)]))
                    exact jn0 (fun q => hc240_89 (hT.mp q).2.2.2.2.2)
                · skip
                  refine hG _ _ (fun t_ k_ => XS.icmpNo X31.here hx rfl (hb hby at_216) rfl (feq hc216_87).1 k_) ?_
                  show G (T31.setTop (mkF m 219 #[.val (.int i0), .val (.int i1), .val (.long i2), .second, .val (.long i3), .second, .val (.long i4), .second, .val (.int n1), .val (.int 1), .val (.ref b3), .val (.ref q_31), .unset] []))
                  refine hG _ _ (fun t_ k_ => XS.aload X31.here hx rfl (hb hby at_219) rfl rfl k_) ?_
                  refine hG _ _ (fun t_ k_ => XS.iload X31.here hx rfl (hb hby at_221) rfl k_) ?_
                  refine hG _ _ (fun t_ k_ => XS.iconst X31.here hx rfl (hb hby at_223) k_) ?_
                  refine hG _ _ (fun t_ k_ => XS.iadd X31.here hx rfl (hb hby at_224) rfl k_) ?_
                  show G (T31.setTop (mkF m 225 #[.val (.int i0), .val (.int i1), .val (.long i2), .second, .val (.long i3), .second, .val (.long i4), .second, .val (.int n1), .val (.int 1), .val (.ref b3), .val (.ref q_31), .unset] [(.int ((1 : Int32) + (2 : Int32))), (.ref b3)]))
                  rw [show ((1 : Int32) + (2 : Int32)) = (3 : Int32) from by decide]
                  show G (T31.setTop (mkF m 225 #[.val (.int i0), .val (.int i1), .val (.long i2), .second, .val (.long i3), .second, .val (.long i4), .second, .val (.int n1), .val (.int 1), .val (.ref b3), .val (.ref q_31), .unset] [(.int 3), (.ref b3)]))
                  obtain ⟨c90, Ar90, q90, S90, M90, H90, G90⟩ := id f82
                  have hin90 : ¬ ((3 : Int32) < 0 ∨ c90.slots.size ≤ (3 : Int32).toNatClampNeg) := inb_of S90 ⟨by decide, by decide⟩
                  refine hG _ _ (X31.caload hx (j := (3 : Int32)) (v := (.int r_13)) (by rw [e31]; exact Ar90.1) (State.isArrayOf_alike hZ31.alike Ar90.2.1) Ar90.2.2 hin90 (Has.at H90 hin90 rfl) (g := (mkF m 225 #[.val (.int i0), .val (.int i1), .val (.long i2), .second, .val (.long i3), .second, .val (.long i4), .second, .val (.int n1), .val (.int 1), .val (.ref b3), .val (.ref q_31), .unset] [(.int 3), (.ref b3)])) rfl rfl (hb hby at_225)) ?_
                  show G (T31.setTop (mkF m 226 #[.val (.int i0), .val (.int i1), .val (.long i2), .second, .val (.long i3), .second, .val (.long i4), .second, .val (.int n1), .val (.int 1), .val (.ref b3), .val (.ref q_31), .unset] [(.int r_13)]))
                  refine hG _ _ (fun t_ k_ => XS.bipush X31.here hx rfl (hb hby at_226) k_) ?_
                  show G (T31.setTop (mkF m 228 #[.val (.int i0), .val (.int i1), .val (.long i2), .second, .val (.long i3), .second, .val (.long i4), .second, .val (.int n1), .val (.int 1), .val (.ref b3), .val (.ref q_31), .unset] [(.int 75), (.int r_13)]))
                  by_cases hc228_91 : r_13 = (75 : Int32)
                  · skip
                    refine hG _ _ (fun t_ k_ => XS.icmpNo X31.here hx rfl (hb hby at_228) rfl (teq hc228_91).2 k_) ?_
                    show G (T31.setTop (mkF m 231 #[.val (.int i0), .val (.int i1), .val (.long i2), .second, .val (.long i3), .second, .val (.long i4), .second, .val (.int n1), .val (.int 1), .val (.ref b3), .val (.ref q_31), .unset] []))
                    refine hG _ _ (fun t_ k_ => XS.aload X31.here hx rfl (hb hby at_231) rfl rfl k_) ?_
                    refine hG _ _ (fun t_ k_ => XS.iload X31.here hx rfl (hb hby at_233) rfl k_) ?_
                    refine hG _ _ (fun t_ k_ => XS.iconst X31.here hx rfl (hb hby at_235) k_) ?_
                    refine hG _ _ (fun t_ k_ => XS.iadd X31.here hx rfl (hb hby at_236) rfl k_) ?_
                    show G (T31.setTop (mkF m 237 #[.val (.int i0), .val (.int i1), .val (.long i2), .second, .val (.long i3), .second, .val (.long i4), .second, .val (.int n1), .val (.int 1), .val (.ref b3), .val (.ref q_31), .unset] [(.int ((1 : Int32) + (3 : Int32))), (.ref b3)]))
                    rw [show ((1 : Int32) + (3 : Int32)) = (4 : Int32) from by decide]
                    show G (T31.setTop (mkF m 237 #[.val (.int i0), .val (.int i1), .val (.long i2), .second, .val (.long i3), .second, .val (.long i4), .second, .val (.int n1), .val (.int 1), .val (.ref b3), .val (.ref q_31), .unset] [(.int 4), (.ref b3)]))
                    obtain ⟨c92, Ar92, q92, S92, M92, H92, G92⟩ := id f82
                    have hin92 : ¬ ((4 : Int32) < 0 ∨ c92.slots.size ≤ (4 : Int32).toNatClampNeg) := inb_of S92 ⟨by decide, by decide⟩
                    refine hG _ _ (X31.caload hx (j := (4 : Int32)) (v := (.int r_16)) (by rw [e31]; exact Ar92.1) (State.isArrayOf_alike hZ31.alike Ar92.2.1) Ar92.2.2 hin92 (Has.at H92 hin92 rfl) (g := (mkF m 237 #[.val (.int i0), .val (.int i1), .val (.long i2), .second, .val (.long i3), .second, .val (.long i4), .second, .val (.int n1), .val (.int 1), .val (.ref b3), .val (.ref q_31), .unset] [(.int 4), (.ref b3)])) rfl rfl (hb hby at_237)) ?_
                    show G (T31.setTop (mkF m 238 #[.val (.int i0), .val (.int i1), .val (.long i2), .second, .val (.long i3), .second, .val (.long i4), .second, .val (.int n1), .val (.int 1), .val (.ref b3), .val (.ref q_31), .unset] [(.int r_16)]))
                    refine hG _ _ (fun t_ k_ => XS.bipush X31.here hx rfl (hb hby at_238) k_) ?_
                    show G (T31.setTop (mkF m 240 #[.val (.int i0), .val (.int i1), .val (.long i2), .second, .val (.long i3), .second, .val (.long i4), .second, .val (.int n1), .val (.int 1), .val (.ref b3), .val (.ref q_31), .unset] [(.int 58), (.int r_16)]))
                    by_cases hc240_93 : r_16 = (58 : Int32)
                    · skip
                      refine hG _ _ (fun t_ k_ => XS.icmpNo X31.here hx rfl (hb hby at_240) rfl (teq hc240_93).2 k_) ?_
                      show G (T31.setTop (mkF m 243 #[.val (.int i0), .val (.int i1), .val (.long i2), .second, .val (.long i3), .second, .val (.long i4), .second, .val (.int n1), .val (.int 1), .val (.ref b3), .val (.ref q_31), .unset] []))
                      refine hG _ _ (fun t_ k_ => XS.iconst X31.here hx rfl (hb hby at_243) k_) ?_
                      refine hG _ _ (fun t_ k_ => XS.goto X31.here hx rfl (pc0 := 244) (pc' := 248) rfl (hb hby at_244) (by decide) (by decide) k_) ?_
                      show G (T31.setTop (mkF m 248 #[.val (.int i0), .val (.int i1), .val (.long i2), .second, .val (.long i3), .second, .val (.long i4), .second, .val (.int n1), .val (.int 1), .val (.ref b3), .val (.ref q_31), .unset] [(.int 1)]))
                      exact jn1 (hT.mpr ⟨hc151_34, hc160_35, Or.inl hc170_83, Or.inl hc192_85, Or.inr hc228_91, hc240_93⟩)
                    · skip
                      refine hG _ _ (fun t_ k_ => XS.icmpYes X31.here hx rfl (pc0 := 240) (pc' := 247) rfl (hb hby at_240) rfl (feq hc240_93).2 (by decide) (by decide) k_) ?_
                      show G (T31.setTop (mkF m 247 #[.val (.int i0), .val (.int i1), .val (.long i2), .second, .val (.long i3), .second, .val (.long i4), .second, .val (.int n1), .val (.int 1), .val (.ref b3), .val (.ref q_31), .unset] []))
                      refine hG _ _ (fun t_ k_ => XS.iconst X31.here hx rfl (hb hby at_247) k_) ?_
                      show G (T31.setTop (mkF m 248 #[.val (.int i0), .val (.int i1), .val (.long i2), .second, .val (.long i3), .second, .val (.long i4), .second, .val (.int n1), .val (.int 1), .val (.ref b3), .val (.ref q_31), .unset] [(.int 0)]))
                      exact jn0 (fun q => hc240_93 (hT.mp q).2.2.2.2.2)
                  · skip
                    refine hG _ _ (fun t_ k_ => XS.icmpYes X31.here hx rfl (pc0 := 228) (pc' := 247) rfl (hb hby at_228) rfl (feq hc228_91).2 (by decide) (by decide) k_) ?_
                    show G (T31.setTop (mkF m 247 #[.val (.int i0), .val (.int i1), .val (.long i2), .second, .val (.long i3), .second, .val (.long i4), .second, .val (.int n1), .val (.int 1), .val (.ref b3), .val (.ref q_31), .unset] []))
                    refine hG _ _ (fun t_ k_ => XS.iconst X31.here hx rfl (hb hby at_247) k_) ?_
                    show G (T31.setTop (mkF m 248 #[.val (.int i0), .val (.int i1), .val (.long i2), .second, .val (.long i3), .second, .val (.long i4), .second, .val (.int n1), .val (.int 1), .val (.ref b3), .val (.ref q_31), .unset] [(.int 0)]))
                    exact jn0 (fun q => (hT.mp q).2.2.2.2.1.elim hc216_87 hc228_91)
              · skip
                refine hG _ _ (fun t_ k_ => XS.icmpNo X31.here hx rfl (hb hby at_192) rfl (feq hc192_85).1 k_) ?_
                show G (T31.setTop (mkF m 195 #[.val (.int i0), .val (.int i1), .val (.long i2), .second, .val (.long i3), .second, .val (.long i4), .second, .val (.int n1), .val (.int 1), .val (.ref b3), .val (.ref q_31), .unset] []))
                refine hG _ _ (fun t_ k_ => XS.aload X31.here hx rfl (hb hby at_195) rfl rfl k_) ?_
                refine hG _ _ (fun t_ k_ => XS.iload X31.here hx rfl (hb hby at_197) rfl k_) ?_
                refine hG _ _ (fun t_ k_ => XS.iconst X31.here hx rfl (hb hby at_199) k_) ?_
                refine hG _ _ (fun t_ k_ => XS.iadd X31.here hx rfl (hb hby at_200) rfl k_) ?_
                show G (T31.setTop (mkF m 201 #[.val (.int i0), .val (.int i1), .val (.long i2), .second, .val (.long i3), .second, .val (.long i4), .second, .val (.int n1), .val (.int 1), .val (.ref b3), .val (.ref q_31), .unset] [(.int ((1 : Int32) + (1 : Int32))), (.ref b3)]))
                rw [show ((1 : Int32) + (1 : Int32)) = (2 : Int32) from by decide]
                show G (T31.setTop (mkF m 201 #[.val (.int i0), .val (.int i1), .val (.long i2), .second, .val (.long i3), .second, .val (.long i4), .second, .val (.int n1), .val (.int 1), .val (.ref b3), .val (.ref q_31), .unset] [(.int 2), (.ref b3)]))
                obtain ⟨c94, Ar94, q94, S94, M94, H94, G94⟩ := id f82
                have hin94 : ¬ ((2 : Int32) < 0 ∨ c94.slots.size ≤ (2 : Int32).toNatClampNeg) := inb_of S94 ⟨by decide, by decide⟩
                refine hG _ _ (X31.caload hx (j := (2 : Int32)) (v := (.int r_10)) (by rw [e31]; exact Ar94.1) (State.isArrayOf_alike hZ31.alike Ar94.2.1) Ar94.2.2 hin94 (Has.at H94 hin94 rfl) (g := (mkF m 201 #[.val (.int i0), .val (.int i1), .val (.long i2), .second, .val (.long i3), .second, .val (.long i4), .second, .val (.int n1), .val (.int 1), .val (.ref b3), .val (.ref q_31), .unset] [(.int 2), (.ref b3)])) rfl rfl (hb hby at_201)) ?_
                show G (T31.setTop (mkF m 202 #[.val (.int i0), .val (.int i1), .val (.long i2), .second, .val (.long i3), .second, .val (.long i4), .second, .val (.int n1), .val (.int 1), .val (.ref b3), .val (.ref q_31), .unset] [(.int r_10)]))
                refine hG _ _ (fun t_ k_ => XS.bipush X31.here hx rfl (hb hby at_202) k_) ?_
                show G (T31.setTop (mkF m 204 #[.val (.int i0), .val (.int i1), .val (.long i2), .second, .val (.long i3), .second, .val (.long i4), .second, .val (.int n1), .val (.int 1), .val (.ref b3), .val (.ref q_31), .unset] [(.int 82), (.int r_10)]))
                by_cases hc204_95 : r_10 = (82 : Int32)
                · skip
                  refine hG _ _ (fun t_ k_ => XS.icmpNo X31.here hx rfl (hb hby at_204) rfl (teq hc204_95).2 k_) ?_
                  show G (T31.setTop (mkF m 207 #[.val (.int i0), .val (.int i1), .val (.long i2), .second, .val (.long i3), .second, .val (.long i4), .second, .val (.int n1), .val (.int 1), .val (.ref b3), .val (.ref q_31), .unset] []))
                  refine hG _ _ (fun t_ k_ => XS.aload X31.here hx rfl (hb hby at_207) rfl rfl k_) ?_
                  refine hG _ _ (fun t_ k_ => XS.iload X31.here hx rfl (hb hby at_209) rfl k_) ?_
                  refine hG _ _ (fun t_ k_ => XS.iconst X31.here hx rfl (hb hby at_211) k_) ?_
                  refine hG _ _ (fun t_ k_ => XS.iadd X31.here hx rfl (hb hby at_212) rfl k_) ?_
                  show G (T31.setTop (mkF m 213 #[.val (.int i0), .val (.int i1), .val (.long i2), .second, .val (.long i3), .second, .val (.long i4), .second, .val (.int n1), .val (.int 1), .val (.ref b3), .val (.ref q_31), .unset] [(.int ((1 : Int32) + (2 : Int32))), (.ref b3)]))
                  rw [show ((1 : Int32) + (2 : Int32)) = (3 : Int32) from by decide]
                  show G (T31.setTop (mkF m 213 #[.val (.int i0), .val (.int i1), .val (.long i2), .second, .val (.long i3), .second, .val (.long i4), .second, .val (.int n1), .val (.int 1), .val (.ref b3), .val (.ref q_31), .unset] [(.int 3), (.ref b3)]))
                  obtain ⟨c96, Ar96, q96, S96, M96, H96, G96⟩ := id f82
                  have hin96 : ¬ ((3 : Int32) < 0 ∨ c96.slots.size ≤ (3 : Int32).toNatClampNeg) := inb_of S96 ⟨by decide, by decide⟩
                  refine hG _ _ (X31.caload hx (j := (3 : Int32)) (v := (.int r_13)) (by rw [e31]; exact Ar96.1) (State.isArrayOf_alike hZ31.alike Ar96.2.1) Ar96.2.2 hin96 (Has.at H96 hin96 rfl) (g := (mkF m 213 #[.val (.int i0), .val (.int i1), .val (.long i2), .second, .val (.long i3), .second, .val (.long i4), .second, .val (.int n1), .val (.int 1), .val (.ref b3), .val (.ref q_31), .unset] [(.int 3), (.ref b3)])) rfl rfl (hb hby at_213)) ?_
                  show G (T31.setTop (mkF m 214 #[.val (.int i0), .val (.int i1), .val (.long i2), .second, .val (.long i3), .second, .val (.long i4), .second, .val (.int n1), .val (.int 1), .val (.ref b3), .val (.ref q_31), .unset] [(.int r_13)]))
                  refine hG _ _ (fun t_ k_ => XS.bipush X31.here hx rfl (hb hby at_214) k_) ?_
                  show G (T31.setTop (mkF m 216 #[.val (.int i0), .val (.int i1), .val (.long i2), .second, .val (.long i3), .second, .val (.long i4), .second, .val (.int n1), .val (.int 1), .val (.ref b3), .val (.ref q_31), .unset] [(.int 107), (.int r_13)]))
                  by_cases hc216_97 : r_13 = (107 : Int32)
                  · skip
                    refine hG _ _ (fun t_ k_ => XS.icmpYes X31.here hx rfl (pc0 := 216) (pc' := 231) rfl (hb hby at_216) rfl (teq hc216_97).1 (by decide) (by decide) k_) ?_
                    show G (T31.setTop (mkF m 231 #[.val (.int i0), .val (.int i1), .val (.long i2), .second, .val (.long i3), .second, .val (.long i4), .second, .val (.int n1), .val (.int 1), .val (.ref b3), .val (.ref q_31), .unset] []))
                    refine hG _ _ (fun t_ k_ => XS.aload X31.here hx rfl (hb hby at_231) rfl rfl k_) ?_
                    refine hG _ _ (fun t_ k_ => XS.iload X31.here hx rfl (hb hby at_233) rfl k_) ?_
                    refine hG _ _ (fun t_ k_ => XS.iconst X31.here hx rfl (hb hby at_235) k_) ?_
                    refine hG _ _ (fun t_ k_ => XS.iadd X31.here hx rfl (hb hby at_236) rfl k_) ?_
                    show G (T31.setTop (mkF m 237 #[.val (.int i0), .val (.int i1), .val (.long i2), .second, .val (.long i3), .second, .val (.long i4), .second, .val (.int n1), .val (.int 1), .val (.ref b3), .val (.ref q_31), .unset] [(.int ((1 : Int32) + (3 : Int32))), (.ref b3)]))
                    rw [show ((1 : Int32) + (3 : Int32)) = (4 : Int32) from by decide]
                    show G (T31.setTop (mkF m 237 #[.val (.int i0), .val (.int i1), .val (.long i2), .second, .val (.long i3), .second, .val (.long i4), .second, .val (.int n1), .val (.int 1), .val (.ref b3), .val (.ref q_31), .unset] [(.int 4), (.ref b3)]))
                    obtain ⟨c98, Ar98, q98, S98, M98, H98, G98⟩ := id f82
                    have hin98 : ¬ ((4 : Int32) < 0 ∨ c98.slots.size ≤ (4 : Int32).toNatClampNeg) := inb_of S98 ⟨by decide, by decide⟩
                    refine hG _ _ (X31.caload hx (j := (4 : Int32)) (v := (.int r_16)) (by rw [e31]; exact Ar98.1) (State.isArrayOf_alike hZ31.alike Ar98.2.1) Ar98.2.2 hin98 (Has.at H98 hin98 rfl) (g := (mkF m 237 #[.val (.int i0), .val (.int i1), .val (.long i2), .second, .val (.long i3), .second, .val (.long i4), .second, .val (.int n1), .val (.int 1), .val (.ref b3), .val (.ref q_31), .unset] [(.int 4), (.ref b3)])) rfl rfl (hb hby at_237)) ?_
                    show G (T31.setTop (mkF m 238 #[.val (.int i0), .val (.int i1), .val (.long i2), .second, .val (.long i3), .second, .val (.long i4), .second, .val (.int n1), .val (.int 1), .val (.ref b3), .val (.ref q_31), .unset] [(.int r_16)]))
                    refine hG _ _ (fun t_ k_ => XS.bipush X31.here hx rfl (hb hby at_238) k_) ?_
                    show G (T31.setTop (mkF m 240 #[.val (.int i0), .val (.int i1), .val (.long i2), .second, .val (.long i3), .second, .val (.long i4), .second, .val (.int n1), .val (.int 1), .val (.ref b3), .val (.ref q_31), .unset] [(.int 58), (.int r_16)]))
                    by_cases hc240_99 : r_16 = (58 : Int32)
                    · skip
                      refine hG _ _ (fun t_ k_ => XS.icmpNo X31.here hx rfl (hb hby at_240) rfl (teq hc240_99).2 k_) ?_
                      show G (T31.setTop (mkF m 243 #[.val (.int i0), .val (.int i1), .val (.long i2), .second, .val (.long i3), .second, .val (.long i4), .second, .val (.int n1), .val (.int 1), .val (.ref b3), .val (.ref q_31), .unset] []))
                      refine hG _ _ (fun t_ k_ => XS.iconst X31.here hx rfl (hb hby at_243) k_) ?_
                      refine hG _ _ (fun t_ k_ => XS.goto X31.here hx rfl (pc0 := 244) (pc' := 248) rfl (hb hby at_244) (by decide) (by decide) k_) ?_
                      show G (T31.setTop (mkF m 248 #[.val (.int i0), .val (.int i1), .val (.long i2), .second, .val (.long i3), .second, .val (.long i4), .second, .val (.int n1), .val (.int 1), .val (.ref b3), .val (.ref q_31), .unset] [(.int 1)]))
                      exact jn1 (hT.mpr ⟨hc151_34, hc160_35, Or.inl hc170_83, Or.inr hc204_95, Or.inl hc216_97, hc240_99⟩)
                    · skip
                      refine hG _ _ (fun t_ k_ => XS.icmpYes X31.here hx rfl (pc0 := 240) (pc' := 247) rfl (hb hby at_240) rfl (feq hc240_99).2 (by decide) (by decide) k_) ?_
                      show G (T31.setTop (mkF m 247 #[.val (.int i0), .val (.int i1), .val (.long i2), .second, .val (.long i3), .second, .val (.long i4), .second, .val (.int n1), .val (.int 1), .val (.ref b3), .val (.ref q_31), .unset] []))
                      refine hG _ _ (fun t_ k_ => XS.iconst X31.here hx rfl (hb hby at_247) k_) ?_
                      show G (T31.setTop (mkF m 248 #[.val (.int i0), .val (.int i1), .val (.long i2), .second, .val (.long i3), .second, .val (.long i4), .second, .val (.int n1), .val (.int 1), .val (.ref b3), .val (.ref q_31), .unset] [(.int 0)]))
                      exact jn0 (fun q => hc240_99 (hT.mp q).2.2.2.2.2)
                  · skip
                    refine hG _ _ (fun t_ k_ => XS.icmpNo X31.here hx rfl (hb hby at_216) rfl (feq hc216_97).1 k_) ?_
                    show G (T31.setTop (mkF m 219 #[.val (.int i0), .val (.int i1), .val (.long i2), .second, .val (.long i3), .second, .val (.long i4), .second, .val (.int n1), .val (.int 1), .val (.ref b3), .val (.ref q_31), .unset] []))
                    refine hG _ _ (fun t_ k_ => XS.aload X31.here hx rfl (hb hby at_219) rfl rfl k_) ?_
                    refine hG _ _ (fun t_ k_ => XS.iload X31.here hx rfl (hb hby at_221) rfl k_) ?_
                    refine hG _ _ (fun t_ k_ => XS.iconst X31.here hx rfl (hb hby at_223) k_) ?_
                    refine hG _ _ (fun t_ k_ => XS.iadd X31.here hx rfl (hb hby at_224) rfl k_) ?_
                    show G (T31.setTop (mkF m 225 #[.val (.int i0), .val (.int i1), .val (.long i2), .second, .val (.long i3), .second, .val (.long i4), .second, .val (.int n1), .val (.int 1), .val (.ref b3), .val (.ref q_31), .unset] [(.int ((1 : Int32) + (2 : Int32))), (.ref b3)]))
                    rw [show ((1 : Int32) + (2 : Int32)) = (3 : Int32) from by decide]
                    show G (T31.setTop (mkF m 225 #[.val (.int i0), .val (.int i1), .val (.long i2), .second, .val (.long i3), .second, .val (.long i4), .second, .val (.int n1), .val (.int 1), .val (.ref b3), .val (.ref q_31), .unset] [(.int 3), (.ref b3)]))
                    obtain ⟨c100, Ar100, q100, S100, M100, H100, G100⟩ := id f82
                    have hin100 : ¬ ((3 : Int32) < 0 ∨ c100.slots.size ≤ (3 : Int32).toNatClampNeg) := inb_of S100 ⟨by decide, by decide⟩
                    refine hG _ _ (X31.caload hx (j := (3 : Int32)) (v := (.int r_13)) (by rw [e31]; exact Ar100.1) (State.isArrayOf_alike hZ31.alike Ar100.2.1) Ar100.2.2 hin100 (Has.at H100 hin100 rfl) (g := (mkF m 225 #[.val (.int i0), .val (.int i1), .val (.long i2), .second, .val (.long i3), .second, .val (.long i4), .second, .val (.int n1), .val (.int 1), .val (.ref b3), .val (.ref q_31), .unset] [(.int 3), (.ref b3)])) rfl rfl (hb hby at_225)) ?_
                    show G (T31.setTop (mkF m 226 #[.val (.int i0), .val (.int i1), .val (.long i2), .second, .val (.long i3), .second, .val (.long i4), .second, .val (.int n1), .val (.int 1), .val (.ref b3), .val (.ref q_31), .unset] [(.int r_13)]))
                    refine hG _ _ (fun t_ k_ => XS.bipush X31.here hx rfl (hb hby at_226) k_) ?_
                    show G (T31.setTop (mkF m 228 #[.val (.int i0), .val (.int i1), .val (.long i2), .second, .val (.long i3), .second, .val (.long i4), .second, .val (.int n1), .val (.int 1), .val (.ref b3), .val (.ref q_31), .unset] [(.int 75), (.int r_13)]))
                    by_cases hc228_101 : r_13 = (75 : Int32)
                    · skip
                      refine hG _ _ (fun t_ k_ => XS.icmpNo X31.here hx rfl (hb hby at_228) rfl (teq hc228_101).2 k_) ?_
                      show G (T31.setTop (mkF m 231 #[.val (.int i0), .val (.int i1), .val (.long i2), .second, .val (.long i3), .second, .val (.long i4), .second, .val (.int n1), .val (.int 1), .val (.ref b3), .val (.ref q_31), .unset] []))
                      refine hG _ _ (fun t_ k_ => XS.aload X31.here hx rfl (hb hby at_231) rfl rfl k_) ?_
                      refine hG _ _ (fun t_ k_ => XS.iload X31.here hx rfl (hb hby at_233) rfl k_) ?_
                      refine hG _ _ (fun t_ k_ => XS.iconst X31.here hx rfl (hb hby at_235) k_) ?_
                      refine hG _ _ (fun t_ k_ => XS.iadd X31.here hx rfl (hb hby at_236) rfl k_) ?_
                      show G (T31.setTop (mkF m 237 #[.val (.int i0), .val (.int i1), .val (.long i2), .second, .val (.long i3), .second, .val (.long i4), .second, .val (.int n1), .val (.int 1), .val (.ref b3), .val (.ref q_31), .unset] [(.int ((1 : Int32) + (3 : Int32))), (.ref b3)]))
                      rw [show ((1 : Int32) + (3 : Int32)) = (4 : Int32) from by decide]
                      show G (T31.setTop (mkF m 237 #[.val (.int i0), .val (.int i1), .val (.long i2), .second, .val (.long i3), .second, .val (.long i4), .second, .val (.int n1), .val (.int 1), .val (.ref b3), .val (.ref q_31), .unset] [(.int 4), (.ref b3)]))
                      obtain ⟨c102, Ar102, q102, S102, M102, H102, G102⟩ := id f82
                      have hin102 : ¬ ((4 : Int32) < 0 ∨ c102.slots.size ≤ (4 : Int32).toNatClampNeg) := inb_of S102 ⟨by decide, by decide⟩
                      refine hG _ _ (X31.caload hx (j := (4 : Int32)) (v := (.int r_16)) (by rw [e31]; exact Ar102.1) (State.isArrayOf_alike hZ31.alike Ar102.2.1) Ar102.2.2 hin102 (Has.at H102 hin102 rfl) (g := (mkF m 237 #[.val (.int i0), .val (.int i1), .val (.long i2), .second, .val (.long i3), .second, .val (.long i4), .second, .val (.int n1), .val (.int 1), .val (.ref b3), .val (.ref q_31), .unset] [(.int 4), (.ref b3)])) rfl rfl (hb hby at_237)) ?_
                      show G (T31.setTop (mkF m 238 #[.val (.int i0), .val (.int i1), .val (.long i2), .second, .val (.long i3), .second, .val (.long i4), .second, .val (.int n1), .val (.int 1), .val (.ref b3), .val (.ref q_31), .unset] [(.int r_16)]))
                      refine hG _ _ (fun t_ k_ => XS.bipush X31.here hx rfl (hb hby at_238) k_) ?_
                      show G (T31.setTop (mkF m 240 #[.val (.int i0), .val (.int i1), .val (.long i2), .second, .val (.long i3), .second, .val (.long i4), .second, .val (.int n1), .val (.int 1), .val (.ref b3), .val (.ref q_31), .unset] [(.int 58), (.int r_16)]))
                      by_cases hc240_103 : r_16 = (58 : Int32)
                      · skip
                        refine hG _ _ (fun t_ k_ => XS.icmpNo X31.here hx rfl (hb hby at_240) rfl (teq hc240_103).2 k_) ?_
                        show G (T31.setTop (mkF m 243 #[.val (.int i0), .val (.int i1), .val (.long i2), .second, .val (.long i3), .second, .val (.long i4), .second, .val (.int n1), .val (.int 1), .val (.ref b3), .val (.ref q_31), .unset] []))
                        refine hG _ _ (fun t_ k_ => XS.iconst X31.here hx rfl (hb hby at_243) k_) ?_
                        refine hG _ _ (fun t_ k_ => XS.goto X31.here hx rfl (pc0 := 244) (pc' := 248) rfl (hb hby at_244) (by decide) (by decide) k_) ?_
                        show G (T31.setTop (mkF m 248 #[.val (.int i0), .val (.int i1), .val (.long i2), .second, .val (.long i3), .second, .val (.long i4), .second, .val (.int n1), .val (.int 1), .val (.ref b3), .val (.ref q_31), .unset] [(.int 1)]))
                        exact jn1 (hT.mpr ⟨hc151_34, hc160_35, Or.inl hc170_83, Or.inr hc204_95, Or.inr hc228_101, hc240_103⟩)
                      · skip
                        refine hG _ _ (fun t_ k_ => XS.icmpYes X31.here hx rfl (pc0 := 240) (pc' := 247) rfl (hb hby at_240) rfl (feq hc240_103).2 (by decide) (by decide) k_) ?_
                        show G (T31.setTop (mkF m 247 #[.val (.int i0), .val (.int i1), .val (.long i2), .second, .val (.long i3), .second, .val (.long i4), .second, .val (.int n1), .val (.int 1), .val (.ref b3), .val (.ref q_31), .unset] []))
                        refine hG _ _ (fun t_ k_ => XS.iconst X31.here hx rfl (hb hby at_247) k_) ?_
                        show G (T31.setTop (mkF m 248 #[.val (.int i0), .val (.int i1), .val (.long i2), .second, .val (.long i3), .second, .val (.long i4), .second, .val (.int n1), .val (.int 1), .val (.ref b3), .val (.ref q_31), .unset] [(.int 0)]))
                        exact jn0 (fun q => hc240_103 (hT.mp q).2.2.2.2.2)
                    · skip
                      refine hG _ _ (fun t_ k_ => XS.icmpYes X31.here hx rfl (pc0 := 228) (pc' := 247) rfl (hb hby at_228) rfl (feq hc228_101).2 (by decide) (by decide) k_) ?_
                      show G (T31.setTop (mkF m 247 #[.val (.int i0), .val (.int i1), .val (.long i2), .second, .val (.long i3), .second, .val (.long i4), .second, .val (.int n1), .val (.int 1), .val (.ref b3), .val (.ref q_31), .unset] []))
                      refine hG _ _ (fun t_ k_ => XS.iconst X31.here hx rfl (hb hby at_247) k_) ?_
                      show G (T31.setTop (mkF m 248 #[.val (.int i0), .val (.int i1), .val (.long i2), .second, .val (.long i3), .second, .val (.long i4), .second, .val (.int n1), .val (.int 1), .val (.ref b3), .val (.ref q_31), .unset] [(.int 0)]))
                      exact jn0 (fun q => (hT.mp q).2.2.2.2.1.elim hc216_97 hc228_101)
                · skip
                  refine hG _ _ (fun t_ k_ => XS.icmpYes X31.here hx rfl (pc0 := 204) (pc' := 247) rfl (hb hby at_204) rfl (feq hc204_95).2 (by decide) (by decide) k_) ?_
                  show G (T31.setTop (mkF m 247 #[.val (.int i0), .val (.int i1), .val (.long i2), .second, .val (.long i3), .second, .val (.long i4), .second, .val (.int n1), .val (.int 1), .val (.ref b3), .val (.ref q_31), .unset] []))
                  refine hG _ _ (fun t_ k_ => XS.iconst X31.here hx rfl (hb hby at_247) k_) ?_
                  show G (T31.setTop (mkF m 248 #[.val (.int i0), .val (.int i1), .val (.long i2), .second, .val (.long i3), .second, .val (.long i4), .second, .val (.int n1), .val (.int 1), .val (.ref b3), .val (.ref q_31), .unset] [(.int 0)]))
                  exact jn0 (fun q => (hT.mp q).2.2.2.1.elim hc192_85 hc204_95)
            · skip
              refine hG _ _ (fun t_ k_ => XS.icmpNo X31.here hx rfl (hb hby at_170) rfl (feq hc170_83).1 k_) ?_
              show G (T31.setTop (mkF m 173 #[.val (.int i0), .val (.int i1), .val (.long i2), .second, .val (.long i3), .second, .val (.long i4), .second, .val (.int n1), .val (.int 1), .val (.ref b3), .val (.ref q_31), .unset] []))
              refine hG _ _ (fun t_ k_ => XS.aload X31.here hx rfl (hb hby at_173) rfl rfl k_) ?_
              refine hG _ _ (fun t_ k_ => XS.iload X31.here hx rfl (hb hby at_175) rfl k_) ?_
              show G (T31.setTop (mkF m 177 #[.val (.int i0), .val (.int i1), .val (.long i2), .second, .val (.long i3), .second, .val (.long i4), .second, .val (.int n1), .val (.int 1), .val (.ref b3), .val (.ref q_31), .unset] [(.int 1), (.ref b3)]))
              obtain ⟨c104, Ar104, q104, S104, M104, H104, G104⟩ := id f82
              have hin104 : ¬ ((1 : Int32) < 0 ∨ c104.slots.size ≤ (1 : Int32).toNatClampNeg) := inb_of S104 ⟨by decide, by decide⟩
              refine hG _ _ (X31.caload hx (j := (1 : Int32)) (v := (.int r_7)) (by rw [e31]; exact Ar104.1) (State.isArrayOf_alike hZ31.alike Ar104.2.1) Ar104.2.2 hin104 (Has.at H104 hin104 rfl) (g := (mkF m 177 #[.val (.int i0), .val (.int i1), .val (.long i2), .second, .val (.long i3), .second, .val (.long i4), .second, .val (.int n1), .val (.int 1), .val (.ref b3), .val (.ref q_31), .unset] [(.int 1), (.ref b3)])) rfl rfl (hb hby at_177)) ?_
              show G (T31.setTop (mkF m 178 #[.val (.int i0), .val (.int i1), .val (.long i2), .second, .val (.long i3), .second, .val (.long i4), .second, .val (.int n1), .val (.int 1), .val (.ref b3), .val (.ref q_31), .unset] [(.int r_7)]))
              refine hG _ _ (fun t_ k_ => XS.bipush X31.here hx rfl (hb hby at_178) k_) ?_
              show G (T31.setTop (mkF m 180 #[.val (.int i0), .val (.int i1), .val (.long i2), .second, .val (.long i3), .second, .val (.long i4), .second, .val (.int n1), .val (.int 1), .val (.ref b3), .val (.ref q_31), .unset] [(.int 65), (.int r_7)]))
              by_cases hc180_105 : r_7 = (65 : Int32)
              · skip
                refine hG _ _ (fun t_ k_ => XS.icmpNo X31.here hx rfl (hb hby at_180) rfl (teq hc180_105).2 k_) ?_
                show G (T31.setTop (mkF m 183 #[.val (.int i0), .val (.int i1), .val (.long i2), .second, .val (.long i3), .second, .val (.long i4), .second, .val (.int n1), .val (.int 1), .val (.ref b3), .val (.ref q_31), .unset] []))
                refine hG _ _ (fun t_ k_ => XS.aload X31.here hx rfl (hb hby at_183) rfl rfl k_) ?_
                refine hG _ _ (fun t_ k_ => XS.iload X31.here hx rfl (hb hby at_185) rfl k_) ?_
                refine hG _ _ (fun t_ k_ => XS.iconst X31.here hx rfl (hb hby at_187) k_) ?_
                refine hG _ _ (fun t_ k_ => XS.iadd X31.here hx rfl (hb hby at_188) rfl k_) ?_
                show G (T31.setTop (mkF m 189 #[.val (.int i0), .val (.int i1), .val (.long i2), .second, .val (.long i3), .second, .val (.long i4), .second, .val (.int n1), .val (.int 1), .val (.ref b3), .val (.ref q_31), .unset] [(.int ((1 : Int32) + (1 : Int32))), (.ref b3)]))
                rw [show ((1 : Int32) + (1 : Int32)) = (2 : Int32) from by decide]
                show G (T31.setTop (mkF m 189 #[.val (.int i0), .val (.int i1), .val (.long i2), .second, .val (.long i3), .second, .val (.long i4), .second, .val (.int n1), .val (.int 1), .val (.ref b3), .val (.ref q_31), .unset] [(.int 2), (.ref b3)]))
                obtain ⟨c106, Ar106, q106, S106, M106, H106, G106⟩ := id f82
                have hin106 : ¬ ((2 : Int32) < 0 ∨ c106.slots.size ≤ (2 : Int32).toNatClampNeg) := inb_of S106 ⟨by decide, by decide⟩
                refine hG _ _ (X31.caload hx (j := (2 : Int32)) (v := (.int r_10)) (by rw [e31]; exact Ar106.1) (State.isArrayOf_alike hZ31.alike Ar106.2.1) Ar106.2.2 hin106 (Has.at H106 hin106 rfl) (g := (mkF m 189 #[.val (.int i0), .val (.int i1), .val (.long i2), .second, .val (.long i3), .second, .val (.long i4), .second, .val (.int n1), .val (.int 1), .val (.ref b3), .val (.ref q_31), .unset] [(.int 2), (.ref b3)])) rfl rfl (hb hby at_189)) ?_
                show G (T31.setTop (mkF m 190 #[.val (.int i0), .val (.int i1), .val (.long i2), .second, .val (.long i3), .second, .val (.long i4), .second, .val (.int n1), .val (.int 1), .val (.ref b3), .val (.ref q_31), .unset] [(.int r_10)]))
                refine hG _ _ (fun t_ k_ => XS.bipush X31.here hx rfl (hb hby at_190) k_) ?_
                show G (T31.setTop (mkF m 192 #[.val (.int i0), .val (.int i1), .val (.long i2), .second, .val (.long i3), .second, .val (.long i4), .second, .val (.int n1), .val (.int 1), .val (.ref b3), .val (.ref q_31), .unset] [(.int 114), (.int r_10)]))
                by_cases hc192_107 : r_10 = (114 : Int32)
                · skip
                  refine hG _ _ (fun t_ k_ => XS.icmpYes X31.here hx rfl (pc0 := 192) (pc' := 207) rfl (hb hby at_192) rfl (teq hc192_107).1 (by decide) (by decide) k_) ?_
                  show G (T31.setTop (mkF m 207 #[.val (.int i0), .val (.int i1), .val (.long i2), .second, .val (.long i3), .second, .val (.long i4), .second, .val (.int n1), .val (.int 1), .val (.ref b3), .val (.ref q_31), .unset] []))
                  refine hG _ _ (fun t_ k_ => XS.aload X31.here hx rfl (hb hby at_207) rfl rfl k_) ?_
                  refine hG _ _ (fun t_ k_ => XS.iload X31.here hx rfl (hb hby at_209) rfl k_) ?_
                  refine hG _ _ (fun t_ k_ => XS.iconst X31.here hx rfl (hb hby at_211) k_) ?_
                  refine hG _ _ (fun t_ k_ => XS.iadd X31.here hx rfl (hb hby at_212) rfl k_) ?_
                  show G (T31.setTop (mkF m 213 #[.val (.int i0), .val (.int i1), .val (.long i2), .second, .val (.long i3), .second, .val (.long i4), .second, .val (.int n1), .val (.int 1), .val (.ref b3), .val (.ref q_31), .unset] [(.int ((1 : Int32) + (2 : Int32))), (.ref b3)]))
                  rw [show ((1 : Int32) + (2 : Int32)) = (3 : Int32) from by decide]
                  show G (T31.setTop (mkF m 213 #[.val (.int i0), .val (.int i1), .val (.long i2), .second, .val (.long i3), .second, .val (.long i4), .second, .val (.int n1), .val (.int 1), .val (.ref b3), .val (.ref q_31), .unset] [(.int 3), (.ref b3)]))
                  obtain ⟨c108, Ar108, q108, S108, M108, H108, G108⟩ := id f82
                  have hin108 : ¬ ((3 : Int32) < 0 ∨ c108.slots.size ≤ (3 : Int32).toNatClampNeg) := inb_of S108 ⟨by decide, by decide⟩
                  refine hG _ _ (X31.caload hx (j := (3 : Int32)) (v := (.int r_13)) (by rw [e31]; exact Ar108.1) (State.isArrayOf_alike hZ31.alike Ar108.2.1) Ar108.2.2 hin108 (Has.at H108 hin108 rfl) (g := (mkF m 213 #[.val (.int i0), .val (.int i1), .val (.long i2), .second, .val (.long i3), .second, .val (.long i4), .second, .val (.int n1), .val (.int 1), .val (.ref b3), .val (.ref q_31), .unset] [(.int 3), (.ref b3)])) rfl rfl (hb hby at_213)) ?_
                  show G (T31.setTop (mkF m 214 #[.val (.int i0), .val (.int i1), .val (.long i2), .second, .val (.long i3), .second, .val (.long i4), .second, .val (.int n1), .val (.int 1), .val (.ref b3), .val (.ref q_31), .unset] [(.int r_13)]))
                  refine hG _ _ (fun t_ k_ => XS.bipush X31.here hx rfl (hb hby at_214) k_) ?_
                  show G (T31.setTop (mkF m 216 #[.val (.int i0), .val (.int i1), .val (.long i2), .second, .val (.long i3), .second, .val (.long i4), .second, .val (.int n1), .val (.int 1), .val (.ref b3), .val (.ref q_31), .unset] [(.int 107), (.int r_13)]))
                  by_cases hc216_109 : r_13 = (107 : Int32)
                  · skip
                    refine hG _ _ (fun t_ k_ => XS.icmpYes X31.here hx rfl (pc0 := 216) (pc' := 231) rfl (hb hby at_216) rfl (teq hc216_109).1 (by decide) (by decide) k_) ?_
                    show G (T31.setTop (mkF m 231 #[.val (.int i0), .val (.int i1), .val (.long i2), .second, .val (.long i3), .second, .val (.long i4), .second, .val (.int n1), .val (.int 1), .val (.ref b3), .val (.ref q_31), .unset] []))
                    refine hG _ _ (fun t_ k_ => XS.aload X31.here hx rfl (hb hby at_231) rfl rfl k_) ?_
                    refine hG _ _ (fun t_ k_ => XS.iload X31.here hx rfl (hb hby at_233) rfl k_) ?_
                    refine hG _ _ (fun t_ k_ => XS.iconst X31.here hx rfl (hb hby at_235) k_) ?_
                    refine hG _ _ (fun t_ k_ => XS.iadd X31.here hx rfl (hb hby at_236) rfl k_) ?_
                    show G (T31.setTop (mkF m 237 #[.val (.int i0), .val (.int i1), .val (.long i2), .second, .val (.long i3), .second, .val (.long i4), .second, .val (.int n1), .val (.int 1), .val (.ref b3), .val (.ref q_31), .unset] [(.int ((1 : Int32) + (3 : Int32))), (.ref b3)]))
                    rw [show ((1 : Int32) + (3 : Int32)) = (4 : Int32) from by decide]
                    show G (T31.setTop (mkF m 237 #[.val (.int i0), .val (.int i1), .val (.long i2), .second, .val (.long i3), .second, .val (.long i4), .second, .val (.int n1), .val (.int 1), .val (.ref b3), .val (.ref q_31), .unset] [(.int 4), (.ref b3)]))
                    obtain ⟨c110, Ar110, q110, S110, M110, H110, G110⟩ := id f82
                    have hin110 : ¬ ((4 : Int32) < 0 ∨ c110.slots.size ≤ (4 : Int32).toNatClampNeg) := inb_of S110 ⟨by decide, by decide⟩
                    refine hG _ _ (X31.caload hx (j := (4 : Int32)) (v := (.int r_16)) (by rw [e31]; exact Ar110.1) (State.isArrayOf_alike hZ31.alike Ar110.2.1) Ar110.2.2 hin110 (Has.at H110 hin110 rfl) (g := (mkF m 237 #[.val (.int i0), .val (.int i1), .val (.long i2), .second, .val (.long i3), .second, .val (.long i4), .second, .val (.int n1), .val (.int 1), .val (.ref b3), .val (.ref q_31), .unset] [(.int 4), (.ref b3)])) rfl rfl (hb hby at_237)) ?_
                    show G (T31.setTop (mkF m 238 #[.val (.int i0), .val (.int i1), .val (.long i2), .second, .val (.long i3), .second, .val (.long i4), .second, .val (.int n1), .val (.int 1), .val (.ref b3), .val (.ref q_31), .unset] [(.int r_16)]))
                    refine hG _ _ (fun t_ k_ => XS.bipush X31.here hx rfl (hb hby at_238) k_) ?_
                    show G (T31.setTop (mkF m 240 #[.val (.int i0), .val (.int i1), .val (.long i2), .second, .val (.long i3), .second, .val (.long i4), .second, .val (.int n1), .val (.int 1), .val (.ref b3), .val (.ref q_31), .unset] [(.int 58), (.int r_16)]))
                    by_cases hc240_111 : r_16 = (58 : Int32)
                    · skip
                      refine hG _ _ (fun t_ k_ => XS.icmpNo X31.here hx rfl (hb hby at_240) rfl (teq hc240_111).2 k_) ?_
                      show G (T31.setTop (mkF m 243 #[.val (.int i0), .val (.int i1), .val (.long i2), .second, .val (.long i3), .second, .val (.long i4), .second, .val (.int n1), .val (.int 1), .val (.ref b3), .val (.ref q_31), .unset] []))
                      refine hG _ _ (fun t_ k_ => XS.iconst X31.here hx rfl (hb hby at_243) k_) ?_
                      refine hG _ _ (fun t_ k_ => XS.goto X31.here hx rfl (pc0 := 244) (pc' := 248) rfl (hb hby at_244) (by decide) (by decide) k_) ?_
                      show G (T31.setTop (mkF m 248 #[.val (.int i0), .val (.int i1), .val (.long i2), .second, .val (.long i3), .second, .val (.long i4), .second, .val (.int n1), .val (.int 1), .val (.ref b3), .val (.ref q_31), .unset] [(.int 1)]))
                      exact jn1 (hT.mpr ⟨hc151_34, hc160_35, Or.inr hc180_105, Or.inl hc192_107, Or.inl hc216_109, hc240_111⟩)
                    · skip
                      refine hG _ _ (fun t_ k_ => XS.icmpYes X31.here hx rfl (pc0 := 240) (pc' := 247) rfl (hb hby at_240) rfl (feq hc240_111).2 (by decide) (by decide) k_) ?_
                      show G (T31.setTop (mkF m 247 #[.val (.int i0), .val (.int i1), .val (.long i2), .second, .val (.long i3), .second, .val (.long i4), .second, .val (.int n1), .val (.int 1), .val (.ref b3), .val (.ref q_31), .unset] []))
                      refine hG _ _ (fun t_ k_ => XS.iconst X31.here hx rfl (hb hby at_247) k_) ?_
                      show G (T31.setTop (mkF m 248 #[.val (.int i0), .val (.int i1), .val (.long i2), .second, .val (.long i3), .second, .val (.long i4), .second, .val (.int n1), .val (.int 1), .val (.ref b3), .val (.ref q_31), .unset] [(.int 0)]))
                      exact jn0 (fun q => hc240_111 (hT.mp q).2.2.2.2.2)
                  · skip
                    refine hG _ _ (fun t_ k_ => XS.icmpNo X31.here hx rfl (hb hby at_216) rfl (feq hc216_109).1 k_) ?_
                    show G (T31.setTop (mkF m 219 #[.val (.int i0), .val (.int i1), .val (.long i2), .second, .val (.long i3), .second, .val (.long i4), .second, .val (.int n1), .val (.int 1), .val (.ref b3), .val (.ref q_31), .unset] []))
                    refine hG _ _ (fun t_ k_ => XS.aload X31.here hx rfl (hb hby at_219) rfl rfl k_) ?_
                    refine hG _ _ (fun t_ k_ => XS.iload X31.here hx rfl (hb hby at_221) rfl k_) ?_
                    refine hG _ _ (fun t_ k_ => XS.iconst X31.here hx rfl (hb hby at_223) k_) ?_
                    refine hG _ _ (fun t_ k_ => XS.iadd X31.here hx rfl (hb hby at_224) rfl k_) ?_
                    show G (T31.setTop (mkF m 225 #[.val (.int i0), .val (.int i1), .val (.long i2), .second, .val (.long i3), .second, .val (.long i4), .second, .val (.int n1), .val (.int 1), .val (.ref b3), .val (.ref q_31), .unset] [(.int ((1 : Int32) + (2 : Int32))), (.ref b3)]))
                    rw [show ((1 : Int32) + (2 : Int32)) = (3 : Int32) from by decide]
                    show G (T31.setTop (mkF m 225 #[.val (.int i0), .val (.int i1), .val (.long i2), .second, .val (.long i3), .second, .val (.long i4), .second, .val (.int n1), .val (.int 1), .val (.ref b3), .val (.ref q_31), .unset] [(.int 3), (.ref b3)]))
                    obtain ⟨c112, Ar112, q112, S112, M112, H112, G112⟩ := id f82
                    have hin112 : ¬ ((3 : Int32) < 0 ∨ c112.slots.size ≤ (3 : Int32).toNatClampNeg) := inb_of S112 ⟨by decide, by decide⟩
                    refine hG _ _ (X31.caload hx (j := (3 : Int32)) (v := (.int r_13)) (by rw [e31]; exact Ar112.1) (State.isArrayOf_alike hZ31.alike Ar112.2.1) Ar112.2.2 hin112 (Has.at H112 hin112 rfl) (g := (mkF m 225 #[.val (.int i0), .val (.int i1), .val (.long i2), .second, .val (.long i3), .second, .val (.long i4), .second, .val (.int n1), .val (.int 1), .val (.ref b3), .val (.ref q_31), .unset] [(.int 3), (.ref b3)])) rfl rfl (hb hby at_225)) ?_
                    show G (T31.setTop (mkF m 226 #[.val (.int i0), .val (.int i1), .val (.long i2), .second, .val (.long i3), .second, .val (.long i4), .second, .val (.int n1), .val (.int 1), .val (.ref b3), .val (.ref q_31), .unset] [(.int r_13)]))
                    refine hG _ _ (fun t_ k_ => XS.bipush X31.here hx rfl (hb hby at_226) k_) ?_
                    show G (T31.setTop (mkF m 228 #[.val (.int i0), .val (.int i1), .val (.long i2), .second, .val (.long i3), .second, .val (.long i4), .second, .val (.int n1), .val (.int 1), .val (.ref b3), .val (.ref q_31), .unset] [(.int 75), (.int r_13)]))
                    by_cases hc228_113 : r_13 = (75 : Int32)
                    · skip
                      refine hG _ _ (fun t_ k_ => XS.icmpNo X31.here hx rfl (hb hby at_228) rfl (teq hc228_113).2 k_) ?_
                      show G (T31.setTop (mkF m 231 #[.val (.int i0), .val (.int i1), .val (.long i2), .second, .val (.long i3), .second, .val (.long i4), .second, .val (.int n1), .val (.int 1), .val (.ref b3), .val (.ref q_31), .unset] []))
                      refine hG _ _ (fun t_ k_ => XS.aload X31.here hx rfl (hb hby at_231) rfl rfl k_) ?_
                      refine hG _ _ (fun t_ k_ => XS.iload X31.here hx rfl (hb hby at_233) rfl k_) ?_
                      refine hG _ _ (fun t_ k_ => XS.iconst X31.here hx rfl (hb hby at_235) k_) ?_
                      refine hG _ _ (fun t_ k_ => XS.iadd X31.here hx rfl (hb hby at_236) rfl k_) ?_
                      show G (T31.setTop (mkF m 237 #[.val (.int i0), .val (.int i1), .val (.long i2), .second, .val (.long i3), .second, .val (.long i4), .second, .val (.int n1), .val (.int 1), .val (.ref b3), .val (.ref q_31), .unset] [(.int ((1 : Int32) + (3 : Int32))), (.ref b3)]))
                      rw [show ((1 : Int32) + (3 : Int32)) = (4 : Int32) from by decide]
                      show G (T31.setTop (mkF m 237 #[.val (.int i0), .val (.int i1), .val (.long i2), .second, .val (.long i3), .second, .val (.long i4), .second, .val (.int n1), .val (.int 1), .val (.ref b3), .val (.ref q_31), .unset] [(.int 4), (.ref b3)]))
                      obtain ⟨c114, Ar114, q114, S114, M114, H114, G114⟩ := id f82
                      have hin114 : ¬ ((4 : Int32) < 0 ∨ c114.slots.size ≤ (4 : Int32).toNatClampNeg) := inb_of S114 ⟨by decide, by decide⟩
                      refine hG _ _ (X31.caload hx (j := (4 : Int32)) (v := (.int r_16)) (by rw [e31]; exact Ar114.1) (State.isArrayOf_alike hZ31.alike Ar114.2.1) Ar114.2.2 hin114 (Has.at H114 hin114 rfl) (g := (mkF m 237 #[.val (.int i0), .val (.int i1), .val (.long i2), .second, .val (.long i3), .second, .val (.long i4), .second, .val (.int n1), .val (.int 1), .val (.ref b3), .val (.ref q_31), .unset] [(.int 4), (.ref b3)])) rfl rfl (hb hby at_237)) ?_
                      show G (T31.setTop (mkF m 238 #[.val (.int i0), .val (.int i1), .val (.long i2), .second, .val (.long i3), .second, .val (.long i4), .second, .val (.int n1), .val (.int 1), .val (.ref b3), .val (.ref q_31), .unset] [(.int r_16)]))
                      refine hG _ _ (fun t_ k_ => XS.bipush X31.here hx rfl (hb hby at_238) k_) ?_
                      show G (T31.setTop (mkF m 240 #[.val (.int i0), .val (.int i1), .val (.long i2), .second, .val (.long i3), .second, .val (.long i4), .second, .val (.int n1), .val (.int 1), .val (.ref b3), .val (.ref q_31), .unset] [(.int 58), (.int r_16)]))
                      by_cases hc240_115 : r_16 = (58 : Int32)
                      · skip
                        refine hG _ _ (fun t_ k_ => XS.icmpNo X31.here hx rfl (hb hby at_240) rfl (teq hc240_115).2 k_) ?_
                        show G (T31.setTop (mkF m 243 #[.val (.int i0), .val (.int i1), .val (.long i2), .second, .val (.long i3), .second, .val (.long i4), .second, .val (.int n1), .val (.int 1), .val (.ref b3), .val (.ref q_31), .unset] []))
                        refine hG _ _ (fun t_ k_ => XS.iconst X31.here hx rfl (hb hby at_243) k_) ?_
                        refine hG _ _ (fun t_ k_ => XS.goto X31.here hx rfl (pc0 := 244) (pc' := 248) rfl (hb hby at_244) (by decide) (by decide) k_) ?_
                        show G (T31.setTop (mkF m 248 #[.val (.int i0), .val (.int i1), .val (.long i2), .second, .val (.long i3), .second, .val (.long i4), .second, .val (.int n1), .val (.int 1), .val (.ref b3), .val (.ref q_31), .unset] [(.int 1)]))
                        exact jn1 (hT.mpr ⟨hc151_34, hc160_35, Or.inr hc180_105, Or.inl hc192_107, Or.inr hc228_113, hc240_115⟩)
                      · skip
                        refine hG _ _ (fun t_ k_ => XS.icmpYes X31.here hx rfl (pc0 := 240) (pc' := 247) rfl (hb hby at_240) rfl (feq hc240_115).2 (by decide) (by decide) k_) ?_
                        show G (T31.setTop (mkF m 247 #[.val (.int i0), .val (.int i1), .val (.long i2), .second, .val (.long i3), .second, .val (.long i4), .second, .val (.int n1), .val (.int 1), .val (.ref b3), .val (.ref q_31), .unset] []))
                        refine hG _ _ (fun t_ k_ => XS.iconst X31.here hx rfl (hb hby at_247) k_) ?_
                        show G (T31.setTop (mkF m 248 #[.val (.int i0), .val (.int i1), .val (.long i2), .second, .val (.long i3), .second, .val (.long i4), .second, .val (.int n1), .val (.int 1), .val (.ref b3), .val (.ref q_31), .unset] [(.int 0)]))
                        exact jn0 (fun q => hc240_115 (hT.mp q).2.2.2.2.2)
                    · skip
                      refine hG _ _ (fun t_ k_ => XS.icmpYes X31.here hx rfl (pc0 := 228) (pc' := 247) rfl (hb hby at_228) rfl (feq hc228_113).2 (by decide) (by decide) k_) ?_
                      show G (T31.setTop (mkF m 247 #[.val (.int i0), .val (.int i1), .val (.long i2), .second, .val (.long i3), .second, .val (.long i4), .second, .val (.int n1), .val (.int 1), .val (.ref b3), .val (.ref q_31), .unset] []))
                      refine hG _ _ (fun t_ k_ => XS.iconst X31.here hx rfl (hb hby at_247) k_) ?_
                      show G (T31.setTop (mkF m 248 #[.val (.int i0), .val (.int i1), .val (.long i2), .second, .val (.long i3), .second, .val (.long i4), .second, .val (.int n1), .val (.int 1), .val (.ref b3), .val (.ref q_31), .unset] [(.int 0)]))
                      exact jn0 (fun q => (hT.mp q).2.2.2.2.1.elim hc216_109 hc228_113)
                · skip
                  refine hG _ _ (fun t_ k_ => XS.icmpNo X31.here hx rfl (hb hby at_192) rfl (feq hc192_107).1 k_) ?_
                  show G (T31.setTop (mkF m 195 #[.val (.int i0), .val (.int i1), .val (.long i2), .second, .val (.long i3), .second, .val (.long i4), .second, .val (.int n1), .val (.int 1), .val (.ref b3), .val (.ref q_31), .unset] []))
                  refine hG _ _ (fun t_ k_ => XS.aload X31.here hx rfl (hb hby at_195) rfl rfl k_) ?_
                  refine hG _ _ (fun t_ k_ => XS.iload X31.here hx rfl (hb hby at_197) rfl k_) ?_
                  refine hG _ _ (fun t_ k_ => XS.iconst X31.here hx rfl (hb hby at_199) k_) ?_
                  refine hG _ _ (fun t_ k_ => XS.iadd X31.here hx rfl (hb hby at_200) rfl k_) ?_
                  show G (T31.setTop (mkF m 201 #[.val (.int i0), .val (.int i1), .val (.long i2), .second, .val (.long i3), .second, .val (.long i4), .second, .val (.int n1), .val (.int 1), .val (.ref b3), .val (.ref q_31), .unset] [(.int ((1 : Int32) + (1 : Int32))), (.ref b3)]))
                  rw [show ((1 : Int32) + (1 : Int32)) = (2 : Int32) from by decide]
                  show G (T31.setTop (mkF m 201 #[.val (.int i0), .val (.int i1), .val (.long i2), .second, .val (.long i3), .second, .val (.long i4), .second, .val (.int n1), .val (.int 1), .val (.ref b3), .val (.ref q_31), .unset] [(.int 2), (.ref b3)]))
                  obtain ⟨c116, Ar116, q116, S116, M116, H116, G116⟩ := id f82
                  have hin116 : ¬ ((2 : Int32) < 0 ∨ c116.slots.size ≤ (2 : Int32).toNatClampNeg) := inb_of S116 ⟨by decide, by decide⟩
                  refine hG _ _ (X31.caload hx (j := (2 : Int32)) (v := (.int r_10)) (by rw [e31]; exact Ar116.1) (State.isArrayOf_alike hZ31.alike Ar116.2.1) Ar116.2.2 hin116 (Has.at H116 hin116 rfl) (g := (mkF m 201 #[.val (.int i0), .val (.int i1), .val (.long i2), .second, .val (.long i3), .second, .val (.long i4), .second, .val (.int n1), .val (.int 1), .val (.ref b3), .val (.ref q_31), .unset] [(.int 2), (.ref b3)])) rfl rfl (hb hby at_201)) ?_
                  show G (T31.setTop (mkF m 202 #[.val (.int i0), .val (.int i1), .val (.long i2), .second, .val (.long i3), .second, .val (.long i4), .second, .val (.int n1), .val (.int 1), .val (.ref b3), .val (.ref q_31), .unset] [(.int r_10)]))
                  refine hG _ _ (fun t_ k_ => XS.bipush X31.here hx rfl (hb hby at_202) k_) ?_
                  show G (T31.setTop (mkF m 204 #[.val (.int i0), .val (.int i1), .val (.long i2), .second, .val (.long i3), .second, .val (.long i4), .second, .val (.int n1), .val (.int 1), .val (.ref b3), .val (.ref q_31), .unset] [(.int 82), (.int r_10)]))
                  by_cases hc204_117 : r_10 = (82 : Int32)
                  · skip
                    refine hG _ _ (fun t_ k_ => XS.icmpNo X31.here hx rfl (hb hby at_204) rfl (teq hc204_117).2 k_) ?_
                    show G (T31.setTop (mkF m 207 #[.val (.int i0), .val (.int i1), .val (.long i2), .second, .val (.long i3), .second, .val (.long i4), .second, .val (.int n1), .val (.int 1), .val (.ref b3), .val (.ref q_31), .unset] []))
                    refine hG _ _ (fun t_ k_ => XS.aload X31.here hx rfl (hb hby at_207) rfl rfl k_) ?_
                    refine hG _ _ (fun t_ k_ => XS.iload X31.here hx rfl (hb hby at_209) rfl k_) ?_
                    refine hG _ _ (fun t_ k_ => XS.iconst X31.here hx rfl (hb hby at_211) k_) ?_
                    refine hG _ _ (fun t_ k_ => XS.iadd X31.here hx rfl (hb hby at_212) rfl k_) ?_
                    show G (T31.setTop (mkF m 213 #[.val (.int i0), .val (.int i1), .val (.long i2), .second, .val (.long i3), .second, .val (.long i4), .second, .val (.int n1), .val (.int 1), .val (.ref b3), .val (.ref q_31), .unset] [(.int ((1 : Int32) + (2 : Int32))), (.ref b3)]))
                    rw [show ((1 : Int32) + (2 : Int32)) = (3 : Int32) from by decide]
                    show G (T31.setTop (mkF m 213 #[.val (.int i0), .val (.int i1), .val (.long i2), .second, .val (.long i3), .second, .val (.long i4), .second, .val (.int n1), .val (.int 1), .val (.ref b3), .val (.ref q_31), .unset] [(.int 3), (.ref b3)]))
                    obtain ⟨c118, Ar118, q118, S118, M118, H118, G118⟩ := id f82
                    have hin118 : ¬ ((3 : Int32) < 0 ∨ c118.slots.size ≤ (3 : Int32).toNatClampNeg) := inb_of S118 ⟨by decide, by decide⟩
                    refine hG _ _ (X31.caload hx (j := (3 : Int32)) (v := (.int r_13)) (by rw [e31]; exact Ar118.1) (State.isArrayOf_alike hZ31.alike Ar118.2.1) Ar118.2.2 hin118 (Has.at H118 hin118 rfl) (g := (mkF m 213 #[.val (.int i0), .val (.int i1), .val (.long i2), .second, .val (.long i3), .second, .val (.long i4), .second, .val (.int n1), .val (.int 1), .val (.ref b3), .val (.ref q_31), .unset] [(.int 3), (.ref b3)])) rfl rfl (hb hby at_213)) ?_
                    show G (T31.setTop (mkF m 214 #[.val (.int i0), .val (.int i1), .val (.long i2), .second, .val (.long i3), .second, .val (.long i4), .second, .val (.int n1), .val (.int 1), .val (.ref b3), .val (.ref q_31), .unset] [(.int r_13)]))
                    refine hG _ _ (fun t_ k_ => XS.bipush X31.here hx rfl (hb hby at_214) k_) ?_
                    show G (T31.setTop (mkF m 216 #[.val (.int i0), .val (.int i1), .val (.long i2), .second, .val (.long i3), .second, .val (.long i4), .second, .val (.int n1), .val (.int 1), .val (.ref b3), .val (.ref q_31), .unset] [(.int 107), (.int r_13)]))
                    by_cases hc216_119 : r_13 = (107 : Int32)
                    · skip
                      refine hG _ _ (fun t_ k_ => XS.icmpYes X31.here hx rfl (pc0 := 216) (pc' := 231) rfl (hb hby at_216) rfl (teq hc216_119).1 (by decide) (by decide) k_) ?_
                      show G (T31.setTop (mkF m 231 #[.val (.int i0), .val (.int i1), .val (.long i2), .second, .val (.long i3), .second, .val (.long i4), .second, .val (.int n1), .val (.int 1), .val (.ref b3), .val (.ref q_31), .unset] []))
                      refine hG _ _ (fun t_ k_ => XS.aload X31.here hx rfl (hb hby at_231) rfl rfl k_) ?_
                      refine hG _ _ (fun t_ k_ => XS.iload X31.here hx rfl (hb hby at_233) rfl k_) ?_
                      refine hG _ _ (fun t_ k_ => XS.iconst X31.here hx rfl (hb hby at_235) k_) ?_
                      refine hG _ _ (fun t_ k_ => XS.iadd X31.here hx rfl (hb hby at_236) rfl k_) ?_
                      show G (T31.setTop (mkF m 237 #[.val (.int i0), .val (.int i1), .val (.long i2), .second, .val (.long i3), .second, .val (.long i4), .second, .val (.int n1), .val (.int 1), .val (.ref b3), .val (.ref q_31), .unset] [(.int ((1 : Int32) + (3 : Int32))), (.ref b3)]))
                      rw [show ((1 : Int32) + (3 : Int32)) = (4 : Int32) from by decide]
                      show G (T31.setTop (mkF m 237 #[.val (.int i0), .val (.int i1), .val (.long i2), .second, .val (.long i3), .second, .val (.long i4), .second, .val (.int n1), .val (.int 1), .val (.ref b3), .val (.ref q_31), .unset] [(.int 4), (.ref b3)]))
                      obtain ⟨c120, Ar120, q120, S120, M120, H120, G120⟩ := id f82
                      have hin120 : ¬ ((4 : Int32) < 0 ∨ c120.slots.size ≤ (4 : Int32).toNatClampNeg) := inb_of S120 ⟨by decide, by decide⟩
                      refine hG _ _ (X31.caload hx (j := (4 : Int32)) (v := (.int r_16)) (by rw [e31]; exact Ar120.1) (State.isArrayOf_alike hZ31.alike Ar120.2.1) Ar120.2.2 hin120 (Has.at H120 hin120 rfl) (g := (mkF m 237 #[.val (.int i0), .val (.int i1), .val (.long i2), .second, .val (.long i3), .second, .val (.long i4), .second, .val (.int n1), .val (.int 1), .val (.ref b3), .val (.ref q_31), .unset] [(.int 4), (.ref b3)])) rfl rfl (hb hby at_237)) ?_
                      show G (T31.setTop (mkF m 238 #[.val (.int i0), .val (.int i1), .val (.long i2), .second, .val (.long i3), .second, .val (.long i4), .second, .val (.int n1), .val (.int 1), .val (.ref b3), .val (.ref q_31), .unset] [(.int r_16)]))
                      refine hG _ _ (fun t_ k_ => XS.bipush X31.here hx rfl (hb hby at_238) k_) ?_
                      show G (T31.setTop (mkF m 240 #[.val (.int i0), .val (.int i1), .val (.long i2), .second, .val (.long i3), .second, .val (.long i4), .second, .val (.int n1), .val (.int 1), .val (.ref b3), .val (.ref q_31), .unset] [(.int 58), (.int r_16)]))
                      by_cases hc240_121 : r_16 = (58 : Int32)
                      · skip
                        refine hG _ _ (fun t_ k_ => XS.icmpNo X31.here hx rfl (hb hby at_240) rfl (teq hc240_121).2 k_) ?_
                        show G (T31.setTop (mkF m 243 #[.val (.int i0), .val (.int i1), .val (.long i2), .second, .val (.long i3), .second, .val (.long i4), .second, .val (.int n1), .val (.int 1), .val (.ref b3), .val (.ref q_31), .unset] []))
                        refine hG _ _ (fun t_ k_ => XS.iconst X31.here hx rfl (hb hby at_243) k_) ?_
                        refine hG _ _ (fun t_ k_ => XS.goto X31.here hx rfl (pc0 := 244) (pc' := 248) rfl (hb hby at_244) (by decide) (by decide) k_) ?_
                        show G (T31.setTop (mkF m 248 #[.val (.int i0), .val (.int i1), .val (.long i2), .second, .val (.long i3), .second, .val (.long i4), .second, .val (.int n1), .val (.int 1), .val (.ref b3), .val (.ref q_31), .unset] [(.int 1)]))
                        exact jn1 (hT.mpr ⟨hc151_34, hc160_35, Or.inr hc180_105, Or.inr hc204_117, Or.inl hc216_119, hc240_121⟩)
                      · skip
                        refine hG _ _ (fun t_ k_ => XS.icmpYes X31.here hx rfl (pc0 := 240) (pc' := 247) rfl (hb hby at_240) rfl (feq hc240_121).2 (by decide) (by decide) k_) ?_
                        show G (T31.setTop (mkF m 247 #[.val (.int i0), .val (.int i1), .val (.long i2), .second, .val (.long i3), .second, .val (.long i4), .second, .val (.int n1), .val (.int 1), .val (.ref b3), .val (.ref q_31), .unset] []))
                        refine hG _ _ (fun t_ k_ => XS.iconst X31.here hx rfl (hb hby at_247) k_) ?_
                        show G (T31.setTop (mkF m 248 #[.val (.int i0), .val (.int i1), .val (.long i2), .second, .val (.long i3), .second, .val (.long i4), .second, .val (.int n1), .val (.int 1), .val (.ref b3), .val (.ref q_31), .unset] [(.int 0)]))
                        exact jn0 (fun q => hc240_121 (hT.mp q).2.2.2.2.2)
                    · skip
                      refine hG _ _ (fun t_ k_ => XS.icmpNo X31.here hx rfl (hb hby at_216) rfl (feq hc216_119).1 k_) ?_
                      show G (T31.setTop (mkF m 219 #[.val (.int i0), .val (.int i1), .val (.long i2), .second, .val (.long i3), .second, .val (.long i4), .second, .val (.int n1), .val (.int 1), .val (.ref b3), .val (.ref q_31), .unset] []))
                      refine hG _ _ (fun t_ k_ => XS.aload X31.here hx rfl (hb hby at_219) rfl rfl k_) ?_
                      refine hG _ _ (fun t_ k_ => XS.iload X31.here hx rfl (hb hby at_221) rfl k_) ?_
                      refine hG _ _ (fun t_ k_ => XS.iconst X31.here hx rfl (hb hby at_223) k_) ?_
                      refine hG _ _ (fun t_ k_ => XS.iadd X31.here hx rfl (hb hby at_224) rfl k_) ?_
                      show G (T31.setTop (mkF m 225 #[.val (.int i0), .val (.int i1), .val (.long i2), .second, .val (.long i3), .second, .val (.long i4), .second, .val (.int n1), .val (.int 1), .val (.ref b3), .val (.ref q_31), .unset] [(.int ((1 : Int32) + (2 : Int32))), (.ref b3)]))
                      rw [show ((1 : Int32) + (2 : Int32)) = (3 : Int32) from by decide]
                      show G (T31.setTop (mkF m 225 #[.val (.int i0), .val (.int i1), .val (.long i2), .second, .val (.long i3), .second, .val (.long i4), .second, .val (.int n1), .val (.int 1), .val (.ref b3), .val (.ref q_31), .unset] [(.int 3), (.ref b3)]))
                      obtain ⟨c122, Ar122, q122, S122, M122, H122, G122⟩ := id f82
                      have hin122 : ¬ ((3 : Int32) < 0 ∨ c122.slots.size ≤ (3 : Int32).toNatClampNeg) := inb_of S122 ⟨by decide, by decide⟩
                      refine hG _ _ (X31.caload hx (j := (3 : Int32)) (v := (.int r_13)) (by rw [e31]; exact Ar122.1) (State.isArrayOf_alike hZ31.alike Ar122.2.1) Ar122.2.2 hin122 (Has.at H122 hin122 rfl) (g := (mkF m 225 #[.val (.int i0), .val (.int i1), .val (.long i2), .second, .val (.long i3), .second, .val (.long i4), .second, .val (.int n1), .val (.int 1), .val (.ref b3), .val (.ref q_31), .unset] [(.int 3), (.ref b3)])) rfl rfl (hb hby at_225)) ?_
                      show G (T31.setTop (mkF m 226 #[.val (.int i0), .val (.int i1), .val (.long i2), .second, .val (.long i3), .second, .val (.long i4), .second, .val (.int n1), .val (.int 1), .val (.ref b3), .val (.ref q_31), .unset] [(.int r_13)]))
                      refine hG _ _ (fun t_ k_ => XS.bipush X31.here hx rfl (hb hby at_226) k_) ?_
                      show G (T31.setTop (mkF m 228 #[.val (.int i0), .val (.int i1), .val (.long i2), .second, .val (.long i3), .second, .val (.long i4), .second, .val (.int n1), .val (.int 1), .val (.ref b3), .val (.ref q_31), .unset] [(.int 75), (.int r_13)]))
                      by_cases hc228_123 : r_13 = (75 : Int32)
                      · skip
                        refine hG _ _ (fun t_ k_ => XS.icmpNo X31.here hx rfl (hb hby at_228) rfl (teq hc228_123).2 k_) ?_
                        show G (T31.setTop (mkF m 231 #[.val (.int i0), .val (.int i1), .val (.long i2), .second, .val (.long i3), .second, .val (.long i4), .second, .val (.int n1), .val (.int 1), .val (.ref b3), .val (.ref q_31), .unset] []))
                        refine hG _ _ (fun t_ k_ => XS.aload X31.here hx rfl (hb hby at_231) rfl rfl k_) ?_
                        refine hG _ _ (fun t_ k_ => XS.iload X31.here hx rfl (hb hby at_233) rfl k_) ?_
                        refine hG _ _ (fun t_ k_ => XS.iconst X31.here hx rfl (hb hby at_235) k_) ?_
                        refine hG _ _ (fun t_ k_ => XS.iadd X31.here hx rfl (hb hby at_236) rfl k_) ?_
                        show G (T31.setTop (mkF m 237 #[.val (.int i0), .val (.int i1), .val (.long i2), .second, .val (.long i3), .second, .val (.long i4), .second, .val (.int n1), .val (.int 1), .val (.ref b3), .val (.ref q_31), .unset] [(.int ((1 : Int32) + (3 : Int32))), (.ref b3)]))
                        rw [show ((1 : Int32) + (3 : Int32)) = (4 : Int32) from by decide]
                        show G (T31.setTop (mkF m 237 #[.val (.int i0), .val (.int i1), .val (.long i2), .second, .val (.long i3), .second, .val (.long i4), .second, .val (.int n1), .val (.int 1), .val (.ref b3), .val (.ref q_31), .unset] [(.int 4), (.ref b3)]))
                        obtain ⟨c124, Ar124, q124, S124, M124, H124, G124⟩ := id f82
                        have hin124 : ¬ ((4 : Int32) < 0 ∨ c124.slots.size ≤ (4 : Int32).toNatClampNeg) := inb_of S124 ⟨by decide, by decide⟩
                        refine hG _ _ (X31.caload hx (j := (4 : Int32)) (v := (.int r_16)) (by rw [e31]; exact Ar124.1) (State.isArrayOf_alike hZ31.alike Ar124.2.1) Ar124.2.2 hin124 (Has.at H124 hin124 rfl) (g := (mkF m 237 #[.val (.int i0), .val (.int i1), .val (.long i2), .second, .val (.long i3), .second, .val (.long i4), .second, .val (.int n1), .val (.int 1), .val (.ref b3), .val (.ref q_31), .unset] [(.int 4), (.ref b3)])) rfl rfl (hb hby at_237)) ?_
                        show G (T31.setTop (mkF m 238 #[.val (.int i0), .val (.int i1), .val (.long i2), .second, .val (.long i3), .second, .val (.long i4), .second, .val (.int n1), .val (.int 1), .val (.ref b3), .val (.ref q_31), .unset] [(.int r_16)]))
                        refine hG _ _ (fun t_ k_ => XS.bipush X31.here hx rfl (hb hby at_238) k_) ?_
                        show G (T31.setTop (mkF m 240 #[.val (.int i0), .val (.int i1), .val (.long i2), .second, .val (.long i3), .second, .val (.long i4), .second, .val (.int n1), .val (.int 1), .val (.ref b3), .val (.ref q_31), .unset] [(.int 58), (.int r_16)]))
                        by_cases hc240_125 : r_16 = (58 : Int32)
                        · skip
                          refine hG _ _ (fun t_ k_ => XS.icmpNo X31.here hx rfl (hb hby at_240) rfl (teq hc240_125).2 k_) ?_
                          show G (T31.setTop (mkF m 243 #[.val (.int i0), .val (.int i1), .val (.long i2), .second, .val (.long i3), .second, .val (.long i4), .second, .val (.int n1), .val (.int 1), .val (.ref b3), .val (.ref q_31), .unset] []))
                          refine hG _ _ (fun t_ k_ => XS.iconst X31.here hx rfl (hb hby at_243) k_) ?_
                          refine hG _ _ (fun t_ k_ => XS.goto X31.here hx rfl (pc0 := 244) (pc' := 248) rfl (hb hby at_244) (by decide) (by decide) k_) ?_
                          show G (T31.setTop (mkF m 248 #[.val (.int i0), .val (.int i1), .val (.long i2), .second, .val (.long i3), .second, .val (.long i4), .second, .val (.int n1), .val (.int 1), .val (.ref b3), .val (.ref q_31), .unset] [(.int 1)]))
                          exact jn1 (hT.mpr ⟨hc151_34, hc160_35, Or.inr hc180_105, Or.inr hc204_117, Or.inr hc228_123, hc240_125⟩)
                        · skip
                          refine hG _ _ (fun t_ k_ => XS.icmpYes X31.here hx rfl (pc0 := 240) (pc' := 247) rfl (hb hby at_240) rfl (feq hc240_125).2 (by decide) (by decide) k_) ?_
                          show G (T31.setTop (mkF m 247 #[.val (.int i0), .val (.int i1), .val (.long i2), .second, .val (.long i3), .second, .val (.long i4), .second, .val (.int n1), .val (.int 1), .val (.ref b3), .val (.ref q_31), .unset] []))
                          refine hG _ _ (fun t_ k_ => XS.iconst X31.here hx rfl (hb hby at_247) k_) ?_
                          show G (T31.setTop (mkF m 248 #[.val (.int i0), .val (.int i1), .val (.long i2), .second, .val (.long i3), .second, .val (.long i4), .second, .val (.int n1), .val (.int 1), .val (.ref b3), .val (.ref q_31), .unset] [(.int 0)]))
                          exact jn0 (fun q => hc240_125 (hT.mp q).2.2.2.2.2)
                      · skip
                        refine hG _ _ (fun t_ k_ => XS.icmpYes X31.here hx rfl (pc0 := 228) (pc' := 247) rfl (hb hby at_228) rfl (feq hc228_123).2 (by decide) (by decide) k_) ?_
                        show G (T31.setTop (mkF m 247 #[.val (.int i0), .val (.int i1), .val (.long i2), .second, .val (.long i3), .second, .val (.long i4), .second, .val (.int n1), .val (.int 1), .val (.ref b3), .val (.ref q_31), .unset] []))
                        refine hG _ _ (fun t_ k_ => XS.iconst X31.here hx rfl (hb hby at_247) k_) ?_
                        show G (T31.setTop (mkF m 248 #[.val (.int i0), .val (.int i1), .val (.long i2), .second, .val (.long i3), .second, .val (.long i4), .second, .val (.int n1), .val (.int 1), .val (.ref b3), .val (.ref q_31), .unset] [(.int 0)]))
                        exact jn0 (fun q => (hT.mp q).2.2.2.2.1.elim hc216_119 hc228_123)
                  · skip
                    refine hG _ _ (fun t_ k_ => XS.icmpYes X31.here hx rfl (pc0 := 204) (pc' := 247) rfl (hb hby at_204) rfl (feq hc204_117).2 (by decide) (by decide) k_) ?_
                    show G (T31.setTop (mkF m 247 #[.val (.int i0), .val (.int i1), .val (.long i2), .second, .val (.long i3), .second, .val (.long i4), .second, .val (.int n1), .val (.int 1), .val (.ref b3), .val (.ref q_31), .unset] []))
                    refine hG _ _ (fun t_ k_ => XS.iconst X31.here hx rfl (hb hby at_247) k_) ?_
                    show G (T31.setTop (mkF m 248 #[.val (.int i0), .val (.int i1), .val (.long i2), .second, .val (.long i3), .second, .val (.long i4), .second, .val (.int n1), .val (.int 1), .val (.ref b3), .val (.ref q_31), .unset] [(.int 0)]))
                    exact jn0 (fun q => (hT.mp q).2.2.2.1.elim hc192_107 hc204_117)
              · skip
                refine hG _ _ (fun t_ k_ => XS.icmpYes X31.here hx rfl (pc0 := 180) (pc' := 247) rfl (hb hby at_180) rfl (feq hc180_105).2 (by decide) (by decide) k_) ?_
                show G (T31.setTop (mkF m 247 #[.val (.int i0), .val (.int i1), .val (.long i2), .second, .val (.long i3), .second, .val (.long i4), .second, .val (.int n1), .val (.int 1), .val (.ref b3), .val (.ref q_31), .unset] []))
                refine hG _ _ (fun t_ k_ => XS.iconst X31.here hx rfl (hb hby at_247) k_) ?_
                show G (T31.setTop (mkF m 248 #[.val (.int i0), .val (.int i1), .val (.long i2), .second, .val (.long i3), .second, .val (.long i4), .second, .val (.int n1), .val (.int 1), .val (.ref b3), .val (.ref q_31), .unset] [(.int 0)]))
                exact jn0 (fun q => (hT.mp q).2.2.1.elim hc170_83 hc180_105)
          · skip
            show G (T31.setTop (mkF m 163 #[.val (.int i0), .val (.int i1), .val (.long i2), .second, .val (.long i3), .second, .val (.long i4), .second, .val (.int n1), .val (.int 2), .val (.ref b3), .val (.ref q_31), .unset] []))
            refine hG _ _ (fun t_ k_ => XS.aload X31.here hx rfl (hb hby at_163) rfl rfl k_) ?_
            refine hG _ _ (fun t_ k_ => XS.iload X31.here hx rfl (hb hby at_165) rfl k_) ?_
            show G (T31.setTop (mkF m 167 #[.val (.int i0), .val (.int i1), .val (.long i2), .second, .val (.long i3), .second, .val (.long i4), .second, .val (.int n1), .val (.int 2), .val (.ref b3), .val (.ref q_31), .unset] [(.int 2), (.ref b3)]))
            have f127 := (V29.keep J31 nin0)
            obtain ⟨c126, Ar126, q126, S126, M126, H126, G126⟩ := id f127
            have hin126 : ¬ ((2 : Int32) < 0 ∨ c126.slots.size ≤ (2 : Int32).toNatClampNeg) := inb_of S126 ⟨by decide, by decide⟩
            refine hG _ _ (X31.caload hx (j := (2 : Int32)) (v := (.int r_10)) (by rw [e31]; exact Ar126.1) (State.isArrayOf_alike hZ31.alike Ar126.2.1) Ar126.2.2 hin126 (Has.at H126 hin126 rfl) (g := (mkF m 167 #[.val (.int i0), .val (.int i1), .val (.long i2), .second, .val (.long i3), .second, .val (.long i4), .second, .val (.int n1), .val (.int 2), .val (.ref b3), .val (.ref q_31), .unset] [(.int 2), (.ref b3)])) rfl rfl (hb hby at_167)) ?_
            show G (T31.setTop (mkF m 168 #[.val (.int i0), .val (.int i1), .val (.long i2), .second, .val (.long i3), .second, .val (.long i4), .second, .val (.int n1), .val (.int 2), .val (.ref b3), .val (.ref q_31), .unset] [(.int r_10)]))
            refine hG _ _ (fun t_ k_ => XS.bipush X31.here hx rfl (hb hby at_168) k_) ?_
            show G (T31.setTop (mkF m 170 #[.val (.int i0), .val (.int i1), .val (.long i2), .second, .val (.long i3), .second, .val (.long i4), .second, .val (.int n1), .val (.int 2), .val (.ref b3), .val (.ref q_31), .unset] [(.int 97), (.int r_10)]))
            by_cases hc170_128 : r_10 = (97 : Int32)
            · skip
              refine hG _ _ (fun t_ k_ => XS.icmpYes X31.here hx rfl (pc0 := 170) (pc' := 183) rfl (hb hby at_170) rfl (teq hc170_128).1 (by decide) (by decide) k_) ?_
              show G (T31.setTop (mkF m 183 #[.val (.int i0), .val (.int i1), .val (.long i2), .second, .val (.long i3), .second, .val (.long i4), .second, .val (.int n1), .val (.int 2), .val (.ref b3), .val (.ref q_31), .unset] []))
              refine hG _ _ (fun t_ k_ => XS.aload X31.here hx rfl (hb hby at_183) rfl rfl k_) ?_
              refine hG _ _ (fun t_ k_ => XS.iload X31.here hx rfl (hb hby at_185) rfl k_) ?_
              refine hG _ _ (fun t_ k_ => XS.iconst X31.here hx rfl (hb hby at_187) k_) ?_
              refine hG _ _ (fun t_ k_ => XS.iadd X31.here hx rfl (hb hby at_188) rfl k_) ?_
              show G (T31.setTop (mkF m 189 #[.val (.int i0), .val (.int i1), .val (.long i2), .second, .val (.long i3), .second, .val (.long i4), .second, .val (.int n1), .val (.int 2), .val (.ref b3), .val (.ref q_31), .unset] [(.int ((2 : Int32) + (1 : Int32))), (.ref b3)]))
              rw [show ((2 : Int32) + (1 : Int32)) = (3 : Int32) from by decide]
              show G (T31.setTop (mkF m 189 #[.val (.int i0), .val (.int i1), .val (.long i2), .second, .val (.long i3), .second, .val (.long i4), .second, .val (.int n1), .val (.int 2), .val (.ref b3), .val (.ref q_31), .unset] [(.int 3), (.ref b3)]))
              obtain ⟨c129, Ar129, q129, S129, M129, H129, G129⟩ := id f127
              have hin129 : ¬ ((3 : Int32) < 0 ∨ c129.slots.size ≤ (3 : Int32).toNatClampNeg) := inb_of S129 ⟨by decide, by decide⟩
              refine hG _ _ (X31.caload hx (j := (3 : Int32)) (v := (.int r_13)) (by rw [e31]; exact Ar129.1) (State.isArrayOf_alike hZ31.alike Ar129.2.1) Ar129.2.2 hin129 (Has.at H129 hin129 rfl) (g := (mkF m 189 #[.val (.int i0), .val (.int i1), .val (.long i2), .second, .val (.long i3), .second, .val (.long i4), .second, .val (.int n1), .val (.int 2), .val (.ref b3), .val (.ref q_31), .unset] [(.int 3), (.ref b3)])) rfl rfl (hb hby at_189)) ?_
              show G (T31.setTop (mkF m 190 #[.val (.int i0), .val (.int i1), .val (.long i2), .second, .val (.long i3), .second, .val (.long i4), .second, .val (.int n1), .val (.int 2), .val (.ref b3), .val (.ref q_31), .unset] [(.int r_13)]))
              refine hG _ _ (fun t_ k_ => XS.bipush X31.here hx rfl (hb hby at_190) k_) ?_
              show G (T31.setTop (mkF m 192 #[.val (.int i0), .val (.int i1), .val (.long i2), .second, .val (.long i3), .second, .val (.long i4), .second, .val (.int n1), .val (.int 2), .val (.ref b3), .val (.ref q_31), .unset] [(.int 114), (.int r_13)]))
              by_cases hc192_130 : r_13 = (114 : Int32)
              · skip
                refine hG _ _ (fun t_ k_ => XS.icmpYes X31.here hx rfl (pc0 := 192) (pc' := 207) rfl (hb hby at_192) rfl (teq hc192_130).1 (by decide) (by decide) k_) ?_
                show G (T31.setTop (mkF m 207 #[.val (.int i0), .val (.int i1), .val (.long i2), .second, .val (.long i3), .second, .val (.long i4), .second, .val (.int n1), .val (.int 2), .val (.ref b3), .val (.ref q_31), .unset] []))
                refine hG _ _ (fun t_ k_ => XS.aload X31.here hx rfl (hb hby at_207) rfl rfl k_) ?_
                refine hG _ _ (fun t_ k_ => XS.iload X31.here hx rfl (hb hby at_209) rfl k_) ?_
                refine hG _ _ (fun t_ k_ => XS.iconst X31.here hx rfl (hb hby at_211) k_) ?_
                refine hG _ _ (fun t_ k_ => XS.iadd X31.here hx rfl (hb hby at_212) rfl k_) ?_
                show G (T31.setTop (mkF m 213 #[.val (.int i0), .val (.int i1), .val (.long i2), .second, .val (.long i3), .second, .val (.long i4), .second, .val (.int n1), .val (.int 2), .val (.ref b3), .val (.ref q_31), .unset] [(.int ((2 : Int32) + (2 : Int32))), (.ref b3)]))
                rw [show ((2 : Int32) + (2 : Int32)) = (4 : Int32) from by decide]
                show G (T31.setTop (mkF m 213 #[.val (.int i0), .val (.int i1), .val (.long i2), .second, .val (.long i3), .second, .val (.long i4), .second, .val (.int n1), .val (.int 2), .val (.ref b3), .val (.ref q_31), .unset] [(.int 4), (.ref b3)]))
                obtain ⟨c131, Ar131, q131, S131, M131, H131, G131⟩ := id f127
                have hin131 : ¬ ((4 : Int32) < 0 ∨ c131.slots.size ≤ (4 : Int32).toNatClampNeg) := inb_of S131 ⟨by decide, by decide⟩
                refine hG _ _ (X31.caload hx (j := (4 : Int32)) (v := (.int r_16)) (by rw [e31]; exact Ar131.1) (State.isArrayOf_alike hZ31.alike Ar131.2.1) Ar131.2.2 hin131 (Has.at H131 hin131 rfl) (g := (mkF m 213 #[.val (.int i0), .val (.int i1), .val (.long i2), .second, .val (.long i3), .second, .val (.long i4), .second, .val (.int n1), .val (.int 2), .val (.ref b3), .val (.ref q_31), .unset] [(.int 4), (.ref b3)])) rfl rfl (hb hby at_213)) ?_
                show G (T31.setTop (mkF m 214 #[.val (.int i0), .val (.int i1), .val (.long i2), .second, .val (.long i3), .second, .val (.long i4), .second, .val (.int n1), .val (.int 2), .val (.ref b3), .val (.ref q_31), .unset] [(.int r_16)]))
                refine hG _ _ (fun t_ k_ => XS.bipush X31.here hx rfl (hb hby at_214) k_) ?_
                show G (T31.setTop (mkF m 216 #[.val (.int i0), .val (.int i1), .val (.long i2), .second, .val (.long i3), .second, .val (.long i4), .second, .val (.int n1), .val (.int 2), .val (.ref b3), .val (.ref q_31), .unset] [(.int 107), (.int r_16)]))
                by_cases hc216_132 : r_16 = (107 : Int32)
                · skip
                  refine hG _ _ (fun t_ k_ => XS.icmpYes X31.here hx rfl (pc0 := 216) (pc' := 231) rfl (hb hby at_216) rfl (teq hc216_132).1 (by decide) (by decide) k_) ?_
                  show G (T31.setTop (mkF m 231 #[.val (.int i0), .val (.int i1), .val (.long i2), .second, .val (.long i3), .second, .val (.long i4), .second, .val (.int n1), .val (.int 2), .val (.ref b3), .val (.ref q_31), .unset] []))
                  refine hG _ _ (fun t_ k_ => XS.aload X31.here hx rfl (hb hby at_231) rfl rfl k_) ?_
                  refine hG _ _ (fun t_ k_ => XS.iload X31.here hx rfl (hb hby at_233) rfl k_) ?_
                  refine hG _ _ (fun t_ k_ => XS.iconst X31.here hx rfl (hb hby at_235) k_) ?_
                  refine hG _ _ (fun t_ k_ => XS.iadd X31.here hx rfl (hb hby at_236) rfl k_) ?_
                  show G (T31.setTop (mkF m 237 #[.val (.int i0), .val (.int i1), .val (.long i2), .second, .val (.long i3), .second, .val (.long i4), .second, .val (.int n1), .val (.int 2), .val (.ref b3), .val (.ref q_31), .unset] [(.int ((2 : Int32) + (3 : Int32))), (.ref b3)]))
                  rw [show ((2 : Int32) + (3 : Int32)) = (5 : Int32) from by decide]
                  show G (T31.setTop (mkF m 237 #[.val (.int i0), .val (.int i1), .val (.long i2), .second, .val (.long i3), .second, .val (.long i4), .second, .val (.int n1), .val (.int 2), .val (.ref b3), .val (.ref q_31), .unset] [(.int 5), (.ref b3)]))
                  obtain ⟨c133, Ar133, q133, S133, M133, H133, G133⟩ := id f127
                  have hin133 : ¬ ((5 : Int32) < 0 ∨ c133.slots.size ≤ (5 : Int32).toNatClampNeg) := inb_of S133 ⟨by decide, by decide⟩
                  refine hG _ _ (X31.caload hx (j := (5 : Int32)) (v := (.int r_19)) (by rw [e31]; exact Ar133.1) (State.isArrayOf_alike hZ31.alike Ar133.2.1) Ar133.2.2 hin133 (Has.at H133 hin133 rfl) (g := (mkF m 237 #[.val (.int i0), .val (.int i1), .val (.long i2), .second, .val (.long i3), .second, .val (.long i4), .second, .val (.int n1), .val (.int 2), .val (.ref b3), .val (.ref q_31), .unset] [(.int 5), (.ref b3)])) rfl rfl (hb hby at_237)) ?_
                  show G (T31.setTop (mkF m 238 #[.val (.int i0), .val (.int i1), .val (.long i2), .second, .val (.long i3), .second, .val (.long i4), .second, .val (.int n1), .val (.int 2), .val (.ref b3), .val (.ref q_31), .unset] [(.int r_19)]))
                  refine hG _ _ (fun t_ k_ => XS.bipush X31.here hx rfl (hb hby at_238) k_) ?_
                  show G (T31.setTop (mkF m 240 #[.val (.int i0), .val (.int i1), .val (.long i2), .second, .val (.long i3), .second, .val (.long i4), .second, .val (.int n1), .val (.int 2), .val (.ref b3), .val (.ref q_31), .unset] [(.int 58), (.int r_19)]))
                  by_cases hc240_134 : r_19 = (58 : Int32)
                  · skip
                    refine hG _ _ (fun t_ k_ => XS.icmpNo X31.here hx rfl (hb hby at_240) rfl (teq hc240_134).2 k_) ?_
                    show G (T31.setTop (mkF m 243 #[.val (.int i0), .val (.int i1), .val (.long i2), .second, .val (.long i3), .second, .val (.long i4), .second, .val (.int n1), .val (.int 2), .val (.ref b3), .val (.ref q_31), .unset] []))
                    refine hG _ _ (fun t_ k_ => XS.iconst X31.here hx rfl (hb hby at_243) k_) ?_
                    refine hG _ _ (fun t_ k_ => XS.goto X31.here hx rfl (pc0 := 244) (pc' := 248) rfl (hb hby at_244) (by decide) (by decide) k_) ?_
                    show G (T31.setTop (mkF m 248 #[.val (.int i0), .val (.int i1), .val (.long i2), .second, .val (.long i3), .second, .val (.long i4), .second, .val (.int n1), .val (.int 2), .val (.ref b3), .val (.ref q_31), .unset] [(.int 1)]))
                    exact jn1 (hT.mpr ⟨hc151_34, hc160_35, Or.inl hc170_128, Or.inl hc192_130, Or.inl hc216_132, hc240_134⟩)
                  · skip
                    refine hG _ _ (fun t_ k_ => XS.icmpYes X31.here hx rfl (pc0 := 240) (pc' := 247) rfl (hb hby at_240) rfl (feq hc240_134).2 (by decide) (by decide) k_) ?_
                    show G (T31.setTop (mkF m 247 #[.val (.int i0), .val (.int i1), .val (.long i2), .second, .val (.long i3), .second, .val (.long i4), .second, .val (.int n1), .val (.int 2), .val (.ref b3), .val (.ref q_31), .unset] []))
                    refine hG _ _ (fun t_ k_ => XS.iconst X31.here hx rfl (hb hby at_247) k_) ?_
                    show G (T31.setTop (mkF m 248 #[.val (.int i0), .val (.int i1), .val (.long i2), .second, .val (.long i3), .second, .val (.long i4), .second, .val (.int n1), .val (.int 2), .val (.ref b3), .val (.ref q_31), .unset] [(.int 0)]))
                    exact jn0 (fun q => hc240_134 (hT.mp q).2.2.2.2.2)
                · skip
                  refine hG _ _ (fun t_ k_ => XS.icmpNo X31.here hx rfl (hb hby at_216) rfl (feq hc216_132).1 k_) ?_
                  show G (T31.setTop (mkF m 219 #[.val (.int i0), .val (.int i1), .val (.long i2), .second, .val (.long i3), .second, .val (.long i4), .second, .val (.int n1), .val (.int 2), .val (.ref b3), .val (.ref q_31), .unset] []))
                  refine hG _ _ (fun t_ k_ => XS.aload X31.here hx rfl (hb hby at_219) rfl rfl k_) ?_
                  refine hG _ _ (fun t_ k_ => XS.iload X31.here hx rfl (hb hby at_221) rfl k_) ?_
                  refine hG _ _ (fun t_ k_ => XS.iconst X31.here hx rfl (hb hby at_223) k_) ?_
                  refine hG _ _ (fun t_ k_ => XS.iadd X31.here hx rfl (hb hby at_224) rfl k_) ?_
                  show G (T31.setTop (mkF m 225 #[.val (.int i0), .val (.int i1), .val (.long i2), .second, .val (.long i3), .second, .val (.long i4), .second, .val (.int n1), .val (.int 2), .val (.ref b3), .val (.ref q_31), .unset] [(.int ((2 : Int32) + (2 : Int32))), (.ref b3)]))
                  rw [show ((2 : Int32) + (2 : Int32)) = (4 : Int32) from by decide]
                  show G (T31.setTop (mkF m 225 #[.val (.int i0), .val (.int i1), .val (.long i2), .second, .val (.long i3), .second, .val (.long i4), .second, .val (.int n1), .val (.int 2), .val (.ref b3), .val (.ref q_31), .unset] [(.int 4), (.ref b3)]))
                  obtain ⟨c135, Ar135, q135, S135, M135, H135, G135⟩ := id f127
                  have hin135 : ¬ ((4 : Int32) < 0 ∨ c135.slots.size ≤ (4 : Int32).toNatClampNeg) := inb_of S135 ⟨by decide, by decide⟩
                  refine hG _ _ (X31.caload hx (j := (4 : Int32)) (v := (.int r_16)) (by rw [e31]; exact Ar135.1) (State.isArrayOf_alike hZ31.alike Ar135.2.1) Ar135.2.2 hin135 (Has.at H135 hin135 rfl) (g := (mkF m 225 #[.val (.int i0), .val (.int i1), .val (.long i2), .second, .val (.long i3), .second, .val (.long i4), .second, .val (.int n1), .val (.int 2), .val (.ref b3), .val (.ref q_31), .unset] [(.int 4), (.ref b3)])) rfl rfl (hb hby at_225)) ?_
                  show G (T31.setTop (mkF m 226 #[.val (.int i0), .val (.int i1), .val (.long i2), .second, .val (.long i3), .second, .val (.long i4), .second, .val (.int n1), .val (.int 2), .val (.ref b3), .val (.ref q_31), .unset] [(.int r_16)]))
                  refine hG _ _ (fun t_ k_ => XS.bipush X31.here hx rfl (hb hby at_226) k_) ?_
                  show G (T31.setTop (mkF m 228 #[.val (.int i0), .val (.int i1), .val (.long i2), .second, .val (.long i3), .second, .val (.long i4), .second, .val (.int n1), .val (.int 2), .val (.ref b3), .val (.ref q_31), .unset] [(.int 75), (.int r_16)]))
                  by_cases hc228_136 : r_16 = (75 : Int32)
                  · skip
                    refine hG _ _ (fun t_ k_ => XS.icmpNo X31.here hx rfl (hb hby at_228) rfl (teq hc228_136).2 k_) ?_
                    show G (T31.setTop (mkF m 231 #[.val (.int i0), .val (.int i1), .val (.long i2), .second, .val (.long i3), .second, .val (.long i4), .second, .val (.int n1), .val (.int 2), .val (.ref b3), .val (.ref q_31), .unset] []))
                    refine hG _ _ (fun t_ k_ => XS.aload X31.here hx rfl (hb hby at_231) rfl rfl k_) ?_
                    refine hG _ _ (fun t_ k_ => XS.iload X31.here hx rfl (hb hby at_233) rfl k_) ?_
                    refine hG _ _ (fun t_ k_ => XS.iconst X31.here hx rfl (hb hby at_235) k_) ?_
                    refine hG _ _ (fun t_ k_ => XS.iadd X31.here hx rfl (hb hby at_236) rfl k_) ?_
                    show G (T31.setTop (mkF m 237 #[.val (.int i0), .val (.int i1), .val (.long i2), .second, .val (.long i3), .second, .val (.long i4), .second, .val (.int n1), .val (.int 2), .val (.ref b3), .val (.ref q_31), .unset] [(.int ((2 : Int32) + (3 : Int32))), (.ref b3)]))
                    rw [show ((2 : Int32) + (3 : Int32)) = (5 : Int32) from by decide]
                    show G (T31.setTop (mkF m 237 #[.val (.int i0), .val (.int i1), .val (.long i2), .second, .val (.long i3), .second, .val (.long i4), .second, .val (.int n1), .val (.int 2), .val (.ref b3), .val (.ref q_31), .unset] [(.int 5), (.ref b3)]))
                    obtain ⟨c137, Ar137, q137, S137, M137, H137, G137⟩ := id f127
                    have hin137 : ¬ ((5 : Int32) < 0 ∨ c137.slots.size ≤ (5 : Int32).toNatClampNeg) := inb_of S137 ⟨by decide, by decide⟩
                    refine hG _ _ (X31.caload hx (j := (5 : Int32)) (v := (.int r_19)) (by rw [e31]; exact Ar137.1) (State.isArrayOf_alike hZ31.alike Ar137.2.1) Ar137.2.2 hin137 (Has.at H137 hin137 rfl) (g := (mkF m 237 #[.val (.int i0), .val (.int i1), .val (.long i2), .second, .val (.long i3), .second, .val (.long i4), .second, .val (.int n1), .val (.int 2), .val (.ref b3), .val (.ref q_31), .unset] [(.int 5), (.ref b3)])) rfl rfl (hb hby at_237)) ?_
                    show G (T31.setTop (mkF m 238 #[.val (.int i0), .val (.int i1), .val (.long i2), .second, .val (.long i3), .second, .val (.long i4), .second, .val (.int n1), .val (.int 2), .val (.ref b3), .val (.ref q_31), .unset] [(.int r_19)]))
                    refine hG _ _ (fun t_ k_ => XS.bipush X31.here hx rfl (hb hby at_238) k_) ?_
                    show G (T31.setTop (mkF m 240 #[.val (.int i0), .val (.int i1), .val (.long i2), .second, .val (.long i3), .second, .val (.long i4), .second, .val (.int n1), .val (.int 2), .val (.ref b3), .val (.ref q_31), .unset] [(.int 58), (.int r_19)]))
                    by_cases hc240_138 : r_19 = (58 : Int32)
                    · skip
                      refine hG _ _ (fun t_ k_ => XS.icmpNo X31.here hx rfl (hb hby at_240) rfl (teq hc240_138).2 k_) ?_
                      show G (T31.setTop (mkF m 243 #[.val (.int i0), .val (.int i1), .val (.long i2), .second, .val (.long i3), .second, .val (.long i4), .second, .val (.int n1), .val (.int 2), .val (.ref b3), .val (.ref q_31), .unset] []))
                      refine hG _ _ (fun t_ k_ => XS.iconst X31.here hx rfl (hb hby at_243) k_) ?_
                      refine hG _ _ (fun t_ k_ => XS.goto X31.here hx rfl (pc0 := 244) (pc' := 248) rfl (hb hby at_244) (by decide) (by decide) k_) ?_
                      show G (T31.setTop (mkF m 248 #[.val (.int i0), .val (.int i1), .val (.long i2), .second, .val (.long i3), .second, .val (.long i4), .second, .val (.int n1), .val (.int 2), .val (.ref b3), .val (.ref q_31), .unset] [(.int 1)]))
                      exact jn1 (hT.mpr ⟨hc151_34, hc160_35, Or.inl hc170_128, Or.inl hc192_130, Or.inr hc228_136, hc240_138⟩)
                    · skip
                      refine hG _ _ (fun t_ k_ => XS.icmpYes X31.here hx rfl (pc0 := 240) (pc' := 247) rfl (hb hby at_240) rfl (feq hc240_138).2 (by decide) (by decide) k_) ?_
                      show G (T31.setTop (mkF m 247 #[.val (.int i0), .val (.int i1), .val (.long i2), .second, .val (.long i3), .second, .val (.long i4), .second, .val (.int n1), .val (.int 2), .val (.ref b3), .val (.ref q_31), .unset] []))
                      refine hG _ _ (fun t_ k_ => XS.iconst X31.here hx rfl (hb hby at_247) k_) ?_
                      show G (T31.setTop (mkF m 248 #[.val (.int i0), .val (.int i1), .val (.long i2), .second, .val (.long i3), .second, .val (.long i4), .second, .val (.int n1), .val (.int 2), .val (.ref b3), .val (.ref q_31), .unset] [(.int 0)]))
                      exact jn0 (fun q => hc240_138 (hT.mp q).2.2.2.2.2)
                  · skip
                    refine hG _ _ (fun t_ k_ => XS.icmpYes X31.here hx rfl (pc0 := 228) (pc' := 247) rfl (hb hby at_228) rfl (feq hc228_136).2 (by decide) (by decide) k_) ?_
                    show G (T31.setTop (mkF m 247 #[.val (.int i0), .val (.int i1), .val (.long i2), .second, .val (.long i3), .second, .val (.long i4), .second, .val (.int n1), .val (.int 2), .val (.ref b3), .val (.ref q_31), .unset] []))
                    refine hG _ _ (fun t_ k_ => XS.iconst X31.here hx rfl (hb hby at_247) k_) ?_
                    show G (T31.setTop (mkF m 248 #[.val (.int i0), .val (.int i1), .val (.long i2), .second, .val (.long i3), .second, .val (.long i4), .second, .val (.int n1), .val (.int 2), .val (.ref b3), .val (.ref q_31), .unset] [(.int 0)]))
                    exact jn0 (fun q => (hT.mp q).2.2.2.2.1.elim hc216_132 hc228_136)
              · skip
                refine hG _ _ (fun t_ k_ => XS.icmpNo X31.here hx rfl (hb hby at_192) rfl (feq hc192_130).1 k_) ?_
                show G (T31.setTop (mkF m 195 #[.val (.int i0), .val (.int i1), .val (.long i2), .second, .val (.long i3), .second, .val (.long i4), .second, .val (.int n1), .val (.int 2), .val (.ref b3), .val (.ref q_31), .unset] []))
                refine hG _ _ (fun t_ k_ => XS.aload X31.here hx rfl (hb hby at_195) rfl rfl k_) ?_
                refine hG _ _ (fun t_ k_ => XS.iload X31.here hx rfl (hb hby at_197) rfl k_) ?_
                refine hG _ _ (fun t_ k_ => XS.iconst X31.here hx rfl (hb hby at_199) k_) ?_
                refine hG _ _ (fun t_ k_ => XS.iadd X31.here hx rfl (hb hby at_200) rfl k_) ?_
                show G (T31.setTop (mkF m 201 #[.val (.int i0), .val (.int i1), .val (.long i2), .second, .val (.long i3), .second, .val (.long i4), .second, .val (.int n1), .val (.int 2), .val (.ref b3), .val (.ref q_31), .unset] [(.int ((2 : Int32) + (1 : Int32))), (.ref b3)]))
                rw [show ((2 : Int32) + (1 : Int32)) = (3 : Int32) from by decide]
                show G (T31.setTop (mkF m 201 #[.val (.int i0), .val (.int i1), .val (.long i2), .second, .val (.long i3), .second, .val (.long i4), .second, .val (.int n1), .val (.int 2), .val (.ref b3), .val (.ref q_31), .unset] [(.int 3), (.ref b3)]))
                obtain ⟨c139, Ar139, q139, S139, M139, H139, G139⟩ := id f127
                have hin139 : ¬ ((3 : Int32) < 0 ∨ c139.slots.size ≤ (3 : Int32).toNatClampNeg) := inb_of S139 ⟨by decide, by decide⟩
                refine hG _ _ (X31.caload hx (j := (3 : Int32)) (v := (.int r_13)) (by rw [e31]; exact Ar139.1) (State.isArrayOf_alike hZ31.alike Ar139.2.1) Ar139.2.2 hin139 (Has.at H139 hin139 rfl) (g := (mkF m 201 #[.val (.int i0), .val (.int i1), .val (.long i2), .second, .val (.long i3), .second, .val (.long i4), .second, .val (.int n1), .val (.int 2), .val (.ref b3), .val (.ref q_31), .unset] [(.int 3), (.ref b3)])) rfl rfl (hb hby at_201)) ?_
                show G (T31.setTop (mkF m 202 #[.val (.int i0), .val (.int i1), .val (.long i2), .second, .val (.long i3), .second, .val (.long i4), .second, .val (.int n1), .val (.int 2), .val (.ref b3), .val (.ref q_31), .unset] [(.int r_13)]))
                refine hG _ _ (fun t_ k_ => XS.bipush X31.here hx rfl (hb hby at_202) k_) ?_
                show G (T31.setTop (mkF m 204 #[.val (.int i0), .val (.int i1), .val (.long i2), .second, .val (.long i3), .second, .val (.long i4), .second, .val (.int n1), .val (.int 2), .val (.ref b3), .val (.ref q_31), .unset] [(.int 82), (.int r_13)]))
                by_cases hc204_140 : r_13 = (82 : Int32)
                · skip
                  refine hG _ _ (fun t_ k_ => XS.icmpNo X31.here hx rfl (hb hby at_204) rfl (teq hc204_140).2 k_) ?_
                  show G (T31.setTop (mkF m 207 #[.val (.int i0), .val (.int i1), .val (.long i2), .second, .val (.long i3), .second, .val (.long i4), .second, .val (.int n1), .val (.int 2), .val (.ref b3), .val (.ref q_31), .unset] []))
                  refine hG _ _ (fun t_ k_ => XS.aload X31.here hx rfl (hb hby at_207) rfl rfl k_) ?_
                  refine hG _ _ (fun t_ k_ => XS.iload X31.here hx rfl (hb hby at_209) rfl k_) ?_
                  refine hG _ _ (fun t_ k_ => XS.iconst X31.here hx rfl (hb hby at_211) k_) ?_
                  refine hG _ _ (fun t_ k_ => XS.iadd X31.here hx rfl (hb hby at_212) rfl k_) ?_
                  show G (T31.setTop (mkF m 213 #[.val (.int i0), .val (.int i1), .val (.long i2), .second, .val (.long i3), .second, .val (.long i4), .second, .val (.int n1), .val (.int 2), .val (.ref b3), .val (.ref q_31), .unset] [(.int ((2 : Int32) + (2 : Int32))), (.ref b3)]))
                  rw [show ((2 : Int32) + (2 : Int32)) = (4 : Int32) from by decide]
                  show G (T31.setTop (mkF m 213 #[.val (.int i0), .val (.int i1), .val (.long i2), .second, .val (.long i3), .second, .val (.long i4), .second, .val (.int n1), .val (.int 2), .val (.ref b3), .val (.ref q_31), .unset] [(.int 4), (.ref b3)]))
                  obtain ⟨c141, Ar141, q141, S141, M141, H141, G141⟩ := id f127
                  have hin141 : ¬ ((4 : Int32) < 0 ∨ c141.slots.size ≤ (4 : Int32).toNatClampNeg) := inb_of S141 ⟨by decide, by decide⟩
                  refine hG _ _ (X31.caload hx (j := (4 : Int32)) (v := (.int r_16)) (by rw [e31]; exact Ar141.1) (State.isArrayOf_alike hZ31.alike Ar141.2.1) Ar141.2.2 hin141 (Has.at H141 hin141 rfl) (g := (mkF m 213 #[.val (.int i0), .val (.int i1), .val (.long i2), .second, .val (.long i3), .second, .val (.long i4), .second, .val (.int n1), .val (.int 2), .val (.ref b3), .val (.ref q_31), .unset] [(.int 4), (.ref b3)])) rfl rfl (hb hby at_213)) ?_
                  show G (T31.setTop (mkF m 214 #[.val (.int i0), .val (.int i1), .val (.long i2), .second, .val (.long i3), .second, .val (.long i4), .second, .val (.int n1), .val (.int 2), .val (.ref b3), .val (.ref q_31), .unset] [(.int r_16)]))
                  refine hG _ _ (fun t_ k_ => XS.bipush X31.here hx rfl (hb hby at_214) k_) ?_
                  show G (T31.setTop (mkF m 216 #[.val (.int i0), .val (.int i1), .val (.long i2), .second, .val (.long i3), .second, .val (.long i4), .second, .val (.int n1), .val (.int 2), .val (.ref b3), .val (.ref q_31), .unset] [(.int 107), (.int r_16)]))
                  by_cases hc216_142 : r_16 = (107 : Int32)
                  · skip
                    refine hG _ _ (fun t_ k_ => XS.icmpYes X31.here hx rfl (pc0 := 216) (pc' := 231) rfl (hb hby at_216) rfl (teq hc216_142).1 (by decide) (by decide) k_) ?_
                    show G (T31.setTop (mkF m 231 #[.val (.int i0), .val (.int i1), .val (.long i2), .second, .val (.long i3), .second, .val (.long i4), .second, .val (.int n1), .val (.int 2), .val (.ref b3), .val (.ref q_31), .unset] []))
                    refine hG _ _ (fun t_ k_ => XS.aload X31.here hx rfl (hb hby at_231) rfl rfl k_) ?_
                    refine hG _ _ (fun t_ k_ => XS.iload X31.here hx rfl (hb hby at_233) rfl k_) ?_
                    refine hG _ _ (fun t_ k_ => XS.iconst X31.here hx rfl (hb hby at_235) k_) ?_
                    refine hG _ _ (fun t_ k_ => XS.iadd X31.here hx rfl (hb hby at_236) rfl k_) ?_
                    show G (T31.setTop (mkF m 237 #[.val (.int i0), .val (.int i1), .val (.long i2), .second, .val (.long i3), .second, .val (.long i4), .second, .val (.int n1), .val (.int 2), .val (.ref b3), .val (.ref q_31), .unset] [(.int ((2 : Int32) + (3 : Int32))), (.ref b3)]))
                    rw [show ((2 : Int32) + (3 : Int32)) = (5 : Int32) from by decide]
                    show G (T31.setTop (mkF m 237 #[.val (.int i0), .val (.int i1), .val (.long i2), .second, .val (.long i3), .second, .val (.long i4), .second, .val (.int n1), .val (.int 2), .val (.ref b3), .val (.ref q_31), .unset] [(.int 5), (.ref b3)]))
                    obtain ⟨c143, Ar143, q143, S143, M143, H143, G143⟩ := id f127
                    have hin143 : ¬ ((5 : Int32) < 0 ∨ c143.slots.size ≤ (5 : Int32).toNatClampNeg) := inb_of S143 ⟨by decide, by decide⟩
                    refine hG _ _ (X31.caload hx (j := (5 : Int32)) (v := (.int r_19)) (by rw [e31]; exact Ar143.1) (State.isArrayOf_alike hZ31.alike Ar143.2.1) Ar143.2.2 hin143 (Has.at H143 hin143 rfl) (g := (mkF m 237 #[.val (.int i0), .val (.int i1), .val (.long i2), .second, .val (.long i3), .second, .val (.long i4), .second, .val (.int n1), .val (.int 2), .val (.ref b3), .val (.ref q_31), .unset] [(.int 5), (.ref b3)])) rfl rfl (hb hby at_237)) ?_
                    show G (T31.setTop (mkF m 238 #[.val (.int i0), .val (.int i1), .val (.long i2), .second, .val (.long i3), .second, .val (.long i4), .second, .val (.int n1), .val (.int 2), .val (.ref b3), .val (.ref q_31), .unset] [(.int r_19)]))
                    refine hG _ _ (fun t_ k_ => XS.bipush X31.here hx rfl (hb hby at_238) k_) ?_
                    show G (T31.setTop (mkF m 240 #[.val (.int i0), .val (.int i1), .val (.long i2), .second, .val (.long i3), .second, .val (.long i4), .second, .val (.int n1), .val (.int 2), .val (.ref b3), .val (.ref q_31), .unset] [(.int 58), (.int r_19)]))
                    by_cases hc240_144 : r_19 = (58 : Int32)
                    · skip
                      refine hG _ _ (fun t_ k_ => XS.icmpNo X31.here hx rfl (hb hby at_240) rfl (teq hc240_144).2 k_) ?_
                      show G (T31.setTop (mkF m 243 #[.val (.int i0), .val (.int i1), .val (.long i2), .second, .val (.long i3), .second, .val (.long i4), .second, .val (.int n1), .val (.int 2), .val (.ref b3), .val (.ref q_31), .unset] []))
                      refine hG _ _ (fun t_ k_ => XS.iconst X31.here hx rfl (hb hby at_243) k_) ?_
                      refine hG _ _ (fun t_ k_ => XS.goto X31.here hx rfl (pc0 := 244) (pc' := 248) rfl (hb hby at_244) (by decide) (by decide) k_) ?_
                      show G (T31.setTop (mkF m 248 #[.val (.int i0), .val (.int i1), .val (.long i2), .second, .val (.long i3), .second, .val (.long i4), .second, .val (.int n1), .val (.int 2), .val (.ref b3), .val (.ref q_31), .unset] [(.int 1)]))
                      exact jn1 (hT.mpr ⟨hc151_34, hc160_35, Or.inl hc170_128, Or.inr hc204_140, Or.inl hc216_142, hc240_144⟩)
                    · skip
                      refine hG _ _ (fun t_ k_ => XS.icmpYes X31.here hx rfl (pc0 := 240) (pc' := 247) rfl (hb hby at_240) rfl (feq hc240_144).2 (by decide) (by decide) k_) ?_
                      show G (T31.setTop (mkF m 247 #[.val (.int i0), .val (.int i1), .val (.long i2), .second, .val (.long i3), .second, .val (.long i4), .second, .val (.int n1), .val (.int 2), .val (.ref b3), .val (.ref q_31), .unset] []))
                      refine hG _ _ (fun t_ k_ => XS.iconst X31.here hx rfl (hb hby at_247) k_) ?_
                      show G (T31.setTop (mkF m 248 #[.val (.int i0), .val (.int i1), .val (.long i2), .second, .val (.long i3), .second, .val (.long i4), .second, .val (.int n1), .val (.int 2), .val (.ref b3), .val (.ref q_31), .unset] [(.int 0)]))
                      exact jn0 (fun q => hc240_144 (hT.mp q).2.2.2.2.2)
                  · skip
                    refine hG _ _ (fun t_ k_ => XS.icmpNo X31.here hx rfl (hb hby at_216) rfl (feq hc216_142).1 k_) ?_
                    show G (T31.setTop (mkF m 219 #[.val (.int i0), .val (.int i1), .val (.long i2), .second, .val (.long i3), .second, .val (.long i4), .second, .val (.int n1), .val (.int 2), .val (.ref b3), .val (.ref q_31), .unset] []))
                    refine hG _ _ (fun t_ k_ => XS.aload X31.here hx rfl (hb hby at_219) rfl rfl k_) ?_
                    refine hG _ _ (fun t_ k_ => XS.iload X31.here hx rfl (hb hby at_221) rfl k_) ?_
                    refine hG _ _ (fun t_ k_ => XS.iconst X31.here hx rfl (hb hby at_223) k_) ?_
                    refine hG _ _ (fun t_ k_ => XS.iadd X31.here hx rfl (hb hby at_224) rfl k_) ?_
                    show G (T31.setTop (mkF m 225 #[.val (.int i0), .val (.int i1), .val (.long i2), .second, .val (.long i3), .second, .val (.long i4), .second, .val (.int n1), .val (.int 2), .val (.ref b3), .val (.ref q_31), .unset] [(.int ((2 : Int32) + (2 : Int32))), (.ref b3)]))
                    rw [show ((2 : Int32) + (2 : Int32)) = (4 : Int32) from by decide]
                    show G (T31.setTop (mkF m 225 #[.val (.int i0), .val (.int i1), .val (.long i2), .second, .val (.long i3), .second, .val (.long i4), .second, .val (.int n1), .val (.int 2), .val (.ref b3), .val (.ref q_31), .unset] [(.int 4), (.ref b3)]))
                    obtain ⟨c145, Ar145, q145, S145, M145, H145, G145⟩ := id f127
                    have hin145 : ¬ ((4 : Int32) < 0 ∨ c145.slots.size ≤ (4 : Int32).toNatClampNeg) := inb_of S145 ⟨by decide, by decide⟩
                    refine hG _ _ (X31.caload hx (j := (4 : Int32)) (v := (.int r_16)) (by rw [e31]; exact Ar145.1) (State.isArrayOf_alike hZ31.alike Ar145.2.1) Ar145.2.2 hin145 (Has.at H145 hin145 rfl) (g := (mkF m 225 #[.val (.int i0), .val (.int i1), .val (.long i2), .second, .val (.long i3), .second, .val (.long i4), .second, .val (.int n1), .val (.int 2), .val (.ref b3), .val (.ref q_31), .unset] [(.int 4), (.ref b3)])) rfl rfl (hb hby at_225)) ?_
                    show G (T31.setTop (mkF m 226 #[.val (.int i0), .val (.int i1), .val (.long i2), .second, .val (.long i3), .second, .val (.long i4), .second, .val (.int n1), .val (.int 2), .val (.ref b3), .val (.ref q_31), .unset] [(.int r_16)]))
                    refine hG _ _ (fun t_ k_ => XS.bipush X31.here hx rfl (hb hby at_226) k_) ?_
                    show G (T31.setTop (mkF m 228 #[.val (.int i0), .val (.int i1), .val (.long i2), .second, .val (.long i3), .second, .val (.long i4), .second, .val (.int n1), .val (.int 2), .val (.ref b3), .val (.ref q_31), .unset] [(.int 75), (.int r_16)]))
                    by_cases hc228_146 : r_16 = (75 : Int32)
                    · skip
                      refine hG _ _ (fun t_ k_ => XS.icmpNo X31.here hx rfl (hb hby at_228) rfl (teq hc228_146).2 k_) ?_
                      show G (T31.setTop (mkF m 231 #[.val (.int i0), .val (.int i1), .val (.long i2), .second, .val (.long i3), .second, .val (.long i4), .second, .val (.int n1), .val (.int 2), .val (.ref b3), .val (.ref q_31), .unset] []))
                      refine hG _ _ (fun t_ k_ => XS.aload X31.here hx rfl (hb hby at_231) rfl rfl k_) ?_
                      refine hG _ _ (fun t_ k_ => XS.iload X31.here hx rfl (hb hby at_233) rfl k_) ?_
                      refine hG _ _ (fun t_ k_ => XS.iconst X31.here hx rfl (hb hby at_235) k_) ?_
                      refine hG _ _ (fun t_ k_ => XS.iadd X31.here hx rfl (hb hby at_236) rfl k_) ?_
                      show G (T31.setTop (mkF m 237 #[.val (.int i0), .val (.int i1), .val (.long i2), .second, .val (.long i3), .second, .val (.long i4), .second, .val (.int n1), .val (.int 2), .val (.ref b3), .val (.ref q_31), .unset] [(.int ((2 : Int32) + (3 : Int32))), (.ref b3)]))
                      rw [show ((2 : Int32) + (3 : Int32)) = (5 : Int32) from by decide]
                      show G (T31.setTop (mkF m 237 #[.val (.int i0), .val (.int i1), .val (.long i2), .second, .val (.long i3), .second, .val (.long i4), .second, .val (.int n1), .val (.int 2), .val (.ref b3), .val (.ref q_31), .unset] [(.int 5), (.ref b3)]))
                      obtain ⟨c147, Ar147, q147, S147, M147, H147, G147⟩ := id f127
                      have hin147 : ¬ ((5 : Int32) < 0 ∨ c147.slots.size ≤ (5 : Int32).toNatClampNeg) := inb_of S147 ⟨by decide, by decide⟩
                      refine hG _ _ (X31.caload hx (j := (5 : Int32)) (v := (.int r_19)) (by rw [e31]; exact Ar147.1) (State.isArrayOf_alike hZ31.alike Ar147.2.1) Ar147.2.2 hin147 (Has.at H147 hin147 rfl) (g := (mkF m 237 #[.val (.int i0), .val (.int i1), .val (.long i2), .second, .val (.long i3), .second, .val (.long i4), .second, .val (.int n1), .val (.int 2), .val (.ref b3), .val (.ref q_31), .unset] [(.int 5), (.ref b3)])) rfl rfl (hb hby at_237)) ?_
                      show G (T31.setTop (mkF m 238 #[.val (.int i0), .val (.int i1), .val (.long i2), .second, .val (.long i3), .second, .val (.long i4), .second, .val (.int n1), .val (.int 2), .val (.ref b3), .val (.ref q_31), .unset] [(.int r_19)]))
                      refine hG _ _ (fun t_ k_ => XS.bipush X31.here hx rfl (hb hby at_238) k_) ?_
                      show G (T31.setTop (mkF m 240 #[.val (.int i0), .val (.int i1), .val (.long i2), .second, .val (.long i3), .second, .val (.long i4), .second, .val (.int n1), .val (.int 2), .val (.ref b3), .val (.ref q_31), .unset] [(.int 58), (.int r_19)]))
                      by_cases hc240_148 : r_19 = (58 : Int32)
                      · skip
                        refine hG _ _ (fun t_ k_ => XS.icmpNo X31.here hx rfl (hb hby at_240) rfl (teq hc240_148).2 k_) ?_
                        show G (T31.setTop (mkF m 243 #[.val (.int i0), .val (.int i1), .val (.long i2), .second, .val (.long i3), .second, .val (.long i4), .second, .val (.int n1), .val (.int 2), .val (.ref b3), .val (.ref q_31), .unset] []))
                        refine hG _ _ (fun t_ k_ => XS.iconst X31.here hx rfl (hb hby at_243) k_) ?_
                        refine hG _ _ (fun t_ k_ => XS.goto X31.here hx rfl (pc0 := 244) (pc' := 248) rfl (hb hby at_244) (by decide) (by decide) k_) ?_
                        show G (T31.setTop (mkF m 248 #[.val (.int i0), .val (.int i1), .val (.long i2), .second, .val (.long i3), .second, .val (.long i4), .second, .val (.int n1), .val (.int 2), .val (.ref b3), .val (.ref q_31), .unset] [(.int 1)]))
                        exact jn1 (hT.mpr ⟨hc151_34, hc160_35, Or.inl hc170_128, Or.inr hc204_140, Or.inr hc228_146, hc240_148⟩)
                      · skip
                        refine hG _ _ (fun t_ k_ => XS.icmpYes X31.here hx rfl (pc0 := 240) (pc' := 247) rfl (hb hby at_240) rfl (feq hc240_148).2 (by decide) (by decide) k_) ?_
                        show G (T31.setTop (mkF m 247 #[.val (.int i0), .val (.int i1), .val (.long i2), .second, .val (.long i3), .second, .val (.long i4), .second, .val (.int n1), .val (.int 2), .val (.ref b3), .val (.ref q_31), .unset] []))
                        refine hG _ _ (fun t_ k_ => XS.iconst X31.here hx rfl (hb hby at_247) k_) ?_
                        show G (T31.setTop (mkF m 248 #[.val (.int i0), .val (.int i1), .val (.long i2), .second, .val (.long i3), .second, .val (.long i4), .second, .val (.int n1), .val (.int 2), .val (.ref b3), .val (.ref q_31), .unset] [(.int 0)]))
                        exact jn0 (fun q => hc240_148 (hT.mp q).2.2.2.2.2)
                    · skip
                      refine hG _ _ (fun t_ k_ => XS.icmpYes X31.here hx rfl (pc0 := 228) (pc' := 247) rfl (hb hby at_228) rfl (feq hc228_146).2 (by decide) (by decide) k_) ?_
                      show G (T31.setTop (mkF m 247 #[.val (.int i0), .val (.int i1), .val (.long i2), .second, .val (.long i3), .second, .val (.long i4), .second, .val (.int n1), .val (.int 2), .val (.ref b3), .val (.ref q_31), .unset] []))
                      refine hG _ _ (fun t_ k_ => XS.iconst X31.here hx rfl (hb hby at_247) k_) ?_
                      show G (T31.setTop (mkF m 248 #[.val (.int i0), .val (.int i1), .val (.long i2), .second, .val (.long i3), .second, .val (.long i4), .second, .val (.int n1), .val (.int 2), .val (.ref b3), .val (.ref q_31), .unset] [(.int 0)]))
                      exact jn0 (fun q => (hT.mp q).2.2.2.2.1.elim hc216_142 hc228_146)
                · skip
                  refine hG _ _ (fun t_ k_ => XS.icmpYes X31.here hx rfl (pc0 := 204) (pc' := 247) rfl (hb hby at_204) rfl (feq hc204_140).2 (by decide) (by decide) k_) ?_
                  show G (T31.setTop (mkF m 247 #[.val (.int i0), .val (.int i1), .val (.long i2), .second, .val (.long i3), .second, .val (.long i4), .second, .val (.int n1), .val (.int 2), .val (.ref b3), .val (.ref q_31), .unset] []))
                  refine hG _ _ (fun t_ k_ => XS.iconst X31.here hx rfl (hb hby at_247) k_) ?_
                  show G (T31.setTop (mkF m 248 #[.val (.int i0), .val (.int i1), .val (.long i2), .second, .val (.long i3), .second, .val (.long i4), .second, .val (.int n1), .val (.int 2), .val (.ref b3), .val (.ref q_31), .unset] [(.int 0)]))
                  exact jn0 (fun q => (hT.mp q).2.2.2.1.elim hc192_130 hc204_140)
            · skip
              refine hG _ _ (fun t_ k_ => XS.icmpNo X31.here hx rfl (hb hby at_170) rfl (feq hc170_128).1 k_) ?_
              show G (T31.setTop (mkF m 173 #[.val (.int i0), .val (.int i1), .val (.long i2), .second, .val (.long i3), .second, .val (.long i4), .second, .val (.int n1), .val (.int 2), .val (.ref b3), .val (.ref q_31), .unset] []))
              refine hG _ _ (fun t_ k_ => XS.aload X31.here hx rfl (hb hby at_173) rfl rfl k_) ?_
              refine hG _ _ (fun t_ k_ => XS.iload X31.here hx rfl (hb hby at_175) rfl k_) ?_
              show G (T31.setTop (mkF m 177 #[.val (.int i0), .val (.int i1), .val (.long i2), .second, .val (.long i3), .second, .val (.long i4), .second, .val (.int n1), .val (.int 2), .val (.ref b3), .val (.ref q_31), .unset] [(.int 2), (.ref b3)]))
              obtain ⟨c149, Ar149, q149, S149, M149, H149, G149⟩ := id f127
              have hin149 : ¬ ((2 : Int32) < 0 ∨ c149.slots.size ≤ (2 : Int32).toNatClampNeg) := inb_of S149 ⟨by decide, by decide⟩
              refine hG _ _ (X31.caload hx (j := (2 : Int32)) (v := (.int r_10)) (by rw [e31]; exact Ar149.1) (State.isArrayOf_alike hZ31.alike Ar149.2.1) Ar149.2.2 hin149 (Has.at H149 hin149 rfl) (g := (mkF m 177 #[.val (.int i0), .val (.int i1), .val (.long i2), .second, .val (.long i3), .second, .val (.long i4), .second, .val (.int n1), .val (.int 2), .val (.ref b3), .val (.ref q_31), .unset] [(.int 2), (.ref b3)])) rfl rfl (hb hby at_177)) ?_
              show G (T31.setTop (mkF m 178 #[.val (.int i0), .val (.int i1), .val (.long i2), .second, .val (.long i3), .second, .val (.long i4), .second, .val (.int n1), .val (.int 2), .val (.ref b3), .val (.ref q_31), .unset] [(.int r_10)]))
              refine hG _ _ (fun t_ k_ => XS.bipush X31.here hx rfl (hb hby at_178) k_) ?_
              show G (T31.setTop (mkF m 180 #[.val (.int i0), .val (.int i1), .val (.long i2), .second, .val (.long i3), .second, .val (.long i4), .second, .val (.int n1), .val (.int 2), .val (.ref b3), .val (.ref q_31), .unset] [(.int 65), (.int r_10)]))
              by_cases hc180_150 : r_10 = (65 : Int32)
              · skip
                refine hG _ _ (fun t_ k_ => XS.icmpNo X31.here hx rfl (hb hby at_180) rfl (teq hc180_150).2 k_) ?_
                show G (T31.setTop (mkF m 183 #[.val (.int i0), .val (.int i1), .val (.long i2), .second, .val (.long i3), .second, .val (.long i4), .second, .val (.int n1), .val (.int 2), .val (.ref b3), .val (.ref q_31), .unset] []))
                refine hG _ _ (fun t_ k_ => XS.aload X31.here hx rfl (hb hby at_183) rfl rfl k_) ?_
                refine hG _ _ (fun t_ k_ => XS.iload X31.here hx rfl (hb hby at_185) rfl k_) ?_
                refine hG _ _ (fun t_ k_ => XS.iconst X31.here hx rfl (hb hby at_187) k_) ?_
                refine hG _ _ (fun t_ k_ => XS.iadd X31.here hx rfl (hb hby at_188) rfl k_) ?_
                show G (T31.setTop (mkF m 189 #[.val (.int i0), .val (.int i1), .val (.long i2), .second, .val (.long i3), .second, .val (.long i4), .second, .val (.int n1), .val (.int 2), .val (.ref b3), .val (.ref q_31), .unset] [(.int ((2 : Int32) + (1 : Int32))), (.ref b3)]))
                rw [show ((2 : Int32) + (1 : Int32)) = (3 : Int32) from by decide]
                show G (T31.setTop (mkF m 189 #[.val (.int i0), .val (.int i1), .val (.long i2), .second, .val (.long i3), .second, .val (.long i4), .second, .val (.int n1), .val (.int 2), .val (.ref b3), .val (.ref q_31), .unset] [(.int 3), (.ref b3)]))
                obtain ⟨c151, Ar151, q151, S151, M151, H151, G151⟩ := id f127
                have hin151 : ¬ ((3 : Int32) < 0 ∨ c151.slots.size ≤ (3 : Int32).toNatClampNeg) := inb_of S151 ⟨by decide, by decide⟩
                refine hG _ _ (X31.caload hx (j := (3 : Int32)) (v := (.int r_13)) (by rw [e31]; exact Ar151.1) (State.isArrayOf_alike hZ31.alike Ar151.2.1) Ar151.2.2 hin151 (Has.at H151 hin151 rfl) (g := (mkF m 189 #[.val (.int i0), .val (.int i1), .val (.long i2), .second, .val (.long i3), .second, .val (.long i4), .second, .val (.int n1), .val (.int 2), .val (.ref b3), .val (.ref q_31), .unset] [(.int 3), (.ref b3)])) rfl rfl (hb hby at_189)) ?_
                show G (T31.setTop (mkF m 190 #[.val (.int i0), .val (.int i1), .val (.long i2), .second, .val (.long i3), .second, .val (.long i4), .second, .val (.int n1), .val (.int 2), .val (.ref b3), .val (.ref q_31), .unset] [(.int r_13)]))
                refine hG _ _ (fun t_ k_ => XS.bipush X31.here hx rfl (hb hby at_190) k_) ?_
                show G (T31.setTop (mkF m 192 #[.val (.int i0), .val (.int i1), .val (.long i2), .second, .val (.long i3), .second, .val (.long i4), .second, .val (.int n1), .val (.int 2), .val (.ref b3), .val (.ref q_31), .unset] [(.int 114), (.int r_13)]))
                by_cases hc192_152 : r_13 = (114 : Int32)
                · skip
                  refine hG _ _ (fun t_ k_ => XS.icmpYes X31.here hx rfl (pc0 := 192) (pc' := 207) rfl (hb hby at_192) rfl (teq hc192_152).1 (by decide) (by decide) k_) ?_
                  show G (T31.setTop (mkF m 207 #[.val (.int i0), .val (.int i1), .val (.long i2), .second, .val (.long i3), .second, .val (.long i4), .second, .val (.int n1), .val (.int 2), .val (.ref b3), .val (.ref q_31), .unset] []))
                  refine hG _ _ (fun t_ k_ => XS.aload X31.here hx rfl (hb hby at_207) rfl rfl k_) ?_
                  refine hG _ _ (fun t_ k_ => XS.iload X31.here hx rfl (hb hby at_209) rfl k_) ?_
                  refine hG _ _ (fun t_ k_ => XS.iconst X31.here hx rfl (hb hby at_211) k_) ?_
                  refine hG _ _ (fun t_ k_ => XS.iadd X31.here hx rfl (hb hby at_212) rfl k_) ?_
                  show G (T31.setTop (mkF m 213 #[.val (.int i0), .val (.int i1), .val (.long i2), .second, .val (.long i3), .second, .val (.long i4), .second, .val (.int n1), .val (.int 2), .val (.ref b3), .val (.ref q_31), .unset] [(.int ((2 : Int32) + (2 : Int32))), (.ref b3)]))
                  rw [show ((2 : Int32) + (2 : Int32)) = (4 : Int32) from by decide]
                  show G (T31.setTop (mkF m 213 #[.val (.int i0), .val (.int i1), .val (.long i2), .second, .val (.long i3), .second, .val (.long i4), .second, .val (.int n1), .val (.int 2), .val (.ref b3), .val (.ref q_31), .unset] [(.int 4), (.ref b3)]))
                  obtain ⟨c153, Ar153, q153, S153, M153, H153, G153⟩ := id f127
                  have hin153 : ¬ ((4 : Int32) < 0 ∨ c153.slots.size ≤ (4 : Int32).toNatClampNeg) := inb_of S153 ⟨by decide, by decide⟩
                  refine hG _ _ (X31.caload hx (j := (4 : Int32)) (v := (.int r_16)) (by rw [e31]; exact Ar153.1) (State.isArrayOf_alike hZ31.alike Ar153.2.1) Ar153.2.2 hin153 (Has.at H153 hin153 rfl) (g := (mkF m 213 #[.val (.int i0), .val (.int i1), .val (.long i2), .second, .val (.long i3), .second, .val (.long i4), .second, .val (.int n1), .val (.int 2), .val (.ref b3), .val (.ref q_31), .unset] [(.int 4), (.ref b3)])) rfl rfl (hb hby at_213)) ?_
                  show G (T31.setTop (mkF m 214 #[.val (.int i0), .val (.int i1), .val (.long i2), .second, .val (.long i3), .second, .val (.long i4), .second, .val (.int n1), .val (.int 2), .val (.ref b3), .val (.ref q_31), .unset] [(.int r_16)]))
                  refine hG _ _ (fun t_ k_ => XS.bipush X31.here hx rfl (hb hby at_214) k_) ?_
                  show G (T31.setTop (mkF m 216 #[.val (.int i0), .val (.int i1), .val (.long i2), .second, .val (.long i3), .second, .val (.long i4), .second, .val (.int n1), .val (.int 2), .val (.ref b3), .val (.ref q_31), .unset] [(.int 107), (.int r_16)]))
                  by_cases hc216_154 : r_16 = (107 : Int32)
                  · skip
                    refine hG _ _ (fun t_ k_ => XS.icmpYes X31.here hx rfl (pc0 := 216) (pc' := 231) rfl (hb hby at_216) rfl (teq hc216_154).1 (by decide) (by decide) k_) ?_
                    show G (T31.setTop (mkF m 231 #[.val (.int i0), .val (.int i1), .val (.long i2), .second, .val (.long i3), .second, .val (.long i4), .second, .val (.int n1), .val (.int 2), .val (.ref b3), .val (.ref q_31), .unset] []))
                    refine hG _ _ (fun t_ k_ => XS.aload X31.here hx rfl (hb hby at_231) rfl rfl k_) ?_
                    refine hG _ _ (fun t_ k_ => XS.iload X31.here hx rfl (hb hby at_233) rfl k_) ?_
                    refine hG _ _ (fun t_ k_ => XS.iconst X31.here hx rfl (hb hby at_235) k_) ?_
                    refine hG _ _ (fun t_ k_ => XS.iadd X31.here hx rfl (hb hby at_236) rfl k_) ?_
                    show G (T31.setTop (mkF m 237 #[.val (.int i0), .val (.int i1), .val (.long i2), .second, .val (.long i3), .second, .val (.long i4), .second, .val (.int n1), .val (.int 2), .val (.ref b3), .val (.ref q_31), .unset] [(.int ((2 : Int32) + (3 : Int32))), (.ref b3)]))
                    rw [show ((2 : Int32) + (3 : Int32)) = (5 : Int32) from by decide]
                    show G (T31.setTop (mkF m 237 #[.val (.int i0), .val (.int i1), .val (.long i2), .second, .val (.long i3), .second, .val (.long i4), .second, .val (.int n1), .val (.int 2), .val (.ref b3), .val (.ref q_31), .unset] [(.int 5), (.ref b3)]))
                    obtain ⟨c155, Ar155, q155, S155, M155, H155, G155⟩ := id f127
                    have hin155 : ¬ ((5 : Int32) < 0 ∨ c155.slots.size ≤ (5 : Int32).toNatClampNeg) := inb_of S155 ⟨by decide, by decide⟩
                    refine hG _ _ (X31.caload hx (j := (5 : Int32)) (v := (.int r_19)) (by rw [e31]; exact Ar155.1) (State.isArrayOf_alike hZ31.alike Ar155.2.1) Ar155.2.2 hin155 (Has.at H155 hin155 rfl) (g := (mkF m 237 #[.val (.int i0), .val (.int i1), .val (.long i2), .second, .val (.long i3), .second, .val (.long i4), .second, .val (.int n1), .val (.int 2), .val (.ref b3), .val (.ref q_31), .unset] [(.int 5), (.ref b3)])) rfl rfl (hb hby at_237)) ?_
                    show G (T31.setTop (mkF m 238 #[.val (.int i0), .val (.int i1), .val (.long i2), .second, .val (.long i3), .second, .val (.long i4), .second, .val (.int n1), .val (.int 2), .val (.ref b3), .val (.ref q_31), .unset] [(.int r_19)]))
                    refine hG _ _ (fun t_ k_ => XS.bipush X31.here hx rfl (hb hby at_238) k_) ?_
                    show G (T31.setTop (mkF m 240 #[.val (.int i0), .val (.int i1), .val (.long i2), .second, .val (.long i3), .second, .val (.long i4), .second, .val (.int n1), .val (.int 2), .val (.ref b3), .val (.ref q_31), .unset] [(.int 58), (.int r_19)]))
                    by_cases hc240_156 : r_19 = (58 : Int32)
                    · skip
                      refine hG _ _ (fun t_ k_ => XS.icmpNo X31.here hx rfl (hb hby at_240) rfl (teq hc240_156).2 k_) ?_
                      show G (T31.setTop (mkF m 243 #[.val (.int i0), .val (.int i1), .val (.long i2), .second, .val (.long i3), .second, .val (.long i4), .second, .val (.int n1), .val (.int 2), .val (.ref b3), .val (.ref q_31), .unset] []))
                      refine hG _ _ (fun t_ k_ => XS.iconst X31.here hx rfl (hb hby at_243) k_) ?_
                      refine hG _ _ (fun t_ k_ => XS.goto X31.here hx rfl (pc0 := 244) (pc' := 248) rfl (hb hby at_244) (by decide) (by decide) k_) ?_
                      show G (T31.setTop (mkF m 248 #[.val (.int i0), .val (.int i1), .val (.long i2), .second, .val (.long i3), .second, .val (.long i4), .second, .val (.int n1), .val (.int 2), .val (.ref b3), .val (.ref q_31), .unset] [(.int 1)]))
                      exact jn1 (hT.mpr ⟨hc151_34, hc160_35, Or.inr hc180_150, Or.inl hc192_152, Or.inl hc216_154, hc240_156⟩)
                    · skip
                      refine hG _ _ (fun t_ k_ => XS.icmpYes X31.here hx rfl (pc0 := 240) (pc' := 247) rfl (hb hby at_240) rfl (feq hc240_156).2 (by decide) (by decide) k_) ?_
                      show G (T31.setTop (mkF m 247 #[.val (.int i0), .val (.int i1), .val (.long i2), .second, .val (.long i3), .second, .val (.long i4), .second, .val (.int n1), .val (.int 2), .val (.ref b3), .val (.ref q_31), .unset] []))
                      refine hG _ _ (fun t_ k_ => XS.iconst X31.here hx rfl (hb hby at_247) k_) ?_
                      show G (T31.setTop (mkF m 248 #[.val (.int i0), .val (.int i1), .val (.long i2), .second, .val (.long i3), .second, .val (.long i4), .second, .val (.int n1), .val (.int 2), .val (.ref b3), .val (.ref q_31), .unset] [(.int 0)]))
                      exact jn0 (fun q => hc240_156 (hT.mp q).2.2.2.2.2)
                  · skip
                    refine hG _ _ (fun t_ k_ => XS.icmpNo X31.here hx rfl (hb hby at_216) rfl (feq hc216_154).1 k_) ?_
                    show G (T31.setTop (mkF m 219 #[.val (.int i0), .val (.int i1), .val (.long i2), .second, .val (.long i3), .second, .val (.long i4), .second, .val (.int n1), .val (.int 2), .val (.ref b3), .val (.ref q_31), .unset] []))
                    refine hG _ _ (fun t_ k_ => XS.aload X31.here hx rfl (hb hby at_219) rfl rfl k_) ?_
                    refine hG _ _ (fun t_ k_ => XS.iload X31.here hx rfl (hb hby at_221) rfl k_) ?_
                    refine hG _ _ (fun t_ k_ => XS.iconst X31.here hx rfl (hb hby at_223) k_) ?_
                    refine hG _ _ (fun t_ k_ => XS.iadd X31.here hx rfl (hb hby at_224) rfl k_) ?_
                    show G (T31.setTop (mkF m 225 #[.val (.int i0), .val (.int i1), .val (.long i2), .second, .val (.long i3), .second, .val (.long i4), .second, .val (.int n1), .val (.int 2), .val (.ref b3), .val (.ref q_31), .unset] [(.int ((2 : Int32) + (2 : Int32))), (.ref b3)]))
                    rw [show ((2 : Int32) + (2 : Int32)) = (4 : Int32) from by decide]
                    show G (T31.setTop (mkF m 225 #[.val (.int i0), .val (.int i1), .val (.long i2), .second, .val (.long i3), .second, .val (.long i4), .second, .val (.int n1), .val (.int 2), .val (.ref b3), .val (.ref q_31), .unset] [(.int 4), (.ref b3)]))
                    obtain ⟨c157, Ar157, q157, S157, M157, H157, G157⟩ := id f127
                    have hin157 : ¬ ((4 : Int32) < 0 ∨ c157.slots.size ≤ (4 : Int32).toNatClampNeg) := inb_of S157 ⟨by decide, by decide⟩
                    refine hG _ _ (X31.caload hx (j := (4 : Int32)) (v := (.int r_16)) (by rw [e31]; exact Ar157.1) (State.isArrayOf_alike hZ31.alike Ar157.2.1) Ar157.2.2 hin157 (Has.at H157 hin157 rfl) (g := (mkF m 225 #[.val (.int i0), .val (.int i1), .val (.long i2), .second, .val (.long i3), .second, .val (.long i4), .second, .val (.int n1), .val (.int 2), .val (.ref b3), .val (.ref q_31), .unset] [(.int 4), (.ref b3)])) rfl rfl (hb hby at_225)) ?_
                    show G (T31.setTop (mkF m 226 #[.val (.int i0), .val (.int i1), .val (.long i2), .second, .val (.long i3), .second, .val (.long i4), .second, .val (.int n1), .val (.int 2), .val (.ref b3), .val (.ref q_31), .unset] [(.int r_16)]))
                    refine hG _ _ (fun t_ k_ => XS.bipush X31.here hx rfl (hb hby at_226) k_) ?_
                    show G (T31.setTop (mkF m 228 #[.val (.int i0), .val (.int i1), .val (.long i2), .second, .val (.long i3), .second, .val (.long i4), .second, .val (.int n1), .val (.int 2), .val (.ref b3), .val (.ref q_31), .unset] [(.int 75), (.int r_16)]))
                    by_cases hc228_158 : r_16 = (75 : Int32)
                    · skip
                      refine hG _ _ (fun t_ k_ => XS.icmpNo X31.here hx rfl (hb hby at_228) rfl (teq hc228_158).2 k_) ?_
                      show G (T31.setTop (mkF m 231 #[.val (.int i0), .val (.int i1), .val (.long i2), .second, .val (.long i3), .second, .val (.long i4), .second, .val (.int n1), .val (.int 2), .val (.ref b3), .val (.ref q_31), .unset] []))
                      refine hG _ _ (fun t_ k_ => XS.aload X31.here hx rfl (hb hby at_231) rfl rfl k_) ?_
                      refine hG _ _ (fun t_ k_ => XS.iload X31.here hx rfl (hb hby at_233) rfl k_) ?_
                      refine hG _ _ (fun t_ k_ => XS.iconst X31.here hx rfl (hb hby at_235) k_) ?_
                      refine hG _ _ (fun t_ k_ => XS.iadd X31.here hx rfl (hb hby at_236) rfl k_) ?_
                      show G (T31.setTop (mkF m 237 #[.val (.int i0), .val (.int i1), .val (.long i2), .second, .val (.long i3), .second, .val (.long i4), .second, .val (.int n1), .val (.int 2), .val (.ref b3), .val (.ref q_31), .unset] [(.int ((2 : Int32) + (3 : Int32))), (.ref b3)]))
                      rw [show ((2 : Int32) + (3 : Int32)) = (5 : Int32) from by decide]
                      show G (T31.setTop (mkF m 237 #[.val (.int i0), .val (.int i1), .val (.long i2), .second, .val (.long i3), .second, .val (.long i4), .second, .val (.int n1), .val (.int 2), .val (.ref b3), .val (.ref q_31), .unset] [(.int 5), (.ref b3)]))
                      obtain ⟨c159, Ar159, q159, S159, M159, H159, G159⟩ := id f127
                      have hin159 : ¬ ((5 : Int32) < 0 ∨ c159.slots.size ≤ (5 : Int32).toNatClampNeg) := inb_of S159 ⟨by decide, by decide⟩
                      refine hG _ _ (X31.caload hx (j := (5 : Int32)) (v := (.int r_19)) (by rw [e31]; exact Ar159.1) (State.isArrayOf_alike hZ31.alike Ar159.2.1) Ar159.2.2 hin159 (Has.at H159 hin159 rfl) (g := (mkF m 237 #[.val (.int i0), .val (.int i1), .val (.long i2), .second, .val (.long i3), .second, .val (.long i4), .second, .val (.int n1), .val (.int 2), .val (.ref b3), .val (.ref q_31), .unset] [(.int 5), (.ref b3)])) rfl rfl (hb hby at_237)) ?_
                      show G (T31.setTop (mkF m 238 #[.val (.int i0), .val (.int i1), .val (.long i2), .second, .val (.long i3), .second, .val (.long i4), .second, .val (.int n1), .val (.int 2), .val (.ref b3), .val (.ref q_31), .unset] [(.int r_19)]))
                      refine hG _ _ (fun t_ k_ => XS.bipush X31.here hx rfl (hb hby at_238) k_) ?_
                      show G (T31.setTop (mkF m 240 #[.val (.int i0), .val (.int i1), .val (.long i2), .second, .val (.long i3), .second, .val (.long i4), .second, .val (.int n1), .val (.int 2), .val (.ref b3), .val (.ref q_31), .unset] [(.int 58), (.int r_19)]))
                      by_cases hc240_160 : r_19 = (58 : Int32)
                      · skip
                        refine hG _ _ (fun t_ k_ => XS.icmpNo X31.here hx rfl (hb hby at_240) rfl (teq hc240_160).2 k_) ?_
                        show G (T31.setTop (mkF m 243 #[.val (.int i0), .val (.int i1), .val (.long i2), .second, .val (.long i3), .second, .val (.long i4), .second, .val (.int n1), .val (.int 2), .val (.ref b3), .val (.ref q_31), .unset] []))
                        refine hG _ _ (fun t_ k_ => XS.iconst X31.here hx rfl (hb hby at_243) k_) ?_
                        refine hG _ _ (fun t_ k_ => XS.goto X31.here hx rfl (pc0 := 244) (pc' := 248) rfl (hb hby at_244) (by decide) (by decide) k_) ?_
                        show G (T31.setTop (mkF m 248 #[.val (.int i0), .val (.int i1), .val (.long i2), .second, .val (.long i3), .second, .val (.long i4), .second, .val (.int n1), .val (.int 2), .val (.ref b3), .val (.ref q_31), .unset] [(.int 1)]))
                        exact jn1 (hT.mpr ⟨hc151_34, hc160_35, Or.inr hc180_150, Or.inl hc192_152, Or.inr hc228_158, hc240_160⟩)
                      · skip
                        refine hG _ _ (fun t_ k_ => XS.icmpYes X31.here hx rfl (pc0 := 240) (pc' := 247) rfl (hb hby at_240) rfl (feq hc240_160).2 (by decide) (by decide) k_) ?_
                        show G (T31.setTop (mkF m 247 #[.val (.int i0), .val (.int i1), .val (.long i2), .second, .val (.long i3), .second, .val (.long i4), .second, .val (.int n1), .val (.int 2), .val (.ref b3), .val (.ref q_31), .unset] []))
                        refine hG _ _ (fun t_ k_ => XS.iconst X31.here hx rfl (hb hby at_247) k_) ?_
                        show G (T31.setTop (mkF m 248 #[.val (.int i0), .val (.int i1), .val (.long i2), .second, .val (.long i3), .second, .val (.long i4), .second, .val (.int n1), .val (.int 2), .val (.ref b3), .val (.ref q_31), .unset] [(.int 0)]))
                        exact jn0 (fun q => hc240_160 (hT.mp q).2.2.2.2.2)
                    · skip
                      refine hG _ _ (fun t_ k_ => XS.icmpYes X31.here hx rfl (pc0 := 228) (pc' := 247) rfl (hb hby at_228) rfl (feq hc228_158).2 (by decide) (by decide) k_) ?_
                      show G (T31.setTop (mkF m 247 #[.val (.int i0), .val (.int i1), .val (.long i2), .second, .val (.long i3), .second, .val (.long i4), .second, .val (.int n1), .val (.int 2), .val (.ref b3), .val (.ref q_31), .unset] []))
                      refine hG _ _ (fun t_ k_ => XS.iconst X31.here hx rfl (hb hby at_247) k_) ?_
                      show G (T31.setTop (mkF m 248 #[.val (.int i0), .val (.int i1), .val (.long i2), .second, .val (.long i3), .second, .val (.long i4), .second, .val (.int n1), .val (.int 2), .val (.ref b3), .val (.ref q_31), .unset] [(.int 0)]))
                      exact jn0 (fun q => (hT.mp q).2.2.2.2.1.elim hc216_154 hc228_158)
                · skip
                  refine hG _ _ (fun t_ k_ => XS.icmpNo X31.here hx rfl (hb hby at_192) rfl (feq hc192_152).1 k_) ?_
                  show G (T31.setTop (mkF m 195 #[.val (.int i0), .val (.int i1), .val (.long i2), .second, .val (.long i3), .second, .val (.long i4), .second, .val (.int n1), .val (.int 2), .val (.ref b3), .val (.ref q_31), .unset] []))
                  refine hG _ _ (fun t_ k_ => XS.aload X31.here hx rfl (hb hby at_195) rfl rfl k_) ?_
                  refine hG _ _ (fun t_ k_ => XS.iload X31.here hx rfl (hb hby at_197) rfl k_) ?_
                  refine hG _ _ (fun t_ k_ => XS.iconst X31.here hx rfl (hb hby at_199) k_) ?_
                  refine hG _ _ (fun t_ k_ => XS.iadd X31.here hx rfl (hb hby at_200) rfl k_) ?_
                  show G (T31.setTop (mkF m 201 #[.val (.int i0), .val (.int i1), .val (.long i2), .second, .val (.long i3), .second, .val (.long i4), .second, .val (.int n1), .val (.int 2), .val (.ref b3), .val (.ref q_31), .unset] [(.int ((2 : Int32) + (1 : Int32))), (.ref b3)]))
                  rw [show ((2 : Int32) + (1 : Int32)) = (3 : Int32) from by decide]
                  show G (T31.setTop (mkF m 201 #[.val (.int i0), .val (.int i1), .val (.long i2), .second, .val (.long i3), .second, .val (.long i4), .second, .val (.int n1), .val (.int 2), .val (.ref b3), .val (.ref q_31), .unset] [(.int 3), (.ref b3)]))
                  obtain ⟨c161, Ar161, q161, S161, M161, H161, G161⟩ := id f127
                  have hin161 : ¬ ((3 : Int32) < 0 ∨ c161.slots.size ≤ (3 : Int32).toNatClampNeg) := inb_of S161 ⟨by decide, by decide⟩
                  refine hG _ _ (X31.caload hx (j := (3 : Int32)) (v := (.int r_13)) (by rw [e31]; exact Ar161.1) (State.isArrayOf_alike hZ31.alike Ar161.2.1) Ar161.2.2 hin161 (Has.at H161 hin161 rfl) (g := (mkF m 201 #[.val (.int i0), .val (.int i1), .val (.long i2), .second, .val (.long i3), .second, .val (.long i4), .second, .val (.int n1), .val (.int 2), .val (.ref b3), .val (.ref q_31), .unset] [(.int 3), (.ref b3)])) rfl rfl (hb hby at_201)) ?_
                  show G (T31.setTop (mkF m 202 #[.val (.int i0), .val (.int i1), .val (.long i2), .second, .val (.long i3), .second, .val (.long i4), .second, .val (.int n1), .val (.int 2), .val (.ref b3), .val (.ref q_31), .unset] [(.int r_13)]))
                  refine hG _ _ (fun t_ k_ => XS.bipush X31.here hx rfl (hb hby at_202) k_) ?_
                  show G (T31.setTop (mkF m 204 #[.val (.int i0), .val (.int i1), .val (.long i2), .second, .val (.long i3), .second, .val (.long i4), .second, .val (.int n1), .val (.int 2), .val (.ref b3), .val (.ref q_31), .unset] [(.int 82), (.int r_13)]))
                  by_cases hc204_162 : r_13 = (82 : Int32)
                  · skip
                    refine hG _ _ (fun t_ k_ => XS.icmpNo X31.here hx rfl (hb hby at_204) rfl (teq hc204_162).2 k_) ?_
                    show G (T31.setTop (mkF m 207 #[.val (.int i0), .val (.int i1), .val (.long i2), .second, .val (.long i3), .second, .val (.long i4), .second, .val (.int n1), .val (.int 2), .val (.ref b3), .val (.ref q_31), .unset] []))
                    refine hG _ _ (fun t_ k_ => XS.aload X31.here hx rfl (hb hby at_207) rfl rfl k_) ?_
                    refine hG _ _ (fun t_ k_ => XS.iload X31.here hx rfl (hb hby at_209) rfl k_) ?_
                    refine hG _ _ (fun t_ k_ => XS.iconst X31.here hx rfl (hb hby at_211) k_) ?_
                    refine hG _ _ (fun t_ k_ => XS.iadd X31.here hx rfl (hb hby at_212) rfl k_) ?_
                    show G (T31.setTop (mkF m 213 #[.val (.int i0), .val (.int i1), .val (.long i2), .second, .val (.long i3), .second, .val (.long i4), .second, .val (.int n1), .val (.int 2), .val (.ref b3), .val (.ref q_31), .unset] [(.int ((2 : Int32) + (2 : Int32))), (.ref b3)]))
                    rw [show ((2 : Int32) + (2 : Int32)) = (4 : Int32) from by decide]
                    show G (T31.setTop (mkF m 213 #[.val (.int i0), .val (.int i1), .val (.long i2), .second, .val (.long i3), .second, .val (.long i4), .second, .val (.int n1), .val (.int 2), .val (.ref b3), .val (.ref q_31), .unset] [(.int 4), (.ref b3)]))
                    obtain ⟨c163, Ar163, q163, S163, M163, H163, G163⟩ := id f127
                    have hin163 : ¬ ((4 : Int32) < 0 ∨ c163.slots.size ≤ (4 : Int32).toNatClampNeg) := inb_of S163 ⟨by decide, by decide⟩
                    refine hG _ _ (X31.caload hx (j := (4 : Int32)) (v := (.int r_16)) (by rw [e31]; exact Ar163.1) (State.isArrayOf_alike hZ31.alike Ar163.2.1) Ar163.2.2 hin163 (Has.at H163 hin163 rfl) (g := (mkF m 213 #[.val (.int i0), .val (.int i1), .val (.long i2), .second, .val (.long i3), .second, .val (.long i4), .second, .val (.int n1), .val (.int 2), .val (.ref b3), .val (.ref q_31), .unset] [(.int 4), (.ref b3)])) rfl rfl (hb hby at_213)) ?_
                    show G (T31.setTop (mkF m 214 #[.val (.int i0), .val (.int i1), .val (.long i2), .second, .val (.long i3), .second, .val (.long i4), .second, .val (.int n1), .val (.int 2), .val (.ref b3), .val (.ref q_31), .unset] [(.int r_16)]))
                    refine hG _ _ (fun t_ k_ => XS.bipush X31.here hx rfl (hb hby at_214) k_) ?_
                    show G (T31.setTop (mkF m 216 #[.val (.int i0), .val (.int i1), .val (.long i2), .second, .val (.long i3), .second, .val (.long i4), .second, .val (.int n1), .val (.int 2), .val (.ref b3), .val (.ref q_31), .unset] [(.int 107), (.int r_16)]))
                    by_cases hc216_164 : r_16 = (107 : Int32)
                    · skip
                      refine hG _ _ (fun t_ k_ => XS.icmpYes X31.here hx rfl (pc0 := 216) (pc' := 231) rfl (hb hby at_216) rfl (teq hc216_164).1 (by decide) (by decide) k_) ?_
                      show G (T31.setTop (mkF m 231 #[.val (.int i0), .val (.int i1), .val (.long i2), .second, .val (.long i3), .second, .val (.long i4), .second, .val (.int n1), .val (.int 2), .val (.ref b3), .val (.ref q_31), .unset] []))
                      refine hG _ _ (fun t_ k_ => XS.aload X31.here hx rfl (hb hby at_231) rfl rfl k_) ?_
                      refine hG _ _ (fun t_ k_ => XS.iload X31.here hx rfl (hb hby at_233) rfl k_) ?_
                      refine hG _ _ (fun t_ k_ => XS.iconst X31.here hx rfl (hb hby at_235) k_) ?_
                      refine hG _ _ (fun t_ k_ => XS.iadd X31.here hx rfl (hb hby at_236) rfl k_) ?_
                      show G (T31.setTop (mkF m 237 #[.val (.int i0), .val (.int i1), .val (.long i2), .second, .val (.long i3), .second, .val (.long i4), .second, .val (.int n1), .val (.int 2), .val (.ref b3), .val (.ref q_31), .unset] [(.int ((2 : Int32) + (3 : Int32))), (.ref b3)]))
                      rw [show ((2 : Int32) + (3 : Int32)) = (5 : Int32) from by decide]
                      show G (T31.setTop (mkF m 237 #[.val (.int i0), .val (.int i1), .val (.long i2), .second, .val (.long i3), .second, .val (.long i4), .second, .val (.int n1), .val (.int 2), .val (.ref b3), .val (.ref q_31), .unset] [(.int 5), (.ref b3)]))
                      obtain ⟨c165, Ar165, q165, S165, M165, H165, G165⟩ := id f127
                      have hin165 : ¬ ((5 : Int32) < 0 ∨ c165.slots.size ≤ (5 : Int32).toNatClampNeg) := inb_of S165 ⟨by decide, by decide⟩
                      refine hG _ _ (X31.caload hx (j := (5 : Int32)) (v := (.int r_19)) (by rw [e31]; exact Ar165.1) (State.isArrayOf_alike hZ31.alike Ar165.2.1) Ar165.2.2 hin165 (Has.at H165 hin165 rfl) (g := (mkF m 237 #[.val (.int i0), .val (.int i1), .val (.long i2), .second, .val (.long i3), .second, .val (.long i4), .second, .val (.int n1), .val (.int 2), .val (.ref b3), .val (.ref q_31), .unset] [(.int 5), (.ref b3)])) rfl rfl (hb hby at_237)) ?_
                      show G (T31.setTop (mkF m 238 #[.val (.int i0), .val (.int i1), .val (.long i2), .second, .val (.long i3), .second, .val (.long i4), .second, .val (.int n1), .val (.int 2), .val (.ref b3), .val (.ref q_31), .unset] [(.int r_19)]))
                      refine hG _ _ (fun t_ k_ => XS.bipush X31.here hx rfl (hb hby at_238) k_) ?_
                      show G (T31.setTop (mkF m 240 #[.val (.int i0), .val (.int i1), .val (.long i2), .second, .val (.long i3), .second, .val (.long i4), .second, .val (.int n1), .val (.int 2), .val (.ref b3), .val (.ref q_31), .unset] [(.int 58), (.int r_19)]))
                      by_cases hc240_166 : r_19 = (58 : Int32)
                      · skip
                        refine hG _ _ (fun t_ k_ => XS.icmpNo X31.here hx rfl (hb hby at_240) rfl (teq hc240_166).2 k_) ?_
                        show G (T31.setTop (mkF m 243 #[.val (.int i0), .val (.int i1), .val (.long i2), .second, .val (.long i3), .second, .val (.long i4), .second, .val (.int n1), .val (.int 2), .val (.ref b3), .val (.ref q_31), .unset] []))
                        refine hG _ _ (fun t_ k_ => XS.iconst X31.here hx rfl (hb hby at_243) k_) ?_
                        refine hG _ _ (fun t_ k_ => XS.goto X31.here hx rfl (pc0 := 244) (pc' := 248) rfl (hb hby at_244) (by decide) (by decide) k_) ?_
                        show G (T31.setTop (mkF m 248 #[.val (.int i0), .val (.int i1), .val (.long i2), .second, .val (.long i3), .second, .val (.long i4), .second, .val (.int n1), .val (.int 2), .val (.ref b3), .val (.ref q_31), .unset] [(.int 1)]))
                        exact jn1 (hT.mpr ⟨hc151_34, hc160_35, Or.inr hc180_150, Or.inr hc204_162, Or.inl hc216_164, hc240_166⟩)
                      · skip
                        refine hG _ _ (fun t_ k_ => XS.icmpYes X31.here hx rfl (pc0 := 240) (pc' := 247) rfl (hb hby at_240) rfl (feq hc240_166).2 (by decide) (by decide) k_) ?_
                        show G (T31.setTop (mkF m 247 #[.val (.int i0), .val (.int i1), .val (.long i2), .second, .val (.long i3), .second, .val (.long i4), .second, .val (.int n1), .val (.int 2), .val (.ref b3), .val (.ref q_31), .unset] []))
                        refine hG _ _ (fun t_ k_ => XS.iconst X31.here hx rfl (hb hby at_247) k_) ?_
                        show G (T31.setTop (mkF m 248 #[.val (.int i0), .val (.int i1), .val (.long i2), .second, .val (.long i3), .second, .val (.long i4), .second, .val (.int n1), .val (.int 2), .val (.ref b3), .val (.ref q_31), .unset] [(.int 0)]))
                        exact jn0 (fun q => hc240_166 (hT.mp q).2.2.2.2.2)
                    · skip
                      refine hG _ _ (fun t_ k_ => XS.icmpNo X31.here hx rfl (hb hby at_216) rfl (feq hc216_164).1 k_) ?_
                      show G (T31.setTop (mkF m 219 #[.val (.int i0), .val (.int i1), .val (.long i2), .second, .val (.long i3), .second, .val (.long i4), .second, .val (.int n1), .val (.int 2), .val (.ref b3), .val (.ref q_31), .unset] []))
                      refine hG _ _ (fun t_ k_ => XS.aload X31.here hx rfl (hb hby at_219) rfl rfl k_) ?_
                      refine hG _ _ (fun t_ k_ => XS.iload X31.here hx rfl (hb hby at_221) rfl k_) ?_
                      refine hG _ _ (fun t_ k_ => XS.iconst X31.here hx rfl (hb hby at_223) k_) ?_
                      refine hG _ _ (fun t_ k_ => XS.iadd X31.here hx rfl (hb hby at_224) rfl k_) ?_
                      show G (T31.setTop (mkF m 225 #[.val (.int i0), .val (.int i1), .val (.long i2), .second, .val (.long i3), .second, .val (.long i4), .second, .val (.int n1), .val (.int 2), .val (.ref b3), .val (.ref q_31), .unset] [(.int ((2 : Int32) + (2 : Int32))), (.ref b3)]))
                      rw [show ((2 : Int32) + (2 : Int32)) = (4 : Int32) from by decide]
                      show G (T31.setTop (mkF m 225 #[.val (.int i0), .val (.int i1), .val (.long i2), .second, .val (.long i3), .second, .val (.long i4), .second, .val (.int n1), .val (.int 2), .val (.ref b3), .val (.ref q_31), .unset] [(.int 4), (.ref b3)]))
                      obtain ⟨c167, Ar167, q167, S167, M167, H167, G167⟩ := id f127
                      have hin167 : ¬ ((4 : Int32) < 0 ∨ c167.slots.size ≤ (4 : Int32).toNatClampNeg) := inb_of S167 ⟨by decide, by decide⟩
                      refine hG _ _ (X31.caload hx (j := (4 : Int32)) (v := (.int r_16)) (by rw [e31]; exact Ar167.1) (State.isArrayOf_alike hZ31.alike Ar167.2.1) Ar167.2.2 hin167 (Has.at H167 hin167 rfl) (g := (mkF m 225 #[.val (.int i0), .val (.int i1), .val (.long i2), .second, .val (.long i3), .second, .val (.long i4), .second, .val (.int n1), .val (.int 2), .val (.ref b3), .val (.ref q_31), .unset] [(.int 4), (.ref b3)])) rfl rfl (hb hby at_225)) ?_
                      show G (T31.setTop (mkF m 226 #[.val (.int i0), .val (.int i1), .val (.long i2), .second, .val (.long i3), .second, .val (.long i4), .second, .val (.int n1), .val (.int 2), .val (.ref b3), .val (.ref q_31), .unset] [(.int r_16)]))
                      refine hG _ _ (fun t_ k_ => XS.bipush X31.here hx rfl (hb hby at_226) k_) ?_
                      show G (T31.setTop (mkF m 228 #[.val (.int i0), .val (.int i1), .val (.long i2), .second, .val (.long i3), .second, .val (.long i4), .second, .val (.int n1), .val (.int 2), .val (.ref b3), .val (.ref q_31), .unset] [(.int 75), (.int r_16)]))
                      by_cases hc228_168 : r_16 = (75 : Int32)
                      · skip
                        refine hG _ _ (fun t_ k_ => XS.icmpNo X31.here hx rfl (hb hby at_228) rfl (teq hc228_168).2 k_) ?_
                        show G (T31.setTop (mkF m 231 #[.val (.int i0), .val (.int i1), .val (.long i2), .second, .val (.long i3), .second, .val (.long i4), .second, .val (.int n1), .val (.int 2), .val (.ref b3), .val (.ref q_31), .unset] []))
                        refine hG _ _ (fun t_ k_ => XS.aload X31.here hx rfl (hb hby at_231) rfl rfl k_) ?_
                        refine hG _ _ (fun t_ k_ => XS.iload X31.here hx rfl (hb hby at_233) rfl k_) ?_
                        refine hG _ _ (fun t_ k_ => XS.iconst X31.here hx rfl (hb hby at_235) k_) ?_
                        refine hG _ _ (fun t_ k_ => XS.iadd X31.here hx rfl (hb hby at_236) rfl k_) ?_
                        show G (T31.setTop (mkF m 237 #[.val (.int i0), .val (.int i1), .val (.long i2), .second, .val (.long i3), .second, .val (.long i4), .second, .val (.int n1), .val (.int 2), .val (.ref b3), .val (.ref q_31), .unset] [(.int ((2 : Int32) + (3 : Int32))), (.ref b3)]))
                        rw [show ((2 : Int32) + (3 : Int32)) = (5 : Int32) from by decide]
                        show G (T31.setTop (mkF m 237 #[.val (.int i0), .val (.int i1), .val (.long i2), .second, .val (.long i3), .second, .val (.long i4), .second, .val (.int n1), .val (.int 2), .val (.ref b3), .val (.ref q_31), .unset] [(.int 5), (.ref b3)]))
                        obtain ⟨c169, Ar169, q169, S169, M169, H169, G169⟩ := id f127
                        have hin169 : ¬ ((5 : Int32) < 0 ∨ c169.slots.size ≤ (5 : Int32).toNatClampNeg) := inb_of S169 ⟨by decide, by decide⟩
                        refine hG _ _ (X31.caload hx (j := (5 : Int32)) (v := (.int r_19)) (by rw [e31]; exact Ar169.1) (State.isArrayOf_alike hZ31.alike Ar169.2.1) Ar169.2.2 hin169 (Has.at H169 hin169 rfl) (g := (mkF m 237 #[.val (.int i0), .val (.int i1), .val (.long i2), .second, .val (.long i3), .second, .val (.long i4), .second, .val (.int n1), .val (.int 2), .val (.ref b3), .val (.ref q_31), .unset] [(.int 5), (.ref b3)])) rfl rfl (hb hby at_237)) ?_
                        show G (T31.setTop (mkF m 238 #[.val (.int i0), .val (.int i1), .val (.long i2), .second, .val (.long i3), .second, .val (.long i4), .second, .val (.int n1), .val (.int 2), .val (.ref b3), .val (.ref q_31), .unset] [(.int r_19)]))
                        refine hG _ _ (fun t_ k_ => XS.bipush X31.here hx rfl (hb hby at_238) k_) ?_
                        show G (T31.setTop (mkF m 240 #[.val (.int i0), .val (.int i1), .val (.long i2), .second, .val (.long i3), .second, .val (.long i4), .second, .val (.int n1), .val (.int 2), .val (.ref b3), .val (.ref q_31), .unset] [(.int 58), (.int r_19)]))
                        by_cases hc240_170 : r_19 = (58 : Int32)
                        · skip
                          refine hG _ _ (fun t_ k_ => XS.icmpNo X31.here hx rfl (hb hby at_240) rfl (teq hc240_170).2 k_) ?_
                          show G (T31.setTop (mkF m 243 #[.val (.int i0), .val (.int i1), .val (.long i2), .second, .val (.long i3), .second, .val (.long i4), .second, .val (.int n1), .val (.int 2), .val (.ref b3), .val (.ref q_31), .unset] []))
                          refine hG _ _ (fun t_ k_ => XS.iconst X31.here hx rfl (hb hby at_243) k_) ?_
                          refine hG _ _ (fun t_ k_ => XS.goto X31.here hx rfl (pc0 := 244) (pc' := 248) rfl (hb hby at_244) (by decide) (by decide) k_) ?_
                          show G (T31.setTop (mkF m 248 #[.val (.int i0), .val (.int i1), .val (.long i2), .second, .val (.long i3), .second, .val (.long i4), .second, .val (.int n1), .val (.int 2), .val (.ref b3), .val (.ref q_31), .unset] [(.int 1)]))
                          exact jn1 (hT.mpr ⟨hc151_34, hc160_35, Or.inr hc180_150, Or.inr hc204_162, Or.inr hc228_168, hc240_170⟩)
                        · skip
                          refine hG _ _ (fun t_ k_ => XS.icmpYes X31.here hx rfl (pc0 := 240) (pc' := 247) rfl (hb hby at_240) rfl (feq hc240_170).2 (by decide) (by decide) k_) ?_
                          show G (T31.setTop (mkF m 247 #[.val (.int i0), .val (.int i1), .val (.long i2), .second, .val (.long i3), .second, .val (.long i4), .second, .val (.int n1), .val (.int 2), .val (.ref b3), .val (.ref q_31), .unset] []))
                          refine hG _ _ (fun t_ k_ => XS.iconst X31.here hx rfl (hb hby at_247) k_) ?_
                          show G (T31.setTop (mkF m 248 #[.val (.int i0), .val (.int i1), .val (.long i2), .second, .val (.long i3), .second, .val (.long i4), .second, .val (.int n1), .val (.int 2), .val (.ref b3), .val (.ref q_31), .unset] [(.int 0)]))
                          exact jn0 (fun q => hc240_170 (hT.mp q).2.2.2.2.2)
                      · skip
                        refine hG _ _ (fun t_ k_ => XS.icmpYes X31.here hx rfl (pc0 := 228) (pc' := 247) rfl (hb hby at_228) rfl (feq hc228_168).2 (by decide) (by decide) k_) ?_
                        show G (T31.setTop (mkF m 247 #[.val (.int i0), .val (.int i1), .val (.long i2), .second, .val (.long i3), .second, .val (.long i4), .second, .val (.int n1), .val (.int 2), .val (.ref b3), .val (.ref q_31), .unset] []))
                        refine hG _ _ (fun t_ k_ => XS.iconst X31.here hx rfl (hb hby at_247) k_) ?_
                        show G (T31.setTop (mkF m 248 #[.val (.int i0), .val (.int i1), .val (.long i2), .second, .val (.long i3), .second, .val (.long i4), .second, .val (.int n1), .val (.int 2), .val (.ref b3), .val (.ref q_31), .unset] [(.int 0)]))
                        exact jn0 (fun q => (hT.mp q).2.2.2.2.1.elim hc216_164 hc228_168)
                  · skip
                    refine hG _ _ (fun t_ k_ => XS.icmpYes X31.here hx rfl (pc0 := 204) (pc' := 247) rfl (hb hby at_204) rfl (feq hc204_162).2 (by decide) (by decide) k_) ?_
                    show G (T31.setTop (mkF m 247 #[.val (.int i0), .val (.int i1), .val (.long i2), .second, .val (.long i3), .second, .val (.long i4), .second, .val (.int n1), .val (.int 2), .val (.ref b3), .val (.ref q_31), .unset] []))
                    refine hG _ _ (fun t_ k_ => XS.iconst X31.here hx rfl (hb hby at_247) k_) ?_
                    show G (T31.setTop (mkF m 248 #[.val (.int i0), .val (.int i1), .val (.long i2), .second, .val (.long i3), .second, .val (.long i4), .second, .val (.int n1), .val (.int 2), .val (.ref b3), .val (.ref q_31), .unset] [(.int 0)]))
                    exact jn0 (fun q => (hT.mp q).2.2.2.1.elim hc192_152 hc204_162)
              · skip
                refine hG _ _ (fun t_ k_ => XS.icmpYes X31.here hx rfl (pc0 := 180) (pc' := 247) rfl (hb hby at_180) rfl (feq hc180_150).2 (by decide) (by decide) k_) ?_
                show G (T31.setTop (mkF m 247 #[.val (.int i0), .val (.int i1), .val (.long i2), .second, .val (.long i3), .second, .val (.long i4), .second, .val (.int n1), .val (.int 2), .val (.ref b3), .val (.ref q_31), .unset] []))
                refine hG _ _ (fun t_ k_ => XS.iconst X31.here hx rfl (hb hby at_247) k_) ?_
                show G (T31.setTop (mkF m 248 #[.val (.int i0), .val (.int i1), .val (.long i2), .second, .val (.long i3), .second, .val (.long i4), .second, .val (.int n1), .val (.int 2), .val (.ref b3), .val (.ref q_31), .unset] [(.int 0)]))
                exact jn0 (fun q => (hT.mp q).2.2.1.elim hc170_128 hc180_150)
          · skip
            show G (T31.setTop (mkF m 163 #[.val (.int i0), .val (.int i1), .val (.long i2), .second, .val (.long i3), .second, .val (.long i4), .second, .val (.int n1), .val (.int 3), .val (.ref b3), .val (.ref q_31), .unset] []))
            refine hG _ _ (fun t_ k_ => XS.aload X31.here hx rfl (hb hby at_163) rfl rfl k_) ?_
            refine hG _ _ (fun t_ k_ => XS.iload X31.here hx rfl (hb hby at_165) rfl k_) ?_
            show G (T31.setTop (mkF m 167 #[.val (.int i0), .val (.int i1), .val (.long i2), .second, .val (.long i3), .second, .val (.long i4), .second, .val (.int n1), .val (.int 3), .val (.ref b3), .val (.ref q_31), .unset] [(.int 3), (.ref b3)]))
            have f172 := (V29.keep J31 nin0)
            obtain ⟨c171, Ar171, q171, S171, M171, H171, G171⟩ := id f172
            have hin171 : ¬ ((3 : Int32) < 0 ∨ c171.slots.size ≤ (3 : Int32).toNatClampNeg) := inb_of S171 ⟨by decide, by decide⟩
            refine hG _ _ (X31.caload hx (j := (3 : Int32)) (v := (.int r_13)) (by rw [e31]; exact Ar171.1) (State.isArrayOf_alike hZ31.alike Ar171.2.1) Ar171.2.2 hin171 (Has.at H171 hin171 rfl) (g := (mkF m 167 #[.val (.int i0), .val (.int i1), .val (.long i2), .second, .val (.long i3), .second, .val (.long i4), .second, .val (.int n1), .val (.int 3), .val (.ref b3), .val (.ref q_31), .unset] [(.int 3), (.ref b3)])) rfl rfl (hb hby at_167)) ?_
            show G (T31.setTop (mkF m 168 #[.val (.int i0), .val (.int i1), .val (.long i2), .second, .val (.long i3), .second, .val (.long i4), .second, .val (.int n1), .val (.int 3), .val (.ref b3), .val (.ref q_31), .unset] [(.int r_13)]))
            refine hG _ _ (fun t_ k_ => XS.bipush X31.here hx rfl (hb hby at_168) k_) ?_
            show G (T31.setTop (mkF m 170 #[.val (.int i0), .val (.int i1), .val (.long i2), .second, .val (.long i3), .second, .val (.long i4), .second, .val (.int n1), .val (.int 3), .val (.ref b3), .val (.ref q_31), .unset] [(.int 97), (.int r_13)]))
            by_cases hc170_173 : r_13 = (97 : Int32)
            · skip
              refine hG _ _ (fun t_ k_ => XS.icmpYes X31.here hx rfl (pc0 := 170) (pc' := 183) rfl (hb hby at_170) rfl (teq hc170_173).1 (by decide) (by decide) k_) ?_
              show G (T31.setTop (mkF m 183 #[.val (.int i0), .val (.int i1), .val (.long i2), .second, .val (.long i3), .second, .val (.long i4), .second, .val (.int n1), .val (.int 3), .val (.ref b3), .val (.ref q_31), .unset] []))
              refine hG _ _ (fun t_ k_ => XS.aload X31.here hx rfl (hb hby at_183) rfl rfl k_) ?_
              refine hG _ _ (fun t_ k_ => XS.iload X31.here hx rfl (hb hby at_185) rfl k_) ?_
              refine hG _ _ (fun t_ k_ => XS.iconst X31.here hx rfl (hb hby at_187) k_) ?_
              refine hG _ _ (fun t_ k_ => XS.iadd X31.here hx rfl (hb hby at_188) rfl k_) ?_
              show G (T31.setTop (mkF m 189 #[.val (.int i0), .val (.int i1), .val (.long i2), .second, .val (.long i3), .second, .val (.long i4), .second, .val (.int n1), .val (.int 3), .val (.ref b3), .val (.ref q_31), .unset] [(.int ((3 : Int32) + (1 : Int32))), (.ref b3)]))
              rw [show ((3 : Int32) + (1 : Int32)) = (4 : Int32) from by decide]
              show G (T31.setTop (mkF m 189 #[.val (.int i0), .val (.int i1), .val (.long i2), .second, .val (.long i3), .second, .val (.long i4), .second, .val (.int n1), .val (.int 3), .val (.ref b3), .val (.ref q_31), .unset] [(.int 4), (.ref b3)]))
              obtain ⟨c174, Ar174, q174, S174, M174, H174, G174⟩ := id f172
              have hin174 : ¬ ((4 : Int32) < 0 ∨ c174.slots.size ≤ (4 : Int32).toNatClampNeg) := inb_of S174 ⟨by decide, by decide⟩
              refine hG _ _ (X31.caload hx (j := (4 : Int32)) (v := (.int r_16)) (by rw [e31]; exact Ar174.1) (State.isArrayOf_alike hZ31.alike Ar174.2.1) Ar174.2.2 hin174 (Has.at H174 hin174 rfl) (g := (mkF m 189 #[.val (.int i0), .val (.int i1), .val (.long i2), .second, .val (.long i3), .second, .val (.long i4), .second, .val (.int n1), .val (.int 3), .val (.ref b3), .val (.ref q_31), .unset] [(.int 4), (.ref b3)])) rfl rfl (hb hby at_189)) ?_
              show G (T31.setTop (mkF m 190 #[.val (.int i0), .val (.int i1), .val (.long i2), .second, .val (.long i3), .second, .val (.long i4), .second, .val (.int n1), .val (.int 3), .val (.ref b3), .val (.ref q_31), .unset] [(.int r_16)]))
              refine hG _ _ (fun t_ k_ => XS.bipush X31.here hx rfl (hb hby at_190) k_) ?_
              show G (T31.setTop (mkF m 192 #[.val (.int i0), .val (.int i1), .val (.long i2), .second, .val (.long i3), .second, .val (.long i4), .second, .val (.int n1), .val (.int 3), .val (.ref b3), .val (.ref q_31), .unset] [(.int 114), (.int r_16)]))
              by_cases hc192_175 : r_16 = (114 : Int32)
              · skip
                refine hG _ _ (fun t_ k_ => XS.icmpYes X31.here hx rfl (pc0 := 192) (pc' := 207) rfl (hb hby at_192) rfl (teq hc192_175).1 (by decide) (by decide) k_) ?_
                show G (T31.setTop (mkF m 207 #[.val (.int i0), .val (.int i1), .val (.long i2), .second, .val (.long i3), .second, .val (.long i4), .second, .val (.int n1), .val (.int 3), .val (.ref b3), .val (.ref q_31), .unset] []))
                refine hG _ _ (fun t_ k_ => XS.aload X31.here hx rfl (hb hby at_207) rfl rfl k_) ?_
                refine hG _ _ (fun t_ k_ => XS.iload X31.here hx rfl (hb hby at_209) rfl k_) ?_
                refine hG _ _ (fun t_ k_ => XS.iconst X31.here hx rfl (hb hby at_211) k_) ?_
                refine hG _ _ (fun t_ k_ => XS.iadd X31.here hx rfl (hb hby at_212) rfl k_) ?_
                show G (T31.setTop (mkF m 213 #[.val (.int i0), .val (.int i1), .val (.long i2), .second, .val (.long i3), .second, .val (.long i4), .second, .val (.int n1), .val (.int 3), .val (.ref b3), .val (.ref q_31), .unset] [(.int ((3 : Int32) + (2 : Int32))), (.ref b3)]))
                rw [show ((3 : Int32) + (2 : Int32)) = (5 : Int32) from by decide]
                show G (T31.setTop (mkF m 213 #[.val (.int i0), .val (.int i1), .val (.long i2), .second, .val (.long i3), .second, .val (.long i4), .second, .val (.int n1), .val (.int 3), .val (.ref b3), .val (.ref q_31), .unset] [(.int 5), (.ref b3)]))
                obtain ⟨c176, Ar176, q176, S176, M176, H176, G176⟩ := id f172
                have hin176 : ¬ ((5 : Int32) < 0 ∨ c176.slots.size ≤ (5 : Int32).toNatClampNeg) := inb_of S176 ⟨by decide, by decide⟩
                refine hG _ _ (X31.caload hx (j := (5 : Int32)) (v := (.int r_19)) (by rw [e31]; exact Ar176.1) (State.isArrayOf_alike hZ31.alike Ar176.2.1) Ar176.2.2 hin176 (Has.at H176 hin176 rfl) (g := (mkF m 213 #[.val (.int i0), .val (.int i1), .val (.long i2), .second, .val (.long i3), .second, .val (.long i4), .second, .val (.int n1), .val (.int 3), .val (.ref b3), .val (.ref q_31), .unset] [(.int 5), (.ref b3)])) rfl rfl (hb hby at_213)) ?_
                show G (T31.setTop (mkF m 214 #[.val (.int i0), .val (.int i1), .val (.long i2), .second, .val (.long i3), .second, .val (.long i4), .second, .val (.int n1), .val (.int 3), .val (.ref b3), .val (.ref q_31), .unset] [(.int r_19)]))
                refine hG _ _ (fun t_ k_ => XS.bipush X31.here hx rfl (hb hby at_214) k_) ?_
                show G (T31.setTop (mkF m 216 #[.val (.int i0), .val (.int i1), .val (.long i2), .second, .val (.long i3), .second, .val (.long i4), .second, .val (.int n1), .val (.int 3), .val (.ref b3), .val (.ref q_31), .unset] [(.int 107), (.int r_19)]))
                by_cases hc216_177 : r_19 = (107 : Int32)
                · skip
                  refine hG _ _ (fun t_ k_ => XS.icmpYes X31.here hx rfl (pc0 := 216) (pc' := 231) rfl (hb hby at_216) rfl (teq hc216_177).1 (by decide) (by decide) k_) ?_
                  show G (T31.setTop (mkF m 231 #[.val (.int i0), .val (.int i1), .val (.long i2), .second, .val (.long i3), .second, .val (.long i4), .second, .val (.int n1), .val (.int 3), .val (.ref b3), .val (.ref q_31), .unset] []))
                  refine hG _ _ (fun t_ k_ => XS.aload X31.here hx rfl (hb hby at_231) rfl rfl k_) ?_
                  refine hG _ _ (fun t_ k_ => XS.iload X31.here hx rfl (hb hby at_233) rfl k_) ?_
                  refine hG _ _ (fun t_ k_ => XS.iconst X31.here hx rfl (hb hby at_235) k_) ?_
                  refine hG _ _ (fun t_ k_ => XS.iadd X31.here hx rfl (hb hby at_236) rfl k_) ?_
                  show G (T31.setTop (mkF m 237 #[.val (.int i0), .val (.int i1), .val (.long i2), .second, .val (.long i3), .second, .val (.long i4), .second, .val (.int n1), .val (.int 3), .val (.ref b3), .val (.ref q_31), .unset] [(.int ((3 : Int32) + (3 : Int32))), (.ref b3)]))
                  rw [show ((3 : Int32) + (3 : Int32)) = (6 : Int32) from by decide]
                  show G (T31.setTop (mkF m 237 #[.val (.int i0), .val (.int i1), .val (.long i2), .second, .val (.long i3), .second, .val (.long i4), .second, .val (.int n1), .val (.int 3), .val (.ref b3), .val (.ref q_31), .unset] [(.int 6), (.ref b3)]))
                  obtain ⟨c178, Ar178, q178, S178, M178, H178, G178⟩ := id f172
                  have hin178 : ¬ ((6 : Int32) < 0 ∨ c178.slots.size ≤ (6 : Int32).toNatClampNeg) := inb_of S178 ⟨by decide, by decide⟩
                  refine hG _ _ (X31.caload hx (j := (6 : Int32)) (v := (.int r_22)) (by rw [e31]; exact Ar178.1) (State.isArrayOf_alike hZ31.alike Ar178.2.1) Ar178.2.2 hin178 (Has.at H178 hin178 rfl) (g := (mkF m 237 #[.val (.int i0), .val (.int i1), .val (.long i2), .second, .val (.long i3), .second, .val (.long i4), .second, .val (.int n1), .val (.int 3), .val (.ref b3), .val (.ref q_31), .unset] [(.int 6), (.ref b3)])) rfl rfl (hb hby at_237)) ?_
                  show G (T31.setTop (mkF m 238 #[.val (.int i0), .val (.int i1), .val (.long i2), .second, .val (.long i3), .second, .val (.long i4), .second, .val (.int n1), .val (.int 3), .val (.ref b3), .val (.ref q_31), .unset] [(.int r_22)]))
                  refine hG _ _ (fun t_ k_ => XS.bipush X31.here hx rfl (hb hby at_238) k_) ?_
                  show G (T31.setTop (mkF m 240 #[.val (.int i0), .val (.int i1), .val (.long i2), .second, .val (.long i3), .second, .val (.long i4), .second, .val (.int n1), .val (.int 3), .val (.ref b3), .val (.ref q_31), .unset] [(.int 58), (.int r_22)]))
                  by_cases hc240_179 : r_22 = (58 : Int32)
                  · skip
                    refine hG _ _ (fun t_ k_ => XS.icmpNo X31.here hx rfl (hb hby at_240) rfl (teq hc240_179).2 k_) ?_
                    show G (T31.setTop (mkF m 243 #[.val (.int i0), .val (.int i1), .val (.long i2), .second, .val (.long i3), .second, .val (.long i4), .second, .val (.int n1), .val (.int 3), .val (.ref b3), .val (.ref q_31), .unset] []))
                    refine hG _ _ (fun t_ k_ => XS.iconst X31.here hx rfl (hb hby at_243) k_) ?_
                    refine hG _ _ (fun t_ k_ => XS.goto X31.here hx rfl (pc0 := 244) (pc' := 248) rfl (hb hby at_244) (by decide) (by decide) k_) ?_
                    show G (T31.setTop (mkF m 248 #[.val (.int i0), .val (.int i1), .val (.long i2), .second, .val (.long i3), .second, .val (.long i4), .second, .val (.int n1), .val (.int 3), .val (.ref b3), .val (.ref q_31), .unset] [(.int 1)]))
                    exact jn1 (hT.mpr ⟨hc151_34, hc160_35, Or.inl hc170_173, Or.inl hc192_175, Or.inl hc216_177, hc240_179⟩)
                  · skip
                    refine hG _ _ (fun t_ k_ => XS.icmpYes X31.here hx rfl (pc0 := 240) (pc' := 247) rfl (hb hby at_240) rfl (feq hc240_179).2 (by decide) (by decide) k_) ?_
                    show G (T31.setTop (mkF m 247 #[.val (.int i0), .val (.int i1), .val (.long i2), .second, .val (.long i3), .second, .val (.long i4), .second, .val (.int n1), .val (.int 3), .val (.ref b3), .val (.ref q_31), .unset] []))
                    refine hG _ _ (fun t_ k_ => XS.iconst X31.here hx rfl (hb hby at_247) k_) ?_
                    show G (T31.setTop (mkF m 248 #[.val (.int i0), .val (.int i1), .val (.long i2), .second, .val (.long i3), .second, .val (.long i4), .second, .val (.int n1), .val (.int 3), .val (.ref b3), .val (.ref q_31), .unset] [(.int 0)]))
                    exact jn0 (fun q => hc240_179 (hT.mp q).2.2.2.2.2)
                · skip
                  refine hG _ _ (fun t_ k_ => XS.icmpNo X31.here hx rfl (hb hby at_216) rfl (feq hc216_177).1 k_) ?_
                  show G (T31.setTop (mkF m 219 #[.val (.int i0), .val (.int i1), .val (.long i2), .second, .val (.long i3), .second, .val (.long i4), .second, .val (.int n1), .val (.int 3), .val (.ref b3), .val (.ref q_31), .unset] []))
                  refine hG _ _ (fun t_ k_ => XS.aload X31.here hx rfl (hb hby at_219) rfl rfl k_) ?_
                  refine hG _ _ (fun t_ k_ => XS.iload X31.here hx rfl (hb hby at_221) rfl k_) ?_
                  refine hG _ _ (fun t_ k_ => XS.iconst X31.here hx rfl (hb hby at_223) k_) ?_
                  refine hG _ _ (fun t_ k_ => XS.iadd X31.here hx rfl (hb hby at_224) rfl k_) ?_
                  show G (T31.setTop (mkF m 225 #[.val (.int i0), .val (.int i1), .val (.long i2), .second, .val (.long i3), .second, .val (.long i4), .second, .val (.int n1), .val (.int 3), .val (.ref b3), .val (.ref q_31), .unset] [(.int ((3 : Int32) + (2 : Int32))), (.ref b3)]))
                  rw [show ((3 : Int32) + (2 : Int32)) = (5 : Int32) from by decide]
                  show G (T31.setTop (mkF m 225 #[.val (.int i0), .val (.int i1), .val (.long i2), .second, .val (.long i3), .second, .val (.long i4), .second, .val (.int n1), .val (.int 3), .val (.ref b3), .val (.ref q_31), .unset] [(.int 5), (.ref b3)]))
                  obtain ⟨c180, Ar180, q180, S180, M180, H180, G180⟩ := id f172
                  have hin180 : ¬ ((5 : Int32) < 0 ∨ c180.slots.size ≤ (5 : Int32).toNatClampNeg) := inb_of S180 ⟨by decide, by decide⟩
                  refine hG _ _ (X31.caload hx (j := (5 : Int32)) (v := (.int r_19)) (by rw [e31]; exact Ar180.1) (State.isArrayOf_alike hZ31.alike Ar180.2.1) Ar180.2.2 hin180 (Has.at H180 hin180 rfl) (g := (mkF m 225 #[.val (.int i0), .val (.int i1), .val (.long i2), .second, .val (.long i3), .second, .val (.long i4), .second, .val (.int n1), .val (.int 3), .val (.ref b3), .val (.ref q_31), .unset] [(.int 5), (.ref b3)])) rfl rfl (hb hby at_225)) ?_
                  show G (T31.setTop (mkF m 226 #[.val (.int i0), .val (.int i1), .val (.long i2), .second, .val (.long i3), .second, .val (.long i4), .second, .val (.int n1), .val (.int 3), .val (.ref b3), .val (.ref q_31), .unset] [(.int r_19)]))
                  refine hG _ _ (fun t_ k_ => XS.bipush X31.here hx rfl (hb hby at_226) k_) ?_
                  show G (T31.setTop (mkF m 228 #[.val (.int i0), .val (.int i1), .val (.long i2), .second, .val (.long i3), .second, .val (.long i4), .second, .val (.int n1), .val (.int 3), .val (.ref b3), .val (.ref q_31), .unset] [(.int 75), (.int r_19)]))
                  by_cases hc228_181 : r_19 = (75 : Int32)
                  · skip
                    refine hG _ _ (fun t_ k_ => XS.icmpNo X31.here hx rfl (hb hby at_228) rfl (teq hc228_181).2 k_) ?_
                    show G (T31.setTop (mkF m 231 #[.val (.int i0), .val (.int i1), .val (.long i2), .second, .val (.long i3), .second, .val (.long i4), .second, .val (.int n1), .val (.int 3), .val (.ref b3), .val (.ref q_31), .unset] []))
                    refine hG _ _ (fun t_ k_ => XS.aload X31.here hx rfl (hb hby at_231) rfl rfl k_) ?_
                    refine hG _ _ (fun t_ k_ => XS.iload X31.here hx rfl (hb hby at_233) rfl k_) ?_
                    refine hG _ _ (fun t_ k_ => XS.iconst X31.here hx rfl (hb hby at_235) k_) ?_
                    refine hG _ _ (fun t_ k_ => XS.iadd X31.here hx rfl (hb hby at_236) rfl k_) ?_
                    show G (T31.setTop (mkF m 237 #[.val (.int i0), .val (.int i1), .val (.long i2), .second, .val (.long i3), .second, .val (.long i4), .second, .val (.int n1), .val (.int 3), .val (.ref b3), .val (.ref q_31), .unset] [(.int ((3 : Int32) + (3 : Int32))), (.ref b3)]))
                    rw [show ((3 : Int32) + (3 : Int32)) = (6 : Int32) from by decide]
                    show G (T31.setTop (mkF m 237 #[.val (.int i0), .val (.int i1), .val (.long i2), .second, .val (.long i3), .second, .val (.long i4), .second, .val (.int n1), .val (.int 3), .val (.ref b3), .val (.ref q_31), .unset] [(.int 6), (.ref b3)]))
                    obtain ⟨c182, Ar182, q182, S182, M182, H182, G182⟩ := id f172
                    have hin182 : ¬ ((6 : Int32) < 0 ∨ c182.slots.size ≤ (6 : Int32).toNatClampNeg) := inb_of S182 ⟨by decide, by decide⟩
                    refine hG _ _ (X31.caload hx (j := (6 : Int32)) (v := (.int r_22)) (by rw [e31]; exact Ar182.1) (State.isArrayOf_alike hZ31.alike Ar182.2.1) Ar182.2.2 hin182 (Has.at H182 hin182 rfl) (g := (mkF m 237 #[.val (.int i0), .val (.int i1), .val (.long i2), .second, .val (.long i3), .second, .val (.long i4), .second, .val (.int n1), .val (.int 3), .val (.ref b3), .val (.ref q_31), .unset] [(.int 6), (.ref b3)])) rfl rfl (hb hby at_237)) ?_
                    show G (T31.setTop (mkF m 238 #[.val (.int i0), .val (.int i1), .val (.long i2), .second, .val (.long i3), .second, .val (.long i4), .second, .val (.int n1), .val (.int 3), .val (.ref b3), .val (.ref q_31), .unset] [(.int r_22)]))
                    refine hG _ _ (fun t_ k_ => XS.bipush X31.here hx rfl (hb hby at_238) k_) ?_
                    show G (T31.setTop (mkF m 240 #[.val (.int i0), .val (.int i1), .val (.long i2), .second, .val (.long i3), .second, .val (.long i4), .second, .val (.int n1), .val (.int 3), .val (.ref b3), .val (.ref q_31), .unset] [(.int 58), (.int r_22)]))
                    by_cases hc240_183 : r_22 = (58 : Int32)
                    · skip
                      refine hG _ _ (fun t_ k_ => XS.icmpNo X31.here hx rfl (hb hby at_240) rfl (teq hc240_183).2 k_) ?_
                      show G (T31.setTop (mkF m 243 #[.val (.int i0), .val (.int i1), .val (.long i2), .second, .val (.long i3), .second, .val (.long i4), .second, .val (.int n1), .val (.int 3), .val (.ref b3), .val (.ref q_31), .unset] []))
                      refine hG _ _ (fun t_ k_ => XS.iconst X31.here hx rfl (hb hby at_243) k_) ?_
                      refine hG _ _ (fun t_ k_ => XS.goto X31.here hx rfl (pc0 := 244) (pc' := 248) rfl (hb hby at_244) (by decide) (by decide) k_) ?_
                      show G (T31.setTop (mkF m 248 #[.val (.int i0), .val (.int i1), .val (.long i2), .second, .val (.long i3), .second, .val (.long i4), .second, .val (.int n1), .val (.int 3), .val (.ref b3), .val (.ref q_31), .unset] [(.int 1)]))
                      exact jn1 (hT.mpr ⟨hc151_34, hc160_35, Or.inl hc170_173, Or.inl hc192_175, Or.inr hc228_181, hc240_183⟩)
                    · skip
                      refine hG _ _ (fun t_ k_ => XS.icmpYes X31.here hx rfl (pc0 := 240) (pc' := 247) rfl (hb hby at_240) rfl (feq hc240_183).2 (by decide) (by decide) k_) ?_
                      show G (T31.setTop (mkF m 247 #[.val (.int i0), .val (.int i1), .val (.long i2), .second, .val (.long i3), .second, .val (.long i4), .second, .val (.int n1), .val (.int 3), .val (.ref b3), .val (.ref q_31), .unset] []))
                      refine hG _ _ (fun t_ k_ => XS.iconst X31.here hx rfl (hb hby at_247) k_) ?_
                      show G (T31.setTop (mkF m 248 #[.val (.int i0), .val (.int i1), .val (.long i2), .second, .val (.long i3), .second, .val (.long i4), .second, .val (.int n1), .val (.int 3), .val (.ref b3), .val (.ref q_31), .unset] [(.int 0)]))
                      exact jn0 (fun q => hc240_183 (hT.mp q).2.2.2.2.2)
                  · skip
                    refine hG _ _ (fun t_ k_ => XS.icmpYes X31.here hx rfl (pc0 := 228) (pc' := 247) rfl (hb hby at_228) rfl (feq hc228_181).2 (by decide) (by decide) k_) ?_
                    show G (T31.setTop (mkF m 247 #[.val (.int i0), .val (.int i1), .val (.long i2), .second, .val (.long i3), .second, .val (.long i4), .second, .val (.int n1), .val (.int 3), .val (.ref b3), .val (.ref q_31), .unset] []))
                    refine hG _ _ (fun t_ k_ => XS.iconst X31.here hx rfl (hb hby at_247) k_) ?_
                    show G (T31.setTop (mkF m 248 #[.val (.int i0), .val (.int i1), .val (.long i2), .second, .val (.long i3), .second, .val (.long i4), .second, .val (.int n1), .val (.int 3), .val (.ref b3), .val (.ref q_31), .unset] [(.int 0)]))
                    exact jn0 (fun q => (hT.mp q).2.2.2.2.1.elim hc216_177 hc228_181)
              · skip
                refine hG _ _ (fun t_ k_ => XS.icmpNo X31.here hx rfl (hb hby at_192) rfl (feq hc192_175).1 k_) ?_
                show G (T31.setTop (mkF m 195 #[.val (.int i0), .val (.int i1), .val (.long i2), .second, .val (.long i3), .second, .val (.long i4), .second, .val (.int n1), .val (.int 3), .val (.ref b3), .val (.ref q_31), .unset] []))
                refine hG _ _ (fun t_ k_ => XS.aload X31.here hx rfl (hb hby at_195) rfl rfl k_) ?_
                refine hG _ _ (fun t_ k_ => XS.iload X31.here hx rfl (hb hby at_197) rfl k_) ?_
                refine hG _ _ (fun t_ k_ => XS.iconst X31.here hx rfl (hb hby at_199) k_) ?_
                refine hG _ _ (fun t_ k_ => XS.iadd X31.here hx rfl (hb hby at_200) rfl k_) ?_
                show G (T31.setTop (mkF m 201 #[.val (.int i0), .val (.int i1), .val (.long i2), .second, .val (.long i3), .second, .val (.long i4), .second, .val (.int n1), .val (.int 3), .val (.ref b3), .val (.ref q_31), .unset] [(.int ((3 : Int32) + (1 : Int32))), (.ref b3)]))
                rw [show ((3 : Int32) + (1 : Int32)) = (4 : Int32) from by decide]
                show G (T31.setTop (mkF m 201 #[.val (.int i0), .val (.int i1), .val (.long i2), .second, .val (.long i3), .second, .val (.long i4), .second, .val (.int n1), .val (.int 3), .val (.ref b3), .val (.ref q_31), .unset] [(.int 4), (.ref b3)]))
                obtain ⟨c184, Ar184, q184, S184, M184, H184, G184⟩ := id f172
                have hin184 : ¬ ((4 : Int32) < 0 ∨ c184.slots.size ≤ (4 : Int32).toNatClampNeg) := inb_of S184 ⟨by decide, by decide⟩
                refine hG _ _ (X31.caload hx (j := (4 : Int32)) (v := (.int r_16)) (by rw [e31]; exact Ar184.1) (State.isArrayOf_alike hZ31.alike Ar184.2.1) Ar184.2.2 hin184 (Has.at H184 hin184 rfl) (g := (mkF m 201 #[.val (.int i0), .val (.int i1), .val (.long i2), .second, .val (.long i3), .second, .val (.long i4), .second, .val (.int n1), .val (.int 3), .val (.ref b3), .val (.ref q_31), .unset] [(.int 4), (.ref b3)])) rfl rfl (hb hby at_201)) ?_
                show G (T31.setTop (mkF m 202 #[.val (.int i0), .val (.int i1), .val (.long i2), .second, .val (.long i3), .second, .val (.long i4), .second, .val (.int n1), .val (.int 3), .val (.ref b3), .val (.ref q_31), .unset] [(.int r_16)]))
                refine hG _ _ (fun t_ k_ => XS.bipush X31.here hx rfl (hb hby at_202) k_) ?_
                show G (T31.setTop (mkF m 204 #[.val (.int i0), .val (.int i1), .val (.long i2), .second, .val (.long i3), .second, .val (.long i4), .second, .val (.int n1), .val (.int 3), .val (.ref b3), .val (.ref q_31), .unset] [(.int 82), (.int r_16)]))
                by_cases hc204_185 : r_16 = (82 : Int32)
                · skip
                  refine hG _ _ (fun t_ k_ => XS.icmpNo X31.here hx rfl (hb hby at_204) rfl (teq hc204_185).2 k_) ?_
                  show G (T31.setTop (mkF m 207 #[.val (.int i0), .val (.int i1), .val (.long i2), .second, .val (.long i3), .second, .val (.long i4), .second, .val (.int n1), .val (.int 3), .val (.ref b3), .val (.ref q_31), .unset] []))
                  refine hG _ _ (fun t_ k_ => XS.aload X31.here hx rfl (hb hby at_207) rfl rfl k_) ?_
                  refine hG _ _ (fun t_ k_ => XS.iload X31.here hx rfl (hb hby at_209) rfl k_) ?_
                  refine hG _ _ (fun t_ k_ => XS.iconst X31.here hx rfl (hb hby at_211) k_) ?_
                  refine hG _ _ (fun t_ k_ => XS.iadd X31.here hx rfl (hb hby at_212) rfl k_) ?_
                  show G (T31.setTop (mkF m 213 #[.val (.int i0), .val (.int i1), .val (.long i2), .second, .val (.long i3), .second, .val (.long i4), .second, .val (.int n1), .val (.int 3), .val (.ref b3), .val (.ref q_31), .unset] [(.int ((3 : Int32) + (2 : Int32))), (.ref b3)]))
                  rw [show ((3 : Int32) + (2 : Int32)) = (5 : Int32) from by decide]
                  show G (T31.setTop (mkF m 213 #[.val (.int i0), .val (.int i1), .val (.long i2), .second, .val (.long i3), .second, .val (.long i4), .second, .val (.int n1), .val (.int 3), .val (.ref b3), .val (.ref q_31), .unset] [(.int 5), (.ref b3)]))
                  obtain ⟨c186, Ar186, q186, S186, M186, H186, G186⟩ := id f172
                  have hin186 : ¬ ((5 : Int32) < 0 ∨ c186.slots.size ≤ (5 : Int32).toNatClampNeg) := inb_of S186 ⟨by decide, by decide⟩
                  refine hG _ _ (X31.caload hx (j := (5 : Int32)) (v := (.int r_19)) (by rw [e31]; exact Ar186.1) (State.isArrayOf_alike hZ31.alike Ar186.2.1) Ar186.2.2 hin186 (Has.at H186 hin186 rfl) (g := (mkF m 213 #[.val (.int i0), .val (.int i1), .val (.long i2), .second, .val (.long i3), .second, .val (.long i4), .second, .val (.int n1), .val (.int 3), .val (.ref b3), .val (.ref q_31), .unset] [(.int 5), (.ref b3)])) rfl rfl (hb hby at_213)) ?_
                  show G (T31.setTop (mkF m 214 #[.val (.int i0), .val (.int i1), .val (.long i2), .second, .val (.long i3), .second, .val (.long i4), .second, .val (.int n1), .val (.int 3), .val (.ref b3), .val (.ref q_31), .unset] [(.int r_19)]))
                  refine hG _ _ (fun t_ k_ => XS.bipush X31.here hx rfl (hb hby at_214) k_) ?_
                  show G (T31.setTop (mkF m 216 #[.val (.int i0), .val (.int i1), .val (.long i2), .second, .val (.long i3), .second, .val (.long i4), .second, .val (.int n1), .val (.int 3), .val (.ref b3), .val (.ref q_31), .unset] [(.int 107), (.int r_19)]))
                  by_cases hc216_187 : r_19 = (107 : Int32)
                  · skip
                    refine hG _ _ (fun t_ k_ => XS.icmpYes X31.here hx rfl (pc0 := 216) (pc' := 231) rfl (hb hby at_216) rfl (teq hc216_187).1 (by decide) (by decide) k_) ?_
                    show G (T31.setTop (mkF m 231 #[.val (.int i0), .val (.int i1), .val (.long i2), .second, .val (.long i3), .second, .val (.long i4), .second, .val (.int n1), .val (.int 3), .val (.ref b3), .val (.ref q_31), .unset] []))
                    refine hG _ _ (fun t_ k_ => XS.aload X31.here hx rfl (hb hby at_231) rfl rfl k_) ?_
                    refine hG _ _ (fun t_ k_ => XS.iload X31.here hx rfl (hb hby at_233) rfl k_) ?_
                    refine hG _ _ (fun t_ k_ => XS.iconst X31.here hx rfl (hb hby at_235) k_) ?_
                    refine hG _ _ (fun t_ k_ => XS.iadd X31.here hx rfl (hb hby at_236) rfl k_) ?_
                    show G (T31.setTop (mkF m 237 #[.val (.int i0), .val (.int i1), .val (.long i2), .second, .val (.long i3), .second, .val (.long i4), .second, .val (.int n1), .val (.int 3), .val (.ref b3), .val (.ref q_31), .unset] [(.int ((3 : Int32) + (3 : Int32))), (.ref b3)]))
                    rw [show ((3 : Int32) + (3 : Int32)) = (6 : Int32) from by decide]
                    show G (T31.setTop (mkF m 237 #[.val (.int i0), .val (.int i1), .val (.long i2), .second, .val (.long i3), .second, .val (.long i4), .second, .val (.int n1), .val (.int 3), .val (.ref b3), .val (.ref q_31), .unset] [(.int 6), (.ref b3)]))
                    obtain ⟨c188, Ar188, q188, S188, M188, H188, G188⟩ := id f172
                    have hin188 : ¬ ((6 : Int32) < 0 ∨ c188.slots.size ≤ (6 : Int32).toNatClampNeg) := inb_of S188 ⟨by decide, by decide⟩
                    refine hG _ _ (X31.caload hx (j := (6 : Int32)) (v := (.int r_22)) (by rw [e31]; exact Ar188.1) (State.isArrayOf_alike hZ31.alike Ar188.2.1) Ar188.2.2 hin188 (Has.at H188 hin188 rfl) (g := (mkF m 237 #[.val (.int i0), .val (.int i1), .val (.long i2), .second, .val (.long i3), .second, .val (.long i4), .second, .val (.int n1), .val (.int 3), .val (.ref b3), .val (.ref q_31), .unset] [(.int 6), (.ref b3)])) rfl rfl (hb hby at_237)) ?_
                    show G (T31.setTop (mkF m 238 #[.val (.int i0), .val (.int i1), .val (.long i2), .second, .val (.long i3), .second, .val (.long i4), .second, .val (.int n1), .val (.int 3), .val (.ref b3), .val (.ref q_31), .unset] [(.int r_22)]))
                    refine hG _ _ (fun t_ k_ => XS.bipush X31.here hx rfl (hb hby at_238) k_) ?_
                    show G (T31.setTop (mkF m 240 #[.val (.int i0), .val (.int i1), .val (.long i2), .second, .val (.long i3), .second, .val (.long i4), .second, .val (.int n1), .val (.int 3), .val (.ref b3), .val (.ref q_31), .unset] [(.int 58), (.int r_22)]))
                    by_cases hc240_189 : r_22 = (58 : Int32)
                    · skip
                      refine hG _ _ (fun t_ k_ => XS.icmpNo X31.here hx rfl (hb hby at_240) rfl (teq hc240_189).2 k_) ?_
                      show G (T31.setTop (mkF m 243 #[.val (.int i0), .val (.int i1), .val (.long i2), .second, .val (.long i3), .second, .val (.long i4), .second, .val (.int n1), .val (.int 3), .val (.ref b3), .val (.ref q_31), .unset] []))
                      refine hG _ _ (fun t_ k_ => XS.iconst X31.here hx rfl (hb hby at_243) k_) ?_
                      refine hG _ _ (fun t_ k_ => XS.goto X31.here hx rfl (pc0 := 244) (pc' := 248) rfl (hb hby at_244) (by decide) (by decide) k_) ?_
                      show G (T31.setTop (mkF m 248 #[.val (.int i0), .val (.int i1), .val (.long i2), .second, .val (.long i3), .second, .val (.long i4), .second, .val (.int n1), .val (.int 3), .val (.ref b3), .val (.ref q_31), .unset] [(.int 1)]))
                      exact jn1 (hT.mpr ⟨hc151_34, hc160_35, Or.inl hc170_173, Or.inr hc204_185, Or.inl hc216_187, hc240_189⟩)
                    · skip
                      refine hG _ _ (fun t_ k_ => XS.icmpYes X31.here hx rfl (pc0 := 240) (pc' := 247) rfl (hb hby at_240) rfl (feq hc240_189).2 (by decide) (by decide) k_) ?_
                      show G (T31.setTop (mkF m 247 #[.val (.int i0), .val (.int i1), .val (.long i2), .second, .val (.long i3), .second, .val (.long i4), .second, .val (.int n1), .val (.int 3), .val (.ref b3), .val (.ref q_31), .unset] []))
                      refine hG _ _ (fun t_ k_ => XS.iconst X31.here hx rfl (hb hby at_247) k_) ?_
                      show G (T31.setTop (mkF m 248 #[.val (.int i0), .val (.int i1), .val (.long i2), .second, .val (.long i3), .second, .val (.long i4), .second, .val (.int n1), .val (.int 3), .val (.ref b3), .val (.ref q_31), .unset] [(.int 0)]))
                      exact jn0 (fun q => hc240_189 (hT.mp q).2.2.2.2.2)
                  · skip
                    refine hG _ _ (fun t_ k_ => XS.icmpNo X31.here hx rfl (hb hby at_216) rfl (feq hc216_187).1 k_) ?_
                    show G (T31.setTop (mkF m 219 #[.val (.int i0), .val (.int i1), .val (.long i2), .second, .val (.long i3), .second, .val (.long i4), .second, .val (.int n1), .val (.int 3), .val (.ref b3), .val (.ref q_31), .unset] []))
                    refine hG _ _ (fun t_ k_ => XS.aload X31.here hx rfl (hb hby at_219) rfl rfl k_) ?_
                    refine hG _ _ (fun t_ k_ => XS.iload X31.here hx rfl (hb hby at_221) rfl k_) ?_
                    refine hG _ _ (fun t_ k_ => XS.iconst X31.here hx rfl (hb hby at_223) k_) ?_
                    refine hG _ _ (fun t_ k_ => XS.iadd X31.here hx rfl (hb hby at_224) rfl k_) ?_
                    show G (T31.setTop (mkF m 225 #[.val (.int i0), .val (.int i1), .val (.long i2), .second, .val (.long i3), .second, .val (.long i4), .second, .val (.int n1), .val (.int 3), .val (.ref b3), .val (.ref q_31), .unset] [(.int ((3 : Int32) + (2 : Int32))), (.ref b3)]))
                    rw [show ((3 : Int32) + (2 : Int32)) = (5 : Int32) from by decide]
                    show G (T31.setTop (mkF m 225 #[.val (.int i0), .val (.int i1), .val (.long i2), .second, .val (.long i3), .second, .val (.long i4), .second, .val (.int n1), .val (.int 3), .val (.ref b3), .val (.ref q_31), .unset] [(.int 5), (.ref b3)]))
                    obtain ⟨c190, Ar190, q190, S190, M190, H190, G190⟩ := id f172
                    have hin190 : ¬ ((5 : Int32) < 0 ∨ c190.slots.size ≤ (5 : Int32).toNatClampNeg) := inb_of S190 ⟨by decide, by decide⟩
                    refine hG _ _ (X31.caload hx (j := (5 : Int32)) (v := (.int r_19)) (by rw [e31]; exact Ar190.1) (State.isArrayOf_alike hZ31.alike Ar190.2.1) Ar190.2.2 hin190 (Has.at H190 hin190 rfl) (g := (mkF m 225 #[.val (.int i0), .val (.int i1), .val (.long i2), .second, .val (.long i3), .second, .val (.long i4), .second, .val (.int n1), .val (.int 3), .val (.ref b3), .val (.ref q_31), .unset] [(.int 5), (.ref b3)])) rfl rfl (hb hby at_225)) ?_
                    show G (T31.setTop (mkF m 226 #[.val (.int i0), .val (.int i1), .val (.long i2), .second, .val (.long i3), .second, .val (.long i4), .second, .val (.int n1), .val (.int 3), .val (.ref b3), .val (.ref q_31), .unset] [(.int r_19)]))
                    refine hG _ _ (fun t_ k_ => XS.bipush X31.here hx rfl (hb hby at_226) k_) ?_
                    show G (T31.setTop (mkF m 228 #[.val (.int i0), .val (.int i1), .val (.long i2), .second, .val (.long i3), .second, .val (.long i4), .second, .val (.int n1), .val (.int 3), .val (.ref b3), .val (.ref q_31), .unset] [(.int 75), (.int r_19)]))
                    by_cases hc228_191 : r_19 = (75 : Int32)
                    · skip
                      refine hG _ _ (fun t_ k_ => XS.icmpNo X31.here hx rfl (hb hby at_228) rfl (teq hc228_191).2 k_) ?_
                      show G (T31.setTop (mkF m 231 #[.val (.int i0), .val (.int i1), .val (.long i2), .second, .val (.long i3), .second, .val (.long i4), .second, .val (.int n1), .val (.int 3), .val (.ref b3), .val (.ref q_31), .unset] []))
                      refine hG _ _ (fun t_ k_ => XS.aload X31.here hx rfl (hb hby at_231) rfl rfl k_) ?_
                      refine hG _ _ (fun t_ k_ => XS.iload X31.here hx rfl (hb hby at_233) rfl k_) ?_
                      refine hG _ _ (fun t_ k_ => XS.iconst X31.here hx rfl (hb hby at_235) k_) ?_
                      refine hG _ _ (fun t_ k_ => XS.iadd X31.here hx rfl (hb hby at_236) rfl k_) ?_
                      show G (T31.setTop (mkF m 237 #[.val (.int i0), .val (.int i1), .val (.long i2), .second, .val (.long i3), .second, .val (.long i4), .second, .val (.int n1), .val (.int 3), .val (.ref b3), .val (.ref q_31), .unset] [(.int ((3 : Int32) + (3 : Int32))), (.ref b3)]))
                      rw [show ((3 : Int32) + (3 : Int32)) = (6 : Int32) from by decide]
                      show G (T31.setTop (mkF m 237 #[.val (.int i0), .val (.int i1), .val (.long i2), .second, .val (.long i3), .second, .val (.long i4), .second, .val (.int n1), .val (.int 3), .val (.ref b3), .val (.ref q_31), .unset] [(.int 6), (.ref b3)]))
                      obtain ⟨c192, Ar192, q192, S192, M192, H192, G192⟩ := id f172
                      have hin192 : ¬ ((6 : Int32) < 0 ∨ c192.slots.size ≤ (6 : Int32).toNatClampNeg) := inb_of S192 ⟨by decide, by decide⟩
                      refine hG _ _ (X31.caload hx (j := (6 : Int32)) (v := (.int r_22)) (by rw [e31]; exact Ar192.1) (State.isArrayOf_alike hZ31.alike Ar192.2.1) Ar192.2.2 hin192 (Has.at H192 hin192 rfl) (g := (mkF m 237 #[.val (.int i0), .val (.int i1), .val (.long i2), .second, .val (.long i3), .second, .val (.long i4), .second, .val (.int n1), .val (.int 3), .val (.ref b3), .val (.ref q_31), .unset] [(.int 6), (.ref b3)])) rfl rfl (hb hby at_237)) ?_
                      show G (T31.setTop (mkF m 238 #[.val (.int i0), .val (.int i1), .val (.long i2), .second, .val (.long i3), .second, .val (.long i4), .second, .val (.int n1), .val (.int 3), .val (.ref b3), .val (.ref q_31), .unset] [(.int r_22)]))
                      refine hG _ _ (fun t_ k_ => XS.bipush X31.here hx rfl (hb hby at_238) k_) ?_
                      show G (T31.setTop (mkF m 240 #[.val (.int i0), .val (.int i1), .val (.long i2), .second, .val (.long i3), .second, .val (.long i4), .second, .val (.int n1), .val (.int 3), .val (.ref b3), .val (.ref q_31), .unset] [(.int 58), (.int r_22)]))
                      by_cases hc240_193 : r_22 = (58 : Int32)
                      · skip
                        refine hG _ _ (fun t_ k_ => XS.icmpNo X31.here hx rfl (hb hby at_240) rfl (teq hc240_193).2 k_) ?_
                        show G (T31.setTop (mkF m 243 #[.val (.int i0), .val (.int i1), .val (.long i2), .second, .val (.long i3), .second, .val (.long i4), .second, .val (.int n1), .val (.int 3), .val (.ref b3), .val (.ref q_31), .unset] []))
                        refine hG _ _ (fun t_ k_ => XS.iconst X31.here hx rfl (hb hby at_243) k_) ?_
                        refine hG _ _ (fun t_ k_ => XS.goto X31.here hx rfl (pc0 := 244) (pc' := 248) rfl (hb hby at_244) (by decide) (by decide) k_) ?_
                        show G (T31.setTop (mkF m 248 #[.val (.int i0), .val (.int i1), .val (.long i2), .second, .val (.long i3), .second, .val (.long i4), .second, .val (.int n1), .val (.int 3), .val (.ref b3), .val (.ref q_31), .unset] [(.int 1)]))
                        exact jn1 (hT.mpr ⟨hc151_34, hc160_35, Or.inl hc170_173, Or.inr hc204_185, Or.inr hc228_191, hc240_193⟩)
                      · skip
                        refine hG _ _ (fun t_ k_ => XS.icmpYes X31.here hx rfl (pc0 := 240) (pc' := 247) rfl (hb hby at_240) rfl (feq hc240_193).2 (by decide) (by decide) k_) ?_
                        show G (T31.setTop (mkF m 247 #[.val (.int i0), .val (.int i1), .val (.long i2), .second, .val (.long i3), .second, .val (.long i4), .second, .val (.int n1), .val (.int 3), .val (.ref b3), .val (.ref q_31), .unset] []))
                        refine hG _ _ (fun t_ k_ => XS.iconst X31.here hx rfl (hb hby at_247) k_) ?_
                        show G (T31.setTop (mkF m 248 #[.val (.int i0), .val (.int i1), .val (.long i2), .second, .val (.long i3), .second, .val (.long i4), .second, .val (.int n1), .val (.int 3), .val (.ref b3), .val (.ref q_31), .unset] [(.int 0)]))
                        exact jn0 (fun q => hc240_193 (hT.mp q).2.2.2.2.2)
                    · skip
                      refine hG _ _ (fun t_ k_ => XS.icmpYes X31.here hx rfl (pc0 := 228) (pc' := 247) rfl (hb hby at_228) rfl (feq hc228_191).2 (by decide) (by decide) k_) ?_
                      show G (T31.setTop (mkF m 247 #[.val (.int i0), .val (.int i1), .val (.long i2), .second, .val (.long i3), .second, .val (.long i4), .second, .val (.int n1), .val (.int 3), .val (.ref b3), .val (.ref q_31), .unset] []))
                      refine hG _ _ (fun t_ k_ => XS.iconst X31.here hx rfl (hb hby at_247) k_) ?_
                      show G (T31.setTop (mkF m 248 #[.val (.int i0), .val (.int i1), .val (.long i2), .second, .val (.long i3), .second, .val (.long i4), .second, .val (.int n1), .val (.int 3), .val (.ref b3), .val (.ref q_31), .unset] [(.int 0)]))
                      exact jn0 (fun q => (hT.mp q).2.2.2.2.1.elim hc216_187 hc228_191)
                · skip
                  refine hG _ _ (fun t_ k_ => XS.icmpYes X31.here hx rfl (pc0 := 204) (pc' := 247) rfl (hb hby at_204) rfl (feq hc204_185).2 (by decide) (by decide) k_) ?_
                  show G (T31.setTop (mkF m 247 #[.val (.int i0), .val (.int i1), .val (.long i2), .second, .val (.long i3), .second, .val (.long i4), .second, .val (.int n1), .val (.int 3), .val (.ref b3), .val (.ref q_31), .unset] []))
                  refine hG _ _ (fun t_ k_ => XS.iconst X31.here hx rfl (hb hby at_247) k_) ?_
                  show G (T31.setTop (mkF m 248 #[.val (.int i0), .val (.int i1), .val (.long i2), .second, .val (.long i3), .second, .val (.long i4), .second, .val (.int n1), .val (.int 3), .val (.ref b3), .val (.ref q_31), .unset] [(.int 0)]))
                  exact jn0 (fun q => (hT.mp q).2.2.2.1.elim hc192_175 hc204_185)
            · skip
              refine hG _ _ (fun t_ k_ => XS.icmpNo X31.here hx rfl (hb hby at_170) rfl (feq hc170_173).1 k_) ?_
              show G (T31.setTop (mkF m 173 #[.val (.int i0), .val (.int i1), .val (.long i2), .second, .val (.long i3), .second, .val (.long i4), .second, .val (.int n1), .val (.int 3), .val (.ref b3), .val (.ref q_31), .unset] []))
              refine hG _ _ (fun t_ k_ => XS.aload X31.here hx rfl (hb hby at_173) rfl rfl k_) ?_
              refine hG _ _ (fun t_ k_ => XS.iload X31.here hx rfl (hb hby at_175) rfl k_) ?_
              show G (T31.setTop (mkF m 177 #[.val (.int i0), .val (.int i1), .val (.long i2), .second, .val (.long i3), .second, .val (.long i4), .second, .val (.int n1), .val (.int 3), .val (.ref b3), .val (.ref q_31), .unset] [(.int 3), (.ref b3)]))
              obtain ⟨c194, Ar194, q194, S194, M194, H194, G194⟩ := id f172
              have hin194 : ¬ ((3 : Int32) < 0 ∨ c194.slots.size ≤ (3 : Int32).toNatClampNeg) := inb_of S194 ⟨by decide, by decide⟩
              refine hG _ _ (X31.caload hx (j := (3 : Int32)) (v := (.int r_13)) (by rw [e31]; exact Ar194.1) (State.isArrayOf_alike hZ31.alike Ar194.2.1) Ar194.2.2 hin194 (Has.at H194 hin194 rfl) (g := (mkF m 177 #[.val (.int i0), .val (.int i1), .val (.long i2), .second, .val (.long i3), .second, .val (.long i4), .second, .val (.int n1), .val (.int 3), .val (.ref b3), .val (.ref q_31), .unset] [(.int 3), (.ref b3)])) rfl rfl (hb hby at_177)) ?_
              show G (T31.setTop (mkF m 178 #[.val (.int i0), .val (.int i1), .val (.long i2), .second, .val (.long i3), .second, .val (.long i4), .second, .val (.int n1), .val (.int 3), .val (.ref b3), .val (.ref q_31), .unset] [(.int r_13)]))
              refine hG _ _ (fun t_ k_ => XS.bipush X31.here hx rfl (hb hby at_178) k_) ?_
              show G (T31.setTop (mkF m 180 #[.val (.int i0), .val (.int i1), .val (.long i2), .second, .val (.long i3), .second, .val (.long i4), .second, .val (.int n1), .val (.int 3), .val (.ref b3), .val (.ref q_31), .unset] [(.int 65), (.int r_13)]))
              by_cases hc180_195 : r_13 = (65 : Int32)
              · skip
                refine hG _ _ (fun t_ k_ => XS.icmpNo X31.here hx rfl (hb hby at_180) rfl (teq hc180_195).2 k_) ?_
                show G (T31.setTop (mkF m 183 #[.val (.int i0), .val (.int i1), .val (.long i2), .second, .val (.long i3), .second, .val (.long i4), .second, .val (.int n1), .val (.int 3), .val (.ref b3), .val (.ref q_31), .unset] []))
                refine hG _ _ (fun t_ k_ => XS.aload X31.here hx rfl (hb hby at_183) rfl rfl k_) ?_
                refine hG _ _ (fun t_ k_ => XS.iload X31.here hx rfl (hb hby at_185) rfl k_) ?_
                refine hG _ _ (fun t_ k_ => XS.iconst X31.here hx rfl (hb hby at_187) k_) ?_
                refine hG _ _ (fun t_ k_ => XS.iadd X31.here hx rfl (hb hby at_188) rfl k_) ?_
                show G (T31.setTop (mkF m 189 #[.val (.int i0), .val (.int i1), .val (.long i2), .second, .val (.long i3), .second, .val (.long i4), .second, .val (.int n1), .val (.int 3), .val (.ref b3), .val (.ref q_31), .unset] [(.int ((3 : Int32) + (1 : Int32))), (.ref b3)]))
                rw [show ((3 : Int32) + (1 : Int32)) = (4 : Int32) from by decide]
                show G (T31.setTop (mkF m 189 #[.val (.int i0), .val (.int i1), .val (.long i2), .second, .val (.long i3), .second, .val (.long i4), .second, .val (.int n1), .val (.int 3), .val (.ref b3), .val (.ref q_31), .unset] [(.int 4), (.ref b3)]))
                obtain ⟨c196, Ar196, q196, S196, M196, H196, G196⟩ := id f172
                have hin196 : ¬ ((4 : Int32) < 0 ∨ c196.slots.size ≤ (4 : Int32).toNatClampNeg) := inb_of S196 ⟨by decide, by decide⟩
                refine hG _ _ (X31.caload hx (j := (4 : Int32)) (v := (.int r_16)) (by rw [e31]; exact Ar196.1) (State.isArrayOf_alike hZ31.alike Ar196.2.1) Ar196.2.2 hin196 (Has.at H196 hin196 rfl) (g := (mkF m 189 #[.val (.int i0), .val (.int i1), .val (.long i2), .second, .val (.long i3), .second, .val (.long i4), .second, .val (.int n1), .val (.int 3), .val (.ref b3), .val (.ref q_31), .unset] [(.int 4), (.ref b3)])) rfl rfl (hb hby at_189)) ?_
                show G (T31.setTop (mkF m 190 #[.val (.int i0), .val (.int i1), .val (.long i2), .second, .val (.long i3), .second, .val (.long i4), .second, .val (.int n1), .val (.int 3), .val (.ref b3), .val (.ref q_31), .unset] [(.int r_16)]))
                refine hG _ _ (fun t_ k_ => XS.bipush X31.here hx rfl (hb hby at_190) k_) ?_
                show G (T31.setTop (mkF m 192 #[.val (.int i0), .val (.int i1), .val (.long i2), .second, .val (.long i3), .second, .val (.long i4), .second, .val (.int n1), .val (.int 3), .val (.ref b3), .val (.ref q_31), .unset] [(.int 114), (.int r_16)]))
                by_cases hc192_197 : r_16 = (114 : Int32)
                · skip
                  refine hG _ _ (fun t_ k_ => XS.icmpYes X31.here hx rfl (pc0 := 192) (pc' := 207) rfl (hb hby at_192) rfl (teq hc192_197).1 (by decide) (by decide) k_) ?_
                  show G (T31.setTop (mkF m 207 #[.val (.int i0), .val (.int i1), .val (.long i2), .second, .val (.long i3), .second, .val (.long i4), .second, .val (.int n1), .val (.int 3), .val (.ref b3), .val (.ref q_31), .unset] []))
                  refine hG _ _ (fun t_ k_ => XS.aload X31.here hx rfl (hb hby at_207) rfl rfl k_) ?_
                  refine hG _ _ (fun t_ k_ => XS.iload X31.here hx rfl (hb hby at_209) rfl k_) ?_
                  refine hG _ _ (fun t_ k_ => XS.iconst X31.here hx rfl (hb hby at_211) k_) ?_
                  refine hG _ _ (fun t_ k_ => XS.iadd X31.here hx rfl (hb hby at_212) rfl k_) ?_
                  show G (T31.setTop (mkF m 213 #[.val (.int i0), .val (.int i1), .val (.long i2), .second, .val (.long i3), .second, .val (.long i4), .second, .val (.int n1), .val (.int 3), .val (.ref b3), .val (.ref q_31), .unset] [(.int ((3 : Int32) + (2 : Int32))), (.ref b3)]))
                  rw [show ((3 : Int32) + (2 : Int32)) = (5 : Int32) from by decide]
                  show G (T31.setTop (mkF m 213 #[.val (.int i0), .val (.int i1), .val (.long i2), .second, .val (.long i3), .second, .val (.long i4), .second, .val (.int n1), .val (.int 3), .val (.ref b3), .val (.ref q_31), .unset] [(.int 5), (.ref b3)]))
                  obtain ⟨c198, Ar198, q198, S198, M198, H198, G198⟩ := id f172
                  have hin198 : ¬ ((5 : Int32) < 0 ∨ c198.slots.size ≤ (5 : Int32).toNatClampNeg) := inb_of S198 ⟨by decide, by decide⟩
                  refine hG _ _ (X31.caload hx (j := (5 : Int32)) (v := (.int r_19)) (by rw [e31]; exact Ar198.1) (State.isArrayOf_alike hZ31.alike Ar198.2.1) Ar198.2.2 hin198 (Has.at H198 hin198 rfl) (g := (mkF m 213 #[.val (.int i0), .val (.int i1), .val (.long i2), .second, .val (.long i3), .second, .val (.long i4), .second, .val (.int n1), .val (.int 3), .val (.ref b3), .val (.ref q_31), .unset] [(.int 5), (.ref b3)])) rfl rfl (hb hby at_213)) ?_
                  show G (T31.setTop (mkF m 214 #[.val (.int i0), .val (.int i1), .val (.long i2), .second, .val (.long i3), .second, .val (.long i4), .second, .val (.int n1), .val (.int 3), .val (.ref b3), .val (.ref q_31), .unset] [(.int r_19)]))
                  refine hG _ _ (fun t_ k_ => XS.bipush X31.here hx rfl (hb hby at_214) k_) ?_
                  show G (T31.setTop (mkF m 216 #[.val (.int i0), .val (.int i1), .val (.long i2), .second, .val (.long i3), .second, .val (.long i4), .second, .val (.int n1), .val (.int 3), .val (.ref b3), .val (.ref q_31), .unset] [(.int 107), (.int r_19)]))
                  by_cases hc216_199 : r_19 = (107 : Int32)
                  · skip
                    refine hG _ _ (fun t_ k_ => XS.icmpYes X31.here hx rfl (pc0 := 216) (pc' := 231) rfl (hb hby at_216) rfl (teq hc216_199).1 (by decide) (by decide) k_) ?_
                    show G (T31.setTop (mkF m 231 #[.val (.int i0), .val (.int i1), .val (.long i2), .second, .val (.long i3), .second, .val (.long i4), .second, .val (.int n1), .val (.int 3), .val (.ref b3), .val (.ref q_31), .unset] []))
                    refine hG _ _ (fun t_ k_ => XS.aload X31.here hx rfl (hb hby at_231) rfl rfl k_) ?_
                    refine hG _ _ (fun t_ k_ => XS.iload X31.here hx rfl (hb hby at_233) rfl k_) ?_
                    refine hG _ _ (fun t_ k_ => XS.iconst X31.here hx rfl (hb hby at_235) k_) ?_
                    refine hG _ _ (fun t_ k_ => XS.iadd X31.here hx rfl (hb hby at_236) rfl k_) ?_
                    show G (T31.setTop (mkF m 237 #[.val (.int i0), .val (.int i1), .val (.long i2), .second, .val (.long i3), .second, .val (.long i4), .second, .val (.int n1), .val (.int 3), .val (.ref b3), .val (.ref q_31), .unset] [(.int ((3 : Int32) + (3 : Int32))), (.ref b3)]))
                    rw [show ((3 : Int32) + (3 : Int32)) = (6 : Int32) from by decide]
                    show G (T31.setTop (mkF m 237 #[.val (.int i0), .val (.int i1), .val (.long i2), .second, .val (.long i3), .second, .val (.long i4), .second, .val (.int n1), .val (.int 3), .val (.ref b3), .val (.ref q_31), .unset] [(.int 6), (.ref b3)]))
                    obtain ⟨c200, Ar200, q200, S200, M200, H200, G200⟩ := id f172
                    have hin200 : ¬ ((6 : Int32) < 0 ∨ c200.slots.size ≤ (6 : Int32).toNatClampNeg) := inb_of S200 ⟨by decide, by decide⟩
                    refine hG _ _ (X31.caload hx (j := (6 : Int32)) (v := (.int r_22)) (by rw [e31]; exact Ar200.1) (State.isArrayOf_alike hZ31.alike Ar200.2.1) Ar200.2.2 hin200 (Has.at H200 hin200 rfl) (g := (mkF m 237 #[.val (.int i0), .val (.int i1), .val (.long i2), .second, .val (.long i3), .second, .val (.long i4), .second, .val (.int n1), .val (.int 3), .val (.ref b3), .val (.ref q_31), .unset] [(.int 6), (.ref b3)])) rfl rfl (hb hby at_237)) ?_
                    show G (T31.setTop (mkF m 238 #[.val (.int i0), .val (.int i1), .val (.long i2), .second, .val (.long i3), .second, .val (.long i4), .second, .val (.int n1), .val (.int 3), .val (.ref b3), .val (.ref q_31), .unset] [(.int r_22)]))
                    refine hG _ _ (fun t_ k_ => XS.bipush X31.here hx rfl (hb hby at_238) k_) ?_
                    show G (T31.setTop (mkF m 240 #[.val (.int i0), .val (.int i1), .val (.long i2), .second, .val (.long i3), .second, .val (.long i4), .second, .val (.int n1), .val (.int 3), .val (.ref b3), .val (.ref q_31), .unset] [(.int 58), (.int r_22)]))
                    by_cases hc240_201 : r_22 = (58 : Int32)
                    · skip
                      refine hG _ _ (fun t_ k_ => XS.icmpNo X31.here hx rfl (hb hby at_240) rfl (teq hc240_201).2 k_) ?_
                      show G (T31.setTop (mkF m 243 #[.val (.int i0), .val (.int i1), .val (.long i2), .second, .val (.long i3), .second, .val (.long i4), .second, .val (.int n1), .val (.int 3), .val (.ref b3), .val (.ref q_31), .unset] []))
                      refine hG _ _ (fun t_ k_ => XS.iconst X31.here hx rfl (hb hby at_243) k_) ?_
                      refine hG _ _ (fun t_ k_ => XS.goto X31.here hx rfl (pc0 := 244) (pc' := 248) rfl (hb hby at_244) (by decide) (by decide) k_) ?_
                      show G (T31.setTop (mkF m 248 #[.val (.int i0), .val (.int i1), .val (.long i2), .second, .val (.long i3), .second, .val (.long i4), .second, .val (.int n1), .val (.int 3), .val (.ref b3), .val (.ref q_31), .unset] [(.int 1)]))
                      exact jn1 (hT.mpr ⟨hc151_34, hc160_35, Or.inr hc180_195, Or.inl hc192_197, Or.inl hc216_199, hc240_201⟩)
                    · skip
                      refine hG _ _ (fun t_ k_ => XS.icmpYes X31.here hx rfl (pc0 := 240) (pc' := 247) rfl (hb hby at_240) rfl (feq hc240_201).2 (by decide) (by decide) k_) ?_
                      show G (T31.setTop (mkF m 247 #[.val (.int i0), .val (.int i1), .val (.long i2), .second, .val (.long i3), .second, .val (.long i4), .second, .val (.int n1), .val (.int 3), .val (.ref b3), .val (.ref q_31), .unset] []))
                      refine hG _ _ (fun t_ k_ => XS.iconst X31.here hx rfl (hb hby at_247) k_) ?_
                      show G (T31.setTop (mkF m 248 #[.val (.int i0), .val (.int i1), .val (.long i2), .second, .val (.long i3), .second, .val (.long i4), .second, .val (.int n1), .val (.int 3), .val (.ref b3), .val (.ref q_31), .unset] [(.int 0)]))
                      exact jn0 (fun q => hc240_201 (hT.mp q).2.2.2.2.2)
                  · skip
                    refine hG _ _ (fun t_ k_ => XS.icmpNo X31.here hx rfl (hb hby at_216) rfl (feq hc216_199).1 k_) ?_
                    show G (T31.setTop (mkF m 219 #[.val (.int i0), .val (.int i1), .val (.long i2), .second, .val (.long i3), .second, .val (.long i4), .second, .val (.int n1), .val (.int 3), .val (.ref b3), .val (.ref q_31), .unset] []))
                    refine hG _ _ (fun t_ k_ => XS.aload X31.here hx rfl (hb hby at_219) rfl rfl k_) ?_
                    refine hG _ _ (fun t_ k_ => XS.iload X31.here hx rfl (hb hby at_221) rfl k_) ?_
                    refine hG _ _ (fun t_ k_ => XS.iconst X31.here hx rfl (hb hby at_223) k_) ?_
                    refine hG _ _ (fun t_ k_ => XS.iadd X31.here hx rfl (hb hby at_224) rfl k_) ?_
                    show G (T31.setTop (mkF m 225 #[.val (.int i0), .val (.int i1), .val (.long i2), .second, .val (.long i3), .second, .val (.long i4), .second, .val (.int n1), .val (.int 3), .val (.ref b3), .val (.ref q_31), .unset] [(.int ((3 : Int32) + (2 : Int32))), (.ref b3)]))
                    rw [show ((3 : Int32) + (2 : Int32)) = (5 : Int32) from by decide]
                    show G (T31.setTop (mkF m 225 #[.val (.int i0), .val (.int i1), .val (.long i2), .second, .val (.long i3), .second, .val (.long i4), .second, .val (.int n1), .val (.int 3), .val (.ref b3), .val (.ref q_31), .unset] [(.int 5), (.ref b3)]))
                    obtain ⟨c202, Ar202, q202, S202, M202, H202, G202⟩ := id f172
                    have hin202 : ¬ ((5 : Int32) < 0 ∨ c202.slots.size ≤ (5 : Int32).toNatClampNeg) := inb_of S202 ⟨by decide, by decide⟩
                    refine hG _ _ (X31.caload hx (j := (5 : Int32)) (v := (.int r_19)) (by rw [e31]; exact Ar202.1) (State.isArrayOf_alike hZ31.alike Ar202.2.1) Ar202.2.2 hin202 (Has.at H202 hin202 rfl) (g := (mkF m 225 #[.val (.int i0), .val (.int i1), .val (.long i2), .second, .val (.long i3), .second, .val (.long i4), .second, .val (.int n1), .val (.int 3), .val (.ref b3), .val (.ref q_31), .unset] [(.int 5), (.ref b3)])) rfl rfl (hb hby at_225)) ?_
                    show G (T31.setTop (mkF m 226 #[.val (.int i0), .val (.int i1), .val (.long i2), .second, .val (.long i3), .second, .val (.long i4), .second, .val (.int n1), .val (.int 3), .val (.ref b3), .val (.ref q_31), .unset] [(.int r_19)]))
                    refine hG _ _ (fun t_ k_ => XS.bipush X31.here hx rfl (hb hby at_226) k_) ?_
                    show G (T31.setTop (mkF m 228 #[.val (.int i0), .val (.int i1), .val (.long i2), .second, .val (.long i3), .second, .val (.long i4), .second, .val (.int n1), .val (.int 3), .val (.ref b3), .val (.ref q_31), .unset] [(.int 75), (.int r_19)]))
                    by_cases hc228_203 : r_19 = (75 : Int32)
                    · skip
                      refine hG _ _ (fun t_ k_ => XS.icmpNo X31.here hx rfl (hb hby at_228) rfl (teq hc228_203).2 k_) ?_
                      show G (T31.setTop (mkF m 231 #[.val (.int i0), .val (.int i1), .val (.long i2), .second, .val (.long i3), .second, .val (.long i4), .second, .val (.int n1), .val (.int 3), .val (.ref b3), .val (.ref q_31), .unset] []))
                      refine hG _ _ (fun t_ k_ => XS.aload X31.here hx rfl (hb hby at_231) rfl rfl k_) ?_
                      refine hG _ _ (fun t_ k_ => XS.iload X31.here hx rfl (hb hby at_233) rfl k_) ?_
                      refine hG _ _ (fun t_ k_ => XS.iconst X31.here hx rfl (hb hby at_235) k_) ?_
                      refine hG _ _ (fun t_ k_ => XS.iadd X31.here hx rfl (hb hby at_236) rfl k_) ?_
                      show G (T31.setTop (mkF m 237 #[.val (.int i0), .val (.int i1), .val (.long i2), .second, .val (.long i3), .second, .val (.long i4), .second, .val (.int n1), .val (.int 3), .val (.ref b3), .val (.ref q_31), .unset] [(.int ((3 : Int32) + (3 : Int32))), (.ref b3)]))
                      rw [show ((3 : Int32) + (3 : Int32)) = (6 : Int32) from by decide]
                      show G (T31.setTop (mkF m 237 #[.val (.int i0), .val (.int i1), .val (.long i2), .second, .val (.long i3), .second, .val (.long i4), .second, .val (.int n1), .val (.int 3), .val (.ref b3), .val (.ref q_31), .unset] [(.int 6), (.ref b3)]))
                      obtain ⟨c204, Ar204, q204, S204, M204, H204, G204⟩ := id f172
                      have hin204 : ¬ ((6 : Int32) < 0 ∨ c204.slots.size ≤ (6 : Int32).toNatClampNeg) := inb_of S204 ⟨by decide, by decide⟩
                      refine hG _ _ (X31.caload hx (j := (6 : Int32)) (v := (.int r_22)) (by rw [e31]; exact Ar204.1) (State.isArrayOf_alike hZ31.alike Ar204.2.1) Ar204.2.2 hin204 (Has.at H204 hin204 rfl) (g := (mkF m 237 #[.val (.int i0), .val (.int i1), .val (.long i2), .second, .val (.long i3), .second, .val (.long i4), .second, .val (.int n1), .val (.int 3), .val (.ref b3), .val (.ref q_31), .unset] [(.int 6), (.ref b3)])) rfl rfl (hb hby at_237)) ?_
                      show G (T31.setTop (mkF m 238 #[.val (.int i0), .val (.int i1), .val (.long i2), .second, .val (.long i3), .second, .val (.long i4), .second, .val (.int n1), .val (.int 3), .val (.ref b3), .val (.ref q_31), .unset] [(.int r_22)]))
                      refine hG _ _ (fun t_ k_ => XS.bipush X31.here hx rfl (hb hby at_238) k_) ?_
                      show G (T31.setTop (mkF m 240 #[.val (.int i0), .val (.int i1), .val (.long i2), .second, .val (.long i3), .second, .val (.long i4), .second, .val (.int n1), .val (.int 3), .val (.ref b3), .val (.ref q_31), .unset] [(.int 58), (.int r_22)]))
                      by_cases hc240_205 : r_22 = (58 : Int32)
                      · skip
                        refine hG _ _ (fun t_ k_ => XS.icmpNo X31.here hx rfl (hb hby at_240) rfl (teq hc240_205).2 k_) ?_
                        show G (T31.setTop (mkF m 243 #[.val (.int i0), .val (.int i1), .val (.long i2), .second, .val (.long i3), .second, .val (.long i4), .second, .val (.int n1), .val (.int 3), .val (.ref b3), .val (.ref q_31), .unset] []))
                        refine hG _ _ (fun t_ k_ => XS.iconst X31.here hx rfl (hb hby at_243) k_) ?_
                        refine hG _ _ (fun t_ k_ => XS.goto X31.here hx rfl (pc0 := 244) (pc' := 248) rfl (hb hby at_244) (by decide) (by decide) k_) ?_
                        show G (T31.setTop (mkF m 248 #[.val (.int i0), .val (.int i1), .val (.long i2), .second, .val (.long i3), .second, .val (.long i4), .second, .val (.int n1), .val (.int 3), .val (.ref b3), .val (.ref q_31), .unset] [(.int 1)]))
                        exact jn1 (hT.mpr ⟨hc151_34, hc160_35, Or.inr hc180_195, Or.inl hc192_197, Or.inr hc228_203, hc240_205⟩)
                      · skip
                        refine hG _ _ (fun t_ k_ => XS.icmpYes X31.here hx rfl (pc0 := 240) (pc' := 247) rfl (hb hby at_240) rfl (feq hc240_205).2 (by decide) (by decide) k_) ?_
                        show G (T31.setTop (mkF m 247 #[.val (.int i0), .val (.int i1), .val (.long i2), .second, .val (.long i3), .second, .val (.long i4), .second, .val (.int n1), .val (.int 3), .val (.ref b3), .val (.ref q_31), .unset] []))
                        refine hG _ _ (fun t_ k_ => XS.iconst X31.here hx rfl (hb hby at_247) k_) ?_
                        show G (T31.setTop (mkF m 248 #[.val (.int i0), .val (.int i1), .val (.long i2), .second, .val (.long i3), .second, .val (.long i4), .second, .val (.int n1), .val (.int 3), .val (.ref b3), .val (.ref q_31), .unset] [(.int 0)]))
                        exact jn0 (fun q => hc240_205 (hT.mp q).2.2.2.2.2)
                    · skip
                      refine hG _ _ (fun t_ k_ => XS.icmpYes X31.here hx rfl (pc0 := 228) (pc' := 247) rfl (hb hby at_228) rfl (feq hc228_203).2 (by decide) (by decide) k_) ?_
                      show G (T31.setTop (mkF m 247 #[.val (.int i0), .val (.int i1), .val (.long i2), .second, .val (.long i3), .second, .val (.long i4), .second, .val (.int n1), .val (.int 3), .val (.ref b3), .val (.ref q_31), .unset] []))
                      refine hG _ _ (fun t_ k_ => XS.iconst X31.here hx rfl (hb hby at_247) k_) ?_
                      show G (T31.setTop (mkF m 248 #[.val (.int i0), .val (.int i1), .val (.long i2), .second, .val (.long i3), .second, .val (.long i4), .second, .val (.int n1), .val (.int 3), .val (.ref b3), .val (.ref q_31), .unset] [(.int 0)]))
                      exact jn0 (fun q => (hT.mp q).2.2.2.2.1.elim hc216_199 hc228_203)
                · skip
                  refine hG _ _ (fun t_ k_ => XS.icmpNo X31.here hx rfl (hb hby at_192) rfl (feq hc192_197).1 k_) ?_
                  show G (T31.setTop (mkF m 195 #[.val (.int i0), .val (.int i1), .val (.long i2), .second, .val (.long i3), .second, .val (.long i4), .second, .val (.int n1), .val (.int 3), .val (.ref b3), .val (.ref q_31), .unset] []))
                  refine hG _ _ (fun t_ k_ => XS.aload X31.here hx rfl (hb hby at_195) rfl rfl k_) ?_
                  refine hG _ _ (fun t_ k_ => XS.iload X31.here hx rfl (hb hby at_197) rfl k_) ?_
                  refine hG _ _ (fun t_ k_ => XS.iconst X31.here hx rfl (hb hby at_199) k_) ?_
                  refine hG _ _ (fun t_ k_ => XS.iadd X31.here hx rfl (hb hby at_200) rfl k_) ?_
                  show G (T31.setTop (mkF m 201 #[.val (.int i0), .val (.int i1), .val (.long i2), .second, .val (.long i3), .second, .val (.long i4), .second, .val (.int n1), .val (.int 3), .val (.ref b3), .val (.ref q_31), .unset] [(.int ((3 : Int32) + (1 : Int32))), (.ref b3)]))
                  rw [show ((3 : Int32) + (1 : Int32)) = (4 : Int32) from by decide]
                  show G (T31.setTop (mkF m 201 #[.val (.int i0), .val (.int i1), .val (.long i2), .second, .val (.long i3), .second, .val (.long i4), .second, .val (.int n1), .val (.int 3), .val (.ref b3), .val (.ref q_31), .unset] [(.int 4), (.ref b3)]))
                  obtain ⟨c206, Ar206, q206, S206, M206, H206, G206⟩ := id f172
                  have hin206 : ¬ ((4 : Int32) < 0 ∨ c206.slots.size ≤ (4 : Int32).toNatClampNeg) := inb_of S206 ⟨by decide, by decide⟩
                  refine hG _ _ (X31.caload hx (j := (4 : Int32)) (v := (.int r_16)) (by rw [e31]; exact Ar206.1) (State.isArrayOf_alike hZ31.alike Ar206.2.1) Ar206.2.2 hin206 (Has.at H206 hin206 rfl) (g := (mkF m 201 #[.val (.int i0), .val (.int i1), .val (.long i2), .second, .val (.long i3), .second, .val (.long i4), .second, .val (.int n1), .val (.int 3), .val (.ref b3), .val (.ref q_31), .unset] [(.int 4), (.ref b3)])) rfl rfl (hb hby at_201)) ?_
                  show G (T31.setTop (mkF m 202 #[.val (.int i0), .val (.int i1), .val (.long i2), .second, .val (.long i3), .second, .val (.long i4), .second, .val (.int n1), .val (.int 3), .val (.ref b3), .val (.ref q_31), .unset] [(.int r_16)]))
                  refine hG _ _ (fun t_ k_ => XS.bipush X31.here hx rfl (hb hby at_202) k_) ?_
                  show G (T31.setTop (mkF m 204 #[.val (.int i0), .val (.int i1), .val (.long i2), .second, .val (.long i3), .second, .val (.long i4), .second, .val (.int n1), .val (.int 3), .val (.ref b3), .val (.ref q_31), .unset] [(.int 82), (.int r_16)]))
                  by_cases hc204_207 : r_16 = (82 : Int32)
                  · skip
                    refine hG _ _ (fun t_ k_ => XS.icmpNo X31.here hx rfl (hb hby at_204) rfl (teq hc204_207).2 k_) ?_
                    show G (T31.setTop (mkF m 207 #[.val (.int i0), .val (.int i1), .val (.long i2), .second, .val (.long i3), .second, .val (.long i4), .second, .val (.int n1), .val (.int 3), .val (.ref b3), .val (.ref q_31), .unset] []))
                    refine hG _ _ (fun t_ k_ => XS.aload X31.here hx rfl (hb hby at_207) rfl rfl k_) ?_
                    refine hG _ _ (fun t_ k_ => XS.iload X31.here hx rfl (hb hby at_209) rfl k_) ?_
                    refine hG _ _ (fun t_ k_ => XS.iconst X31.here hx rfl (hb hby at_211) k_) ?_
                    refine hG _ _ (fun t_ k_ => XS.iadd X31.here hx rfl (hb hby at_212) rfl k_) ?_
                    show G (T31.setTop (mkF m 213 #[.val (.int i0), .val (.int i1), .val (.long i2), .second, .val (.long i3), .second, .val (.long i4), .second, .val (.int n1), .val (.int 3), .val (.ref b3), .val (.ref q_31), .unset] [(.int ((3 : Int32) + (2 : Int32))), (.ref b3)]))
                    rw [show ((3 : Int32) + (2 : Int32)) = (5 : Int32) from by decide]
                    show G (T31.setTop (mkF m 213 #[.val (.int i0), .val (.int i1), .val (.long i2), .second, .val (.long i3), .second, .val (.long i4), .second, .val (.int n1), .val (.int 3), .val (.ref b3), .val (.ref q_31), .unset] [(.int 5), (.ref b3)]))
                    obtain ⟨c208, Ar208, q208, S208, M208, H208, G208⟩ := id f172
                    have hin208 : ¬ ((5 : Int32) < 0 ∨ c208.slots.size ≤ (5 : Int32).toNatClampNeg) := inb_of S208 ⟨by decide, by decide⟩
                    refine hG _ _ (X31.caload hx (j := (5 : Int32)) (v := (.int r_19)) (by rw [e31]; exact Ar208.1) (State.isArrayOf_alike hZ31.alike Ar208.2.1) Ar208.2.2 hin208 (Has.at H208 hin208 rfl) (g := (mkF m 213 #[.val (.int i0), .val (.int i1), .val (.long i2), .second, .val (.long i3), .second, .val (.long i4), .second, .val (.int n1), .val (.int 3), .val (.ref b3), .val (.ref q_31), .unset] [(.int 5), (.ref b3)])) rfl rfl (hb hby at_213)) ?_
                    show G (T31.setTop (mkF m 214 #[.val (.int i0), .val (.int i1), .val (.long i2), .second, .val (.long i3), .second, .val (.long i4), .second, .val (.int n1), .val (.int 3), .val (.ref b3), .val (.ref q_31), .unset] [(.int r_19)]))
                    refine hG _ _ (fun t_ k_ => XS.bipush X31.here hx rfl (hb hby at_214) k_) ?_
                    show G (T31.setTop (mkF m 216 #[.val (.int i0), .val (.int i1), .val (.long i2), .second, .val (.long i3), .second, .val (.long i4), .second, .val (.int n1), .val (.int 3), .val (.ref b3), .val (.ref q_31), .unset] [(.int 107), (.int r_19)]))
                    by_cases hc216_209 : r_19 = (107 : Int32)
                    · skip
                      refine hG _ _ (fun t_ k_ => XS.icmpYes X31.here hx rfl (pc0 := 216) (pc' := 231) rfl (hb hby at_216) rfl (teq hc216_209).1 (by decide) (by decide) k_) ?_
                      show G (T31.setTop (mkF m 231 #[.val (.int i0), .val (.int i1), .val (.long i2), .second, .val (.long i3), .second, .val (.long i4), .second, .val (.int n1), .val (.int 3), .val (.ref b3), .val (.ref q_31), .unset] []))
                      refine hG _ _ (fun t_ k_ => XS.aload X31.here hx rfl (hb hby at_231) rfl rfl k_) ?_
                      refine hG _ _ (fun t_ k_ => XS.iload X31.here hx rfl (hb hby at_233) rfl k_) ?_
                      refine hG _ _ (fun t_ k_ => XS.iconst X31.here hx rfl (hb hby at_235) k_) ?_
                      refine hG _ _ (fun t_ k_ => XS.iadd X31.here hx rfl (hb hby at_236) rfl k_) ?_
                      show G (T31.setTop (mkF m 237 #[.val (.int i0), .val (.int i1), .val (.long i2), .second, .val (.long i3), .second, .val (.long i4), .second, .val (.int n1), .val (.int 3), .val (.ref b3), .val (.ref q_31), .unset] [(.int ((3 : Int32) + (3 : Int32))), (.ref b3)]))
                      rw [show ((3 : Int32) + (3 : Int32)) = (6 : Int32) from by decide]
                      show G (T31.setTop (mkF m 237 #[.val (.int i0), .val (.int i1), .val (.long i2), .second, .val (.long i3), .second, .val (.long i4), .second, .val (.int n1), .val (.int 3), .val (.ref b3), .val (.ref q_31), .unset] [(.int 6), (.ref b3)]))
                      obtain ⟨c210, Ar210, q210, S210, M210, H210, G210⟩ := id f172
                      have hin210 : ¬ ((6 : Int32) < 0 ∨ c210.slots.size ≤ (6 : Int32).toNatClampNeg) := inb_of S210 ⟨by decide, by decide⟩
                      refine hG _ _ (X31.caload hx (j := (6 : Int32)) (v := (.int r_22)) (by rw [e31]; exact Ar210.1) (State.isArrayOf_alike hZ31.alike Ar210.2.1) Ar210.2.2 hin210 (Has.at H210 hin210 rfl) (g := (mkF m 237 #[.val (.int i0), .val (.int i1), .val (.long i2), .second, .val (.long i3), .second, .val (.long i4), .second, .val (.int n1), .val (.int 3), .val (.ref b3), .val (.ref q_31), .unset] [(.int 6), (.ref b3)])) rfl rfl (hb hby at_237)) ?_
                      show G (T31.setTop (mkF m 238 #[.val (.int i0), .val (.int i1), .val (.long i2), .second, .val (.long i3), .second, .val (.long i4), .second, .val (.int n1), .val (.int 3), .val (.ref b3), .val (.ref q_31), .unset] [(.int r_22)]))
                      refine hG _ _ (fun t_ k_ => XS.bipush X31.here hx rfl (hb hby at_238) k_) ?_
                      show G (T31.setTop (mkF m 240 #[.val (.int i0), .val (.int i1), .val (.long i2), .second, .val (.long i3), .second, .val (.long i4), .second, .val (.int n1), .val (.int 3), .val (.ref b3), .val (.ref q_31), .unset] [(.int 58), (.int r_22)]))
                      by_cases hc240_211 : r_22 = (58 : Int32)
                      · skip
                        refine hG _ _ (fun t_ k_ => XS.icmpNo X31.here hx rfl (hb hby at_240) rfl (teq hc240_211).2 k_) ?_
                        show G (T31.setTop (mkF m 243 #[.val (.int i0), .val (.int i1), .val (.long i2), .second, .val (.long i3), .second, .val (.long i4), .second, .val (.int n1), .val (.int 3), .val (.ref b3), .val (.ref q_31), .unset] []))
                        refine hG _ _ (fun t_ k_ => XS.iconst X31.here hx rfl (hb hby at_243) k_) ?_
                        refine hG _ _ (fun t_ k_ => XS.goto X31.here hx rfl (pc0 := 244) (pc' := 248) rfl (hb hby at_244) (by decide) (by decide) k_) ?_
                        show G (T31.setTop (mkF m 248 #[.val (.int i0), .val (.int i1), .val (.long i2), .second, .val (.long i3), .second, .val (.long i4), .second, .val (.int n1), .val (.int 3), .val (.ref b3), .val (.ref q_31), .unset] [(.int 1)]))
                        exact jn1 (hT.mpr ⟨hc151_34, hc160_35, Or.inr hc180_195, Or.inr hc204_207, Or.inl hc216_209, hc240_211⟩)
                      · skip
                        refine hG _ _ (fun t_ k_ => XS.icmpYes X31.here hx rfl (pc0 := 240) (pc' := 247) rfl (hb hby at_240) rfl (feq hc240_211).2 (by decide) (by decide) k_) ?_
                        show G (T31.setTop (mkF m 247 #[.val (.int i0), .val (.int i1), .val (.long i2), .second, .val (.long i3), .second, .val (.long i4), .second, .val (.int n1), .val (.int 3), .val (.ref b3), .val (.ref q_31), .unset] []))
                        refine hG _ _ (fun t_ k_ => XS.iconst X31.here hx rfl (hb hby at_247) k_) ?_
                        show G (T31.setTop (mkF m 248 #[.val (.int i0), .val (.int i1), .val (.long i2), .second, .val (.long i3), .second, .val (.long i4), .second, .val (.int n1), .val (.int 3), .val (.ref b3), .val (.ref q_31), .unset] [(.int 0)]))
                        exact jn0 (fun q => hc240_211 (hT.mp q).2.2.2.2.2)
                    · skip
                      refine hG _ _ (fun t_ k_ => XS.icmpNo X31.here hx rfl (hb hby at_216) rfl (feq hc216_209).1 k_) ?_
                      show G (T31.setTop (mkF m 219 #[.val (.int i0), .val (.int i1), .val (.long i2), .second, .val (.long i3), .second, .val (.long i4), .second, .val (.int n1), .val (.int 3), .val (.ref b3), .val (.ref q_31), .unset] []))
                      refine hG _ _ (fun t_ k_ => XS.aload X31.here hx rfl (hb hby at_219) rfl rfl k_) ?_
                      refine hG _ _ (fun t_ k_ => XS.iload X31.here hx rfl (hb hby at_221) rfl k_) ?_
                      refine hG _ _ (fun t_ k_ => XS.iconst X31.here hx rfl (hb hby at_223) k_) ?_
                      refine hG _ _ (fun t_ k_ => XS.iadd X31.here hx rfl (hb hby at_224) rfl k_) ?_
                      show G (T31.setTop (mkF m 225 #[.val (.int i0), .val (.int i1), .val (.long i2), .second, .val (.long i3), .second, .val (.long i4), .second, .val (.int n1), .val (.int 3), .val (.ref b3), .val (.ref q_31), .unset] [(.int ((3 : Int32) + (2 : Int32))), (.ref b3)]))
                      rw [show ((3 : Int32) + (2 : Int32)) = (5 : Int32) from by decide]
                      show G (T31.setTop (mkF m 225 #[.val (.int i0), .val (.int i1), .val (.long i2), .second, .val (.long i3), .second, .val (.long i4), .second, .val (.int n1), .val (.int 3), .val (.ref b3), .val (.ref q_31), .unset] [(.int 5), (.ref b3)]))
                      obtain ⟨c212, Ar212, q212, S212, M212, H212, G212⟩ := id f172
                      have hin212 : ¬ ((5 : Int32) < 0 ∨ c212.slots.size ≤ (5 : Int32).toNatClampNeg) := inb_of S212 ⟨by decide, by decide⟩
                      refine hG _ _ (X31.caload hx (j := (5 : Int32)) (v := (.int r_19)) (by rw [e31]; exact Ar212.1) (State.isArrayOf_alike hZ31.alike Ar212.2.1) Ar212.2.2 hin212 (Has.at H212 hin212 rfl) (g := (mkF m 225 #[.val (.int i0), .val (.int i1), .val (.long i2), .second, .val (.long i3), .second, .val (.long i4), .second, .val (.int n1), .val (.int 3), .val (.ref b3), .val (.ref q_31), .unset] [(.int 5), (.ref b3)])) rfl rfl (hb hby at_225)) ?_
                      show G (T31.setTop (mkF m 226 #[.val (.int i0), .val (.int i1), .val (.long i2), .second, .val (.long i3), .second, .val (.long i4), .second, .val (.int n1), .val (.int 3), .val (.ref b3), .val (.ref q_31), .unset] [(.int r_19)]))
                      refine hG _ _ (fun t_ k_ => XS.bipush X31.here hx rfl (hb hby at_226) k_) ?_
                      show G (T31.setTop (mkF m 228 #[.val (.int i0), .val (.int i1), .val (.long i2), .second, .val (.long i3), .second, .val (.long i4), .second, .val (.int n1), .val (.int 3), .val (.ref b3), .val (.ref q_31), .unset] [(.int 75), (.int r_19)]))
                      by_cases hc228_213 : r_19 = (75 : Int32)
                      · skip
                        refine hG _ _ (fun t_ k_ => XS.icmpNo X31.here hx rfl (hb hby at_228) rfl (teq hc228_213).2 k_) ?_
                        show G (T31.setTop (mkF m 231 #[.val (.int i0), .val (.int i1), .val (.long i2), .second, .val (.long i3), .second, .val (.long i4), .second, .val (.int n1), .val (.int 3), .val (.ref b3), .val (.ref q_31), .unset] []))
                        refine hG _ _ (fun t_ k_ => XS.aload X31.here hx rfl (hb hby at_231) rfl rfl k_) ?_
                        refine hG _ _ (fun t_ k_ => XS.iload X31.here hx rfl (hb hby at_233) rfl k_) ?_
                        refine hG _ _ (fun t_ k_ => XS.iconst X31.here hx rfl (hb hby at_235) k_) ?_
                        refine hG _ _ (fun t_ k_ => XS.iadd X31.here hx rfl (hb hby at_236) rfl k_) ?_
                        show G (T31.setTop (mkF m 237 #[.val (.int i0), .val (.int i1), .val (.long i2), .second, .val (.long i3), .second, .val (.long i4), .second, .val (.int n1), .val (.int 3), .val (.ref b3), .val (.ref q_31), .unset] [(.int ((3 : Int32) + (3 : Int32))), (.ref b3)]))
                        rw [show ((3 : Int32) + (3 : Int32)) = (6 : Int32) from by decide]
                        show G (T31.setTop (mkF m 237 #[.val (.int i0), .val (.int i1), .val (.long i2), .second, .val (.long i3), .second, .val (.long i4), .second, .val (.int n1), .val (.int 3), .val (.ref b3), .val (.ref q_31), .unset] [(.int 6), (.ref b3)]))
                        obtain ⟨c214, Ar214, q214, S214, M214, H214, G214⟩ := id f172
                        have hin214 : ¬ ((6 : Int32) < 0 ∨ c214.slots.size ≤ (6 : Int32).toNatClampNeg) := inb_of S214 ⟨by decide, by decide⟩
                        refine hG _ _ (X31.caload hx (j := (6 : Int32)) (v := (.int r_22)) (by rw [e31]; exact Ar214.1) (State.isArrayOf_alike hZ31.alike Ar214.2.1) Ar214.2.2 hin214 (Has.at H214 hin214 rfl) (g := (mkF m 237 #[.val (.int i0), .val (.int i1), .val (.long i2), .second, .val (.long i3), .second, .val (.long i4), .second, .val (.int n1), .val (.int 3), .val (.ref b3), .val (.ref q_31), .unset] [(.int 6), (.ref b3)])) rfl rfl (hb hby at_237)) ?_
                        show G (T31.setTop (mkF m 238 #[.val (.int i0), .val (.int i1), .val (.long i2), .second, .val (.long i3), .second, .val (.long i4), .second, .val (.int n1), .val (.int 3), .val (.ref b3), .val (.ref q_31), .unset] [(.int r_22)]))
                        refine hG _ _ (fun t_ k_ => XS.bipush X31.here hx rfl (hb hby at_238) k_) ?_
                        show G (T31.setTop (mkF m 240 #[.val (.int i0), .val (.int i1), .val (.long i2), .second, .val (.long i3), .second, .val (.long i4), .second, .val (.int n1), .val (.int 3), .val (.ref b3), .val (.ref q_31), .unset] [(.int 58), (.int r_22)]))
                        by_cases hc240_215 : r_22 = (58 : Int32)
                        · skip
                          refine hG _ _ (fun t_ k_ => XS.icmpNo X31.here hx rfl (hb hby at_240) rfl (teq hc240_215).2 k_) ?_
                          show G (T31.setTop (mkF m 243 #[.val (.int i0), .val (.int i1), .val (.long i2), .second, .val (.long i3), .second, .val (.long i4), .second, .val (.int n1), .val (.int 3), .val (.ref b3), .val (.ref q_31), .unset] []))
                          refine hG _ _ (fun t_ k_ => XS.iconst X31.here hx rfl (hb hby at_243) k_) ?_
                          refine hG _ _ (fun t_ k_ => XS.goto X31.here hx rfl (pc0 := 244) (pc' := 248) rfl (hb hby at_244) (by decide) (by decide) k_) ?_
                          show G (T31.setTop (mkF m 248 #[.val (.int i0), .val (.int i1), .val (.long i2), .second, .val (.long i3), .second, .val (.long i4), .second, .val (.int n1), .val (.int 3), .val (.ref b3), .val (.ref q_31), .unset] [(.int 1)]))
                          exact jn1 (hT.mpr ⟨hc151_34, hc160_35, Or.inr hc180_195, Or.inr hc204_207, Or.inr hc228_213, hc240_215⟩)
                        · skip
                          refine hG _ _ (fun t_ k_ => XS.icmpYes X31.here hx rfl (pc0 := 240) (pc' := 247) rfl (hb hby at_240) rfl (feq hc240_215).2 (by decide) (by decide) k_) ?_
                          show G (T31.setTop (mkF m 247 #[.val (.int i0), .val (.int i1), .val (.long i2), .second, .val (.long i3), .second, .val (.long i4), .second, .val (.int n1), .val (.int 3), .val (.ref b3), .val (.ref q_31), .unset] []))
                          refine hG _ _ (fun t_ k_ => XS.iconst X31.here hx rfl (hb hby at_247) k_) ?_
                          show G (T31.setTop (mkF m 248 #[.val (.int i0), .val (.int i1), .val (.long i2), .second, .val (.long i3), .second, .val (.long i4), .second, .val (.int n1), .val (.int 3), .val (.ref b3), .val (.ref q_31), .unset] [(.int 0)]))
                          exact jn0 (fun q => hc240_215 (hT.mp q).2.2.2.2.2)
                      · skip
                        refine hG _ _ (fun t_ k_ => XS.icmpYes X31.here hx rfl (pc0 := 228) (pc' := 247) rfl (hb hby at_228) rfl (feq hc228_213).2 (by decide) (by decide) k_) ?_
                        show G (T31.setTop (mkF m 247 #[.val (.int i0), .val (.int i1), .val (.long i2), .second, .val (.long i3), .second, .val (.long i4), .second, .val (.int n1), .val (.int 3), .val (.ref b3), .val (.ref q_31), .unset] []))
                        refine hG _ _ (fun t_ k_ => XS.iconst X31.here hx rfl (hb hby at_247) k_) ?_
                        show G (T31.setTop (mkF m 248 #[.val (.int i0), .val (.int i1), .val (.long i2), .second, .val (.long i3), .second, .val (.long i4), .second, .val (.int n1), .val (.int 3), .val (.ref b3), .val (.ref q_31), .unset] [(.int 0)]))
                        exact jn0 (fun q => (hT.mp q).2.2.2.2.1.elim hc216_209 hc228_213)
                  · skip
                    refine hG _ _ (fun t_ k_ => XS.icmpYes X31.here hx rfl (pc0 := 204) (pc' := 247) rfl (hb hby at_204) rfl (feq hc204_207).2 (by decide) (by decide) k_) ?_
                    show G (T31.setTop (mkF m 247 #[.val (.int i0), .val (.int i1), .val (.long i2), .second, .val (.long i3), .second, .val (.long i4), .second, .val (.int n1), .val (.int 3), .val (.ref b3), .val (.ref q_31), .unset] []))
                    refine hG _ _ (fun t_ k_ => XS.iconst X31.here hx rfl (hb hby at_247) k_) ?_
                    show G (T31.setTop (mkF m 248 #[.val (.int i0), .val (.int i1), .val (.long i2), .second, .val (.long i3), .second, .val (.long i4), .second, .val (.int n1), .val (.int 3), .val (.ref b3), .val (.ref q_31), .unset] [(.int 0)]))
                    exact jn0 (fun q => (hT.mp q).2.2.2.1.elim hc192_197 hc204_207)
              · skip
                refine hG _ _ (fun t_ k_ => XS.icmpYes X31.here hx rfl (pc0 := 180) (pc' := 247) rfl (hb hby at_180) rfl (feq hc180_195).2 (by decide) (by decide) k_) ?_
                show G (T31.setTop (mkF m 247 #[.val (.int i0), .val (.int i1), .val (.long i2), .second, .val (.long i3), .second, .val (.long i4), .second, .val (.int n1), .val (.int 3), .val (.ref b3), .val (.ref q_31), .unset] []))
                refine hG _ _ (fun t_ k_ => XS.iconst X31.here hx rfl (hb hby at_247) k_) ?_
                show G (T31.setTop (mkF m 248 #[.val (.int i0), .val (.int i1), .val (.long i2), .second, .val (.long i3), .second, .val (.long i4), .second, .val (.int n1), .val (.int 3), .val (.ref b3), .val (.ref q_31), .unset] [(.int 0)]))
                exact jn0 (fun q => (hT.mp q).2.2.1.elim hc170_173 hc180_195)
  by_cases hc11_216 : (((i0.toUInt32 >>> ((3 : Int32) &&& 31).toUInt32).toInt32) &&& (1 : Int32)) = (0 : Int32)
  · skip
    refine hG _ _ (fun t_ k_ => XS.ifYes X0.here hx rfl (pc0 := 11) (pc' := 18) rfl (hb hby at_11) rfl ((if0 _ _).trans (teq hc11_216).1) (by decide) (by decide) k_) ?_
    show G (s₁.setTop (mkF m 18 #[.val (.int i0), .val (.int i1), .val (.long i2), .second, .val (.long i3), .second, .val (.long i4), .second, .val (.int n1), .unset, .unset, .unset, .unset] []))
    refine hG _ _ (fun t_ k_ => XS.iloadN X0.here hx rfl (hb hby at_18) rfl k_) ?_
    refine hG _ _ (fun t_ k_ => XS.bipush X0.here hx rfl (hb hby at_19) k_) ?_
    refine hG _ _ (fun t_ k_ => XS.iand X0.here hx rfl (hb hby at_21) rfl k_) ?_
    refine hG _ _ (fun t_ k_ => XS.iconst X0.here hx rfl (hb hby at_22) k_) ?_
    refine hG _ _ (fun t_ k_ => XS.isub X0.here hx rfl (hb hby at_23) rfl k_) ?_
    show G (s₁.setTop (mkF m 24 #[.val (.int i0), .val (.int i1), .val (.long i2), .second, .val (.long i3), .second, .val (.long i4), .second, .val (.int n1), .unset, .unset, .unset, .unset] [(.int ((i1 &&& (15 : Int32)) - (4 : Int32)))]))
    exact jk _
  · skip
    refine hG _ _ (fun t_ k_ => XS.ifNo X0.here hx rfl (hb hby at_11) rfl ((if0 _ _).trans (feq hc11_216).1) k_) ?_
    show G (s₁.setTop (mkF m 14 #[.val (.int i0), .val (.int i1), .val (.long i2), .second, .val (.long i3), .second, .val (.long i4), .second, .val (.int n1), .unset, .unset, .unset, .unset] []))
    refine hG _ _ (fun t_ k_ => XS.iloadN X0.here hx rfl (hb hby at_14) rfl k_) ?_
    refine hG _ _ (fun t_ k_ => XS.goto X0.here hx rfl (pc0 := 15) (pc' := 24) rfl (hb hby at_15) (by decide) (by decide) k_) ?_
    show G (s₁.setTop (mkF m 24 #[.val (.int i0), .val (.int i1), .val (.long i2), .second, .val (.long i3), .second, .val (.long i4), .second, .val (.int n1), .unset, .unset, .unset, .unset] [(.int i1)]))
    exact jk _
set_option maxRecDepth 65536 in
set_option maxHeartbeats 40000000 in
theorem own_comes {Post : Tables → Env → Array Value → State → Outcome → State → Prop} (hpost : ∀ tb e args s v u, (limb_1_1.after args s (.returned v) u = true ∧ limb_1_2.after args s (.returned v) u = true ∧ True) → ReturnedEndW s (.returned v) u (Jvm.fieldLocs frame_1_writes args s ++ Jvm.arrayLocs frame_1_arrays args s ++ Jvm.staticLocs frame_1_statics s) 24 2240 → Post tb e args s (.returned v) u) :
    ArmFor flags0 classFile x code maxLocals ret World_1 tables_1 room_1 Calls_1 rest_1 Pre_1 Post := by
  intro l hfl _ _ p e ha hc hk s m args below hf hA hF happ hP
  obtain ⟨hcalls, hrest, hpre⟩ := hP
  obtain ⟨-, -, -, hnamed, -, -, -, hat⟩ := (Spec.applies_iff hf).mp happ
  obtain ⟨hg, hn⟩ := and_e (Cond.before_iff.mp (show (Jvm.Cond.and given_1 narrow_1).before args s = true from hpre))
  obtain ⟨hcnt, hg⟩ := and_e hg
  obtain ⟨g0, hg⟩ := and_e hg
  obtain ⟨g1, hg⟩ := and_e hg
  obtain ⟨g2, hg⟩ := and_e hg
  obtain ⟨g3, hg⟩ := and_e hg
  have g4 := hg
  obtain ⟨w0, w1, w2, w3, w4, rfl⟩ : ∃ w0 w1 w2 w3 w4 : Value, args = #[w0, w1, w2, w3, w4] := by
    have hs : args.size = 5 := by simpa [Cond.value, given_1] using hcnt
    obtain ⟨L⟩ := args
    match L, hs with
    | [w0, w1, w2, w3, w4], _ => exact ⟨w0, w1, w2, w3, w4, rfl⟩
  have hw := fun d (hd : d ∈ tables_1) => atoms_spec (ws := Jvm.Cond.code x code maxLocals ret :: tables_1) hat d (List.mem_cons_of_mem _ hd)
  have hfit : Fit s := fun {y c} hc i hi => by
    obtain ⟨ha, rfl⟩ := Array.getElem?_eq_some_iff.mp hc
    have q := List.all_eq_true.mp ((Array.all_eq_true_iff_forall_mem.mp hF) _ (Array.getElem_mem ha)) i (List.mem_range.mpr hi)
    simpa [Array.getElem?_eq_getElem hi] using q
  obtain ⟨hsets, hown0⟩ := atoms_of _ (rest_1_c_eq ▸ (show rest_1_c.before _ s = true from hrest))
  have hr0 := Cond.before_iff.mp hown0
  obtain ⟨i0, ei0⟩ := is_v g0
  obtain rfl : w0 = (.int i0) := Option.some.inj ei0
  obtain ⟨i1, ei1⟩ := is_v g1
  obtain rfl : w1 = (.int i1) := Option.some.inj ei1
  obtain ⟨i2, ei2⟩ := isL_v g2
  obtain rfl : w2 = (.long i2) := Option.some.inj ei2
  obtain ⟨i3, ei3⟩ := isL_v g3
  obtain rfl : w3 = (.long i3) := Option.some.inj ei3
  obtain ⟨i4, ei4⟩ := isL_v g4
  obtain rfl : w4 = (.long i4) := Option.some.inj ei4
  obtain ⟨cpt, ecpt⟩ := is_v (Cond.before_iff.mp (hsets _ (List.mem_of_getElem? (i := 1) rfl)))
  have S_cpt : Sta s s.heap "java/lang/String" "COMPACT_STRINGS" "Z" (.int cpt) := Sta.start ecpt (Or.inl (hsets _ (List.mem_of_getElem? (i := 0) rfl)))
  have h_cpt : ¬ (cpt = (0 : Int32)) := gotF (Cond.eq_ints ecpt (Term.int_eval (0))) (not_v (Cond.before_iff.mp (hsets _ (List.mem_of_getElem? (i := 2) rfl))))
  have S_ad : Sta s s.heap "java/lang/StringUTF16" "$assertionsDisabled" "Z" (.int 1) := Sta.start (Cond.eq_int (hsets _ (List.mem_of_getElem? (i := 12) rfl)) rfl) (Or.inl (hsets _ (List.mem_of_getElem? (i := 11) rfl)))
  have S_hs : Sta s s.heap "java/lang/StringUTF16" "HI_BYTE_SHIFT" "I" (.int 0) := Sta.start (Cond.eq_int (hsets _ (List.mem_of_getElem? (i := 15) rfl)) rfl) (Or.inl (hsets _ (List.mem_of_getElem? (i := 14) rfl)))
  have S_ls : Sta s s.heap "java/lang/StringUTF16" "LO_BYTE_SHIFT" "I" (.int 8) := Sta.start (Cond.eq_int (hsets _ (List.mem_of_getElem? (i := 18) rfl)) rfl) (Or.inl (hsets _ (List.mem_of_getElem? (i := 17) rfl)))
  obtain ⟨fmt, efmt, h_fmt⟩ := isR_v (Cond.before_iff.mp (hsets _ (List.mem_of_getElem? (i := 8) rfl)))
  have S_fmt : Sta s s.heap "jdk/internal/util/Preconditions" "SIOOBE_FORMATTER" "Ljava/util/function/BiFunction;" fmt := Sta.start efmt (Or.inl (hsets _ (List.mem_of_getElem? (i := 7) rfl)))
  have hEL : EW s _ consts_1 := (EW.cons (ow hw 66 rfl) (by decide) (EW.cons (ow hw 24 rfl) (by decide) EW.nil))
  have H0 : CHv s consts_1 s.vm s.heap := CHv.start hEL (show ∀ p ∈ consts_1, Jvm.Lit.constHeld s p.1 p.2 from hcalls.1) (hsets _ (List.mem_of_getElem? (i := 2) rfl)) (ow hw 25 rfl) (ow hw 12 rfl)
  obtain ⟨n, o, h1, h2, h3, _, L, rfl, ⟨rfl, N, K⟩, hC, hq⟩ := own_law l s _ hw tables_1 hEL i0 i1 i2 i3 i4 cpt fmt s.heap (Old.start s) S_cpt h_cpt S_ad S_hs S_ls h_fmt S_fmt p e ha hc hk s m _ below hf ((Spec.applies_iff_loose hf).mp happ).1 ⟨rfl, State.Warmed39.refl s, rfl, H0⟩ trivial
  refine ⟨n, _, h1, h2, h3, hpost _ _ _ _ _ _ ⟨Cond.after_iff.mpr rfl, Cond.after_iff.mpr (eq_i res_at (Term.int_eval (1)) rfl), trivial⟩ ⟨hq.1, hq.2.1, hq.2.2.1, (hq.2.2.2.sift fun y hy => Or.inr (N y hy)).mono (by decide) (by decide)⟩⟩
theorem main_1_1 : Claimed_1_1 := own_comes fun _ _ _ _ _ _ h hF => ⟨h.1, hF⟩
theorem main_1_2 : Claimed_1_2 := own_comes fun _ _ _ _ _ _ h hF => ⟨h.2.1, hF⟩
end Jvm.Pilot.@@N@@
namespace Jvm.Pilot.@@N@@
open Jvm Jvm.ClassFile Sem Op Lib Jvm.Free Jvm.Stand Jvm.Pilot.@@N@@.Jvm.D
/-! MADE BY PROGRAM (witnessworld.py) out of the Statement's table words and the real class files: 21 classes; the members and pool entries that the words name. The judged class is class 1, her method 3. -/
namespace start1
open Jvm.ClassFile
def u (s : String) : CpInfo := .utf8 (stringToUtf16 s)
/-- a pool by its gaps: so many unusable entries, then the entry; so many at the end -/
def gap : Nat → List CpInfo → List CpInfo
  | 0, r => r
  | n + 1, r => .unusable :: gap n r
def poolList (es : List (Nat × CpInfo)) (last : Nat) : List CpInfo := es.foldr (fun e r => gap e.1 (e.2 :: r)) (gap last [])
def pool (es : List (Nat × CpInfo)) (last : Nat) : Array CpInfo := ⟨poolList es last⟩
def fileOf (pool : Array CpInfo) (this : Nat) (attrs : Array Attribute := #[]) (ms : Array MethodInfo := #[]) (fl : Nat := 33) (sup : Nat := 0) (ifs : Array Nat := #[]) (fds : Array FieldInfo := #[]) : ClassFile where
  minorVersion := 0
  majorVersion := 65
  constantPool := pool
  accessFlags := fl
  thisClass := this
  superClass := sup
  interfaces := ifs
  fields := fds
  methods := ms
  attributes := attrs
def plain (name : String) (sup : Option ClassId) : Class where
  name := name
  kind := .ordinary
  loader := none
  accessFlags := 33
  super := sup
  interfaces := #[]
  cf := none
  fields := #[]
  methods := #[]
  instanceTypes := #[]
  staticTypes := #[]
  resolved := #[]
  callSites := []
  init := .initialized
  statics := none
  mirror := none

def pool0 : Array CpInfo := pool [(5, u "<init>"), (0, u "()V"), (1, .class_ 10), (1, u "java/lang/Object")] 113

def k0c0 : Code := { maxStack := 0, maxLocals := 1, code := object_method_1_code, exceptionTable := #[], attributes := #[] }
def k0m0 : Method := { name := "<init>", desc := "()V", sig := { parameters := [], returnType := none }, accessFlags := 1, code := some k0c0 }
/-- java/lang/Object -/
def k0 : Class := { plain "java/lang/Object" none with
  accessFlags := 33
  interfaces := #[]
  cf := some (fileOf pool0 8 #[] #[{ accessFlags := 1, nameIndex := 5, descriptorIndex := 6, attributes := #[] }] 33 0 #[] #[])
  fields := #[]
  methods := #[k0m0]
  instanceTypes := #[]
  staticTypes := #[]
  resolved := Array.replicate 124 none
  statics := none }

def pool1 : Array CpInfo := pool [(2, .class_ 4), (1, u "java/lang/Object"), (0, u "<init>"), (0, u "()V"), (0, .long 15), (1, .long 65535), (1, .class_ 12), (0, u "java/lang/String"), (0, .methodref 11 14), (0, .nameAndType 5 15), (0, u "([C)V"), (2, .integer 2147483643), (0, .methodref 20 21), (0, .class_ 22), (0, .nameAndType 23 24), (0, u "com/example/perenna/perenna/ArkHasLabelAtPinLaw"), (0, u "pick"), (0, u "(J)C"), (0, .methodref 20 26), (0, .nameAndType 27 28), (0, u "text"), (0, u "([CI)Ljava/lang/String;"), (0, .methodref 30 31), (0, .class_ 32), (0, .nameAndType 33 34), (0, u "com/example/perenna/perenna/Ark"), (0, u "hasLabelAt"), (0, u "(Ljava/lang/String;I)Z"), (3, u "law"), (0, u "(IIJJJ)Z")] 4

def k1m0 : Method := { name := "<init>", desc := "()V", sig := { parameters := [], returnType := none }, accessFlags := 1, code := none }
def k1c1 : Code := { maxStack := 4, maxLocals := 3, code := method_2_code, exceptionTable := #[], attributes := #[] }
def k1m1 : Method := { name := "pick", desc := "(J)C", sig := { parameters := [.long], returnType := some .char }, accessFlags := 10, code := some k1c1 }
def k1c2 : Code := { maxStack := 7, maxLocals := 2, code := method_3_code, exceptionTable := #[], attributes := #[] }
def k1m2 : Method := { name := "text", desc := "([CI)Ljava/lang/String;", sig := { parameters := [(.array .char), .int], returnType := some (.object "java/lang/String") }, accessFlags := 10, code := some k1c2 }
def k1c3 : Code := { maxStack := 5, maxLocals := 13, code := code, exceptionTable := #[], attributes := #[] }
def k1m3 : Method := { name := "law", desc := "(IIJJJ)Z", sig := { parameters := [.int, .int, .long, .long, .long], returnType := some .boolean }, accessFlags := 9, code := some k1c3 }
/-- com/example/perenna/perenna/ArkHasLabelAtPinLaw -/
def k1 : Class := { plain "com/example/perenna/perenna/ArkHasLabelAtPinLaw" (some 0) with
  accessFlags := 49
  interfaces := #[]
  cf := some (fileOf pool1 20 #[] #[{ accessFlags := 1, nameIndex := 5, descriptorIndex := 6, attributes := #[] }, { accessFlags := 10, nameIndex := 23, descriptorIndex := 24, attributes := #[] }, { accessFlags := 10, nameIndex := 27, descriptorIndex := 28, attributes := #[] }, { accessFlags := 9, nameIndex := 38, descriptorIndex := 39, attributes := #[] }] 49 2 #[] #[])
  fields := #[]
  methods := #[k1m0, k1m1, k1m2, k1m3]
  instanceTypes := #[]
  staticTypes := #[]
  resolved := Array.replicate 44 none
  statics := none }

def pool2 : Array CpInfo := pool [(1, .class_ 2), (0, u "java/io/Serializable"), (0, .class_ 4), (0, u "java/lang/Object")] 2

/-- java/io/Serializable -/
def k2 : Class := { plain "java/io/Serializable" (some 0) with
  accessFlags := 1537
  interfaces := #[]
  cf := some (fileOf pool2 1 #[] #[] 1537 3 #[] #[])
  fields := #[]
  methods := #[]
  instanceTypes := #[]
  staticTypes := #[]
  resolved := Array.replicate 7 none
  statics := none }

def pool3 : Array CpInfo := pool [(1, .class_ 2), (0, u "java/lang/Comparable"), (0, .class_ 4), (0, u "java/lang/Object")] 7

/-- java/lang/Comparable -/
def k3 : Class := { plain "java/lang/Comparable" (some 0) with
  accessFlags := 1537
  interfaces := #[]
  cf := some (fileOf pool3 1 #[] #[] 1537 3 #[] #[])
  fields := #[]
  methods := #[]
  instanceTypes := #[]
  staticTypes := #[]
  resolved := Array.replicate 12 none
  statics := none }

def pool4 : Array CpInfo := pool [(2, .class_ 4), (1, u "java/lang/CharSequence"), (42, .class_ 48), (0, u "java/lang/CharSequence$1CodePointIterator"), (10, .class_ 60), (0, u "java/lang/CharSequence$1CharIterator"), (5, .class_ 67), (0, u "java/lang/Object")] 63

/-- java/lang/CharSequence -/
def k4 : Class := { plain "java/lang/CharSequence" (some 0) with
  accessFlags := 1537
  interfaces := #[]
  cf := some (fileOf pool4 2 #[.nestMembers #[47, 59]] #[] 1537 66 #[] #[])
  fields := #[]
  methods := #[]
  instanceTypes := #[]
  staticTypes := #[]
  resolved := Array.replicate 131 none
  statics := none }

def pool5 : Array CpInfo := pool [(1, .class_ 2), (0, u "java/lang/constant/Constable"), (0, .class_ 4), (0, u "java/lang/Object")] 6

/-- java/lang/constant/Constable -/
def k5 : Class := { plain "java/lang/constant/Constable" (some 0) with
  accessFlags := 1537
  interfaces := #[]
  cf := some (fileOf pool5 1 #[] #[] 1537 3 #[] #[])
  fields := #[]
  methods := #[]
  instanceTypes := #[]
  staticTypes := #[]
  resolved := Array.replicate 11 none
  statics := none }

def pool6 : Array CpInfo := pool [(1, .class_ 2), (0, u "java/lang/constant/ConstantDesc"), (0, .class_ 4), (0, u "java/lang/Object")] 32

/-- java/lang/constant/ConstantDesc -/
def k6 : Class := { plain "java/lang/constant/ConstantDesc" (some 0) with
  accessFlags := 1537
  interfaces := #[]
  cf := some (fileOf pool6 1 #[] #[] 1537 3 #[] #[])
  fields := #[]
  methods := #[]
  instanceTypes := #[]
  staticTypes := #[]
  resolved := Array.replicate 37 none
  statics := none }

def pool7 : Array CpInfo := pool [(1, .methodref 2 3), (0, .class_ 4), (0, .nameAndType 5 6), (0, u "java/lang/Object"), (0, u "<init>"), (0, u "()V"), (0, .string 8), (0, u ""), (0, .fieldref 10 11), (0, .class_ 12), (0, .nameAndType 13 14), (0, u "java/lang/String"), (0, u "value"), (0, u "[B"), (0, .fieldref 10 16), (0, .nameAndType 17 18), (0, u "coder"), (0, u "B"), (2, u "hash"), (0, u "I"), (2, u "hashIsZero"), (0, u "Z"), (0, .methodref 10 28), (0, .nameAndType 5 29), (0, u "([CIILjava/lang/Void;)V"), (8, .fieldref 10 39), (0, .nameAndType 40 26), (0, u "COMPACT_STRINGS"), (1, .class_ 44), (1, u "java/lang/StringUTF16"), (0, u "compress"), (1, .methodref 42 48), (0, .nameAndType 49 50), (0, u "coderFromArrayLen"), (0, u "([BI)B"), (56, .class_ 109), (1, u "java/lang/StringLatin1"), (32, u "()Z"), (34, .methodref 42 178), (0, .nameAndType 45 179), (0, u "([CII)[B"), (154, u "()I"), (0, .methodref 10 336), (0, .nameAndType 17 337), (0, u "()B"), (25, u "([BI)C"), (27, u "(II)V"), (35, u "(I)C"), (64, .methodref 10 493), (0, .nameAndType 494 142), (0, u "isLatin1"), (0, .methodref 107 496), (0, .nameAndType 497 363), (0, u "charAt"), (0, .methodref 42 496), (2, u "checkIndex"), (5, u "length"), (67, .class_ 576), (0, u "java/lang/CharSequence"), (22, u "CASE_INSENSITIVE_ORDER"), (0, u "Ljava/util/Comparator;"), (409, u "([C)V"), (42, .fieldref 1054 1055), (0, .class_ 1056), (0, .nameAndType 1057 1058), (0, u "jdk/internal/util/Preconditions"), (0, u "SIOOBE_FORMATTER"), (0, u "Ljava/util/function/BiFunction;"), (0, .methodref 1054 1060), (0, .nameAndType 501 1061), (0, u "(IILjava/util/function/BiFunction;)I"), (39, u "serialPersistentFields"), (0, u "[Ljava/io/ObjectStreamField;"), (0, .class_ 1104), (0, u "java/lang/String$CaseInsensitiveComparator"), (1, .class_ 1107), (0, u "java/io/Serializable"), (0, .class_ 1109), (0, u "java/lang/Comparable"), (0, .class_ 1111), (0, u "java/lang/constant/Constable"), (0, .class_ 1113), (0, u "java/lang/constant/ConstantDesc"), (2, u "serialVersionUID"), (0, u "J"), (3, u "REPL"), (0, u "C"), (2, u "LATIN1"), (1, u "UTF16")] 323

def k7m0 : Method := { name := "<init>", desc := "()V", sig := { parameters := [], returnType := none }, accessFlags := 1, code := none }
def k7c1 : Code := { maxStack := 5, maxLocals := 2, code := jdk_42_method_3_code, exceptionTable := #[], attributes := #[] }
def k7m1 : Method := { name := "<init>", desc := "([C)V", sig := { parameters := [(.array .char)], returnType := none }, accessFlags := 1, code := some k7c1 }
def k7c2 : Code := { maxStack := 2, maxLocals := 1, code := jdk_42_method_54_code, exceptionTable := #[], attributes := #[] }
def k7m2 : Method := { name := "length", desc := "()I", sig := { parameters := [], returnType := some .int }, accessFlags := 1, code := some k7c2 }
def k7c3 : Code := { maxStack := 2, maxLocals := 2, code := jdk_42_method_56_code, exceptionTable := #[], attributes := #[] }
def k7m3 : Method := { name := "charAt", desc := "(I)C", sig := { parameters := [.int], returnType := some .char }, accessFlags := 1, code := some k7c3 }
def k7c4 : Code := { maxStack := 4, maxLocals := 6, code := jdk_42_method_149_code, exceptionTable := #[], attributes := #[] }
def k7m4 : Method := { name := "<init>", desc := "([CIILjava/lang/Void;)V", sig := { parameters := [(.array .char), .int, .int, (.object "java/lang/Void")], returnType := none }, accessFlags := 2, code := some k7c4 }
def k7c5 : Code := { maxStack := 1, maxLocals := 1, code := jdk_42_method_152_code, exceptionTable := #[], attributes := #[] }
def k7m5 : Method := { name := "coder", desc := "()B", sig := { parameters := [], returnType := some .byte }, accessFlags := 0, code := some k7c5 }
def k7c6 : Code := { maxStack := 1, maxLocals := 1, code := jdk_42_method_154_code, exceptionTable := #[], attributes := #[] }
def k7m6 : Method := { name := "isLatin1", desc := "()Z", sig := { parameters := [], returnType := some .boolean }, accessFlags := 0, code := some k7c6 }
def k7c7 : Code := { maxStack := 3, maxLocals := 2, code := jdk_42_method_155_code, exceptionTable := #[], attributes := #[] }
def k7m7 : Method := { name := "checkIndex", desc := "(II)V", sig := { parameters := [.int, .int], returnType := none }, accessFlags := 8, code := some k7c7 }
/-- java/lang/String -/
def k7 : Class := { plain "java/lang/String" (some 0) with
  accessFlags := 49
  interfaces := #[2, 3, 4, 5, 6]
  cf := some (fileOf pool7 10 #[.nestMembers #[1103]] #[{ accessFlags := 1, nameIndex := 5, descriptorIndex := 6, attributes := #[] }, { accessFlags := 1, nameIndex := 5, descriptorIndex := 1010, attributes := #[] }, { accessFlags := 1, nameIndex := 507, descriptorIndex := 334, attributes := #[] }, { accessFlags := 1, nameIndex := 497, descriptorIndex := 427, attributes := #[] }, { accessFlags := 2, nameIndex := 5, descriptorIndex := 29, attributes := #[] }, { accessFlags := 0, nameIndex := 17, descriptorIndex := 337, attributes := #[] }, { accessFlags := 0, nameIndex := 494, descriptorIndex := 142, attributes := #[] }, { accessFlags := 8, nameIndex := 501, descriptorIndex := 391, attributes := #[] }] 49 2 #[1106, 1108, 575, 1110, 1112] #[{ accessFlags := 18, nameIndex := 13, descriptorIndex := 14, attributes := #[] }, { accessFlags := 18, nameIndex := 17, descriptorIndex := 18, attributes := #[] }, { accessFlags := 2, nameIndex := 21, descriptorIndex := 22, attributes := #[] }, { accessFlags := 2, nameIndex := 25, descriptorIndex := 26, attributes := #[] }, { accessFlags := 26, nameIndex := 1116, descriptorIndex := 1117, attributes := #[] }, { accessFlags := 24, nameIndex := 40, descriptorIndex := 26, attributes := #[] }, { accessFlags := 26, nameIndex := 1101, descriptorIndex := 1102, attributes := #[] }, { accessFlags := 26, nameIndex := 1121, descriptorIndex := 1122, attributes := #[] }, { accessFlags := 25, nameIndex := 599, descriptorIndex := 600, attributes := #[] }, { accessFlags := 24, nameIndex := 1125, descriptorIndex := 18, attributes := #[] }, { accessFlags := 24, nameIndex := 1127, descriptorIndex := 18, attributes := #[] }])
  fields := #[{ name := "value", type := (.array .byte), accessFlags := 18, slot := 0, constantValue := 0 }, { name := "coder", type := .byte, accessFlags := 18, slot := 1, constantValue := 0 }, { name := "hash", type := .int, accessFlags := 2, slot := 2, constantValue := 0 }, { name := "hashIsZero", type := .boolean, accessFlags := 2, slot := 3, constantValue := 0 }, { name := "serialVersionUID", type := .long, accessFlags := 26, slot := 0, constantValue := 0 }, { name := "COMPACT_STRINGS", type := .boolean, accessFlags := 24, slot := 1, constantValue := 0 }, { name := "serialPersistentFields", type := (.array (.object "java/io/ObjectStreamField")), accessFlags := 26, slot := 2, constantValue := 0 }, { name := "REPL", type := .char, accessFlags := 26, slot := 3, constantValue := 0 }, { name := "CASE_INSENSITIVE_ORDER", type := (.object "java/util/Comparator"), accessFlags := 25, slot := 4, constantValue := 0 }, { name := "LATIN1", type := .byte, accessFlags := 24, slot := 5, constantValue := 0 }, { name := "UTF16", type := .byte, accessFlags := 24, slot := 6, constantValue := 0 }]
  methods := #[k7m0, k7m1, k7m2, k7m3, k7m4, k7m5, k7m6, k7m7]
  instanceTypes := #[(.array .byte), .byte, .int, .boolean]
  staticTypes := #[.long, .boolean, (.array (.object "java/io/ObjectStreamField")), .char, (.object "java/util/Comparator"), .byte, .byte]
  resolved := Array.replicate 1451 none
  statics := some 0 }

def pool8 : Array CpInfo := pool [(2, .class_ 4), (1, u "java/lang/Object"), (0, u "<init>"), (0, u "()V"), (0, .class_ 8), (0, u "java/lang/Record")] 13

def k8m0 : Method := { name := "<init>", desc := "()V", sig := { parameters := [], returnType := none }, accessFlags := 4, code := none }
/-- java/lang/Record -/
def k8 : Class := { plain "java/lang/Record" (some 0) with
  accessFlags := 1057
  interfaces := #[]
  cf := some (fileOf pool8 7 #[] #[{ accessFlags := 4, nameIndex := 5, descriptorIndex := 6, attributes := #[] }] 1057 2 #[] #[])
  fields := #[]
  methods := #[k8m0]
  instanceTypes := #[]
  staticTypes := #[]
  resolved := Array.replicate 22 none
  statics := none }

def pool9 : Array CpInfo := pool [(2, .class_ 4), (1, u "java/lang/Record"), (3, .class_ 10), (1, u "com/example/perenna/perenna/Ark"), (7, u "naan"), (0, u "Ljava/lang/String;"), (2, u "name"), (1, .class_ 26), (1, u "java/lang/String"), (18, .string 46), (0, u "ark:"), (0, .methodref 24 48), (0, .nameAndType 49 50), (0, u "length"), (0, u "()I"), (5, u "(Ljava/lang/String;I)Z"), (9, .methodref 24 67), (0, .nameAndType 68 69), (0, u "charAt"), (0, u "(I)C"), (0, .methodref 8 71), (0, .nameAndType 72 73), (0, u "toLowerCase"), (0, u "(C)C"), (61, u "hasLabelAt"), (78, u "MAX_NAAN_LENGTH"), (0, u "I"), (2, u "MAX_BOUND_NAME_LENGTH"), (1, u "LABEL"), (0, u "NAME_PUNCTUATION"), (0, u "STRUCTURAL"), (0, u "FIRST_HYPHEN_LIKE"), (0, u "C"), (1, u "LAST_HYPHEN_LIKE"), (1, u "ENCODED_HYPHEN_LIKE")] 59

def k9c0 : Code := { maxStack := 3, maxLocals := 3, code := prog_1_method_3_code, exceptionTable := #[], attributes := #[] }
def k9m0 : Method := { name := "hasLabelAt", desc := "(Ljava/lang/String;I)Z", sig := { parameters := [(.object "java/lang/String"), .int], returnType := some .boolean }, accessFlags := 8, code := some k9c0 }
def k9c1 : Code := { maxStack := 2, maxLocals := 1, code := prog_1_method_26_code, exceptionTable := #[], attributes := #[] }
def k9m1 : Method := { name := "toLowerCase", desc := "(C)C", sig := { parameters := [.char], returnType := some .char }, accessFlags := 10, code := some k9c1 }
/-- com/example/perenna/perenna/Ark -/
def k9 : Class := { plain "com/example/perenna/perenna/Ark" (some 8) with
  accessFlags := 48
  interfaces := #[]
  cf := some (fileOf pool9 8 #[] #[{ accessFlags := 8, nameIndex := 135, descriptorIndex := 56, attributes := #[] }, { accessFlags := 10, nameIndex := 72, descriptorIndex := 73, attributes := #[] }] 48 2 #[] #[{ accessFlags := 18, nameIndex := 18, descriptorIndex := 19, attributes := #[] }, { accessFlags := 18, nameIndex := 22, descriptorIndex := 19, attributes := #[] }, { accessFlags := 26, nameIndex := 214, descriptorIndex := 215, attributes := #[] }, { accessFlags := 26, nameIndex := 218, descriptorIndex := 215, attributes := #[] }, { accessFlags := 26, nameIndex := 220, descriptorIndex := 19, attributes := #[] }, { accessFlags := 26, nameIndex := 221, descriptorIndex := 19, attributes := #[] }, { accessFlags := 26, nameIndex := 222, descriptorIndex := 19, attributes := #[] }, { accessFlags := 26, nameIndex := 223, descriptorIndex := 224, attributes := #[] }, { accessFlags := 26, nameIndex := 226, descriptorIndex := 224, attributes := #[] }, { accessFlags := 26, nameIndex := 228, descriptorIndex := 19, attributes := #[] }])
  fields := #[{ name := "naan", type := (.object "java/lang/String"), accessFlags := 18, slot := 0, constantValue := 0 }, { name := "name", type := (.object "java/lang/String"), accessFlags := 18, slot := 1, constantValue := 0 }, { name := "MAX_NAAN_LENGTH", type := .int, accessFlags := 26, slot := 0, constantValue := 0 }, { name := "MAX_BOUND_NAME_LENGTH", type := .int, accessFlags := 26, slot := 1, constantValue := 0 }, { name := "LABEL", type := (.object "java/lang/String"), accessFlags := 26, slot := 2, constantValue := 0 }, { name := "NAME_PUNCTUATION", type := (.object "java/lang/String"), accessFlags := 26, slot := 3, constantValue := 0 }, { name := "STRUCTURAL", type := (.object "java/lang/String"), accessFlags := 26, slot := 4, constantValue := 0 }, { name := "FIRST_HYPHEN_LIKE", type := .char, accessFlags := 26, slot := 5, constantValue := 0 }, { name := "LAST_HYPHEN_LIKE", type := .char, accessFlags := 26, slot := 6, constantValue := 0 }, { name := "ENCODED_HYPHEN_LIKE", type := (.object "java/lang/String"), accessFlags := 26, slot := 7, constantValue := 0 }]
  methods := #[k9m0, k9m1]
  instanceTypes := #[(.object "java/lang/String"), (.object "java/lang/String")]
  staticTypes := #[.int, .int, (.object "java/lang/String"), (.object "java/lang/String"), (.object "java/lang/String"), .char, .char, (.object "java/lang/String")]
  resolved := Array.replicate 288 none
  statics := none }

def pool10 : Array CpInfo := pool [(3, .class_ 4), (0, u "java/lang/String"), (1, .class_ 8), (1, u "java/lang/Object"), (0, u "<init>"), (0, u "()V"), (0, .methodref 12 13), (0, .class_ 14), (0, .nameAndType 15 16), (0, u "java/lang/StringUTF16"), (0, u "newBytesLength"), (0, u "(I)I"), (3, .integer 1073741823), (23, .fieldref 12 45), (0, .nameAndType 46 47), (0, u "$assertionsDisabled"), (0, u "Z"), (0, .methodref 12 49), (0, .nameAndType 50 51), (0, u "length"), (0, u "([B)I"), (7, .fieldref 12 60), (0, .nameAndType 61 62), (0, u "HI_BYTE_SHIFT"), (0, u "I"), (0, .fieldref 12 64), (0, .nameAndType 65 62), (0, u "LO_BYTE_SHIFT"), (1, .methodref 12 68), (0, .nameAndType 69 70), (0, u "checkIndex"), (0, u "(I[B)V"), (0, .methodref 12 72), (0, .nameAndType 73 74), (0, u "getChar"), (0, u "([BI)C"), (32, .methodref 12 108), (0, .nameAndType 109 110), (0, u "newBytesFor"), (0, u "(I)[B"), (0, .methodref 12 112), (0, .nameAndType 113 114), (0, u "putChar"), (0, u "([BII)V"), (0, .methodref 12 116), (0, .nameAndType 117 118), (0, u "compress"), (0, u "([CI[BII)I"), (0, .methodref 12 120), (0, .nameAndType 121 122), (0, u "toBytes"), (0, u "([CII)[B"), (138, u "coderFromArrayLen"), (0, u "([BI)B"), (106, .class_ 371), (1, u "java/lang/StringUTF16$LinesSpliterator"), (20, u "charAt"), (21, .methodref 3 415), (0, .nameAndType 69 416), (0, u "(II)V"), (13, u "MAX_LENGTH"), (196, .class_ 628), (0, u "java/lang/StringUTF16$CodePointsSpliterator"), (0, .class_ 630), (0, u "java/lang/StringUTF16$CharsSpliterator")] 4

def k10m0 : Method := { name := "<init>", desc := "()V", sig := { parameters := [], returnType := none }, accessFlags := 0, code := none }
def k10c1 : Code := { maxStack := 1, maxLocals := 1, code := jdk_52_method_2_code, exceptionTable := #[], attributes := #[] }
def k10m1 : Method := { name := "newBytesFor", desc := "(I)[B", sig := { parameters := [.int], returnType := some (.array .byte) }, accessFlags := 9, code := some k10c1 }
def k10c2 : Code := { maxStack := 4, maxLocals := 1, code := jdk_52_method_3_code, exceptionTable := #[], attributes := #[] }
def k10m2 : Method := { name := "newBytesLength", desc := "(I)I", sig := { parameters := [.int], returnType := some .int }, accessFlags := 9, code := some k10c2 }
def k10c3 : Code := { maxStack := 4, maxLocals := 3, code := jdk_52_method_4_code, exceptionTable := #[], attributes := #[] }
def k10m3 : Method := { name := "putChar", desc := "([BII)V", sig := { parameters := [(.array .byte), .int, .int], returnType := none }, accessFlags := 8, code := some k10c3 }
def k10c4 : Code := { maxStack := 3, maxLocals := 2, code := jdk_52_method_5_code, exceptionTable := #[], attributes := #[] }
def k10m4 : Method := { name := "getChar", desc := "([BI)C", sig := { parameters := [(.array .byte), .int], returnType := some .char }, accessFlags := 8, code := some k10c4 }
def k10c5 : Code := { maxStack := 2, maxLocals := 1, code := jdk_52_method_6_code, exceptionTable := #[], attributes := #[] }
def k10m5 : Method := { name := "length", desc := "([B)I", sig := { parameters := [(.array .byte)], returnType := some .int }, accessFlags := 9, code := some k10c5 }
def k10c6 : Code := { maxStack := 4, maxLocals := 5, code := jdk_52_method_14_code, exceptionTable := #[], attributes := #[] }
def k10m6 : Method := { name := "toBytes", desc := "([CII)[B", sig := { parameters := [(.array .char), .int, .int], returnType := some (.array .byte) }, accessFlags := 9, code := some k10c6 }
def k10c7 : Code := { maxStack := 2, maxLocals := 2, code := jdk_52_method_15_code, exceptionTable := #[], attributes := #[] }
def k10m7 : Method := { name := "coderFromArrayLen", desc := "([BI)B", sig := { parameters := [(.array .byte), .int], returnType := some .byte }, accessFlags := 8, code := some k10c7 }
def k10c8 : Code := { maxStack := 5, maxLocals := 6, code := jdk_52_method_16_code, exceptionTable := #[], attributes := #[] }
def k10m8 : Method := { name := "compress", desc := "([CII)[B", sig := { parameters := [(.array .char), .int, .int], returnType := some (.array .byte) }, accessFlags := 9, code := some k10c8 }
def k10c9 : Code := { maxStack := 3, maxLocals := 7, code := jdk_52_method_21_code, exceptionTable := #[], attributes := #[] }
def k10m9 : Method := { name := "compress", desc := "([CI[BII)I", sig := { parameters := [(.array .char), .int, (.array .byte), .int, .int], returnType := some .int }, accessFlags := 9, code := some k10c9 }
def k10c10 : Code := { maxStack := 2, maxLocals := 2, code := jdk_52_method_83_code, exceptionTable := #[], attributes := #[] }
def k10m10 : Method := { name := "charAt", desc := "([BI)C", sig := { parameters := [(.array .byte), .int], returnType := some .char }, accessFlags := 9, code := some k10c10 }
def k10c11 : Code := { maxStack := 2, maxLocals := 2, code := jdk_52_method_91_code, exceptionTable := #[], attributes := #[] }
def k10m11 : Method := { name := "checkIndex", desc := "(I[B)V", sig := { parameters := [.int, (.array .byte)], returnType := none }, accessFlags := 9, code := some k10c11 }
/-- java/lang/StringUTF16 -/
def k10 : Class := { plain "java/lang/StringUTF16" (some 0) with
  accessFlags := 48
  interfaces := #[]
  cf := some (fileOf pool10 12 #[.nestMembers #[627, 629, 369]] #[{ accessFlags := 0, nameIndex := 9, descriptorIndex := 10, attributes := #[] }, { accessFlags := 9, nameIndex := 109, descriptorIndex := 110, attributes := #[] }, { accessFlags := 9, nameIndex := 15, descriptorIndex := 16, attributes := #[] }, { accessFlags := 8, nameIndex := 113, descriptorIndex := 114, attributes := #[] }, { accessFlags := 8, nameIndex := 73, descriptorIndex := 74, attributes := #[] }, { accessFlags := 9, nameIndex := 50, descriptorIndex := 51, attributes := #[] }, { accessFlags := 9, nameIndex := 121, descriptorIndex := 122, attributes := #[] }, { accessFlags := 8, nameIndex := 261, descriptorIndex := 262, attributes := #[] }, { accessFlags := 9, nameIndex := 117, descriptorIndex := 122, attributes := #[] }, { accessFlags := 9, nameIndex := 117, descriptorIndex := 118, attributes := #[] }, { accessFlags := 9, nameIndex := 392, descriptorIndex := 74, attributes := #[] }, { accessFlags := 9, nameIndex := 69, descriptorIndex := 70, attributes := #[] }] 48 6 #[] #[{ accessFlags := 26, nameIndex := 61, descriptorIndex := 62, attributes := #[] }, { accessFlags := 26, nameIndex := 65, descriptorIndex := 62, attributes := #[] }, { accessFlags := 24, nameIndex := 430, descriptorIndex := 62, attributes := #[] }, { accessFlags := 4120, nameIndex := 46, descriptorIndex := 47, attributes := #[] }])
  fields := #[{ name := "HI_BYTE_SHIFT", type := .int, accessFlags := 26, slot := 0, constantValue := 0 }, { name := "LO_BYTE_SHIFT", type := .int, accessFlags := 26, slot := 1, constantValue := 0 }, { name := "MAX_LENGTH", type := .int, accessFlags := 24, slot := 2, constantValue := 0 }, { name := "$assertionsDisabled", type := .boolean, accessFlags := 4120, slot := 3, constantValue := 0 }]
  methods := #[k10m0, k10m1, k10m2, k10m3, k10m4, k10m5, k10m6, k10m7, k10m8, k10m9, k10m10, k10m11]
  instanceTypes := #[]
  staticTypes := #[.int, .int, .int, .boolean]
  resolved := Array.replicate 635 none
  statics := some 1 }

def pool11 : Array CpInfo := pool [(2, .class_ 4), (1, u "java/lang/Object"), (0, u "<init>"), (0, u "()V"), (17, .class_ 26), (1, u "jdk/internal/util/Preconditions"), (6, u "checkIndex"), (21, .class_ 56), (0, u "jdk/internal/util/Preconditions$4"), (57, .class_ 115), (0, u "jdk/internal/util/Preconditions$1"), (7, u "SIOOBE_FORMATTER"), (0, u "Ljava/util/function/BiFunction;"), (0, .class_ 126), (0, u "jdk/internal/util/Preconditions$2"), (3, u "AIOOBE_FORMATTER"), (0, .class_ 132), (0, u "jdk/internal/util/Preconditions$3"), (3, u "IOOBE_FORMATTER"), (41, u "(IILjava/util/function/BiFunction;)I")] 15

def k11m0 : Method := { name := "<init>", desc := "()V", sig := { parameters := [], returnType := none }, accessFlags := 1, code := none }
def k11c1 : Code := { maxStack := 3, maxLocals := 3, code := jdk_41_method_11_code, exceptionTable := #[], attributes := #[] }
def k11m1 : Method := { name := "checkIndex", desc := "(IILjava/util/function/BiFunction;)I", sig := { parameters := [.int, .int, (.object "java/util/function/BiFunction")], returnType := some .int }, accessFlags := 9, code := some k11c1 }
/-- jdk/internal/util/Preconditions -/
def k11 : Class := { plain "jdk/internal/util/Preconditions" (some 0) with
  accessFlags := 33
  interfaces := #[]
  cf := some (fileOf pool11 24 #[.nestMembers #[55, 131, 125, 114]] #[{ accessFlags := 1, nameIndex := 5, descriptorIndex := 6, attributes := #[] }, { accessFlags := 9, nameIndex := 33, descriptorIndex := 178, attributes := #[] }] 33 2 #[] #[{ accessFlags := 25, nameIndex := 123, descriptorIndex := 124, attributes := #[] }, { accessFlags := 25, nameIndex := 130, descriptorIndex := 124, attributes := #[] }, { accessFlags := 25, nameIndex := 136, descriptorIndex := 124, attributes := #[] }])
  fields := #[{ name := "SIOOBE_FORMATTER", type := (.object "java/util/function/BiFunction"), accessFlags := 25, slot := 0, constantValue := 0 }, { name := "AIOOBE_FORMATTER", type := (.object "java/util/function/BiFunction"), accessFlags := 25, slot := 1, constantValue := 0 }, { name := "IOOBE_FORMATTER", type := (.object "java/util/function/BiFunction"), accessFlags := 25, slot := 2, constantValue := 0 }]
  methods := #[k11m0, k11m1]
  instanceTypes := #[]
  staticTypes := #[(.object "java/util/function/BiFunction"), (.object "java/util/function/BiFunction"), (.object "java/util/function/BiFunction")]
  resolved := Array.replicate 194 none
  statics := some 2 }

def pool12 : Array CpInfo := pool [(1, .class_ 2), (0, u "java/lang/String"), (1, .class_ 6), (1, u "java/lang/Object"), (0, u "<init>"), (0, u "()V"), (0, .methodref 1 10), (0, .nameAndType 11 12), (0, u "checkIndex"), (0, u "(II)V"), (1, .class_ 16), (1, u "java/lang/StringLatin1"), (36, u "([BI)C"), (67, u "$assertionsDisabled"), (0, u "Z"), (98, .class_ 223), (1, u "java/lang/StringLatin1$LinesSpliterator"), (28, u "charAt"), (137, .class_ 391), (0, u "java/lang/StringLatin1$CharsSpliterator")] 3

def k12m0 : Method := { name := "<init>", desc := "()V", sig := { parameters := [], returnType := none }, accessFlags := 0, code := none }
def k12c1 : Code := { maxStack := 2, maxLocals := 2, code := jdk_43_method_2_code, exceptionTable := #[], attributes := #[] }
def k12m1 : Method := { name := "charAt", desc := "([BI)C", sig := { parameters := [(.array .byte), .int], returnType := some .char }, accessFlags := 9, code := some k12c1 }
/-- java/lang/StringLatin1 -/
def k12 : Class := { plain "java/lang/StringLatin1" (some 0) with
  accessFlags := 48
  interfaces := #[]
  cf := some (fileOf pool12 14 #[.nestMembers #[390, 221]] #[{ accessFlags := 0, nameIndex := 7, descriptorIndex := 8, attributes := #[] }, { accessFlags := 9, nameIndex := 252, descriptorIndex := 53, attributes := #[] }] 48 4 #[] #[{ accessFlags := 4120, nameIndex := 121, descriptorIndex := 122, attributes := #[] }])
  fields := #[{ name := "$assertionsDisabled", type := .boolean, accessFlags := 4120, slot := 0, constantValue := 0 }]
  methods := #[k12m0, k12m1]
  instanceTypes := #[]
  staticTypes := #[.boolean]
  resolved := Array.replicate 395 none
  statics := none }

def pool13 : Array CpInfo := pool [(9, u "<init>"), (6, .class_ 18), (1, u "java/lang/Object"), (0, u "()V"), (1, .class_ 23), (1, u "jdk/internal/util/ArraysSupport"), (0, u "LOG2_ARRAY_LONG_INDEX_SCALE"), (0, u "I"), (2, u "U"), (0, u "Ljdk/internal/misc/Unsafe;"), (8, u "BIG_ENDIAN"), (0, u "Z"), (8, u "LOG2_BYTE_BIT_SIZE"), (4, u "LOG2_ARRAY_INT_INDEX_SCALE"), (54, u "JLA"), (0, u "Ljdk/internal/access/JavaLangAccess;"), (11, u "LOG2_ARRAY_BOOLEAN_INDEX_SCALE"), (9, u "LOG2_ARRAY_BYTE_INDEX_SCALE"), (5, u "LOG2_ARRAY_CHAR_INDEX_SCALE"), (5, u "LOG2_ARRAY_SHORT_INDEX_SCALE"), (18, u "LOG2_ARRAY_FLOAT_INDEX_SCALE"), (24, u "LOG2_ARRAY_DOUBLE_INDEX_SCALE"), (89, u "T_BOOLEAN"), (2, u "T_CHAR"), (1, u "T_FLOAT"), (1, u "T_DOUBLE"), (1, u "T_BYTE"), (1, u "T_SHORT"), (1, u "T_INT"), (1, u "T_LONG"), (1, u "SOFT_MAX_ARRAY_LENGTH")] 83

def k13m0 : Method := { name := "<init>", desc := "()V", sig := { parameters := [], returnType := none }, accessFlags := 2, code := none }
/-- jdk/internal/util/ArraysSupport -/
def k13 : Class := { plain "jdk/internal/util/ArraysSupport" (some 0) with
  accessFlags := 33
  interfaces := #[]
  cf := some (fileOf pool13 21 #[] #[{ accessFlags := 2, nameIndex := 9, descriptorIndex := 19, attributes := #[] }] 33 16 #[] #[{ accessFlags := 24, nameIndex := 28, descriptorIndex := 29, attributes := #[] }, { accessFlags := 26, nameIndex := 38, descriptorIndex := 39, attributes := #[] }, { accessFlags := 25, nameIndex := 121, descriptorIndex := 25, attributes := #[] }, { accessFlags := 25, nameIndex := 131, descriptorIndex := 25, attributes := #[] }, { accessFlags := 25, nameIndex := 137, descriptorIndex := 25, attributes := #[] }, { accessFlags := 25, nameIndex := 143, descriptorIndex := 25, attributes := #[] }, { accessFlags := 25, nameIndex := 53, descriptorIndex := 25, attributes := #[] }, { accessFlags := 25, nameIndex := 24, descriptorIndex := 25, attributes := #[] }, { accessFlags := 25, nameIndex := 162, descriptorIndex := 25, attributes := #[] }, { accessFlags := 25, nameIndex := 187, descriptorIndex := 25, attributes := #[] }, { accessFlags := 26, nameIndex := 48, descriptorIndex := 25, attributes := #[] }, { accessFlags := 25, nameIndex := 277, descriptorIndex := 25, attributes := #[] }, { accessFlags := 25, nameIndex := 280, descriptorIndex := 25, attributes := #[] }, { accessFlags := 25, nameIndex := 282, descriptorIndex := 25, attributes := #[] }, { accessFlags := 25, nameIndex := 284, descriptorIndex := 25, attributes := #[] }, { accessFlags := 25, nameIndex := 286, descriptorIndex := 25, attributes := #[] }, { accessFlags := 25, nameIndex := 288, descriptorIndex := 25, attributes := #[] }, { accessFlags := 25, nameIndex := 290, descriptorIndex := 25, attributes := #[] }, { accessFlags := 25, nameIndex := 292, descriptorIndex := 25, attributes := #[] }, { accessFlags := 26, nameIndex := 108, descriptorIndex := 109, attributes := #[] }, { accessFlags := 25, nameIndex := 294, descriptorIndex := 25, attributes := #[] }])
  fields := #[{ name := "U", type := (.object "jdk/internal/misc/Unsafe"), accessFlags := 24, slot := 0, constantValue := 0 }, { name := "BIG_ENDIAN", type := .boolean, accessFlags := 26, slot := 1, constantValue := 0 }, { name := "LOG2_ARRAY_BOOLEAN_INDEX_SCALE", type := .int, accessFlags := 25, slot := 2, constantValue := 0 }, { name := "LOG2_ARRAY_BYTE_INDEX_SCALE", type := .int, accessFlags := 25, slot := 3, constantValue := 0 }, { name := "LOG2_ARRAY_CHAR_INDEX_SCALE", type := .int, accessFlags := 25, slot := 4, constantValue := 0 }, { name := "LOG2_ARRAY_SHORT_INDEX_SCALE", type := .int, accessFlags := 25, slot := 5, constantValue := 0 }, { name := "LOG2_ARRAY_INT_INDEX_SCALE", type := .int, accessFlags := 25, slot := 6, constantValue := 0 }, { name := "LOG2_ARRAY_LONG_INDEX_SCALE", type := .int, accessFlags := 25, slot := 7, constantValue := 0 }, { name := "LOG2_ARRAY_FLOAT_INDEX_SCALE", type := .int, accessFlags := 25, slot := 8, constantValue := 0 }, { name := "LOG2_ARRAY_DOUBLE_INDEX_SCALE", type := .int, accessFlags := 25, slot := 9, constantValue := 0 }, { name := "LOG2_BYTE_BIT_SIZE", type := .int, accessFlags := 26, slot := 10, constantValue := 0 }, { name := "T_BOOLEAN", type := .int, accessFlags := 25, slot := 11, constantValue := 0 }, { name := "T_CHAR", type := .int, accessFlags := 25, slot := 12, constantValue := 0 }, { name := "T_FLOAT", type := .int, accessFlags := 25, slot := 13, constantValue := 0 }, { name := "T_DOUBLE", type := .int, accessFlags := 25, slot := 14, constantValue := 0 }, { name := "T_BYTE", type := .int, accessFlags := 25, slot := 15, constantValue := 0 }, { name := "T_SHORT", type := .int, accessFlags := 25, slot := 16, constantValue := 0 }, { name := "T_INT", type := .int, accessFlags := 25, slot := 17, constantValue := 0 }, { name := "T_LONG", type := .int, accessFlags := 25, slot := 18, constantValue := 0 }, { name := "JLA", type := (.object "jdk/internal/access/JavaLangAccess"), accessFlags := 26, slot := 19, constantValue := 0 }, { name := "SOFT_MAX_ARRAY_LENGTH", type := .int, accessFlags := 25, slot := 20, constantValue := 0 }]
  methods := #[k13m0]
  instanceTypes := #[]
  staticTypes := #[(.object "jdk/internal/misc/Unsafe"), .boolean, .int, .int, .int, .int, .int, .int, .int, .int, .int, .int, .int, .int, .int, .int, .int, .int, .int, (.object "jdk/internal/access/JavaLangAccess"), .int]
  resolved := Array.replicate 378 none
  statics := none }

def pool14 : Array CpInfo := pool [(1, u "java/lang/Cloneable"), (0, .class_ 1), (0, u "java/lang/Object"), (0, .class_ 3)] 3

/-- java/lang/Cloneable -/
def k14 : Class := { plain "java/lang/Cloneable" (some 0) with
  accessFlags := 1537
  interfaces := #[]
  cf := some (fileOf pool14 2 #[] #[] 1537 4 #[] #[])
  fields := #[]
  methods := #[]
  instanceTypes := #[]
  staticTypes := #[]
  resolved := Array.replicate 8 none
  statics := none }

/-- the primitive byte -/
def k15 : Class := { plain "byte" none with kind := .primitive 'B', accessFlags := 0x411 }
/-- [B -/
def k16 : Class := { plain "[B" (some 0) with kind := .array 15 .byte, interfaces := #[14, 2], accessFlags := 1041 }

/-- the primitive char -/
def k17 : Class := { plain "char" none with kind := .primitive 'C', accessFlags := 0x411 }
/-- [C -/
def k18 : Class := { plain "[C" (some 0) with kind := .array 17 .char, interfaces := #[14, 2], accessFlags := 1041 }

/-- the primitive int -/
def k19 : Class := { plain "int" none with kind := .primitive 'I', accessFlags := 0x411 }
/-- [I -/
def k20 : Class := { plain "[I" (some 0) with kind := .array 19 .int, interfaces := #[14, 2], accessFlags := 1041 }

def heap : Heap := #[{ cls := 7, slots := #[.long 0, .int 1, .null, .int 0, .null, .int 0, .int 0], vm := .statics 7 },
  { cls := 10, slots := #[.int 0, .int 8, .int 0, .int 1], vm := .statics 10 },
  { cls := 11, slots := #[.null, .null, .null], vm := .statics 11 }]
def classes : Array Class := #[k0, k1, k2, k3, k4, k5, k6, k7, k8, k9, k10, k11, k12, k13, k14, k15, k16, k17, k18, k19, k20]
def interned : List (Array UInt16 × Addr) := []
def slotsUsed : Nat := 14
def theMethod : MethodId := ⟨1, 3⟩
def args0 : Array Value := #[.int 5, .int 5, .long 5, .long 5, .long 5]
def aboutOver (below : List Frame) : State where
  vm := { classes := classes, interned := interned.toArray }
  heap := heap
  slotsUsed := slotsUsed
  threads := #[{ frames := .invoking theMethod args0 :: below }]
def below0 : List Frame := [.native { method := ⟨0, 0⟩, args := #[] }]
def about1 : State := aboutOver below0
def p0 : Program := .bare "" "" ""
def e0 : Env := launch0.env 0 0 0
theorem w_frames : about1.frames = Frame.invoking theMethod args0 :: below0 := rfl
set_option maxRecDepth 65536 in
theorem w_args : argsFit about1.vm theMethod args0 = true := by decide +kernel
set_option maxRecDepth 65536 in
theorem w_heap : heapFits about1 = true := by decide +kernel
set_option maxRecDepth 65536 in
theorem w_runnable : about1.curStatus? = some .runnable := by decide +kernel
set_option maxRecDepth 65536 in
theorem w_alone : about1.alone = true := by decide +kernel
set_option maxRecDepth 65536 in
theorem w_named : about1.methodNamed? x = some theMethod := by decide +kernel
set_option maxRecDepth 65536 in
theorem w_hears : about1.hears theMethod below0 = true := by decide +kernel
set_option maxRecDepth 65536 in
theorem w_ripe : about1.ripe theMethod args0 below0 = true := by decide +kernel
theorem w_running : about1.status = .running := rfl
set_option maxRecDepth 65536 in
theorem w_room : about1.hasRoom e0.platform room_1 = true :=
  launch0.hasRoom_least _ room_1 (by decide +kernel) (by decide +kernel) (by decide +kernel) (by decide +kernel) (by decide +kernel) (by decide +kernel)
theorem allAtoms_all (ts : List Jvm.Cond) (a : Array Jvm.Value) (st : Jvm.State) : (allAtoms ts).before a st = ts.all (fun c => c.before a st) := by
  induction ts with
  | nil => rfl
  | cons c t ih =>
    show (Jvm.Cond.and c (allAtoms t)).before a st = _
    rw [Jvm.Cond.before_and, ih, List.all_cons]
def words1 : List Jvm.Cond := Jvm.Cond.code x code maxLocals ret :: tables_1
/-- a 'code' word, met by the world's own term for the bytes: nothing is compared byte by byte -/
theorem code_word {y : MethodName} {bytes : ByteArray} {mx : Nat} {rt : Option FieldType} {a : Array Value} {s : State} {m : MethodId} {meth : Method} {c : Code} (h1 : s.methodNamed? y = some m) (h2 : s.vm.method? m = some meth) (h3 : meth.code = some c) (h4 : c.code = bytes)
    (h5 : (c.maxLocals == mx && c.exceptionTable.isEmpty && decide (c.maxStack ≤ mostOperands) && decide (meth.sig.returnType = rt) && !meth.locks && decide (parseMethodDescriptor y.desc = some meth.sig)) = true) : (Jvm.Cond.code y bytes mx rt).before a s = true := by
  simp only [Bool.and_eq_true, beq_iff_eq, Bool.not_eq_true', decide_eq_true_eq] at h5
  obtain ⟨⟨⟨⟨⟨g1, g2⟩, g3⟩, g4⟩, g5⟩, g6⟩ := h5
  simp [Cond.before, Cond.holds, Cond.value, h1, h2, h3, h4, g1, g2, g3, g4, g5, g6]
def isCode : Jvm.Cond → Bool
  | .code _ _ _ _ => true
  | _ => false
theorem all_split {L : List Jvm.Cond} {P : Jvm.Cond → Bool} (h1 : L.all (fun c => isCode c || P c) = true) (h2 : ∀ c ∈ L.filter isCode, P c = true) : L.all P = true := by
  refine List.all_eq_true.mpr fun c hc => ?_
  have h := List.all_eq_true.mp h1 c hc
  rcases Bool.eq_false_or_eq_true (isCode c) with hi | hi
  · exact h2 c (List.mem_filter.mpr ⟨hc, hi⟩)
  · simpa [hi] using h
set_option maxRecDepth 65536 in
theorem w_c0 : (Jvm.Cond.code x code maxLocals ret).before args0 about1 = true := code_word (m := ⟨1, 3⟩) (meth := k1m3) (c := k1c3) (by decide +kernel) rfl rfl rfl (by decide +kernel)
set_option maxRecDepth 65536 in
theorem w_c1 : (Jvm.Cond.code ({ cls := "com/example/perenna/perenna/ArkHasLabelAtPinLaw", name := "pick", desc := "(J)C" } : Jvm.MethodName) method_2_code (3 : Nat) (Option.some Jvm.ClassFile.FieldType.char)).before args0 about1 = true := code_word (m := ⟨1, 1⟩) (meth := k1m1) (c := k1c1) (by decide +kernel) rfl rfl rfl (by decide +kernel)
set_option maxRecDepth 65536 in
theorem w_c2 : (Jvm.Cond.code ({ cls := "com/example/perenna/perenna/ArkHasLabelAtPinLaw", name := "text", desc := "([CI)Ljava/lang/String;" } : Jvm.MethodName) method_3_code (2 : Nat) (Option.some (Jvm.ClassFile.FieldType.object "java/lang/String"))).before args0 about1 = true := code_word (m := ⟨1, 2⟩) (meth := k1m2) (c := k1c2) (by decide +kernel) rfl rfl rfl (by decide +kernel)
set_option maxRecDepth 65536 in
theorem w_c3 : (Jvm.Cond.code ({ cls := "java/lang/String", name := "<init>", desc := "([C)V" } : Jvm.MethodName) jdk_42_method_3_code (2 : Nat) (Option.none : Option Jvm.ClassFile.FieldType)).before args0 about1 = true := code_word (m := ⟨7, 1⟩) (meth := k7m1) (c := k7c1) (by decide +kernel) rfl rfl rfl (by decide +kernel)
set_option maxRecDepth 65536 in
theorem w_c4 : (Jvm.Cond.code ({ cls := "java/lang/String", name := "<init>", desc := "([CIILjava/lang/Void;)V" } : Jvm.MethodName) jdk_42_method_149_code (6 : Nat) (Option.none : Option Jvm.ClassFile.FieldType)).before args0 about1 = true := code_word (m := ⟨7, 4⟩) (meth := k7m4) (c := k7c4) (by decide +kernel) rfl rfl rfl (by decide +kernel)
set_option maxRecDepth 65536 in
theorem w_c5 : (Jvm.Cond.code ({ cls := "java/lang/Object", name := "<init>", desc := "()V" } : Jvm.MethodName) object_method_1_code (1 : Nat) (Option.none : Option Jvm.ClassFile.FieldType)).before args0 about1 = true := code_word (m := ⟨0, 0⟩) (meth := k0m0) (c := k0c0) (by decide +kernel) rfl rfl rfl (by decide +kernel)
set_option maxRecDepth 65536 in
theorem w_c6 : (Jvm.Cond.code ({ cls := "com/example/perenna/perenna/Ark", name := "hasLabelAt", desc := "(Ljava/lang/String;I)Z" } : Jvm.MethodName) prog_1_method_3_code (3 : Nat) (Option.some Jvm.ClassFile.FieldType.boolean)).before args0 about1 = true := code_word (m := ⟨9, 0⟩) (meth := k9m0) (c := k9c0) (by decide +kernel) rfl rfl rfl (by decide +kernel)
set_option maxRecDepth 65536 in
theorem w_c7 : (Jvm.Cond.code ({ cls := "java/lang/StringUTF16", name := "compress", desc := "([CII)[B" } : Jvm.MethodName) jdk_52_method_16_code (6 : Nat) (Option.some (Jvm.ClassFile.FieldType.array Jvm.ClassFile.FieldType.byte))).before args0 about1 = true := code_word (m := ⟨10, 8⟩) (meth := k10m8) (c := k10c8) (by decide +kernel) rfl rfl rfl (by decide +kernel)
set_option maxRecDepth 65536 in
theorem w_c8 : (Jvm.Cond.code ({ cls := "java/lang/StringUTF16", name := "compress", desc := "([CI[BII)I" } : Jvm.MethodName) jdk_52_method_21_code (7 : Nat) (Option.some Jvm.ClassFile.FieldType.int)).before args0 about1 = true := code_word (m := ⟨10, 9⟩) (meth := k10m9) (c := k10c9) (by decide +kernel) rfl rfl rfl (by decide +kernel)
set_option maxRecDepth 65536 in
theorem w_c9 : (Jvm.Cond.code ({ cls := "java/lang/StringUTF16", name := "toBytes", desc := "([CII)[B" } : Jvm.MethodName) jdk_52_method_14_code (5 : Nat) (Option.some (Jvm.ClassFile.FieldType.array Jvm.ClassFile.FieldType.byte))).before args0 about1 = true := code_word (m := ⟨10, 6⟩) (meth := k10m6) (c := k10c6) (by decide +kernel) rfl rfl rfl (by decide +kernel)
set_option maxRecDepth 65536 in
theorem w_c10 : (Jvm.Cond.code ({ cls := "java/lang/StringUTF16", name := "newBytesFor", desc := "(I)[B" } : Jvm.MethodName) jdk_52_method_2_code (1 : Nat) (Option.some (Jvm.ClassFile.FieldType.array Jvm.ClassFile.FieldType.byte))).before args0 about1 = true := code_word (m := ⟨10, 1⟩) (meth := k10m1) (c := k10c1) (by decide +kernel) rfl rfl rfl (by decide +kernel)
set_option maxRecDepth 65536 in
theorem w_c11 : (Jvm.Cond.code ({ cls := "java/lang/StringUTF16", name := "newBytesLength", desc := "(I)I" } : Jvm.MethodName) jdk_52_method_3_code (1 : Nat) (Option.some Jvm.ClassFile.FieldType.int)).before args0 about1 = true := code_word (m := ⟨10, 2⟩) (meth := k10m2) (c := k10c2) (by decide +kernel) rfl rfl rfl (by decide +kernel)
set_option maxRecDepth 65536 in
theorem w_c12 : (Jvm.Cond.code ({ cls := "java/lang/StringUTF16", name := "putChar", desc := "([BII)V" } : Jvm.MethodName) jdk_52_method_4_code (3 : Nat) (Option.none : Option Jvm.ClassFile.FieldType)).before args0 about1 = true := code_word (m := ⟨10, 3⟩) (meth := k10m3) (c := k10c3) (by decide +kernel) rfl rfl rfl (by decide +kernel)
set_option maxRecDepth 65536 in
theorem w_c13 : (Jvm.Cond.code ({ cls := "java/lang/StringUTF16", name := "getChar", desc := "([BI)C" } : Jvm.MethodName) jdk_52_method_5_code (2 : Nat) (Option.some Jvm.ClassFile.FieldType.char)).before args0 about1 = true := code_word (m := ⟨10, 4⟩) (meth := k10m4) (c := k10c4) (by decide +kernel) rfl rfl rfl (by decide +kernel)
set_option maxRecDepth 65536 in
theorem w_c14 : (Jvm.Cond.code ({ cls := "java/lang/StringUTF16", name := "coderFromArrayLen", desc := "([BI)B" } : Jvm.MethodName) jdk_52_method_15_code (2 : Nat) (Option.some Jvm.ClassFile.FieldType.byte)).before args0 about1 = true := code_word (m := ⟨10, 7⟩) (meth := k10m7) (c := k10c7) (by decide +kernel) rfl rfl rfl (by decide +kernel)
set_option maxRecDepth 65536 in
theorem w_c15 : (Jvm.Cond.code ({ cls := "java/lang/String", name := "length", desc := "()I" } : Jvm.MethodName) jdk_42_method_54_code (1 : Nat) (Option.some Jvm.ClassFile.FieldType.int)).before args0 about1 = true := code_word (m := ⟨7, 2⟩) (meth := k7m2) (c := k7c2) (by decide +kernel) rfl rfl rfl (by decide +kernel)
set_option maxRecDepth 65536 in
theorem w_c16 : (Jvm.Cond.code ({ cls := "java/lang/String", name := "coder", desc := "()B" } : Jvm.MethodName) jdk_42_method_152_code (1 : Nat) (Option.some Jvm.ClassFile.FieldType.byte)).before args0 about1 = true := code_word (m := ⟨7, 5⟩) (meth := k7m5) (c := k7c5) (by decide +kernel) rfl rfl rfl (by decide +kernel)
set_option maxRecDepth 65536 in
theorem w_c17 : (Jvm.Cond.code ({ cls := "java/lang/String", name := "charAt", desc := "(I)C" } : Jvm.MethodName) jdk_42_method_56_code (2 : Nat) (Option.some Jvm.ClassFile.FieldType.char)).before args0 about1 = true := code_word (m := ⟨7, 3⟩) (meth := k7m3) (c := k7c3) (by decide +kernel) rfl rfl rfl (by decide +kernel)
set_option maxRecDepth 65536 in
theorem w_c18 : (Jvm.Cond.code ({ cls := "java/lang/String", name := "isLatin1", desc := "()Z" } : Jvm.MethodName) jdk_42_method_154_code (1 : Nat) (Option.some Jvm.ClassFile.FieldType.boolean)).before args0 about1 = true := code_word (m := ⟨7, 6⟩) (meth := k7m6) (c := k7c6) (by decide +kernel) rfl rfl rfl (by decide +kernel)
set_option maxRecDepth 65536 in
theorem w_c19 : (Jvm.Cond.code ({ cls := "java/lang/StringUTF16", name := "charAt", desc := "([BI)C" } : Jvm.MethodName) jdk_52_method_83_code (2 : Nat) (Option.some Jvm.ClassFile.FieldType.char)).before args0 about1 = true := code_word (m := ⟨10, 10⟩) (meth := k10m10) (c := k10c10) (by decide +kernel) rfl rfl rfl (by decide +kernel)
set_option maxRecDepth 65536 in
theorem w_c20 : (Jvm.Cond.code ({ cls := "java/lang/StringUTF16", name := "checkIndex", desc := "(I[B)V" } : Jvm.MethodName) jdk_52_method_91_code (2 : Nat) (Option.none : Option Jvm.ClassFile.FieldType)).before args0 about1 = true := code_word (m := ⟨10, 11⟩) (meth := k10m11) (c := k10c11) (by decide +kernel) rfl rfl rfl (by decide +kernel)
set_option maxRecDepth 65536 in
theorem w_c21 : (Jvm.Cond.code ({ cls := "java/lang/StringUTF16", name := "length", desc := "([B)I" } : Jvm.MethodName) jdk_52_method_6_code (1 : Nat) (Option.some Jvm.ClassFile.FieldType.int)).before args0 about1 = true := code_word (m := ⟨10, 5⟩) (meth := k10m5) (c := k10c5) (by decide +kernel) rfl rfl rfl (by decide +kernel)
set_option maxRecDepth 65536 in
theorem w_c22 : (Jvm.Cond.code ({ cls := "java/lang/String", name := "checkIndex", desc := "(II)V" } : Jvm.MethodName) jdk_42_method_155_code (2 : Nat) (Option.none : Option Jvm.ClassFile.FieldType)).before args0 about1 = true := code_word (m := ⟨7, 7⟩) (meth := k7m7) (c := k7c7) (by decide +kernel) rfl rfl rfl (by decide +kernel)
set_option maxRecDepth 65536 in
theorem w_c23 : (Jvm.Cond.code ({ cls := "jdk/internal/util/Preconditions", name := "checkIndex", desc := "(IILjava/util/function/BiFunction;)I" } : Jvm.MethodName) jdk_41_method_11_code (3 : Nat) (Option.some Jvm.ClassFile.FieldType.int)).before args0 about1 = true := code_word (m := ⟨11, 1⟩) (meth := k11m1) (c := k11c1) (by decide +kernel) rfl rfl rfl (by decide +kernel)
set_option maxRecDepth 65536 in
theorem w_c24 : (Jvm.Cond.code ({ cls := "com/example/perenna/perenna/Ark", name := "toLowerCase", desc := "(C)C" } : Jvm.MethodName) prog_1_method_26_code (1 : Nat) (Option.some Jvm.ClassFile.FieldType.char)).before args0 about1 = true := code_word (m := ⟨9, 1⟩) (meth := k9m1) (c := k9c1) (by decide +kernel) rfl rfl rfl (by decide +kernel)
set_option maxRecDepth 65536 in
theorem w_c25 : (Jvm.Cond.code ({ cls := "java/lang/StringLatin1", name := "charAt", desc := "([BI)C" } : Jvm.MethodName) jdk_43_method_2_code (2 : Nat) (Option.some Jvm.ClassFile.FieldType.char)).before args0 about1 = true := code_word (m := ⟨12, 1⟩) (meth := k12m1) (c := k12c1) (by decide +kernel) rfl rfl rfl (by decide +kernel)
def codes1 : List Jvm.Cond := [Jvm.Cond.code x code maxLocals ret, Jvm.Cond.code ({ cls := "com/example/perenna/perenna/ArkHasLabelAtPinLaw", name := "pick", desc := "(J)C" } : Jvm.MethodName) method_2_code (3 : Nat) (Option.some Jvm.ClassFile.FieldType.char), Jvm.Cond.code ({ cls := "com/example/perenna/perenna/ArkHasLabelAtPinLaw", name := "text", desc := "([CI)Ljava/lang/String;" } : Jvm.MethodName) method_3_code (2 : Nat) (Option.some (Jvm.ClassFile.FieldType.object "java/lang/String")), Jvm.Cond.code ({ cls := "java/lang/String", name := "<init>", desc := "([C)V" } : Jvm.MethodName) jdk_42_method_3_code (2 : Nat) (Option.none : Option Jvm.ClassFile.FieldType), Jvm.Cond.code ({ cls := "java/lang/String", name := "<init>", desc := "([CIILjava/lang/Void;)V" } : Jvm.MethodName) jdk_42_method_149_code (6 : Nat) (Option.none : Option Jvm.ClassFile.FieldType), Jvm.Cond.code ({ cls := "java/lang/Object", name := "<init>", desc := "()V" } : Jvm.MethodName) object_method_1_code (1 : Nat) (Option.none : Option Jvm.ClassFile.FieldType), Jvm.Cond.code ({ cls := "com/example/perenna/perenna/Ark", name := "hasLabelAt", desc := "(Ljava/lang/String;I)Z" } : Jvm.MethodName) prog_1_method_3_code (3 : Nat) (Option.some Jvm.ClassFile.FieldType.boolean), Jvm.Cond.code ({ cls := "java/lang/StringUTF16", name := "compress", desc := "([CII)[B" } : Jvm.MethodName) jdk_52_method_16_code (6 : Nat) (Option.some (Jvm.ClassFile.FieldType.array Jvm.ClassFile.FieldType.byte)), Jvm.Cond.code ({ cls := "java/lang/StringUTF16", name := "compress", desc := "([CI[BII)I" } : Jvm.MethodName) jdk_52_method_21_code (7 : Nat) (Option.some Jvm.ClassFile.FieldType.int), Jvm.Cond.code ({ cls := "java/lang/StringUTF16", name := "toBytes", desc := "([CII)[B" } : Jvm.MethodName) jdk_52_method_14_code (5 : Nat) (Option.some (Jvm.ClassFile.FieldType.array Jvm.ClassFile.FieldType.byte)), Jvm.Cond.code ({ cls := "java/lang/StringUTF16", name := "newBytesFor", desc := "(I)[B" } : Jvm.MethodName) jdk_52_method_2_code (1 : Nat) (Option.some (Jvm.ClassFile.FieldType.array Jvm.ClassFile.FieldType.byte)), Jvm.Cond.code ({ cls := "java/lang/StringUTF16", name := "newBytesLength", desc := "(I)I" } : Jvm.MethodName) jdk_52_method_3_code (1 : Nat) (Option.some Jvm.ClassFile.FieldType.int), Jvm.Cond.code ({ cls := "java/lang/StringUTF16", name := "putChar", desc := "([BII)V" } : Jvm.MethodName) jdk_52_method_4_code (3 : Nat) (Option.none : Option Jvm.ClassFile.FieldType), Jvm.Cond.code ({ cls := "java/lang/StringUTF16", name := "getChar", desc := "([BI)C" } : Jvm.MethodName) jdk_52_method_5_code (2 : Nat) (Option.some Jvm.ClassFile.FieldType.char), Jvm.Cond.code ({ cls := "java/lang/StringUTF16", name := "coderFromArrayLen", desc := "([BI)B" } : Jvm.MethodName) jdk_52_method_15_code (2 : Nat) (Option.some Jvm.ClassFile.FieldType.byte), Jvm.Cond.code ({ cls := "java/lang/String", name := "length", desc := "()I" } : Jvm.MethodName) jdk_42_method_54_code (1 : Nat) (Option.some Jvm.ClassFile.FieldType.int), Jvm.Cond.code ({ cls := "java/lang/String", name := "coder", desc := "()B" } : Jvm.MethodName) jdk_42_method_152_code (1 : Nat) (Option.some Jvm.ClassFile.FieldType.byte), Jvm.Cond.code ({ cls := "java/lang/String", name := "charAt", desc := "(I)C" } : Jvm.MethodName) jdk_42_method_56_code (2 : Nat) (Option.some Jvm.ClassFile.FieldType.char), Jvm.Cond.code ({ cls := "java/lang/String", name := "isLatin1", desc := "()Z" } : Jvm.MethodName) jdk_42_method_154_code (1 : Nat) (Option.some Jvm.ClassFile.FieldType.boolean), Jvm.Cond.code ({ cls := "java/lang/StringUTF16", name := "charAt", desc := "([BI)C" } : Jvm.MethodName) jdk_52_method_83_code (2 : Nat) (Option.some Jvm.ClassFile.FieldType.char), Jvm.Cond.code ({ cls := "java/lang/StringUTF16", name := "checkIndex", desc := "(I[B)V" } : Jvm.MethodName) jdk_52_method_91_code (2 : Nat) (Option.none : Option Jvm.ClassFile.FieldType), Jvm.Cond.code ({ cls := "java/lang/StringUTF16", name := "length", desc := "([B)I" } : Jvm.MethodName) jdk_52_method_6_code (1 : Nat) (Option.some Jvm.ClassFile.FieldType.int), Jvm.Cond.code ({ cls := "java/lang/String", name := "checkIndex", desc := "(II)V" } : Jvm.MethodName) jdk_42_method_155_code (2 : Nat) (Option.none : Option Jvm.ClassFile.FieldType), Jvm.Cond.code ({ cls := "jdk/internal/util/Preconditions", name := "checkIndex", desc := "(IILjava/util/function/BiFunction;)I" } : Jvm.MethodName) jdk_41_method_11_code (3 : Nat) (Option.some Jvm.ClassFile.FieldType.int), Jvm.Cond.code ({ cls := "com/example/perenna/perenna/Ark", name := "toLowerCase", desc := "(C)C" } : Jvm.MethodName) prog_1_method_26_code (1 : Nat) (Option.some Jvm.ClassFile.FieldType.char), Jvm.Cond.code ({ cls := "java/lang/StringLatin1", name := "charAt", desc := "([BI)C" } : Jvm.MethodName) jdk_43_method_2_code (2 : Nat) (Option.some Jvm.ClassFile.FieldType.char)]
set_option maxRecDepth 65536 in
theorem codes_eq : words1.filter isCode = codes1 := rfl
theorem w_codes : ∀ c ∈ words1.filter isCode, c.before args0 about1 = true := by
  rw [codes_eq]
  intro c hc
  simp only [codes1, List.mem_cons, List.not_mem_nil, or_false] at hc
  rcases hc with rfl | rfl | rfl | rfl | rfl | rfl | rfl | rfl | rfl | rfl | rfl | rfl | rfl | rfl | rfl | rfl | rfl | rfl | rfl | rfl | rfl | rfl | rfl | rfl | rfl | rfl
  · exact w_c0
  · exact w_c1
  · exact w_c2
  · exact w_c3
  · exact w_c4
  · exact w_c5
  · exact w_c6
  · exact w_c7
  · exact w_c8
  · exact w_c9
  · exact w_c10
  · exact w_c11
  · exact w_c12
  · exact w_c13
  · exact w_c14
  · exact w_c15
  · exact w_c16
  · exact w_c17
  · exact w_c18
  · exact w_c19
  · exact w_c20
  · exact w_c21
  · exact w_c22
  · exact w_c23
  · exact w_c24
  · exact w_c25
set_option maxRecDepth 65536 in
theorem w_t1 : (words1.take 24).all (fun c => isCode c || c.before args0 about1) = true := by decide +kernel
set_option maxRecDepth 65536 in
theorem w_t2 : ((words1.drop 24).take 24).all (fun c => isCode c || c.before args0 about1) = true := by decide +kernel
set_option maxRecDepth 65536 in
theorem w_t3 : (((words1.drop 24).drop 24).take 24).all (fun c => isCode c || c.before args0 about1) = true := by decide +kernel
set_option maxRecDepth 65536 in
theorem w_t4 : ((((words1.drop 24).drop 24).drop 24).take 24).all (fun c => isCode c || c.before args0 about1) = true := by decide +kernel
set_option maxRecDepth 65536 in
theorem w_t5 : ((((words1.drop 24).drop 24).drop 24).drop 24).all (fun c => isCode c || c.before args0 about1) = true := by decide +kernel
theorem w_tables : (allAtoms (Jvm.Cond.code x code maxLocals ret :: tables_1)).before args0 about1 = true := by
  rw [allAtoms_all]
  show words1.all (fun c => c.before args0 about1) = true
  refine all_split ?_ w_codes
  rw [← List.take_append_drop 24 words1, List.all_append, w_t1, ← List.take_append_drop 24 (words1.drop 24), List.all_append, w_t2, ← List.take_append_drop 24 ((words1.drop 24).drop 24), List.all_append, w_t3, ← List.take_append_drop 24 (((words1.drop 24).drop 24).drop 24), List.all_append, w_t4, w_t5]
  rfl
set_option maxRecDepth 65536 in
theorem w_rest : rest_1_c.before args0 about1 = true := by decide +kernel
set_option maxRecDepth 65536 in
theorem w_case : (Jvm.Cond.and given_1 narrow_1).before args0 about1 = true := by decide +kernel
set_option maxRecDepth 65536 in
theorem w_consts : constsHeld consts_1 about1 := Jvm.Lit.constsHeldB_iff.mp (by decide +kernel)
theorem w_applies : (headSpec (Jvm.Cond.code x code maxLocals ret :: tables_1) room_1).applies x e0.platform about1 = true :=
  (Spec.applies_iff w_frames).mpr ⟨w_running, w_runnable, w_alone, w_named, w_hears, w_ripe, w_room, w_tables⟩
theorem atStart : AtStart classFile x code maxLocals ret World_1 tables_1 room_1 Calls_1 rest_1 Pre_1 launch0 p0 e0 about1 theMethod args0 below0 :=
  ⟨lists_1, trivial, launch0.admits_env _ _ _, launch0.least_env, fairChoices_fair.cas, fairChoices_fair.clock, w_frames, w_args, w_heap, w_applies, ⟨w_consts, trivial⟩, w_rest, w_case⟩
end start1
theorem witness_1 : WitnessClaimed_1 := ⟨start1.p0, start1.e0, start1.about1, start1.theMethod, start1.args0, start1.below0, start1.atStart⟩
end Jvm.Pilot.@@N@@
