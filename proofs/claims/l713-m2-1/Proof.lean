import JvmDerived
import JvmDerived.Pilot.@@N@@Statement
import JvmDerived.Pilot.@@N@@Code
set_option linter.unusedVariables false
set_option linter.unusedSimpArgs false
namespace Jvm.RoadKit
open Sem ClassFile Op Lib Jvm.Stand Jvm.Free Jvm.LawKit
section New
variable {p : Program} {l : Launch} {e : Env} {R : Room} {s : State} {m : MethodId} {args : Array Value} {below : List Frame} {meth : Method} {c : Code} {T : State} {locs : List Loc} {cells slots : Nat}
theorem retI (X : Stand p l e R s m args below meth c T locs cells slots) (hx : p.tables.exec = Jvm.exec) {pc : Nat} {Ls : Array Slot} {z : Int32} {rest : List Value} (hret : meth.sig.returnType = some .int) (hd : decode c.code pc = .ok (.ireturn, 1)) {fs : List Frame}
    (hl : ∀ (f : JFrame) (acts : List Action), f.method = m → f.locked = none → f.entered = [] → (doReturn e (T.setTop f) acts (some (.int z))).1 = T.setFrames fs) : Steps p.tables e below (T.setTop (mkF m pc Ls (.int z :: rest))) (T.setFrames fs) := by
  have hm' : T.vm.method? m = some meth := X.method'
  have hn : narrow .int (.int z) = .int z := rfl
  show Steps p.tables e below (T.setTop { method := m, pc := pc, locals := Ls, stack := _ :: rest, locked := none }) _
  jvm_step X.here [X.here.top, hx, hd, hm', hret, hn]
  first | (intro acts; rw [hl _ acts rfl rfl rfl]) | rw [hl _ _ rfl rfl rfl]
  exact Steps.refl _
end New
end Jvm.RoadKit
namespace Jvm.Pilot.@@N@@
open Jvm Jvm.ClassFile Sem Op Lib Jvm.Free Jvm.Stand Jvm.LawKit Jvm.RoadKit Bundle Jvm.Pilot.@@N@@.Jvm.D
/-- what is still to come: from the frame g at T the run comes to an end that Q takes -/
def own_WP (p : Program) (e : Env) (below : List Frame) (Q : Outcome → State → Prop) (T : State) (g : JFrame) : Prop :=
  ∃ s₂ o, Steps p.tables e below (T.setTop g) s₂ ∧ s₂.status = .running ∧ Ended s₂ below o ∧ Q o s₂
def own_Q (s : State) (P : Option Value → Heap → List Loc → Prop) (C S : Nat) (o : Outcome) (U : State) : Prop :=
  ∃ v L, o = .returned v ∧ P v U.heap L ∧ FrameEnd s o U L C S
def own_Ctx (p : Program) (s : State) (m : MethodId) (meth : Method) (c : Code) (Z : State) (y : MethodName) (bytes : ByteArray) (maxL : Nat) (rt : Option FieldType) : Prop :=
  p.tables.exec = Jvm.exec ∧ Z.Warmed39 s.vm ∧ c.code = bytes ∧ c.maxLocals = maxL ∧ s.vm.findClass y.cls = some m.cls ∧ meth.name = y.name ∧ meth.sig.returnType = rt ∧ meth.locks = false
def own_Met (l : Launch) (Z : State) (y : MethodName) (bytes : ByteArray) (maxL : Nat) (rt : Option FieldType) (ws : List Jvm.Cond) (rm : Room) (as' : Array Value) (h : Heap) (P : Option Value → Heap → List Loc → Prop) : Prop :=
  MetFree l y (head1 (Jvm.Cond.code y bytes maxL rt :: ws) rm) (fun a U => a = as' ∧ Z.Warmed39 U.vm ∧ U.heap = h) (fun _ _ _ _ _ => True) (fun _ U o U' => ∃ v L, o = .returned v ∧ P v U'.heap L ∧ FrameEnd U o U' L rm.cells rm.slots)
section Own
variable {p : Program} {l : Launch} {e : Env} {R : Room} {s : State} {m : MethodId} {args : Array Value} {below : List Frame} {meth : Method} {c : Code} {T T' : State} {locs : List Loc} {cells slots : Nat} {Z : State} {a0 : Array Value} {y : MethodName} {bytes : ByteArray} {maxL : Nat} {rt : Option FieldType} {P : Option Value → Heap → List Loc → Prop} {Q : Outcome → State → Prop}
theorem own_go {g g' : JFrame} (st : ∀ t, Steps p.tables e below (T'.setTop g') t → Steps p.tables e below (T.setTop g) t) (h : own_WP p e below Q T' g') : own_WP p e below Q T g := by
  obtain ⟨s₂, o, h1, h2⟩ := h
  exact ⟨s₂, o, st _ h1, h2⟩
theorem own_body {ws : List Jvm.Cond} {rm : Room} {as' : Array Value} {h : Heap} (hp : plainFor y = true)
    (body : ∀ p e s m below meth c s₁, own_Ctx p s m meth c Z y bytes maxL rt → Stand p l e rm s m as' below meth c s₁ [] 0 0 → s₁.heap = h → own_WP p e below (own_Q s P rm.cells rm.slots) s₁ (entryFrame m as' maxL)) :
    own_Met l Z y bytes maxL rt ws rm as' h P := by
  refine MetFree.of_bodySF hp hisR ?_
  intro p e s m args below meth c s₁ Bd hml0 hP hK
  obtain ⟨rfl, hZ, hh⟩ := hP
  exact body p e s m below meth c s₁ ⟨Bd.exec, hZ, Bd.bytes, hml0, findClass_of_methodNamed Bd.named, (name_of_methodNamed Bd.named Bd.method).1, Bd.returns, Bd.notSynchronized⟩ (Stand.of_body Bd) (by rw [← hh, Bd.state]; rfl)
theorem own_cast {g g' : JFrame} (q : g = g') (k : own_WP p e below Q T g') : own_WP p e below Q T g := q ▸ k
theorem own_retI (X : Stand p l e R s m args below meth c T locs cells slots) (C : own_Ctx p s m meth c Z y bytes maxL (some .int)) {pc : Nat} {Ls : Array Slot} {z : Int32} {rest : List Value} {CC SS : Nat}
    (hd : decode c.code pc = .ok (.ireturn, 1)) (hP : P (some (.int z)) T.heap locs) (hc : cells ≤ CC) (hs : slots ≤ SS) : own_WP p e below (own_Q s P CC SS) T (mkF m pc Ls (.int z :: rest)) := by
  obtain ⟨hx, -, -, -, -, -, hr, hlk⟩ := C
  obtain ⟨fs, hrr, hrun, hended, hW, hsame⟩ := X.leave (v := some (.int z)) (fun h => by rw [hr] at h; cases h) hlk
  exact ⟨_, _, retI X hx hr hd hrr, hrun, hended, _, _, rfl, hP, ⟨_, rfl⟩, hW, hsame.mono hc hs⟩
theorem own_retN {t : FieldType} (X : Stand p l e R s m args below meth c T locs cells slots) (C : own_Ctx p s m meth c Z y bytes maxL (some t)) (ht : t = .boolean ∨ t = .byte ∨ t = .char ∨ t = .short) {pc : Nat} {Ls : Array Slot} {z : Int32} {rest : List Value} {CC SS : Nat}
    (hd : decode c.code pc = .ok (.ireturn, 1)) (hP : P (some (.int (nar t z))) T.heap locs) (hc : cells ≤ CC) (hs : slots ≤ SS) : own_WP p e below (own_Q s P CC SS) T (mkF m pc Ls (.int z :: rest)) := by
  obtain ⟨hx, -, -, -, -, -, hr, hlk⟩ := C
  obtain ⟨fs, hrr, hrun, hended, hW, hsame⟩ := X.leave (v := some (.int (nar t z))) (fun h => by rw [hr] at h; cases h) hlk
  exact ⟨_, _, retN X hx hr ht hd hrr, hrun, hended, _, _, rfl, hP, ⟨_, rfl⟩, hW, hsame.mono hc hs⟩
theorem own_retL (X : Stand p l e R s m args below meth c T locs cells slots) (C : own_Ctx p s m meth c Z y bytes maxL (some .long)) {pc : Nat} {Ls : Array Slot} {z : Int64} {CC SS : Nat}
    (hd : decode c.code pc = .ok (.lreturn, 1)) (hP : P (some (.long z)) T.heap locs) (hc : cells ≤ CC) (hs : slots ≤ SS) : own_WP p e below (own_Q s P CC SS) T (mkF m pc Ls [.long z]) := by
  obtain ⟨hx, -, -, -, -, -, hr, hlk⟩ := C
  obtain ⟨fs, hrr, hrun, hended, hW, hsame⟩ := X.leave (v := some (.long z)) (fun h => by rw [hr] at h; cases h) hlk
  exact ⟨_, _, X.lreturnOut hx hr hd hrr, hrun, hended, _, _, rfl, hP, ⟨_, rfl⟩, hW, hsame.mono hc hs⟩
theorem own_retV (X : Stand p l e R s m args below meth c T locs cells slots) (C : own_Ctx p s m meth c Z y bytes maxL none) {pc : Nat} {Ls : Array Slot} {CC SS : Nat}
    (hd : decode c.code pc = .ok (.return_, 1)) (hP : P none T.heap locs) (hc : cells ≤ CC) (hs : slots ≤ SS) : own_WP p e below (own_Q s P CC SS) T (mkF m pc Ls []) := by
  obtain ⟨hx, -, -, -, -, -, hr, hlk⟩ := C
  obtain ⟨fs, hrr, hrun, hended, hW, hsame⟩ := X.leave (v := none) (fun _ => rfl) hlk
  exact ⟨_, _, X.returnOut hx hr hd hrr, hrun, hended, _, _, rfl, hP, ⟨_, rfl⟩, hW, hsame.mono hc hs⟩
theorem own_retA {t : FieldType} (X : Stand p l e R s m args below meth c T locs cells slots) (C : own_Ctx p s m meth c Z y bytes maxL (some t)) (ht : t.isReference = true) {pc : Nat} {Ls : Array Slot} {a : Addr} {CC SS : Nat}
    (hd : decode c.code pc = .ok (.areturn, 1)) (hP : P (some (.ref a)) T.heap locs) (hc : cells ≤ CC) (hs : slots ≤ SS) : own_WP p e below (own_Q s P CC SS) T (mkF m pc Ls [.ref a]) := by
  obtain ⟨hx, -, -, -, -, -, hr, hlk⟩ := C
  obtain ⟨fs, hrr, hrun, hended, hW, hsame⟩ := X.leave (v := some (.ref a)) (fun h => by rw [hr] at h; cases h) hlk
  exact ⟨_, _, X.areturnOut hx rfl hr ht hd hrr, hrun, hended, _, _, rfl, hP, ⟨_, rfl⟩, hW, hsame.mono hc hs⟩
/-- a static call by the callee's contract -/
theorem own_callS (X : Stand p l e R s m args below meth c T locs cells slots) (C : own_Ctx p s m meth c Z y bytes maxL rt) {idx : Nat} {y' : MethodName} {bytes' : ByteArray} {maxL' : Nat} {rt' : Option FieldType} {rm' : Room} {argsL rest : List Value} {h : Heap} {P' : Option Value → Heap → List Loc → Prop}
    (hM : own_Met l Z y' bytes' maxL' rt' [] rm' argsL.toArray h P') (w1 : (Cond.methodLink y.cls idx y').before a0 Z = true) (w2 : (Cond.static y').before a0 Z = true) (w3 : (Cond.initialized y'.cls).before a0 Z = true) (w4 : (Cond.code y' bytes' maxL' rt').before a0 Z = true)
    (hy : y'.cls ≠ "java/lang/invoke/MethodHandle" ∧ y'.cls ≠ "java/lang/invoke/VarHandle") (eT : T.heap = h) {W : Nat} {pc : Nat} {Ls : Array Slot} (hsz : Ls.size = maxL) (hlen : ∀ sig, parseMethodDescriptor y'.desc = some sig → argsL.length = sig.parameters.length)
    {stk : List Value} (hst : stk = argsL.reverse ++ rest) (hW : (rest.map fun v => v.category).sum ≤ W) (hd : decode c.code pc = .ok (.invokestatic idx, 3))
    (hf : rm'.frames + 1 ≤ R.frames) (hl : W + (maxL' + 11) + rm'.locals ≤ R.locals) (hc : cells + rm'.cells ≤ R.cells) (hs : slots + rm'.slots ≤ R.slots) :
    ∃ T' v L, Stand p l e R s m args below meth c T' (locs ++ L) (cells + rm'.cells) (slots + rm'.slots) ∧ P' v T'.heap L ∧ ∀ t, Steps p.tables e below (T'.setTop (mkF m (pc + 3) Ls (v.toList ++ rest))) t → Steps p.tables e below (T.setTop (mkF m pc Ls stk)) t := by
  obtain ⟨hx, hZ, hby, hml, hown, hnm, hr, hlk⟩ := C
  obtain ⟨v, _, ⟨T', L', k', n'⟩, -, X', ⟨L, hQ, hl', hk', hn'⟩, st⟩ := Jvm.LawKit.callS X hx (y := y') hown (mvT hZ w1) (mvT hZ w2) (mvT hZ w3) (mvT hZ w4) hy (backOf (W := W) hM hZ w4 w3 hf hl) (g := mkF m pc Ls stk) rfl (by rw [hml]; exact hsz) (argsL := argsL) (rest := rest) hlen hst (by show 2 * 0 + _ ≤ _; omega) hd (fun _ _ => ⟨rfl, eT, hc, hs⟩)
  dsimp only [Pt.U, Pt.locs, Pt.cells, Pt.slots] at X' hl' hk' hn' st hQ
  subst hl' hk' hn'
  exact ⟨T', v, L, X', hQ, st⟩
/-- a constructor by its contract -/
theorem own_callN (X : Stand p l e R s m args below meth c T locs cells slots) (C : own_Ctx p s m meth c Z y bytes maxL rt) {idx : Nat} {y' : MethodName} {bytes' : ByteArray} {maxL' : Nat} {rm' : Room} {a : Addr} {argsL rest : List Value} {h : Heap} {P' : Option Value → Heap → List Loc → Prop}
    (hM : own_Met l Z y' bytes' maxL' none [] rm' (.ref a :: argsL).toArray h P') (hyn : y'.name = "<init>") (w1 : (Cond.methodLink y.cls idx y').before a0 Z = true) (w2 : (Cond.instanceMethod y').before a0 Z = true) (w3 : (Cond.initialized y'.cls).before a0 Z = true) (w4 : (Cond.code y' bytes' maxL' none).before a0 Z = true)
    (hy : y'.cls ≠ "java/lang/invoke/MethodHandle" ∧ y'.cls ≠ "java/lang/invoke/VarHandle") (eT : T.heap = h) {W : Nat} {pc : Nat} {Ls : Array Slot} (hsz : Ls.size = maxL) (hlen : ∀ sig, parseMethodDescriptor y'.desc = some sig → argsL.length = sig.parameters.length)
    {stk : List Value} (hst : stk = argsL.reverse ++ .ref a :: rest) (hW : (rest.map fun v => v.category).sum ≤ W) (hd : decode c.code pc = .ok (.invokespecial idx, 3))
    (hf : rm'.frames + 1 ≤ R.frames) (hl : W + (maxL' + 11) + rm'.locals ≤ R.locals) (hc : cells + rm'.cells ≤ R.cells) (hs : slots + rm'.slots ≤ R.slots) :
    ∃ T' v L, Stand p l e R s m args below meth c T' (locs ++ L) (cells + rm'.cells) (slots + rm'.slots) ∧ P' v T'.heap L ∧ ∀ t, Steps p.tables e below (T'.setTop (mkF m (pc + 3) Ls (v.toList ++ rest))) t → Steps p.tables e below (T.setTop (mkF m pc Ls stk)) t := by
  obtain ⟨hx, hZ, hby, hml, hown, hnm, hr, hlk⟩ := C
  obtain ⟨v, _, ⟨T', L', k', n'⟩, -, X', ⟨L, hQ, hl', hk', hn'⟩, st⟩ := X.specialBack hx (y := y') hyn hown (mvT hZ w1) (mvT hZ w2) (mvT hZ w4) hy (backOf (W := W) hM hZ w4 w3 hf hl) (g := mkF m pc Ls stk) rfl (by rw [hml]; exact hsz) (Steps.refl _) (a := a) (argsL := argsL) (rest := rest) hlen hst (by show 2 * 0 + _ ≤ _; omega) hd (fun _ _ => ⟨rfl, eT, hc, hs⟩)
  dsimp only [Pt.U, Pt.locs, Pt.cells, Pt.slots] at X' hl' hk' hn' st hQ
  subst hl' hk' hn'
  exact ⟨T', v, L, X', hQ, fun t k => st.trans k⟩
/-- an instance method by the contract of the body that is selected (the class that declares it is the receiver's own) -/
theorem own_callV (X : Stand p l e R s m args below meth c T locs cells slots) (C : own_Ctx p s m meth c Z y bytes maxL rt) {idx : Nat} {y' : MethodName} {bytes' : ByteArray} {maxL' : Nat} {rt' : Option FieldType} {rm' : Room} {a : Addr} {argsL rest : List Value} {h : Heap} {P' : Option Value → Heap → List Loc → Prop}
    (hM : own_Met l Z y' bytes' maxL' rt' [] rm' (.ref a :: argsL).toArray h P') (w1 : (Cond.methodLink y.cls idx y').before a0 Z = true) (wd : (Cond.declares y').before a0 Z = true) (wsel : (Cond.selects y'.cls y' y').before a0 Z = true) (w2 : (Cond.instanceMethod y').before a0 Z = true) (w3 : (Cond.initialized y'.cls).before a0 Z = true) (w4 : (Cond.code y' bytes' maxL' rt').before a0 Z = true)
    (hy : y'.cls ≠ "java/lang/invoke/MethodHandle" ∧ y'.cls ≠ "java/lang/invoke/VarHandle") (eT : T.heap = h) (E : Exa Z h a y'.cls) {W : Nat} {pc : Nat} {Ls : Array Slot} (hsz : Ls.size = maxL) (hlen : ∀ sig, parseMethodDescriptor y'.desc = some sig → argsL.length = sig.parameters.length)
    {stk : List Value} (hst : stk = argsL.reverse ++ .ref a :: rest) (hW : (rest.map fun v => v.category).sum ≤ W) (hd : decode c.code pc = .ok (.invokevirtual idx, 3))
    (hf : rm'.frames + 1 ≤ R.frames) (hl : W + (maxL' + 11) + rm'.locals ≤ R.locals) (hc : cells + rm'.cells ≤ R.cells) (hs : slots + rm'.slots ≤ R.slots) :
    ∃ T' v L, Stand p l e R s m args below meth c T' (locs ++ L) (cells + rm'.cells) (slots + rm'.slots) ∧ P' v T'.heap L ∧ ∀ t, Steps p.tables e below (T'.setTop (mkF m (pc + 3) Ls (v.toList ++ rest))) t → Steps p.tables e below (T.setTop (mkF m pc Ls stk)) t := by
  obtain ⟨hx, hZ, hby, hml, hown, hnm, hr, hlk⟩ := C
  obtain ⟨cq, kq, qa, qb, qc⟩ := isOf hZ eT E
  obtain ⟨v, _, ⟨T', L', k', n'⟩, -, X', ⟨L, hQ, hl', hk', hn'⟩, st⟩ := X.virtualBack hx (y := y') (z := y') hown (mvT hZ w1) (mvT hZ wd) (notFace_of_selects (args := #[]) (mvT hZ wsel)) (mvT hZ wsel) (mvT hZ w2) hy (backOf (W := W) hM hZ w4 w3 hf hl) qa qc (g := mkF m pc Ls stk) rfl (by rw [hml]; exact hsz) (Steps.refl _) (argsL := argsL) (rest := rest) hlen hst (by show 2 * 0 + _ ≤ _; omega) hd (fun _ _ => ⟨rfl, eT, hc, hs⟩)
  dsimp only [Pt.U, Pt.locs, Pt.cells, Pt.slots] at X' hl' hk' hn' st hQ
  subst hl' hk' hn'
  exact ⟨T', v, L, X', hQ, fun t k => st.trans k⟩
end Own
end Jvm.Pilot.@@N@@
namespace Jvm.Pilot.@@N@@
open Jvm Jvm.ClassFile Sem Op Lib Jvm.Free Jvm.Stand Jvm.LawKit Jvm.RoadKit Bundle Jvm.Pilot.@@N@@.Jvm.D
theorem d1_0 : decode prog_1_method_9_code 0 = .ok (.iload_n 0, 1) := by decide +kernel
theorem d1_1 : decode prog_1_method_9_code 1 = .ok (.istore_n 1, 1) := by decide +kernel
theorem d1_2 : decode prog_1_method_9_code 2 = .ok (.iload_n 1, 1) := by decide +kernel
theorem d1_3 : decode prog_1_method_9_code 3 = .ok (.iload_n 1, 1) := by decide +kernel
theorem d1_4 : decode prog_1_method_9_code 4 = .ok (.bipush 16, 2) := by decide +kernel
theorem d1_6 : decode prog_1_method_9_code 6 = .ok (.iushr, 1) := by decide +kernel
theorem d1_7 : decode prog_1_method_9_code 7 = .ok (.ixor, 1) := by decide +kernel
theorem d1_8 : decode prog_1_method_9_code 8 = .ok (.ldc 77, 2) := by decide +kernel
theorem d1_10 : decode prog_1_method_9_code 10 = .ok (.imul, 1) := by decide +kernel
theorem d1_11 : decode prog_1_method_9_code 11 = .ok (.istore_n 1, 1) := by decide +kernel
theorem d1_12 : decode prog_1_method_9_code 12 = .ok (.iload_n 1, 1) := by decide +kernel
theorem d1_13 : decode prog_1_method_9_code 13 = .ok (.iload_n 1, 1) := by decide +kernel
theorem d1_14 : decode prog_1_method_9_code 14 = .ok (.bipush 13, 2) := by decide +kernel
theorem d1_16 : decode prog_1_method_9_code 16 = .ok (.iushr, 1) := by decide +kernel
theorem d1_17 : decode prog_1_method_9_code 17 = .ok (.ixor, 1) := by decide +kernel
theorem d1_18 : decode prog_1_method_9_code 18 = .ok (.ldc 78, 2) := by decide +kernel
theorem d1_20 : decode prog_1_method_9_code 20 = .ok (.imul, 1) := by decide +kernel
theorem d1_21 : decode prog_1_method_9_code 21 = .ok (.istore_n 1, 1) := by decide +kernel
theorem d1_22 : decode prog_1_method_9_code 22 = .ok (.iload_n 1, 1) := by decide +kernel
theorem d1_23 : decode prog_1_method_9_code 23 = .ok (.iload_n 1, 1) := by decide +kernel
theorem d1_24 : decode prog_1_method_9_code 24 = .ok (.bipush 16, 2) := by decide +kernel
theorem d1_26 : decode prog_1_method_9_code 26 = .ok (.iushr, 1) := by decide +kernel
theorem d1_27 : decode prog_1_method_9_code 27 = .ok (.ixor, 1) := by decide +kernel
theorem d1_28 : decode prog_1_method_9_code 28 = .ok (.ireturn, 1) := by decide +kernel
def rmR1 : Room := { frames := 0, cells := 0, slots := 0, locals := 0 }
def f1_22 (x1 : Int32) : Int32 := (x1 ^^^ (XT.ushr x1 (16 : Int32)))
set_option maxRecDepth 65536 in
set_option maxHeartbeats 40000000 in
theorem b1_22 {p : Program} {l : Launch} {e : Env} {s : State} {m : MethodId} {args : Array Value} {below : List Frame} {meth : Method} {c : Code} {T : State} {locs : List Loc} {Z : State} {a0 : Array Value} {h0 : Heap} {P : Option Value → Heap → List Loc → Prop} (hw : ∀ d ∈ tables_1, d.before a0 Z = true) (C : own_Ctx p s m meth c Z (⟨"com/example/uriel/uriel/ByResourceId", "mixed", "(I)I"⟩ : MethodName) prog_1_method_9_code 2 (some .int))
    (X : Stand p l e rmR1 s m args below meth c T locs 0 0) (e0 : T.heap = h0) (x0 : Int32) (x1 : Int32) (r : Int32) (hv : f1_22 x1 = r) (hP : P (some (.int r)) h0 locs) :
    own_WP p e below (own_Q s P rmR1.cells rmR1.slots) T (mkF m 22 #[.val (.int x0), .val (.int x1)] []) := by
  obtain ⟨hx, hZ, hby, hml, hown, hnm, hret, hlk⟩ := id C
  unfold f1_22 at hv
  show own_WP p e below _ T (mkF m 22 #[.val (.int x0), .val (.int x1)] [])
  refine own_go (fun _ => XS.iloadN X.here hx rfl (hb hby d1_22) rfl) ?_
  show own_WP p e below _ T (mkF m 23 #[.val (.int x0), .val (.int x1)] [(.int x1)])
  refine own_go (fun _ => XS.iloadN X.here hx rfl (hb hby d1_23) rfl) ?_
  show own_WP p e below _ T (mkF m 24 #[.val (.int x0), .val (.int x1)] [(.int x1), (.int x1)])
  refine own_go (fun _ => XS.bipush X.here hx rfl (hb hby d1_24)) ?_
  show own_WP p e below _ T (mkF m 26 #[.val (.int x0), .val (.int x1)] [(.int (16 : Int32)), (.int x1), (.int x1)])
  refine own_go (fun _ => XT.iushr X.here hx rfl (hb hby d1_26) rfl) ?_
  show own_WP p e below _ T (mkF m 27 #[.val (.int x0), .val (.int x1)] [(.int (XT.ushr x1 (16 : Int32))), (.int x1)])
  refine own_go (fun _ => XS.ixor X.here hx rfl (hb hby d1_27) rfl) ?_
  show own_WP p e below _ T (mkF m 28 #[.val (.int x0), .val (.int x1)] [(.int (x1 ^^^ (XT.ushr x1 (16 : Int32))))])
  subst hv e0; exact own_retI X C (hb hby d1_28) hP (by decide) (by decide)
def f1_12 (x1 : Int32) : Int32 := (f1_22 ((x1 ^^^ (XT.ushr x1 (13 : Int32))) * (-1028477387 : Int32)))
set_option maxRecDepth 65536 in
set_option maxHeartbeats 40000000 in
theorem b1_12 {p : Program} {l : Launch} {e : Env} {s : State} {m : MethodId} {args : Array Value} {below : List Frame} {meth : Method} {c : Code} {T : State} {locs : List Loc} {Z : State} {a0 : Array Value} {h0 : Heap} {P : Option Value → Heap → List Loc → Prop} (hw : ∀ d ∈ tables_1, d.before a0 Z = true) (C : own_Ctx p s m meth c Z (⟨"com/example/uriel/uriel/ByResourceId", "mixed", "(I)I"⟩ : MethodName) prog_1_method_9_code 2 (some .int))
    (X : Stand p l e rmR1 s m args below meth c T locs 0 0) (e0 : T.heap = h0) (x0 : Int32) (x1 : Int32) (r : Int32) (hv : f1_12 x1 = r) (hP : P (some (.int r)) h0 locs) :
    own_WP p e below (own_Q s P rmR1.cells rmR1.slots) T (mkF m 12 #[.val (.int x0), .val (.int x1)] []) := by
  obtain ⟨hx, hZ, hby, hml, hown, hnm, hret, hlk⟩ := id C
  unfold f1_12 at hv
  show own_WP p e below _ T (mkF m 12 #[.val (.int x0), .val (.int x1)] [])
  refine own_go (fun _ => XS.iloadN X.here hx rfl (hb hby d1_12) rfl) ?_
  show own_WP p e below _ T (mkF m 13 #[.val (.int x0), .val (.int x1)] [(.int x1)])
  refine own_go (fun _ => XS.iloadN X.here hx rfl (hb hby d1_13) rfl) ?_
  show own_WP p e below _ T (mkF m 14 #[.val (.int x0), .val (.int x1)] [(.int x1), (.int x1)])
  refine own_go (fun _ => XS.bipush X.here hx rfl (hb hby d1_14)) ?_
  show own_WP p e below _ T (mkF m 16 #[.val (.int x0), .val (.int x1)] [(.int (13 : Int32)), (.int x1), (.int x1)])
  refine own_go (fun _ => XT.iushr X.here hx rfl (hb hby d1_16) rfl) ?_
  show own_WP p e below _ T (mkF m 17 #[.val (.int x0), .val (.int x1)] [(.int (XT.ushr x1 (13 : Int32))), (.int x1)])
  refine own_go (fun _ => XS.ixor X.here hx rfl (hb hby d1_17) rfl) ?_
  show own_WP p e below _ T (mkF m 18 #[.val (.int x0), .val (.int x1)] [(.int (x1 ^^^ (XT.ushr x1 (13 : Int32))))])
  refine own_go (X.ldcInt hx hown (mvT hZ (hw _ (List.mem_of_getElem? (i := 5) rfl))) (g := (mkF m 18 #[.val (.int x0), .val (.int x1)] [(.int (x1 ^^^ (XT.ushr x1 (13 : Int32))))])) rfl (hb hby d1_18)) ?_
  show own_WP p e below _ T (mkF m 20 #[.val (.int x0), .val (.int x1)] [(.int (-1028477387 : Int32)), (.int (x1 ^^^ (XT.ushr x1 (13 : Int32))))])
  refine own_go (fun _ => XS.imul X.here hx rfl (hb hby d1_20) rfl) ?_
  show own_WP p e below _ T (mkF m 21 #[.val (.int x0), .val (.int x1)] [(.int ((x1 ^^^ (XT.ushr x1 (13 : Int32))) * (-1028477387 : Int32)))])
  refine own_go (fun _ => XS.istoreN X.here hx rfl (hb hby d1_21) rfl (l' := #[.val (.int x0), .val (.int ((x1 ^^^ (XT.ushr x1 (13 : Int32))) * (-1028477387 : Int32)))]) rfl) ?_
  exact b1_22 hw C X e0 x0 ((x1 ^^^ (XT.ushr x1 (13 : Int32))) * (-1028477387 : Int32)) r hv hP
def f1_0 (x0 : Int32) : Int32 := (f1_12 ((x0 ^^^ (XT.ushr x0 (16 : Int32))) * (-2048144789 : Int32)))
set_option maxRecDepth 65536 in
set_option maxHeartbeats 40000000 in
theorem b1_0 {p : Program} {l : Launch} {e : Env} {s : State} {m : MethodId} {args : Array Value} {below : List Frame} {meth : Method} {c : Code} {T : State} {locs : List Loc} {Z : State} {a0 : Array Value} {h0 : Heap} {P : Option Value → Heap → List Loc → Prop} (hw : ∀ d ∈ tables_1, d.before a0 Z = true) (C : own_Ctx p s m meth c Z (⟨"com/example/uriel/uriel/ByResourceId", "mixed", "(I)I"⟩ : MethodName) prog_1_method_9_code 2 (some .int))
    (X : Stand p l e rmR1 s m args below meth c T locs 0 0) (e0 : T.heap = h0) (x0 : Int32) (r : Int32) (hv : f1_0 x0 = r) (hP : P (some (.int r)) h0 locs) :
    own_WP p e below (own_Q s P rmR1.cells rmR1.slots) T (mkF m 0 #[.val (.int x0), .unset] []) := by
  obtain ⟨hx, hZ, hby, hml, hown, hnm, hret, hlk⟩ := id C
  unfold f1_0 at hv
  show own_WP p e below _ T (mkF m 0 #[.val (.int x0), .unset] [])
  refine own_go (fun _ => XS.iloadN X.here hx rfl (hb hby d1_0) rfl) ?_
  show own_WP p e below _ T (mkF m 1 #[.val (.int x0), .unset] [(.int x0)])
  refine own_go (fun _ => XS.istoreN X.here hx rfl (hb hby d1_1) rfl (l' := #[.val (.int x0), .val (.int x0)]) rfl) ?_
  show own_WP p e below _ T (mkF m 2 #[.val (.int x0), .val (.int x0)] [])
  refine own_go (fun _ => XS.iloadN X.here hx rfl (hb hby d1_2) rfl) ?_
  show own_WP p e below _ T (mkF m 3 #[.val (.int x0), .val (.int x0)] [(.int x0)])
  refine own_go (fun _ => XS.iloadN X.here hx rfl (hb hby d1_3) rfl) ?_
  show own_WP p e below _ T (mkF m 4 #[.val (.int x0), .val (.int x0)] [(.int x0), (.int x0)])
  refine own_go (fun _ => XS.bipush X.here hx rfl (hb hby d1_4)) ?_
  show own_WP p e below _ T (mkF m 6 #[.val (.int x0), .val (.int x0)] [(.int (16 : Int32)), (.int x0), (.int x0)])
  refine own_go (fun _ => XT.iushr X.here hx rfl (hb hby d1_6) rfl) ?_
  show own_WP p e below _ T (mkF m 7 #[.val (.int x0), .val (.int x0)] [(.int (XT.ushr x0 (16 : Int32))), (.int x0)])
  refine own_go (fun _ => XS.ixor X.here hx rfl (hb hby d1_7) rfl) ?_
  show own_WP p e below _ T (mkF m 8 #[.val (.int x0), .val (.int x0)] [(.int (x0 ^^^ (XT.ushr x0 (16 : Int32))))])
  refine own_go (X.ldcInt hx hown (mvT hZ (hw _ (List.mem_of_getElem? (i := 4) rfl))) (g := (mkF m 8 #[.val (.int x0), .val (.int x0)] [(.int (x0 ^^^ (XT.ushr x0 (16 : Int32))))])) rfl (hb hby d1_8)) ?_
  show own_WP p e below _ T (mkF m 10 #[.val (.int x0), .val (.int x0)] [(.int (-2048144789 : Int32)), (.int (x0 ^^^ (XT.ushr x0 (16 : Int32))))])
  refine own_go (fun _ => XS.imul X.here hx rfl (hb hby d1_10) rfl) ?_
  show own_WP p e below _ T (mkF m 11 #[.val (.int x0), .val (.int x0)] [(.int ((x0 ^^^ (XT.ushr x0 (16 : Int32))) * (-2048144789 : Int32)))])
  refine own_go (fun _ => XS.istoreN X.here hx rfl (hb hby d1_11) rfl (l' := #[.val (.int x0), .val (.int ((x0 ^^^ (XT.ushr x0 (16 : Int32))) * (-2048144789 : Int32)))]) rfl) ?_
  exact b1_12 hw C X e0 x0 ((x0 ^^^ (XT.ushr x0 (16 : Int32))) * (-2048144789 : Int32)) r hv hP
theorem ef1 (m : MethodId) (x0 : Int32) : entryFrame m #[(.int x0)] 2 = (mkF m 0 #[.val (.int x0), .unset] []) := by first | (simp [entryFrame, mkF, argsToLocals, Value.category]; done) | rfl
theorem pd1 : parseMethodDescriptor "(I)I" = some ⟨[.int], some .int⟩ := by decide +kernel
theorem pn1 : plainFor (⟨"com/example/uriel/uriel/ByResourceId", "mixed", "(I)I"⟩ : MethodName) = true := plainFor_of_name (by first | (simp [plainName, overriddenIn]; done) | decide +kernel)
theorem rm1 (l : Launch) (Z : State) (a0 : Array Value) (hw : ∀ d ∈ tables_1, d.before a0 Z = true) (x0 : Int32) (h0 : Heap) : own_Met l Z (⟨"com/example/uriel/uriel/ByResourceId", "mixed", "(I)I"⟩ : MethodName) prog_1_method_9_code 2 (some .int) [] rmR1 #[(.int x0)] h0 (fun v h L => v = some (.int (f1_0 x0)) ∧ L = [] ∧ h = h0) := by
  refine own_body pn1 ?_
  intro p e s m below meth c s₁ C X e0
  exact own_cast (ef1 m x0) (b1_0 hw C X e0 x0 _ rfl ⟨rfl, rfl, rfl⟩)
theorem d2_0 : decode method_2_code 0 = .ok (.iload_n 0, 1) := by decide +kernel
theorem d2_1 : decode method_2_code 1 = .ok (.iload_n 0, 1) := by decide +kernel
theorem d2_2 : decode method_2_code 2 = .ok (.bipush 16, 2) := by decide +kernel
theorem d2_4 : decode method_2_code 4 = .ok (.iushr, 1) := by decide +kernel
theorem d2_5 : decode method_2_code 5 = .ok (.ixor, 1) := by decide +kernel
theorem d2_6 : decode method_2_code 6 = .ok (.istore_n 1, 1) := by decide +kernel
theorem d2_7 : decode method_2_code 7 = .ok (.iload_n 1, 1) := by decide +kernel
theorem d2_8 : decode method_2_code 8 = .ok (.ldc 7, 2) := by decide +kernel
theorem d2_10 : decode method_2_code 10 = .ok (.imul, 1) := by decide +kernel
theorem d2_11 : decode method_2_code 11 = .ok (.istore_n 1, 1) := by decide +kernel
theorem d2_12 : decode method_2_code 12 = .ok (.iload_n 1, 1) := by decide +kernel
theorem d2_13 : decode method_2_code 13 = .ok (.iload_n 1, 1) := by decide +kernel
theorem d2_14 : decode method_2_code 14 = .ok (.bipush 13, 2) := by decide +kernel
theorem d2_16 : decode method_2_code 16 = .ok (.iushr, 1) := by decide +kernel
theorem d2_17 : decode method_2_code 17 = .ok (.ixor, 1) := by decide +kernel
theorem d2_18 : decode method_2_code 18 = .ok (.iload_n 1, 1) := by decide +kernel
theorem d2_19 : decode method_2_code 19 = .ok (.bipush 26, 2) := by decide +kernel
theorem d2_21 : decode method_2_code 21 = .ok (.iushr, 1) := by decide +kernel
theorem d2_22 : decode method_2_code 22 = .ok (.ixor, 1) := by decide +kernel
theorem d2_23 : decode method_2_code 23 = .ok (.istore_n 1, 1) := by decide +kernel
theorem d2_24 : decode method_2_code 24 = .ok (.iload_n 1, 1) := by decide +kernel
theorem d2_25 : decode method_2_code 25 = .ok (.ldc 8, 2) := by decide +kernel
theorem d2_27 : decode method_2_code 27 = .ok (.imul, 1) := by decide +kernel
theorem d2_28 : decode method_2_code 28 = .ok (.istore_n 1, 1) := by decide +kernel
theorem d2_29 : decode method_2_code 29 = .ok (.iload_n 1, 1) := by decide +kernel
theorem d2_30 : decode method_2_code 30 = .ok (.iload_n 1, 1) := by decide +kernel
theorem d2_31 : decode method_2_code 31 = .ok (.bipush 16, 2) := by decide +kernel
theorem d2_33 : decode method_2_code 33 = .ok (.iushr, 1) := by decide +kernel
theorem d2_34 : decode method_2_code 34 = .ok (.ixor, 1) := by decide +kernel
theorem d2_35 : decode method_2_code 35 = .ok (.ireturn, 1) := by decide +kernel
def rmR2 : Room := { frames := 0, cells := 0, slots := 0, locals := 0 }
def f2_29 (x1 : Int32) : Int32 := (x1 ^^^ (XT.ushr x1 (16 : Int32)))
set_option maxRecDepth 65536 in
set_option maxHeartbeats 40000000 in
theorem b2_29 {p : Program} {l : Launch} {e : Env} {s : State} {m : MethodId} {args : Array Value} {below : List Frame} {meth : Method} {c : Code} {T : State} {locs : List Loc} {Z : State} {a0 : Array Value} {h0 : Heap} {P : Option Value → Heap → List Loc → Prop} (hw : ∀ d ∈ tables_1, d.before a0 Z = true) (C : own_Ctx p s m meth c Z (⟨"com/example/uriel/uriel/ByResourceIdMixedPinLaw", "unmix", "(I)I"⟩ : MethodName) method_2_code 2 (some .int))
    (X : Stand p l e rmR2 s m args below meth c T locs 0 0) (e0 : T.heap = h0) (x0 : Int32) (x1 : Int32) (r : Int32) (hv : f2_29 x1 = r) (hP : P (some (.int r)) h0 locs) :
    own_WP p e below (own_Q s P rmR2.cells rmR2.slots) T (mkF m 29 #[.val (.int x0), .val (.int x1)] []) := by
  obtain ⟨hx, hZ, hby, hml, hown, hnm, hret, hlk⟩ := id C
  unfold f2_29 at hv
  show own_WP p e below _ T (mkF m 29 #[.val (.int x0), .val (.int x1)] [])
  refine own_go (fun _ => XS.iloadN X.here hx rfl (hb hby d2_29) rfl) ?_
  show own_WP p e below _ T (mkF m 30 #[.val (.int x0), .val (.int x1)] [(.int x1)])
  refine own_go (fun _ => XS.iloadN X.here hx rfl (hb hby d2_30) rfl) ?_
  show own_WP p e below _ T (mkF m 31 #[.val (.int x0), .val (.int x1)] [(.int x1), (.int x1)])
  refine own_go (fun _ => XS.bipush X.here hx rfl (hb hby d2_31)) ?_
  show own_WP p e below _ T (mkF m 33 #[.val (.int x0), .val (.int x1)] [(.int (16 : Int32)), (.int x1), (.int x1)])
  refine own_go (fun _ => XT.iushr X.here hx rfl (hb hby d2_33) rfl) ?_
  show own_WP p e below _ T (mkF m 34 #[.val (.int x0), .val (.int x1)] [(.int (XT.ushr x1 (16 : Int32))), (.int x1)])
  refine own_go (fun _ => XS.ixor X.here hx rfl (hb hby d2_34) rfl) ?_
  show own_WP p e below _ T (mkF m 35 #[.val (.int x0), .val (.int x1)] [(.int (x1 ^^^ (XT.ushr x1 (16 : Int32))))])
  subst hv e0; exact own_retI X C (hb hby d2_35) hP (by decide) (by decide)
def f2_24 (x1 : Int32) : Int32 := (f2_29 (x1 * (-1513385405 : Int32)))
set_option maxRecDepth 65536 in
set_option maxHeartbeats 40000000 in
theorem b2_24 {p : Program} {l : Launch} {e : Env} {s : State} {m : MethodId} {args : Array Value} {below : List Frame} {meth : Method} {c : Code} {T : State} {locs : List Loc} {Z : State} {a0 : Array Value} {h0 : Heap} {P : Option Value → Heap → List Loc → Prop} (hw : ∀ d ∈ tables_1, d.before a0 Z = true) (C : own_Ctx p s m meth c Z (⟨"com/example/uriel/uriel/ByResourceIdMixedPinLaw", "unmix", "(I)I"⟩ : MethodName) method_2_code 2 (some .int))
    (X : Stand p l e rmR2 s m args below meth c T locs 0 0) (e0 : T.heap = h0) (x0 : Int32) (x1 : Int32) (r : Int32) (hv : f2_24 x1 = r) (hP : P (some (.int r)) h0 locs) :
    own_WP p e below (own_Q s P rmR2.cells rmR2.slots) T (mkF m 24 #[.val (.int x0), .val (.int x1)] []) := by
  obtain ⟨hx, hZ, hby, hml, hown, hnm, hret, hlk⟩ := id C
  unfold f2_24 at hv
  show own_WP p e below _ T (mkF m 24 #[.val (.int x0), .val (.int x1)] [])
  refine own_go (fun _ => XS.iloadN X.here hx rfl (hb hby d2_24) rfl) ?_
  show own_WP p e below _ T (mkF m 25 #[.val (.int x0), .val (.int x1)] [(.int x1)])
  refine own_go (X.ldcInt hx hown (mvT hZ (hw _ (List.mem_of_getElem? (i := 11) rfl))) (g := (mkF m 25 #[.val (.int x0), .val (.int x1)] [(.int x1)])) rfl (hb hby d2_25)) ?_
  show own_WP p e below _ T (mkF m 27 #[.val (.int x0), .val (.int x1)] [(.int (-1513385405 : Int32)), (.int x1)])
  refine own_go (fun _ => XS.imul X.here hx rfl (hb hby d2_27) rfl) ?_
  show own_WP p e below _ T (mkF m 28 #[.val (.int x0), .val (.int x1)] [(.int (x1 * (-1513385405 : Int32)))])
  refine own_go (fun _ => XS.istoreN X.here hx rfl (hb hby d2_28) rfl (l' := #[.val (.int x0), .val (.int (x1 * (-1513385405 : Int32)))]) rfl) ?_
  exact b2_29 hw C X e0 x0 (x1 * (-1513385405 : Int32)) r hv hP
def f2_12 (x1 : Int32) : Int32 := (f2_24 ((x1 ^^^ (XT.ushr x1 (13 : Int32))) ^^^ (XT.ushr x1 (26 : Int32))))
set_option maxRecDepth 65536 in
set_option maxHeartbeats 40000000 in
theorem b2_12 {p : Program} {l : Launch} {e : Env} {s : State} {m : MethodId} {args : Array Value} {below : List Frame} {meth : Method} {c : Code} {T : State} {locs : List Loc} {Z : State} {a0 : Array Value} {h0 : Heap} {P : Option Value → Heap → List Loc → Prop} (hw : ∀ d ∈ tables_1, d.before a0 Z = true) (C : own_Ctx p s m meth c Z (⟨"com/example/uriel/uriel/ByResourceIdMixedPinLaw", "unmix", "(I)I"⟩ : MethodName) method_2_code 2 (some .int))
    (X : Stand p l e rmR2 s m args below meth c T locs 0 0) (e0 : T.heap = h0) (x0 : Int32) (x1 : Int32) (r : Int32) (hv : f2_12 x1 = r) (hP : P (some (.int r)) h0 locs) :
    own_WP p e below (own_Q s P rmR2.cells rmR2.slots) T (mkF m 12 #[.val (.int x0), .val (.int x1)] []) := by
  obtain ⟨hx, hZ, hby, hml, hown, hnm, hret, hlk⟩ := id C
  unfold f2_12 at hv
  show own_WP p e below _ T (mkF m 12 #[.val (.int x0), .val (.int x1)] [])
  refine own_go (fun _ => XS.iloadN X.here hx rfl (hb hby d2_12) rfl) ?_
  show own_WP p e below _ T (mkF m 13 #[.val (.int x0), .val (.int x1)] [(.int x1)])
  refine own_go (fun _ => XS.iloadN X.here hx rfl (hb hby d2_13) rfl) ?_
  show own_WP p e below _ T (mkF m 14 #[.val (.int x0), .val (.int x1)] [(.int x1), (.int x1)])
  refine own_go (fun _ => XS.bipush X.here hx rfl (hb hby d2_14)) ?_
  show own_WP p e below _ T (mkF m 16 #[.val (.int x0), .val (.int x1)] [(.int (13 : Int32)), (.int x1), (.int x1)])
  refine own_go (fun _ => XT.iushr X.here hx rfl (hb hby d2_16) rfl) ?_
  show own_WP p e below _ T (mkF m 17 #[.val (.int x0), .val (.int x1)] [(.int (XT.ushr x1 (13 : Int32))), (.int x1)])
  refine own_go (fun _ => XS.ixor X.here hx rfl (hb hby d2_17) rfl) ?_
  show own_WP p e below _ T (mkF m 18 #[.val (.int x0), .val (.int x1)] [(.int (x1 ^^^ (XT.ushr x1 (13 : Int32))))])
  refine own_go (fun _ => XS.iloadN X.here hx rfl (hb hby d2_18) rfl) ?_
  show own_WP p e below _ T (mkF m 19 #[.val (.int x0), .val (.int x1)] [(.int x1), (.int (x1 ^^^ (XT.ushr x1 (13 : Int32))))])
  refine own_go (fun _ => XS.bipush X.here hx rfl (hb hby d2_19)) ?_
  show own_WP p e below _ T (mkF m 21 #[.val (.int x0), .val (.int x1)] [(.int (26 : Int32)), (.int x1), (.int (x1 ^^^ (XT.ushr x1 (13 : Int32))))])
  refine own_go (fun _ => XT.iushr X.here hx rfl (hb hby d2_21) rfl) ?_
  show own_WP p e below _ T (mkF m 22 #[.val (.int x0), .val (.int x1)] [(.int (XT.ushr x1 (26 : Int32))), (.int (x1 ^^^ (XT.ushr x1 (13 : Int32))))])
  refine own_go (fun _ => XS.ixor X.here hx rfl (hb hby d2_22) rfl) ?_
  show own_WP p e below _ T (mkF m 23 #[.val (.int x0), .val (.int x1)] [(.int ((x1 ^^^ (XT.ushr x1 (13 : Int32))) ^^^ (XT.ushr x1 (26 : Int32))))])
  refine own_go (fun _ => XS.istoreN X.here hx rfl (hb hby d2_23) rfl (l' := #[.val (.int x0), .val (.int ((x1 ^^^ (XT.ushr x1 (13 : Int32))) ^^^ (XT.ushr x1 (26 : Int32))))]) rfl) ?_
  exact b2_24 hw C X e0 x0 ((x1 ^^^ (XT.ushr x1 (13 : Int32))) ^^^ (XT.ushr x1 (26 : Int32))) r hv hP
def f2_7 (x1 : Int32) : Int32 := (f2_12 (x1 * (2127672349 : Int32)))
set_option maxRecDepth 65536 in
set_option maxHeartbeats 40000000 in
theorem b2_7 {p : Program} {l : Launch} {e : Env} {s : State} {m : MethodId} {args : Array Value} {below : List Frame} {meth : Method} {c : Code} {T : State} {locs : List Loc} {Z : State} {a0 : Array Value} {h0 : Heap} {P : Option Value → Heap → List Loc → Prop} (hw : ∀ d ∈ tables_1, d.before a0 Z = true) (C : own_Ctx p s m meth c Z (⟨"com/example/uriel/uriel/ByResourceIdMixedPinLaw", "unmix", "(I)I"⟩ : MethodName) method_2_code 2 (some .int))
    (X : Stand p l e rmR2 s m args below meth c T locs 0 0) (e0 : T.heap = h0) (x0 : Int32) (x1 : Int32) (r : Int32) (hv : f2_7 x1 = r) (hP : P (some (.int r)) h0 locs) :
    own_WP p e below (own_Q s P rmR2.cells rmR2.slots) T (mkF m 7 #[.val (.int x0), .val (.int x1)] []) := by
  obtain ⟨hx, hZ, hby, hml, hown, hnm, hret, hlk⟩ := id C
  unfold f2_7 at hv
  show own_WP p e below _ T (mkF m 7 #[.val (.int x0), .val (.int x1)] [])
  refine own_go (fun _ => XS.iloadN X.here hx rfl (hb hby d2_7) rfl) ?_
  show own_WP p e below _ T (mkF m 8 #[.val (.int x0), .val (.int x1)] [(.int x1)])
  refine own_go (X.ldcInt hx hown (mvT hZ (hw _ (List.mem_of_getElem? (i := 10) rfl))) (g := (mkF m 8 #[.val (.int x0), .val (.int x1)] [(.int x1)])) rfl (hb hby d2_8)) ?_
  show own_WP p e below _ T (mkF m 10 #[.val (.int x0), .val (.int x1)] [(.int (2127672349 : Int32)), (.int x1)])
  refine own_go (fun _ => XS.imul X.here hx rfl (hb hby d2_10) rfl) ?_
  show own_WP p e below _ T (mkF m 11 #[.val (.int x0), .val (.int x1)] [(.int (x1 * (2127672349 : Int32)))])
  refine own_go (fun _ => XS.istoreN X.here hx rfl (hb hby d2_11) rfl (l' := #[.val (.int x0), .val (.int (x1 * (2127672349 : Int32)))]) rfl) ?_
  exact b2_12 hw C X e0 x0 (x1 * (2127672349 : Int32)) r hv hP
def f2_0 (x0 : Int32) : Int32 := (f2_7 (x0 ^^^ (XT.ushr x0 (16 : Int32))))
set_option maxRecDepth 65536 in
set_option maxHeartbeats 40000000 in
theorem b2_0 {p : Program} {l : Launch} {e : Env} {s : State} {m : MethodId} {args : Array Value} {below : List Frame} {meth : Method} {c : Code} {T : State} {locs : List Loc} {Z : State} {a0 : Array Value} {h0 : Heap} {P : Option Value → Heap → List Loc → Prop} (hw : ∀ d ∈ tables_1, d.before a0 Z = true) (C : own_Ctx p s m meth c Z (⟨"com/example/uriel/uriel/ByResourceIdMixedPinLaw", "unmix", "(I)I"⟩ : MethodName) method_2_code 2 (some .int))
    (X : Stand p l e rmR2 s m args below meth c T locs 0 0) (e0 : T.heap = h0) (x0 : Int32) (r : Int32) (hv : f2_0 x0 = r) (hP : P (some (.int r)) h0 locs) :
    own_WP p e below (own_Q s P rmR2.cells rmR2.slots) T (mkF m 0 #[.val (.int x0), .unset] []) := by
  obtain ⟨hx, hZ, hby, hml, hown, hnm, hret, hlk⟩ := id C
  unfold f2_0 at hv
  show own_WP p e below _ T (mkF m 0 #[.val (.int x0), .unset] [])
  refine own_go (fun _ => XS.iloadN X.here hx rfl (hb hby d2_0) rfl) ?_
  show own_WP p e below _ T (mkF m 1 #[.val (.int x0), .unset] [(.int x0)])
  refine own_go (fun _ => XS.iloadN X.here hx rfl (hb hby d2_1) rfl) ?_
  show own_WP p e below _ T (mkF m 2 #[.val (.int x0), .unset] [(.int x0), (.int x0)])
  refine own_go (fun _ => XS.bipush X.here hx rfl (hb hby d2_2)) ?_
  show own_WP p e below _ T (mkF m 4 #[.val (.int x0), .unset] [(.int (16 : Int32)), (.int x0), (.int x0)])
  refine own_go (fun _ => XT.iushr X.here hx rfl (hb hby d2_4) rfl) ?_
  show own_WP p e below _ T (mkF m 5 #[.val (.int x0), .unset] [(.int (XT.ushr x0 (16 : Int32))), (.int x0)])
  refine own_go (fun _ => XS.ixor X.here hx rfl (hb hby d2_5) rfl) ?_
  show own_WP p e below _ T (mkF m 6 #[.val (.int x0), .unset] [(.int (x0 ^^^ (XT.ushr x0 (16 : Int32))))])
  refine own_go (fun _ => XS.istoreN X.here hx rfl (hb hby d2_6) rfl (l' := #[.val (.int x0), .val (.int (x0 ^^^ (XT.ushr x0 (16 : Int32))))]) rfl) ?_
  exact b2_7 hw C X e0 x0 (x0 ^^^ (XT.ushr x0 (16 : Int32))) r hv hP
theorem ef2 (m : MethodId) (x0 : Int32) : entryFrame m #[(.int x0)] 2 = (mkF m 0 #[.val (.int x0), .unset] []) := by first | (simp [entryFrame, mkF, argsToLocals, Value.category]; done) | rfl
theorem pd2 : parseMethodDescriptor "(I)I" = some ⟨[.int], some .int⟩ := by decide +kernel
theorem pn2 : plainFor (⟨"com/example/uriel/uriel/ByResourceIdMixedPinLaw", "unmix", "(I)I"⟩ : MethodName) = true := plainFor_of_name (by first | (simp [plainName, overriddenIn]; done) | decide +kernel)
theorem rm2 (l : Launch) (Z : State) (a0 : Array Value) (hw : ∀ d ∈ tables_1, d.before a0 Z = true) (x0 : Int32) (h0 : Heap) : own_Met l Z (⟨"com/example/uriel/uriel/ByResourceIdMixedPinLaw", "unmix", "(I)I"⟩ : MethodName) method_2_code 2 (some .int) [] rmR2 #[(.int x0)] h0 (fun v h L => v = some (.int (f2_0 x0)) ∧ L = [] ∧ h = h0) := by
  refine own_body pn2 ?_
  intro p e s m below meth c s₁ C X e0
  exact own_cast (ef2 m x0) (b2_0 hw C X e0 x0 _ rfl ⟨rfl, rfl, rfl⟩)
def f0_0 (x0 : Int32) : Int32 := (if (f2_0 (f1_0 x0)) = x0 then (1 : Int32) else (0 : Int32))
set_option maxRecDepth 65536 in
set_option maxHeartbeats 40000000 in
theorem b0_0 {p : Program} {l : Launch} {e : Env} {s : State} {m : MethodId} {args : Array Value} {below : List Frame} {meth : Method} {c : Code} {T : State} {locs : List Loc} {Z : State} {a0 : Array Value} {h0 : Heap} {P : Option Value → Heap → List Loc → Prop} (hw : ∀ d ∈ tables_1, d.before a0 Z = true) (C : own_Ctx p s m meth c Z x code maxLocals ret)
    (X : Stand p l e room_1 s m args below meth c T locs 0 0) (e0 : T.heap = h0) (x0 : Int32) (r : Int32) (hv : f0_0 x0 = r) (hP : P (some (.int r)) h0 locs) :
    own_WP p e below (own_Q s P room_1.cells room_1.slots) T (mkF m 0 #[.val (.int x0)] []) := by
  obtain ⟨hx, hZ, hby, hml, hown, hnm, hret, hlk⟩ := id C
  unfold f0_0 at hv
  show own_WP p e below _ T (mkF m 0 #[.val (.int x0)] [])
  refine own_go (fun _ => XS.iloadN X.here hx rfl (hb hby at_0) rfl) ?_
  show own_WP p e below _ T (mkF m 1 #[.val (.int x0)] [(.int x0)])
  obtain ⟨T, v', L', X, ⟨rfl, rfl, e0⟩, st'⟩ := own_callS X C (rm1 l Z a0 hw x0 h0) (hw _ (List.mem_of_getElem? (i := 0) rfl)) (hw _ (List.mem_of_getElem? (i := 1) rfl)) (hw _ (List.mem_of_getElem? (i := 2) rfl)) (hw _ (List.mem_of_getElem? (i := 3) rfl)) (by decide) e0 (W := 0) (pc := 1) (Ls := #[.val (.int x0)]) rfl (lenOf pd1 rfl) (rest := []) (stk := [(.int x0)]) rfl (Nat.le_of_ble_eq_true rfl) (hb hby at_1) (by decide) (by decide) (by decide) (by decide)
  rw [List.append_nil] at X
  refine own_go st' ?_
  show own_WP p e below _ T (mkF m 4 #[.val (.int x0)] [(.int (f1_0 x0))])
  obtain ⟨T, v', L', X, ⟨rfl, rfl, e0⟩, st'⟩ := own_callS X C (rm2 l Z a0 hw (f1_0 x0) h0) (hw _ (List.mem_of_getElem? (i := 6) rfl)) (hw _ (List.mem_of_getElem? (i := 7) rfl)) (hw _ (List.mem_of_getElem? (i := 8) rfl)) (hw _ (List.mem_of_getElem? (i := 9) rfl)) (by decide) e0 (W := 0) (pc := 4) (Ls := #[.val (.int x0)]) rfl (lenOf pd2 rfl) (rest := []) (stk := [(.int (f1_0 x0))]) rfl (Nat.le_of_ble_eq_true rfl) (hb hby at_4) (by decide) (by decide) (by decide) (by decide)
  rw [List.append_nil] at X
  refine own_go st' ?_
  show own_WP p e below _ T (mkF m 7 #[.val (.int x0)] [(.int (f2_0 (f1_0 x0)))])
  refine own_go (fun _ => XS.iloadN X.here hx rfl (hb hby at_7) rfl) ?_
  show own_WP p e below _ T (mkF m 8 #[.val (.int x0)] [(.int x0), (.int (f2_0 (f1_0 x0)))])
  by_cases h8 : (f2_0 (f1_0 x0)) = x0
  · replace hv := (if_pos h8).symm.trans hv
    refine own_go (fun _ => XS.icmpNo X.here hx rfl (hb hby at_8) rfl (XT.ii_ne_f h8)) ?_
    show own_WP p e below _ T (mkF m 11 #[.val (.int x0)] [])
    refine own_go (fun _ => XS.iconst X.here hx rfl (hb hby at_11)) ?_
    show own_WP p e below _ T (mkF m 12 #[.val (.int x0)] [(.int (1 : Int32))])
    refine own_go (fun _ => XS.goto X.here hx rfl (pc0 := 12) (pc' := 16) rfl (hb hby at_12) (by decide) (by decide)) ?_
    show own_WP p e below _ T (mkF m 16 #[.val (.int x0)] [(.int (1 : Int32))])
    subst hv e0; exact own_retN X C (by simp) (hb hby at_16) hP (by decide) (by decide)
  · replace hv := (if_neg h8).symm.trans hv
    refine own_go (fun _ => XS.icmpYes X.here hx rfl (pc0 := 8) (pc' := 15) rfl (hb hby at_8) rfl (XT.ii_ne_t h8) (by decide) (by decide)) ?_
    show own_WP p e below _ T (mkF m 15 #[.val (.int x0)] [])
    refine own_go (fun _ => XS.iconst X.here hx rfl (hb hby at_15)) ?_
    show own_WP p e below _ T (mkF m 16 #[.val (.int x0)] [(.int (0 : Int32))])
    subst hv e0; exact own_retN X C (by simp) (hb hby at_16) hP (by decide) (by decide)
theorem ef0 (m : MethodId) (x0 : Int32) : entryFrame m #[(.int x0)] maxLocals = (mkF m 0 #[.val (.int x0)] []) := by first | (simp [entryFrame, mkF, argsToLocals, Value.category, maxLocals]; done) | rfl
theorem own_u16 (x : Int32) : (XT.ushr x (16 : Int32)).toBitVec = x.toBitVec >>> 16 := rfl
theorem own_u13 (x : Int32) : (XT.ushr x (13 : Int32)).toBitVec = x.toBitVec >>> 13 := rfl
theorem own_u26 (x : Int32) : (XT.ushr x (26 : Int32)).toBitVec = x.toBitVec >>> 26 := rfl
theorem own_x16 (y : BitVec 32) : (y ^^^ y >>> 16) ^^^ ((y ^^^ y >>> 16) >>> 16) = y := by
  rw [BitVec.ushiftRight_xor_distrib, ← BitVec.shiftRight_add]
  have z : y >>> (16 + 16) = 0#32 := BitVec.ushiftRight_eq_zero (by decide)
  rw [z, BitVec.xor_zero, BitVec.xor_assoc, BitVec.xor_self, BitVec.xor_zero]
theorem own_x13 (y : BitVec 32) : ((y ^^^ y >>> 13) ^^^ ((y ^^^ y >>> 13) >>> 13)) ^^^ ((y ^^^ y >>> 13) >>> 26) = y := by
  rw [BitVec.ushiftRight_xor_distrib, BitVec.ushiftRight_xor_distrib, ← BitVec.shiftRight_add, ← BitVec.shiftRight_add]
  have z : y >>> (13 + 26) = 0#32 := BitVec.ushiftRight_eq_zero (by decide)
  have w : y >>> (13 + 13) = y >>> 26 := rfl
  rw [z, w, BitVec.xor_zero]
  generalize y >>> 13 = a
  generalize y >>> 26 = b
  ext i hi
  simp only [BitVec.getElem_xor]
  cases y[i] <;> cases a[i] <;> cases b[i] <;> rfl
theorem own_m1 (y : BitVec 32) : y * (-1028477387 : Int32).toBitVec * (2127672349 : Int32).toBitVec = y := by
  rw [BitVec.mul_assoc]
  have q : (-1028477387 : Int32).toBitVec * (2127672349 : Int32).toBitVec = 1#32 := by decide +kernel
  rw [q, BitVec.mul_one]
theorem own_m2 (y : BitVec 32) : y * (-2048144789 : Int32).toBitVec * (-1513385405 : Int32).toBitVec = y := by
  rw [BitVec.mul_assoc]
  have q : (-2048144789 : Int32).toBitVec * (-1513385405 : Int32).toBitVec = 1#32 := by decide +kernel
  rw [q, BitVec.mul_one]
theorem own_back (x0 : Int32) : f2_0 (f1_0 x0) = x0 := by
  apply Int32.toBitVec_inj.mp
  simp only [f2_0, f2_7, f2_12, f2_24, f2_29, f1_0, f1_12, f1_22, Int32.toBitVec_xor, Int32.toBitVec_mul, own_u16, own_u13, own_u26]
  rw [own_x16, own_m1, own_x13, own_m2, own_x16]
theorem plain0 (x0 : Int32) : f0_0 x0 = 1 := by
  unfold f0_0
  rw [own_back, if_pos rfl]
theorem pn0 : plainFor x = true := plainFor_of_name (by first | (simp [plainName, overriddenIn, x]; done) | decide +kernel)
theorem rm0 (l : Launch) (Z : State) (a0 : Array Value) (hw : ∀ d ∈ tables_1, d.before a0 Z = true) (ws : List Jvm.Cond) (x0 : Int32) (h0 : Heap) : own_Met l Z x code maxLocals ret ws room_1 #[(.int x0)] h0 (fun v h L => v = some (.int 1) ∧ Fr h0.size L) := by
  refine own_body pn0 ?_
  intro p e s m below meth c s₁ C X e0
  exact own_cast (ef0 m x0) (b0_0 hw C X e0 x0 _ (plain0 x0) ⟨rfl, Fr.nil _⟩)
set_option maxRecDepth 65536 in
set_option maxHeartbeats 40000000 in
theorem comes_1 {Post : Tables → Env → Array Value → State → Outcome → State → Prop} (hpost : ∀ tb e args s v u, (limb_1_1.after args s (.returned v) u = true ∧ limb_1_2.after args s (.returned v) u = true ∧ True) → FrameEnd s (.returned v) u (Jvm.fieldLocs frame_1_writes args s ++ Jvm.arrayLocs frame_1_arrays args s ++ Jvm.staticLocs frame_1_statics s) 0 0 → Post tb e args s (.returned v) u) :
    ArmFor flags0 classFile x code maxLocals ret World_1 tables_1 room_1 Calls_1 rest_1 Pre_1 Post := by
  intro l hfl _ _ p e ha hc hk s m args below hf hA hF happ hP
  obtain ⟨hcalls, hrest, hpre⟩ := hP
  obtain ⟨-, -, -, hnamed, -, -, -, hat⟩ := (Spec.applies_iff hf).mp happ
  obtain ⟨hg, hn⟩ := and_e (Cond.before_iff.mp (show (Jvm.Cond.and given_1 narrow_1).before args s = true from hpre))
  obtain ⟨hcnt, hg0⟩ := and_e hg
  have ha0 := hg0
  obtain ⟨w0, rfl⟩ : ∃ w0 : Value, args = #[w0] := by
    have hs : args.size = 1 := by simpa [Cond.value, given_1] using hcnt
    obtain ⟨L⟩ := args
    match L, hs with
    | [w0], _ => exact ⟨w0, rfl⟩
  have hw := fun d (hd : d ∈ tables_1) => atoms_spec (ws := Jvm.Cond.code x code maxLocals ret :: tables_1) hat d (List.mem_cons_of_mem _ hd)
  obtain ⟨i0, ei0⟩ := is_v ha0
  obtain rfl : w0 = (.int i0) := Option.some.inj ei0
  obtain ⟨n, o, h1, h2, h3, _, L, rfl, ⟨rfl, N⟩, hq⟩ := rm0 l s _ hw tables_1 i0 s.heap p e ha hc hk s m _ below hf ((Spec.applies_iff_loose hf).mp happ).1 ⟨rfl, State.Warmed39.refl s, rfl⟩ trivial
  refine ⟨n, _, h1, h2, h3, hpost _ _ _ _ _ _ ⟨Cond.after_iff.mpr rfl, Cond.after_iff.mpr (eq_i res_at (Term.int_eval (1)) rfl), trivial⟩ ⟨hq.1, hq.2.1, (hq.2.2.sift fun y hy => Or.inr (N y hy)).mono (by decide) (by decide)⟩⟩
theorem main_1_1 : Claimed_1_1 := comes_1 fun _ _ _ _ _ _ h hF => ⟨h.1, hF⟩
theorem main_1_2 : Claimed_1_2 := comes_1 fun _ _ _ _ _ _ h hF => ⟨h.2.1, hF⟩
end Jvm.Pilot.@@N@@
namespace Jvm.Pilot.@@N@@
open Jvm Jvm.ClassFile Sem Op Lib Jvm.Free Jvm.Stand Jvm.Pilot.@@N@@.Jvm.D
/-! MADE BY PROGRAM (witnessworld.py) out of the Statement's table words and the real class files: 9 classes; the members and pool entries that the words name. The judged class is class 1, her method 2. -/
namespace start1
open Jvm.ClassFile
def u (s : String) : CpInfo := .utf8 (stringToUtf16 s)
/-- a pool by its gaps: so many unusable entries, then the entry; so many at the end -/
def gap : Nat → List CpInfo → List CpInfo
  | 0, r => r
  | n + 1, r => .unusable :: gap n r
def poolList (es : List (Nat × CpInfo)) (last : Nat) : List CpInfo := es.foldr (fun e r => gap e.1 (e.2 :: r)) (gap last [])
def pool (es : List (Nat × CpInfo)) (last : Nat) : Array CpInfo := ⟨poolList es last⟩
def fileOf (pool : Array CpInfo) (this : Nat) (attrs : Array Attribute := #[]) (ms : Array MethodInfo := #[]) (fl : Nat := 33) (sup : Nat := 0) (ifs : Array Nat := #[]) (fds : Array FieldInfo := #[]) : ClassFile where
  minorVersion := 0
  majorVersion := 65
  constantPool := pool
  accessFlags := fl
  thisClass := this
  superClass := sup
  interfaces := ifs
  fields := fds
  methods := ms
  attributes := attrs
def plain (name : String) (sup : Option ClassId) : Class where
  name := name
  kind := .ordinary
  loader := none
  accessFlags := 33
  super := sup
  interfaces := #[]
  cf := none
  fields := #[]
  methods := #[]
  instanceTypes := #[]
  staticTypes := #[]
  resolved := #[]
  callSites := []
  init := .initialized
  statics := none
  mirror := none

def pool0 : Array CpInfo := pool [(5, u "<init>"), (0, u "()V"), (1, .class_ 10), (1, u "java/lang/Object")] 113

def k0m0 : Method := { name := "<init>", desc := "()V", sig := { parameters := [], returnType := none }, accessFlags := 1, code := none }
/-- java/lang/Object -/
def k0 : Class := { plain "java/lang/Object" none with
  accessFlags := 33
  interfaces := #[]
  cf := some (fileOf pool0 8 #[] #[{ accessFlags := 1, nameIndex := 5, descriptorIndex := 6, attributes := #[] }] 33 0 #[] #[])
  fields := #[]
  methods := #[k0m0]
  instanceTypes := #[]
  staticTypes := #[]
  resolved := Array.replicate 124 none
  statics := none }

def pool1 : Array CpInfo := pool [(2, .class_ 4), (1, u "java/lang/Object"), (0, u "<init>"), (0, u "()V"), (0, .integer 2127672349), (0, .integer 2781581891), (0, .methodref 10 11), (0, .class_ 12), (0, .nameAndType 13 14), (0, u "com/example/uriel/uriel/ByResourceId"), (0, u "mixed"), (0, u "(I)I"), (0, .methodref 16 17), (0, .class_ 18), (0, .nameAndType 19 14), (0, u "com/example/uriel/uriel/ByResourceIdMixedPinLaw"), (0, u "unmix"), (2, u "law"), (0, u "(I)Z")] 3

def k1m0 : Method := { name := "<init>", desc := "()V", sig := { parameters := [], returnType := none }, accessFlags := 1, code := none }
def k1c1 : Code := { maxStack := 3, maxLocals := 2, code := method_2_code, exceptionTable := #[], attributes := #[] }
def k1m1 : Method := { name := "unmix", desc := "(I)I", sig := { parameters := [.int], returnType := some .int }, accessFlags := 10, code := some k1c1 }
def k1c2 : Code := { maxStack := 2, maxLocals := 1, code := code, exceptionTable := #[], attributes := #[] }
def k1m2 : Method := { name := "law", desc := "(I)Z", sig := { parameters := [.int], returnType := some .boolean }, accessFlags := 9, code := some k1c2 }
/-- com/example/uriel/uriel/ByResourceIdMixedPinLaw -/
def k1 : Class := { plain "com/example/uriel/uriel/ByResourceIdMixedPinLaw" (some 0) with
  accessFlags := 49
  interfaces := #[]
  cf := some (fileOf pool1 16 #[] #[{ accessFlags := 1, nameIndex := 5, descriptorIndex := 6, attributes := #[] }, { accessFlags := 10, nameIndex := 19, descriptorIndex := 14, attributes := #[] }, { accessFlags := 9, nameIndex := 22, descriptorIndex := 23, attributes := #[] }] 49 2 #[] #[])
  fields := #[]
  methods := #[k1m0, k1m1, k1m2]
  instanceTypes := #[]
  staticTypes := #[]
  resolved := Array.replicate 27 none
  statics := none }

def pool2 : Array CpInfo := pool [(2, .class_ 4), (1, u "java/lang/Object"), (3, .class_ 10), (1, u "com/example/uriel/uriel/ByResourceId"), (0, u "everyId"), (0, u "[I"), (2, u "filed"), (2, u "next"), (2, u "keys"), (2, u "first"), (2, u "last"), (2, u "ids"), (0, u "Lcom/example/uriel/uriel/ResourceIds;"), (4, u "everyIdCount"), (0, u "I"), (9, u "(I)I"), (19, u "filings"), (2, u "used"), (5, u "mixed"), (0, .integer 2246822507), (0, .integer 3266489909)] 16

def k2c0 : Code := { maxStack := 3, maxLocals := 2, code := prog_1_method_9_code, exceptionTable := #[], attributes := #[] }
def k2m0 : Method := { name := "mixed", desc := "(I)I", sig := { parameters := [.int], returnType := some .int }, accessFlags := 8, code := some k2c0 }
/-- com/example/uriel/uriel/ByResourceId -/
def k2 : Class := { plain "com/example/uriel/uriel/ByResourceId" (some 0) with
  accessFlags := 32
  interfaces := #[]
  cf := some (fileOf pool2 8 #[] #[{ accessFlags := 8, nameIndex := 76, descriptorIndex := 47, attributes := #[] }] 32 2 #[] #[{ accessFlags := 18, nameIndex := 30, descriptorIndex := 31, attributes := #[] }, { accessFlags := 2, nameIndex := 11, descriptorIndex := 12, attributes := #[] }, { accessFlags := 2, nameIndex := 36, descriptorIndex := 37, attributes := #[] }, { accessFlags := 2, nameIndex := 15, descriptorIndex := 12, attributes := #[] }, { accessFlags := 2, nameIndex := 18, descriptorIndex := 12, attributes := #[] }, { accessFlags := 2, nameIndex := 67, descriptorIndex := 37, attributes := #[] }, { accessFlags := 2, nameIndex := 21, descriptorIndex := 12, attributes := #[] }, { accessFlags := 2, nameIndex := 24, descriptorIndex := 12, attributes := #[] }, { accessFlags := 2, nameIndex := 27, descriptorIndex := 12, attributes := #[] }, { accessFlags := 2, nameIndex := 70, descriptorIndex := 37, attributes := #[] }])
  fields := #[{ name := "ids", type := (.object "com/example/uriel/uriel/ResourceIds"), accessFlags := 18, slot := 0, constantValue := 0 }, { name := "everyId", type := (.array .int), accessFlags := 2, slot := 1, constantValue := 0 }, { name := "everyIdCount", type := .int, accessFlags := 2, slot := 2, constantValue := 0 }, { name := "filed", type := (.array .int), accessFlags := 2, slot := 3, constantValue := 0 }, { name := "next", type := (.array .int), accessFlags := 2, slot := 4, constantValue := 0 }, { name := "filings", type := .int, accessFlags := 2, slot := 5, constantValue := 0 }, { name := "keys", type := (.array .int), accessFlags := 2, slot := 6, constantValue := 0 }, { name := "first", type := (.array .int), accessFlags := 2, slot := 7, constantValue := 0 }, { name := "last", type := (.array .int), accessFlags := 2, slot := 8, constantValue := 0 }, { name := "used", type := .int, accessFlags := 2, slot := 9, constantValue := 0 }]
  methods := #[k2m0]
  instanceTypes := #[(.object "com/example/uriel/uriel/ResourceIds"), (.array .int), .int, (.array .int), (.array .int), .int, (.array .int), (.array .int), (.array .int), .int]
  staticTypes := #[]
  resolved := Array.replicate 95 none
  statics := none }

def pool3 : Array CpInfo := pool [(1, u "java/lang/Cloneable"), (0, .class_ 1), (0, u "java/lang/Object"), (0, .class_ 3)] 3

/-- java/lang/Cloneable -/
def k3 : Class := { plain "java/lang/Cloneable" (some 0) with
  accessFlags := 1537
  interfaces := #[]
  cf := some (fileOf pool3 2 #[] #[] 1537 4 #[] #[])
  fields := #[]
  methods := #[]
  instanceTypes := #[]
  staticTypes := #[]
  resolved := Array.replicate 8 none
  statics := none }

def pool4 : Array CpInfo := pool [(1, u "java/io/Serializable"), (0, .class_ 1), (0, u "java/lang/Object"), (0, .class_ 3)] 3

/-- java/io/Serializable -/
def k4 : Class := { plain "java/io/Serializable" (some 0) with
  accessFlags := 1537
  interfaces := #[]
  cf := some (fileOf pool4 2 #[] #[] 1537 4 #[] #[])
  fields := #[]
  methods := #[]
  instanceTypes := #[]
  staticTypes := #[]
  resolved := Array.replicate 8 none
  statics := none }

/-- the primitive byte -/
def k5 : Class := { plain "byte" none with kind := .primitive 'B', accessFlags := 0x411 }
/-- [B -/
def k6 : Class := { plain "[B" (some 0) with kind := .array 5 .byte, interfaces := #[3, 4], accessFlags := 1041 }

/-- the primitive int -/
def k7 : Class := { plain "int" none with kind := .primitive 'I', accessFlags := 0x411 }
/-- [I -/
def k8 : Class := { plain "[I" (some 0) with kind := .array 7 .int, interfaces := #[3, 4], accessFlags := 1041 }

def heap : Heap := #[]
def classes : Array Class := #[k0, k1, k2, k3, k4, k5, k6, k7, k8]
def interned : List (Array UInt16 × Addr) := []
def slotsUsed : Nat := 0
def theMethod : MethodId := ⟨1, 2⟩
def args0 : Array Value := #[.int 5]
def aboutOver (below : List Frame) : State where
  vm := { classes := classes, interned := interned.toArray }
  heap := heap
  slotsUsed := slotsUsed
  threads := #[{ frames := .invoking theMethod args0 :: below }]
def below0 : List Frame := [.native { method := ⟨0, 0⟩, args := #[] }]
def about1 : State := aboutOver below0
def p0 : Program := .bare "" "" ""
def e0 : Env := launch0.env 0 0 0
theorem w_frames : about1.frames = Frame.invoking theMethod args0 :: below0 := rfl
set_option maxRecDepth 65536 in
theorem w_args : argsFit about1.vm theMethod args0 = true := by decide +kernel
set_option maxRecDepth 65536 in
theorem w_heap : heapFits about1 = true := by decide +kernel
set_option maxRecDepth 65536 in
theorem w_runnable : about1.curStatus? = some .runnable := by decide +kernel
set_option maxRecDepth 65536 in
theorem w_alone : about1.alone = true := by decide +kernel
set_option maxRecDepth 65536 in
theorem w_named : about1.methodNamed? x = some theMethod := by decide +kernel
set_option maxRecDepth 65536 in
theorem w_hears : about1.hears theMethod below0 = true := by decide +kernel
set_option maxRecDepth 65536 in
theorem w_ripe : about1.ripe theMethod args0 below0 = true := by decide +kernel
theorem w_running : about1.status = .running := rfl
set_option maxRecDepth 65536 in
theorem w_room : about1.hasRoom e0.platform room_1 = true :=
  launch0.hasRoom_least _ room_1 (by decide +kernel) (by decide +kernel) (by decide +kernel) (by decide +kernel) (by decide +kernel) (by decide +kernel)
theorem allAtoms_all (ts : List Jvm.Cond) (a : Array Jvm.Value) (st : Jvm.State) : (allAtoms ts).before a st = ts.all (fun c => c.before a st) := by
  induction ts with
  | nil => rfl
  | cons c t ih =>
    show (Jvm.Cond.and c (allAtoms t)).before a st = _
    rw [Jvm.Cond.before_and, ih, List.all_cons]
def words1 : List Jvm.Cond := Jvm.Cond.code x code maxLocals ret :: tables_1
/-- a 'code' word, met by the world's own term for the bytes: nothing is compared byte by byte -/
theorem code_word {y : MethodName} {bytes : ByteArray} {mx : Nat} {rt : Option FieldType} {a : Array Value} {s : State} {m : MethodId} {meth : Method} {c : Code} (h1 : s.methodNamed? y = some m) (h2 : s.vm.method? m = some meth) (h3 : meth.code = some c) (h4 : c.code = bytes)
    (h5 : (c.maxLocals == mx && c.exceptionTable.isEmpty && decide (c.maxStack ≤ mostOperands) && decide (meth.sig.returnType = rt) && !meth.locks && decide (parseMethodDescriptor y.desc = some meth.sig)) = true) : (Jvm.Cond.code y bytes mx rt).before a s = true := by
  simp only [Bool.and_eq_true, beq_iff_eq, Bool.not_eq_true', decide_eq_true_eq] at h5
  obtain ⟨⟨⟨⟨⟨g1, g2⟩, g3⟩, g4⟩, g5⟩, g6⟩ := h5
  simp [Cond.before, Cond.holds, Cond.value, h1, h2, h3, h4, g1, g2, g3, g4, g5, g6]
def isCode : Jvm.Cond → Bool
  | .code _ _ _ _ => true
  | _ => false
theorem all_split {L : List Jvm.Cond} {P : Jvm.Cond → Bool} (h1 : L.all (fun c => isCode c || P c) = true) (h2 : ∀ c ∈ L.filter isCode, P c = true) : L.all P = true := by
  refine List.all_eq_true.mpr fun c hc => ?_
  have h := List.all_eq_true.mp h1 c hc
  rcases Bool.eq_false_or_eq_true (isCode c) with hi | hi
  · exact h2 c (List.mem_filter.mpr ⟨hc, hi⟩)
  · simpa [hi] using h
set_option maxRecDepth 65536 in
theorem w_c0 : (Jvm.Cond.code x code maxLocals ret).before args0 about1 = true := code_word (m := ⟨1, 2⟩) (meth := k1m2) (c := k1c2) (by decide +kernel) rfl rfl rfl (by decide +kernel)
set_option maxRecDepth 65536 in
theorem w_c1 : (Jvm.Cond.code ({ cls := "com/example/uriel/uriel/ByResourceId", name := "mixed", desc := "(I)I" } : Jvm.MethodName) prog_1_method_9_code (2 : Nat) (Option.some Jvm.ClassFile.FieldType.int)).before args0 about1 = true := code_word (m := ⟨2, 0⟩) (meth := k2m0) (c := k2c0) (by decide +kernel) rfl rfl rfl (by decide +kernel)
set_option maxRecDepth 65536 in
theorem w_c2 : (Jvm.Cond.code ({ cls := "com/example/uriel/uriel/ByResourceIdMixedPinLaw", name := "unmix", desc := "(I)I" } : Jvm.MethodName) method_2_code (2 : Nat) (Option.some Jvm.ClassFile.FieldType.int)).before args0 about1 = true := code_word (m := ⟨1, 1⟩) (meth := k1m1) (c := k1c1) (by decide +kernel) rfl rfl rfl (by decide +kernel)
def codes1 : List Jvm.Cond := [Jvm.Cond.code x code maxLocals ret, Jvm.Cond.code ({ cls := "com/example/uriel/uriel/ByResourceId", name := "mixed", desc := "(I)I" } : Jvm.MethodName) prog_1_method_9_code (2 : Nat) (Option.some Jvm.ClassFile.FieldType.int), Jvm.Cond.code ({ cls := "com/example/uriel/uriel/ByResourceIdMixedPinLaw", name := "unmix", desc := "(I)I" } : Jvm.MethodName) method_2_code (2 : Nat) (Option.some Jvm.ClassFile.FieldType.int)]
set_option maxRecDepth 65536 in
theorem codes_eq : words1.filter isCode = codes1 := rfl
theorem w_codes : ∀ c ∈ words1.filter isCode, c.before args0 about1 = true := by
  rw [codes_eq]
  intro c hc
  simp only [codes1, List.mem_cons, List.not_mem_nil, or_false] at hc
  rcases hc with rfl | rfl | rfl
  · exact w_c0
  · exact w_c1
  · exact w_c2
set_option maxRecDepth 65536 in
theorem w_t1 : words1.all (fun c => isCode c || c.before args0 about1) = true := by decide +kernel
theorem w_tables : (allAtoms (Jvm.Cond.code x code maxLocals ret :: tables_1)).before args0 about1 = true := by
  rw [allAtoms_all]
  show words1.all (fun c => c.before args0 about1) = true
  refine all_split ?_ w_codes
  rw [w_t1]
set_option maxRecDepth 65536 in
theorem w_case : (Jvm.Cond.and given_1 narrow_1).before args0 about1 = true := by decide +kernel
theorem w_applies : (headSpec (Jvm.Cond.code x code maxLocals ret :: tables_1) room_1).applies x e0.platform about1 = true :=
  (Spec.applies_iff w_frames).mpr ⟨w_running, w_runnable, w_alone, w_named, w_hears, w_ripe, w_room, w_tables⟩
theorem atStart : AtStart classFile x code maxLocals ret World_1 tables_1 room_1 Calls_1 rest_1 Pre_1 launch0 p0 e0 about1 theMethod args0 below0 :=
  ⟨lists_1, trivial, launch0.admits_env _ _ _, launch0.least_env, fairChoices_fair.cas, fairChoices_fair.clock, w_frames, w_args, w_heap, w_applies, trivial, trivial, w_case⟩
end start1
theorem witness_1 : WitnessClaimed_1 := ⟨start1.p0, start1.e0, start1.about1, start1.theMethod, start1.args0, start1.below0, start1.atStart⟩
end Jvm.Pilot.@@N@@
