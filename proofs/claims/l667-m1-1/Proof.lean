import JvmDerived
import JvmDerived.Pilot.@@N@@Statement
import JvmDerived.Pilot.@@N@@Code
set_option linter.unusedVariables false
set_option linter.unusedSimpArgs false
namespace Jvm.RoadKit
open Sem ClassFile Op Lib Jvm.Stand Jvm.Free Jvm.LawKit
section New
variable {p : Program} {l : Launch} {e : Env} {R : Room} {s : State} {m : MethodId} {args : Array Value} {below : List Frame} {meth : Method} {c : Code} {T : State} {locs : List Loc} {cells slots : Nat}
theorem retI (X : Stand p l e R s m args below meth c T locs cells slots) (hx : p.tables.exec = Jvm.exec) {pc : Nat} {Ls : Array Slot} {z : Int32} {rest : List Value} (hret : meth.sig.returnType = some .int) (hd : decode c.code pc = .ok (.ireturn, 1)) {fs : List Frame}
    (hl : ∀ (f : JFrame) (acts : List Action), f.method = m → f.locked = none → f.entered = [] → (doReturn e (T.setTop f) acts (some (.int z))).1 = T.setFrames fs) : Steps p.tables e below (T.setTop (mkF m pc Ls (.int z :: rest))) (T.setFrames fs) := by
  have hm' : T.vm.method? m = some meth := X.method'
  have hn : narrow .int (.int z) = .int z := rfl
  show Steps p.tables e below (T.setTop { method := m, pc := pc, locals := Ls, stack := _ :: rest, locked := none }) _
  jvm_step X.here [X.here.top, hx, hd, hm', hret, hn]
  first | (intro acts; rw [hl _ acts rfl rfl rfl]) | rw [hl _ _ rfl rfl rfl]
  exact Steps.refl _
end New
end Jvm.RoadKit
namespace Jvm.Pilot.@@N@@
open Jvm Jvm.ClassFile Sem Op Lib Jvm.Free Jvm.Stand Jvm.LawKit Jvm.RoadKit Bundle Jvm.Pilot.@@N@@.Jvm.D
/-- what is still to come: from the frame g at T the run comes to an end that Q takes -/
def own_WP (p : Program) (e : Env) (below : List Frame) (Q : Outcome → State → Prop) (T : State) (g : JFrame) : Prop :=
  ∃ s₂ o, Steps p.tables e below (T.setTop g) s₂ ∧ s₂.status = .running ∧ Ended s₂ below o ∧ Q o s₂
def own_Q (s : State) (P : Option Value → Heap → List Loc → Prop) (C S : Nat) (o : Outcome) (U : State) : Prop :=
  ∃ v L, o = .returned v ∧ P v U.heap L ∧ FrameEnd s o U L C S
def own_Ctx (p : Program) (s : State) (m : MethodId) (meth : Method) (c : Code) (Z : State) (y : MethodName) (bytes : ByteArray) (maxL : Nat) (rt : Option FieldType) : Prop :=
  p.tables.exec = Jvm.exec ∧ Z.Warmed39 s.vm ∧ c.code = bytes ∧ c.maxLocals = maxL ∧ s.vm.findClass y.cls = some m.cls ∧ meth.name = y.name ∧ meth.sig.returnType = rt ∧ meth.locks = false
def own_Met (l : Launch) (Z : State) (y : MethodName) (bytes : ByteArray) (maxL : Nat) (rt : Option FieldType) (ws : List Jvm.Cond) (rm : Room) (as' : Array Value) (h : Heap) (P : Option Value → Heap → List Loc → Prop) : Prop :=
  MetFree l y (head1 (Jvm.Cond.code y bytes maxL rt :: ws) rm) (fun a U => a = as' ∧ Z.Warmed39 U.vm ∧ U.heap = h) (fun _ _ _ _ _ => True) (fun _ U o U' => ∃ v L, o = .returned v ∧ P v U'.heap L ∧ FrameEnd U o U' L rm.cells rm.slots)
section Own
variable {p : Program} {l : Launch} {e : Env} {R : Room} {s : State} {m : MethodId} {args : Array Value} {below : List Frame} {meth : Method} {c : Code} {T T' : State} {locs : List Loc} {cells slots : Nat} {Z : State} {a0 : Array Value} {y : MethodName} {bytes : ByteArray} {maxL : Nat} {rt : Option FieldType} {P : Option Value → Heap → List Loc → Prop} {Q : Outcome → State → Prop}
theorem own_go {g g' : JFrame} (st : ∀ t, Steps p.tables e below (T'.setTop g') t → Steps p.tables e below (T.setTop g) t) (h : own_WP p e below Q T' g') : own_WP p e below Q T g := by
  obtain ⟨s₂, o, h1, h2⟩ := h
  exact ⟨s₂, o, st _ h1, h2⟩
theorem own_body {ws : List Jvm.Cond} {rm : Room} {as' : Array Value} {h : Heap} (hp : plainFor y = true)
    (body : ∀ p e s m below meth c s₁, own_Ctx p s m meth c Z y bytes maxL rt → Stand p l e rm s m as' below meth c s₁ [] 0 0 → s₁.heap = h → own_WP p e below (own_Q s P rm.cells rm.slots) s₁ (entryFrame m as' maxL)) :
    own_Met l Z y bytes maxL rt ws rm as' h P := by
  refine MetFree.of_bodySF hp hisR ?_
  intro p e s m args below meth c s₁ Bd hml0 hP hK
  obtain ⟨rfl, hZ, hh⟩ := hP
  exact body p e s m below meth c s₁ ⟨Bd.exec, hZ, Bd.bytes, hml0, findClass_of_methodNamed Bd.named, (name_of_methodNamed Bd.named Bd.method).1, Bd.returns, Bd.notSynchronized⟩ (Stand.of_body Bd) (by rw [← hh, Bd.state]; rfl)
theorem own_cast {g g' : JFrame} (q : g = g') (k : own_WP p e below Q T g') : own_WP p e below Q T g := q ▸ k
theorem own_retI (X : Stand p l e R s m args below meth c T locs cells slots) (C : own_Ctx p s m meth c Z y bytes maxL (some .int)) {pc : Nat} {Ls : Array Slot} {z : Int32} {rest : List Value} {CC SS : Nat}
    (hd : decode c.code pc = .ok (.ireturn, 1)) (hP : P (some (.int z)) T.heap locs) (hc : cells ≤ CC) (hs : slots ≤ SS) : own_WP p e below (own_Q s P CC SS) T (mkF m pc Ls (.int z :: rest)) := by
  obtain ⟨hx, -, -, -, -, -, hr, hlk⟩ := C
  obtain ⟨fs, hrr, hrun, hended, hW, hsame⟩ := X.leave (v := some (.int z)) (fun h => by rw [hr] at h; cases h) hlk
  exact ⟨_, _, retI X hx hr hd hrr, hrun, hended, _, _, rfl, hP, ⟨_, rfl⟩, hW, hsame.mono hc hs⟩
theorem own_retN {t : FieldType} (X : Stand p l e R s m args below meth c T locs cells slots) (C : own_Ctx p s m meth c Z y bytes maxL (some t)) (ht : t = .boolean ∨ t = .byte ∨ t = .char ∨ t = .short) {pc : Nat} {Ls : Array Slot} {z : Int32} {rest : List Value} {CC SS : Nat}
    (hd : decode c.code pc = .ok (.ireturn, 1)) (hP : P (some (.int (nar t z))) T.heap locs) (hc : cells ≤ CC) (hs : slots ≤ SS) : own_WP p e below (own_Q s P CC SS) T (mkF m pc Ls (.int z :: rest)) := by
  obtain ⟨hx, -, -, -, -, -, hr, hlk⟩ := C
  obtain ⟨fs, hrr, hrun, hended, hW, hsame⟩ := X.leave (v := some (.int (nar t z))) (fun h => by rw [hr] at h; cases h) hlk
  exact ⟨_, _, retN X hx hr ht hd hrr, hrun, hended, _, _, rfl, hP, ⟨_, rfl⟩, hW, hsame.mono hc hs⟩
theorem own_retL (X : Stand p l e R s m args below meth c T locs cells slots) (C : own_Ctx p s m meth c Z y bytes maxL (some .long)) {pc : Nat} {Ls : Array Slot} {z : Int64} {CC SS : Nat}
    (hd : decode c.code pc = .ok (.lreturn, 1)) (hP : P (some (.long z)) T.heap locs) (hc : cells ≤ CC) (hs : slots ≤ SS) : own_WP p e below (own_Q s P CC SS) T (mkF m pc Ls [.long z]) := by
  obtain ⟨hx, -, -, -, -, -, hr, hlk⟩ := C
  obtain ⟨fs, hrr, hrun, hended, hW, hsame⟩ := X.leave (v := some (.long z)) (fun h => by rw [hr] at h; cases h) hlk
  exact ⟨_, _, X.lreturnOut hx hr hd hrr, hrun, hended, _, _, rfl, hP, ⟨_, rfl⟩, hW, hsame.mono hc hs⟩
theorem own_retV (X : Stand p l e R s m args below meth c T locs cells slots) (C : own_Ctx p s m meth c Z y bytes maxL none) {pc : Nat} {Ls : Array Slot} {CC SS : Nat}
    (hd : decode c.code pc = .ok (.return_, 1)) (hP : P none T.heap locs) (hc : cells ≤ CC) (hs : slots ≤ SS) : own_WP p e below (own_Q s P CC SS) T (mkF m pc Ls []) := by
  obtain ⟨hx, -, -, -, -, -, hr, hlk⟩ := C
  obtain ⟨fs, hrr, hrun, hended, hW, hsame⟩ := X.leave (v := none) (fun _ => rfl) hlk
  exact ⟨_, _, X.returnOut hx hr hd hrr, hrun, hended, _, _, rfl, hP, ⟨_, rfl⟩, hW, hsame.mono hc hs⟩
theorem own_retA {t : FieldType} (X : Stand p l e R s m args below meth c T locs cells slots) (C : own_Ctx p s m meth c Z y bytes maxL (some t)) (ht : t.isReference = true) {pc : Nat} {Ls : Array Slot} {a : Addr} {CC SS : Nat}
    (hd : decode c.code pc = .ok (.areturn, 1)) (hP : P (some (.ref a)) T.heap locs) (hc : cells ≤ CC) (hs : slots ≤ SS) : own_WP p e below (own_Q s P CC SS) T (mkF m pc Ls [.ref a]) := by
  obtain ⟨hx, -, -, -, -, -, hr, hlk⟩ := C
  obtain ⟨fs, hrr, hrun, hended, hW, hsame⟩ := X.leave (v := some (.ref a)) (fun h => by rw [hr] at h; cases h) hlk
  exact ⟨_, _, X.areturnOut hx rfl hr ht hd hrr, hrun, hended, _, _, rfl, hP, ⟨_, rfl⟩, hW, hsame.mono hc hs⟩
/-- a static call by the callee's contract -/
theorem own_callS (X : Stand p l e R s m args below meth c T locs cells slots) (C : own_Ctx p s m meth c Z y bytes maxL rt) {idx : Nat} {y' : MethodName} {bytes' : ByteArray} {maxL' : Nat} {rt' : Option FieldType} {rm' : Room} {argsL rest : List Value} {h : Heap} {P' : Option Value → Heap → List Loc → Prop}
    (hM : own_Met l Z y' bytes' maxL' rt' [] rm' argsL.toArray h P') (w1 : (Cond.methodLink y.cls idx y').before a0 Z = true) (w2 : (Cond.static y').before a0 Z = true) (w3 : (Cond.initialized y'.cls).before a0 Z = true) (w4 : (Cond.code y' bytes' maxL' rt').before a0 Z = true)
    (hy : y'.cls ≠ "java/lang/invoke/MethodHandle" ∧ y'.cls ≠ "java/lang/invoke/VarHandle") (eT : T.heap = h) {W : Nat} {pc : Nat} {Ls : Array Slot} (hsz : Ls.size = maxL) (hlen : ∀ sig, parseMethodDescriptor y'.desc = some sig → argsL.length = sig.parameters.length)
    {stk : List Value} (hst : stk = argsL.reverse ++ rest) (hW : (rest.map fun v => v.category).sum ≤ W) (hd : decode c.code pc = .ok (.invokestatic idx, 3))
    (hf : rm'.frames + 1 ≤ R.frames) (hl : W + (maxL' + 11) + rm'.locals ≤ R.locals) (hc : cells + rm'.cells ≤ R.cells) (hs : slots + rm'.slots ≤ R.slots) :
    ∃ T' v L, Stand p l e R s m args below meth c T' (locs ++ L) (cells + rm'.cells) (slots + rm'.slots) ∧ P' v T'.heap L ∧ ∀ t, Steps p.tables e below (T'.setTop (mkF m (pc + 3) Ls (v.toList ++ rest))) t → Steps p.tables e below (T.setTop (mkF m pc Ls stk)) t := by
  obtain ⟨hx, hZ, hby, hml, hown, hnm, hr, hlk⟩ := C
  obtain ⟨v, _, ⟨T', L', k', n'⟩, -, X', ⟨L, hQ, hl', hk', hn'⟩, st⟩ := Jvm.LawKit.callS X hx (y := y') hown (mvT hZ w1) (mvT hZ w2) (mvT hZ w3) (mvT hZ w4) hy (backOf (W := W) hM hZ w4 w3 hf hl) (g := mkF m pc Ls stk) rfl (by rw [hml]; exact hsz) (argsL := argsL) (rest := rest) hlen hst (by show 2 * 0 + _ ≤ _; omega) hd (fun _ _ => ⟨rfl, eT, hc, hs⟩)
  dsimp only [Pt.U, Pt.locs, Pt.cells, Pt.slots] at X' hl' hk' hn' st hQ
  subst hl' hk' hn'
  exact ⟨T', v, L, X', hQ, st⟩
/-- a constructor by its contract -/
theorem own_callN (X : Stand p l e R s m args below meth c T locs cells slots) (C : own_Ctx p s m meth c Z y bytes maxL rt) {idx : Nat} {y' : MethodName} {bytes' : ByteArray} {maxL' : Nat} {rm' : Room} {a : Addr} {argsL rest : List Value} {h : Heap} {P' : Option Value → Heap → List Loc → Prop}
    (hM : own_Met l Z y' bytes' maxL' none [] rm' (.ref a :: argsL).toArray h P') (hyn : y'.name = "<init>") (w1 : (Cond.methodLink y.cls idx y').before a0 Z = true) (w2 : (Cond.instanceMethod y').before a0 Z = true) (w3 : (Cond.initialized y'.cls).before a0 Z = true) (w4 : (Cond.code y' bytes' maxL' none).before a0 Z = true)
    (hy : y'.cls ≠ "java/lang/invoke/MethodHandle" ∧ y'.cls ≠ "java/lang/invoke/VarHandle") (eT : T.heap = h) {W : Nat} {pc : Nat} {Ls : Array Slot} (hsz : Ls.size = maxL) (hlen : ∀ sig, parseMethodDescriptor y'.desc = some sig → argsL.length = sig.parameters.length)
    {stk : List Value} (hst : stk = argsL.reverse ++ .ref a :: rest) (hW : (rest.map fun v => v.category).sum ≤ W) (hd : decode c.code pc = .ok (.invokespecial idx, 3))
    (hf : rm'.frames + 1 ≤ R.frames) (hl : W + (maxL' + 11) + rm'.locals ≤ R.locals) (hc : cells + rm'.cells ≤ R.cells) (hs : slots + rm'.slots ≤ R.slots) :
    ∃ T' v L, Stand p l e R s m args below meth c T' (locs ++ L) (cells + rm'.cells) (slots + rm'.slots) ∧ P' v T'.heap L ∧ ∀ t, Steps p.tables e below (T'.setTop (mkF m (pc + 3) Ls (v.toList ++ rest))) t → Steps p.tables e below (T.setTop (mkF m pc Ls stk)) t := by
  obtain ⟨hx, hZ, hby, hml, hown, hnm, hr, hlk⟩ := C
  obtain ⟨v, _, ⟨T', L', k', n'⟩, -, X', ⟨L, hQ, hl', hk', hn'⟩, st⟩ := X.specialBack hx (y := y') hyn hown (mvT hZ w1) (mvT hZ w2) (mvT hZ w4) hy (backOf (W := W) hM hZ w4 w3 hf hl) (g := mkF m pc Ls stk) rfl (by rw [hml]; exact hsz) (Steps.refl _) (a := a) (argsL := argsL) (rest := rest) hlen hst (by show 2 * 0 + _ ≤ _; omega) hd (fun _ _ => ⟨rfl, eT, hc, hs⟩)
  dsimp only [Pt.U, Pt.locs, Pt.cells, Pt.slots] at X' hl' hk' hn' st hQ
  subst hl' hk' hn'
  exact ⟨T', v, L, X', hQ, fun t k => st.trans k⟩
/-- an instance method by the contract of the body that is selected (the class that declares it is the receiver's own) -/
theorem own_callV (X : Stand p l e R s m args below meth c T locs cells slots) (C : own_Ctx p s m meth c Z y bytes maxL rt) {idx : Nat} {y' : MethodName} {bytes' : ByteArray} {maxL' : Nat} {rt' : Option FieldType} {rm' : Room} {a : Addr} {argsL rest : List Value} {h : Heap} {P' : Option Value → Heap → List Loc → Prop}
    (hM : own_Met l Z y' bytes' maxL' rt' [] rm' (.ref a :: argsL).toArray h P') (w1 : (Cond.methodLink y.cls idx y').before a0 Z = true) (wd : (Cond.declares y').before a0 Z = true) (wsel : (Cond.selects y'.cls y' y').before a0 Z = true) (w2 : (Cond.instanceMethod y').before a0 Z = true) (w3 : (Cond.initialized y'.cls).before a0 Z = true) (w4 : (Cond.code y' bytes' maxL' rt').before a0 Z = true)
    (hy : y'.cls ≠ "java/lang/invoke/MethodHandle" ∧ y'.cls ≠ "java/lang/invoke/VarHandle") (eT : T.heap = h) (E : Exa Z h a y'.cls) {W : Nat} {pc : Nat} {Ls : Array Slot} (hsz : Ls.size = maxL) (hlen : ∀ sig, parseMethodDescriptor y'.desc = some sig → argsL.length = sig.parameters.length)
    {stk : List Value} (hst : stk = argsL.reverse ++ .ref a :: rest) (hW : (rest.map fun v => v.category).sum ≤ W) (hd : decode c.code pc = .ok (.invokevirtual idx, 3))
    (hf : rm'.frames + 1 ≤ R.frames) (hl : W + (maxL' + 11) + rm'.locals ≤ R.locals) (hc : cells + rm'.cells ≤ R.cells) (hs : slots + rm'.slots ≤ R.slots) :
    ∃ T' v L, Stand p l e R s m args below meth c T' (locs ++ L) (cells + rm'.cells) (slots + rm'.slots) ∧ P' v T'.heap L ∧ ∀ t, Steps p.tables e below (T'.setTop (mkF m (pc + 3) Ls (v.toList ++ rest))) t → Steps p.tables e below (T.setTop (mkF m pc Ls stk)) t := by
  obtain ⟨hx, hZ, hby, hml, hown, hnm, hr, hlk⟩ := C
  obtain ⟨cq, kq, qa, qb, qc⟩ := isOf hZ eT E
  obtain ⟨v, _, ⟨T', L', k', n'⟩, -, X', ⟨L, hQ, hl', hk', hn'⟩, st⟩ := X.virtualBack hx (y := y') (z := y') hown (mvT hZ w1) (mvT hZ wd) (notFace_of_selects (args := #[]) (mvT hZ wsel)) (mvT hZ wsel) (mvT hZ w2) hy (backOf (W := W) hM hZ w4 w3 hf hl) qa qc (g := mkF m pc Ls stk) rfl (by rw [hml]; exact hsz) (Steps.refl _) (argsL := argsL) (rest := rest) hlen hst (by show 2 * 0 + _ ≤ _; omega) hd (fun _ _ => ⟨rfl, eT, hc, hs⟩)
  dsimp only [Pt.U, Pt.locs, Pt.cells, Pt.slots] at X' hl' hk' hn' st hQ
  subst hl' hk' hn'
  exact ⟨T', v, L, X', hQ, fun t k => st.trans k⟩
end Own
end Jvm.Pilot.@@N@@
namespace Jvm.Pilot.@@N@@
open Jvm Jvm.ClassFile Sem Op Lib Jvm.Free Jvm.Stand Jvm.LawKit Jvm.RoadKit Bundle Jvm.Pilot.@@N@@.Jvm.D
theorem d1_0 : decode prog_25_method_8_code 0 = .ok (.iload_n 0, 1) := by decide +kernel
theorem d1_1 : decode prog_25_method_8_code 1 = .ok (.i2l, 1) := by decide +kernel
theorem d1_2 : decode prog_25_method_8_code 2 = .ok (.ldc2_w 127, 3) := by decide +kernel
theorem d1_5 : decode prog_25_method_8_code 5 = .ok (.lmul, 1) := by decide +kernel
theorem d1_6 : decode prog_25_method_8_code 6 = .ok (.lstore_n 1, 1) := by decide +kernel
theorem d1_7 : decode prog_25_method_8_code 7 = .ok (.lconst 1, 1) := by decide +kernel
theorem d1_8 : decode prog_25_method_8_code 8 = .ok (.lload_n 1, 1) := by decide +kernel
theorem d1_9 : decode prog_25_method_8_code 9 = .ok (.bipush 59, 2) := by decide +kernel
theorem d1_11 : decode prog_25_method_8_code 11 = .ok (.lushr, 1) := by decide +kernel
theorem d1_12 : decode prog_25_method_8_code 12 = .ok (.l2i, 1) := by decide +kernel
theorem d1_13 : decode prog_25_method_8_code 13 = .ok (.lshl, 1) := by decide +kernel
theorem d1_14 : decode prog_25_method_8_code 14 = .ok (.ldc2_w 129, 3) := by decide +kernel
theorem d1_17 : decode prog_25_method_8_code 17 = .ok (.lload_n 1, 1) := by decide +kernel
theorem d1_18 : decode prog_25_method_8_code 18 = .ok (.bipush 54, 2) := by decide +kernel
theorem d1_20 : decode prog_25_method_8_code 20 = .ok (.lushr, 1) := by decide +kernel
theorem d1_21 : decode prog_25_method_8_code 21 = .ok (.ldc2_w 131, 3) := by decide +kernel
theorem d1_24 : decode prog_25_method_8_code 24 = .ok (.land, 1) := by decide +kernel
theorem d1_25 : decode prog_25_method_8_code 25 = .ok (.l2i, 1) := by decide +kernel
theorem d1_26 : decode prog_25_method_8_code 26 = .ok (.lshl, 1) := by decide +kernel
theorem d1_27 : decode prog_25_method_8_code 27 = .ok (.lor, 1) := by decide +kernel
theorem d1_28 : decode prog_25_method_8_code 28 = .ok (.lreturn, 1) := by decide +kernel
def rmR1 : Room := { frames := 0, cells := 0, slots := 0, locals := 0 }
def f1_7 (x1 : Int64) : Int64 := (((1 : Int64) <<< (((XT.ushrL x1 (59 : Int32)).toInt32) &&& 0x3f).toInt64) ||| ((4294967296 : Int64) <<< ((((XT.ushrL x1 (54 : Int32)) &&& (31 : Int64)).toInt32) &&& 0x3f).toInt64))
set_option maxRecDepth 65536 in
set_option maxHeartbeats 40000000 in
theorem b1_7 {p : Program} {l : Launch} {e : Env} {s : State} {m : MethodId} {args : Array Value} {below : List Frame} {meth : Method} {c : Code} {T : State} {locs : List Loc} {Z : State} {a0 : Array Value} {h0 : Heap} {P : Option Value → Heap → List Loc → Prop} (hw : ∀ d ∈ tables_1, d.before a0 Z = true) (C : own_Ctx p s m meth c Z (⟨"com/example/elis/elis/ReadSet", "signatureOf", "(I)J"⟩ : MethodName) prog_25_method_8_code 3 (some .long))
    (X : Stand p l e rmR1 s m args below meth c T locs 0 0) (e0 : T.heap = h0) (x0 : Int32) (x1 : Int64) (r : Int64) (hv : f1_7 x1 = r) (hP : P (some (.long r)) h0 locs) :
    own_WP p e below (own_Q s P rmR1.cells rmR1.slots) T (mkF m 7 #[.val (.int x0), .val (.long x1), .second] []) := by
  obtain ⟨hx, hZ, hby, hml, hown, hnm, hret, hlk⟩ := id C
  unfold f1_7 at hv
  show own_WP p e below _ T (mkF m 7 #[.val (.int x0), .val (.long x1), .second] [])
  refine own_go (fun _ => XS.lconst X.here hx rfl (hb hby d1_7)) ?_
  show own_WP p e below _ T (mkF m 8 #[.val (.int x0), .val (.long x1), .second] [(.long (1 : Int64))])
  refine own_go (fun _ => XS.lloadN X.here hx rfl (hb hby d1_8) rfl) ?_
  show own_WP p e below _ T (mkF m 9 #[.val (.int x0), .val (.long x1), .second] [(.long x1), (.long (1 : Int64))])
  refine own_go (fun _ => XS.bipush X.here hx rfl (hb hby d1_9)) ?_
  show own_WP p e below _ T (mkF m 11 #[.val (.int x0), .val (.long x1), .second] [(.int (59 : Int32)), (.long x1), (.long (1 : Int64))])
  refine own_go (fun _ => XT.lushr X.here hx rfl (hb hby d1_11) rfl) ?_
  show own_WP p e below _ T (mkF m 12 #[.val (.int x0), .val (.long x1), .second] [(.long (XT.ushrL x1 (59 : Int32))), (.long (1 : Int64))])
  refine own_go (fun _ => XS.l2i X.here hx rfl (hb hby d1_12) rfl) ?_
  show own_WP p e below _ T (mkF m 13 #[.val (.int x0), .val (.long x1), .second] [(.int ((XT.ushrL x1 (59 : Int32)).toInt32)), (.long (1 : Int64))])
  refine own_go (fun _ => XS.lshl X.here hx rfl (hb hby d1_13) rfl) ?_
  show own_WP p e below _ T (mkF m 14 #[.val (.int x0), .val (.long x1), .second] [(.long ((1 : Int64) <<< (((XT.ushrL x1 (59 : Int32)).toInt32) &&& 0x3f).toInt64))])
  refine own_go (X.ldc2Long hx hown (mvT hZ (hw _ (List.mem_of_getElem? (i := 5) rfl))) (g := (mkF m 14 #[.val (.int x0), .val (.long x1), .second] [(.long ((1 : Int64) <<< (((XT.ushrL x1 (59 : Int32)).toInt32) &&& 0x3f).toInt64))])) rfl (hb hby d1_14)) ?_
  show own_WP p e below _ T (mkF m 17 #[.val (.int x0), .val (.long x1), .second] [(.long (4294967296 : Int64)), (.long ((1 : Int64) <<< (((XT.ushrL x1 (59 : Int32)).toInt32) &&& 0x3f).toInt64))])
  refine own_go (fun _ => XS.lloadN X.here hx rfl (hb hby d1_17) rfl) ?_
  show own_WP p e below _ T (mkF m 18 #[.val (.int x0), .val (.long x1), .second] [(.long x1), (.long (4294967296 : Int64)), (.long ((1 : Int64) <<< (((XT.ushrL x1 (59 : Int32)).toInt32) &&& 0x3f).toInt64))])
  refine own_go (fun _ => XS.bipush X.here hx rfl (hb hby d1_18)) ?_
  show own_WP p e below _ T (mkF m 20 #[.val (.int x0), .val (.long x1), .second] [(.int (54 : Int32)), (.long x1), (.long (4294967296 : Int64)), (.long ((1 : Int64) <<< (((XT.ushrL x1 (59 : Int32)).toInt32) &&& 0x3f).toInt64))])
  refine own_go (fun _ => XT.lushr X.here hx rfl (hb hby d1_20) rfl) ?_
  show own_WP p e below _ T (mkF m 21 #[.val (.int x0), .val (.long x1), .second] [(.long (XT.ushrL x1 (54 : Int32))), (.long (4294967296 : Int64)), (.long ((1 : Int64) <<< (((XT.ushrL x1 (59 : Int32)).toInt32) &&& 0x3f).toInt64))])
  refine own_go (X.ldc2Long hx hown (mvT hZ (hw _ (List.mem_of_getElem? (i := 6) rfl))) (g := (mkF m 21 #[.val (.int x0), .val (.long x1), .second] [(.long (XT.ushrL x1 (54 : Int32))), (.long (4294967296 : Int64)), (.long ((1 : Int64) <<< (((XT.ushrL x1 (59 : Int32)).toInt32) &&& 0x3f).toInt64))])) rfl (hb hby d1_21)) ?_
  show own_WP p e below _ T (mkF m 24 #[.val (.int x0), .val (.long x1), .second] [(.long (31 : Int64)), (.long (XT.ushrL x1 (54 : Int32))), (.long (4294967296 : Int64)), (.long ((1 : Int64) <<< (((XT.ushrL x1 (59 : Int32)).toInt32) &&& 0x3f).toInt64))])
  refine own_go (fun _ => XS.land X.here hx rfl (hb hby d1_24) rfl) ?_
  show own_WP p e below _ T (mkF m 25 #[.val (.int x0), .val (.long x1), .second] [(.long ((XT.ushrL x1 (54 : Int32)) &&& (31 : Int64))), (.long (4294967296 : Int64)), (.long ((1 : Int64) <<< (((XT.ushrL x1 (59 : Int32)).toInt32) &&& 0x3f).toInt64))])
  refine own_go (fun _ => XS.l2i X.here hx rfl (hb hby d1_25) rfl) ?_
  show own_WP p e below _ T (mkF m 26 #[.val (.int x0), .val (.long x1), .second] [(.int (((XT.ushrL x1 (54 : Int32)) &&& (31 : Int64)).toInt32)), (.long (4294967296 : Int64)), (.long ((1 : Int64) <<< (((XT.ushrL x1 (59 : Int32)).toInt32) &&& 0x3f).toInt64))])
  refine own_go (fun _ => XS.lshl X.here hx rfl (hb hby d1_26) rfl) ?_
  show own_WP p e below _ T (mkF m 27 #[.val (.int x0), .val (.long x1), .second] [(.long ((4294967296 : Int64) <<< ((((XT.ushrL x1 (54 : Int32)) &&& (31 : Int64)).toInt32) &&& 0x3f).toInt64)), (.long ((1 : Int64) <<< (((XT.ushrL x1 (59 : Int32)).toInt32) &&& 0x3f).toInt64))])
  refine own_go (fun _ => XS.lor X.here hx rfl (hb hby d1_27) rfl) ?_
  show own_WP p e below _ T (mkF m 28 #[.val (.int x0), .val (.long x1), .second] [(.long (((1 : Int64) <<< (((XT.ushrL x1 (59 : Int32)).toInt32) &&& 0x3f).toInt64) ||| ((4294967296 : Int64) <<< ((((XT.ushrL x1 (54 : Int32)) &&& (31 : Int64)).toInt32) &&& 0x3f).toInt64)))])
  subst hv e0; exact own_retL X C (hb hby d1_28) hP (by decide) (by decide)
def f1_0 (x0 : Int32) : Int64 := (f1_7 ((x0.toInt64) * (-7046029254386353131 : Int64)))
set_option maxRecDepth 65536 in
set_option maxHeartbeats 40000000 in
theorem b1_0 {p : Program} {l : Launch} {e : Env} {s : State} {m : MethodId} {args : Array Value} {below : List Frame} {meth : Method} {c : Code} {T : State} {locs : List Loc} {Z : State} {a0 : Array Value} {h0 : Heap} {P : Option Value → Heap → List Loc → Prop} (hw : ∀ d ∈ tables_1, d.before a0 Z = true) (C : own_Ctx p s m meth c Z (⟨"com/example/elis/elis/ReadSet", "signatureOf", "(I)J"⟩ : MethodName) prog_25_method_8_code 3 (some .long))
    (X : Stand p l e rmR1 s m args below meth c T locs 0 0) (e0 : T.heap = h0) (x0 : Int32) (r : Int64) (hv : f1_0 x0 = r) (hP : P (some (.long r)) h0 locs) :
    own_WP p e below (own_Q s P rmR1.cells rmR1.slots) T (mkF m 0 #[.val (.int x0), .unset, .unset] []) := by
  obtain ⟨hx, hZ, hby, hml, hown, hnm, hret, hlk⟩ := id C
  unfold f1_0 at hv
  show own_WP p e below _ T (mkF m 0 #[.val (.int x0), .unset, .unset] [])
  refine own_go (fun _ => XS.iloadN X.here hx rfl (hb hby d1_0) rfl) ?_
  show own_WP p e below _ T (mkF m 1 #[.val (.int x0), .unset, .unset] [(.int x0)])
  refine own_go (fun _ => XS.i2l X.here hx rfl (hb hby d1_1) rfl) ?_
  show own_WP p e below _ T (mkF m 2 #[.val (.int x0), .unset, .unset] [(.long (x0.toInt64))])
  refine own_go (X.ldc2Long hx hown (mvT hZ (hw _ (List.mem_of_getElem? (i := 4) rfl))) (g := (mkF m 2 #[.val (.int x0), .unset, .unset] [(.long (x0.toInt64))])) rfl (hb hby d1_2)) ?_
  show own_WP p e below _ T (mkF m 5 #[.val (.int x0), .unset, .unset] [(.long (-7046029254386353131 : Int64)), (.long (x0.toInt64))])
  refine own_go (fun _ => XS.lmul X.here hx rfl (hb hby d1_5) rfl) ?_
  show own_WP p e below _ T (mkF m 6 #[.val (.int x0), .unset, .unset] [(.long ((x0.toInt64) * (-7046029254386353131 : Int64)))])
  refine own_go (fun _ => XS.lstoreN X.here hx rfl (hb hby d1_6) rfl (l' := #[.val (.int x0), .val (.long ((x0.toInt64) * (-7046029254386353131 : Int64))), .second]) rfl) ?_
  exact b1_7 hw C X e0 x0 ((x0.toInt64) * (-7046029254386353131 : Int64)) r hv hP
theorem ef1 (m : MethodId) (x0 : Int32) : entryFrame m #[(.int x0)] 3 = (mkF m 0 #[.val (.int x0), .unset, .unset] []) := by first | (simp [entryFrame, mkF, argsToLocals, Value.category]; done) | rfl
theorem pd1 : parseMethodDescriptor "(I)J" = some ⟨[.int], some .long⟩ := by decide +kernel
theorem pn1 : plainFor (⟨"com/example/elis/elis/ReadSet", "signatureOf", "(I)J"⟩ : MethodName) = true := plainFor_of_name (by first | (simp [plainName, overriddenIn]; done) | decide +kernel)
theorem rm1 (l : Launch) (Z : State) (a0 : Array Value) (hw : ∀ d ∈ tables_1, d.before a0 Z = true) (x0 : Int32) (h0 : Heap) : own_Met l Z (⟨"com/example/elis/elis/ReadSet", "signatureOf", "(I)J"⟩ : MethodName) prog_25_method_8_code 3 (some .long) [] rmR1 #[(.int x0)] h0 (fun v h L => v = some (.long (f1_0 x0)) ∧ L = [] ∧ h = h0) := by
  refine own_body pn1 ?_
  intro p e s m below meth c s₁ C X e0
  exact own_cast (ef1 m x0) (b1_0 hw C X e0 x0 _ rfl ⟨rfl, rfl, rfl⟩)
theorem d2_0 : decode prog_25_method_9_code 0 = .ok (.lload_n 0, 1) := by decide +kernel
theorem d2_1 : decode prog_25_method_9_code 1 = .ok (.lload_n 2, 1) := by decide +kernel
theorem d2_2 : decode prog_25_method_9_code 2 = .ok (.land, 1) := by decide +kernel
theorem d2_3 : decode prog_25_method_9_code 3 = .ok (.lstore 4, 2) := by decide +kernel
theorem d2_5 : decode prog_25_method_9_code 5 = .ok (.lload 4, 2) := by decide +kernel
theorem d2_7 : decode prog_25_method_9_code 7 = .ok (.l2i, 1) := by decide +kernel
theorem d2_8 : decode prog_25_method_9_code 8 = .ok (.ifCond .eq 17, 3) := by decide +kernel
theorem d2_11 : decode prog_25_method_9_code 11 = .ok (.lload 4, 2) := by decide +kernel
theorem d2_13 : decode prog_25_method_9_code 13 = .ok (.bipush 32, 2) := by decide +kernel
theorem d2_15 : decode prog_25_method_9_code 15 = .ok (.lushr, 1) := by decide +kernel
theorem d2_16 : decode prog_25_method_9_code 16 = .ok (.lconst 0, 1) := by decide +kernel
theorem d2_17 : decode prog_25_method_9_code 17 = .ok (.lcmp, 1) := by decide +kernel
theorem d2_18 : decode prog_25_method_9_code 18 = .ok (.ifCond .eq 7, 3) := by decide +kernel
theorem d2_21 : decode prog_25_method_9_code 21 = .ok (.iconst 1, 1) := by decide +kernel
theorem d2_22 : decode prog_25_method_9_code 22 = .ok (.goto 4, 3) := by decide +kernel
theorem d2_25 : decode prog_25_method_9_code 25 = .ok (.iconst 0, 1) := by decide +kernel
theorem d2_26 : decode prog_25_method_9_code 26 = .ok (.ireturn, 1) := by decide +kernel
def rmR2 : Room := { frames := 0, cells := 0, slots := 0, locals := 0 }
def f2_0 (x0 : Int64) (x2 : Int64) : Int32 := (if ((x0 &&& x2).toInt32) = (0 : Int32) then (0 : Int32) else (if (XT.ushrL (x0 &&& x2) (32 : Int32)) = (0 : Int64) then (0 : Int32) else (1 : Int32)))
set_option maxRecDepth 65536 in
set_option maxHeartbeats 40000000 in
theorem b2_0 {p : Program} {l : Launch} {e : Env} {s : State} {m : MethodId} {args : Array Value} {below : List Frame} {meth : Method} {c : Code} {T : State} {locs : List Loc} {Z : State} {a0 : Array Value} {h0 : Heap} {P : Option Value → Heap → List Loc → Prop} (hw : ∀ d ∈ tables_1, d.before a0 Z = true) (C : own_Ctx p s m meth c Z (⟨"com/example/elis/elis/ReadSet", "meet", "(JJ)Z"⟩ : MethodName) prog_25_method_9_code 6 (some .boolean))
    (X : Stand p l e rmR2 s m args below meth c T locs 0 0) (e0 : T.heap = h0) (x0 : Int64) (x2 : Int64) (r : Int32) (hv : f2_0 x0 x2 = r) (hP : P (some (.int r)) h0 locs) :
    own_WP p e below (own_Q s P rmR2.cells rmR2.slots) T (mkF m 0 #[.val (.long x0), .second, .val (.long x2), .second, .unset, .unset] []) := by
  obtain ⟨hx, hZ, hby, hml, hown, hnm, hret, hlk⟩ := id C
  unfold f2_0 at hv
  show own_WP p e below _ T (mkF m 0 #[.val (.long x0), .second, .val (.long x2), .second, .unset, .unset] [])
  refine own_go (fun _ => XS.lloadN X.here hx rfl (hb hby d2_0) rfl) ?_
  show own_WP p e below _ T (mkF m 1 #[.val (.long x0), .second, .val (.long x2), .second, .unset, .unset] [(.long x0)])
  refine own_go (fun _ => XS.lloadN X.here hx rfl (hb hby d2_1) rfl) ?_
  show own_WP p e below _ T (mkF m 2 #[.val (.long x0), .second, .val (.long x2), .second, .unset, .unset] [(.long x2), (.long x0)])
  refine own_go (fun _ => XS.land X.here hx rfl (hb hby d2_2) rfl) ?_
  show own_WP p e below _ T (mkF m 3 #[.val (.long x0), .second, .val (.long x2), .second, .unset, .unset] [(.long (x0 &&& x2))])
  refine own_go (fun _ => XS.lstore X.here hx rfl (hb hby d2_3) rfl (l' := #[.val (.long x0), .second, .val (.long x2), .second, .val (.long (x0 &&& x2)), .second]) rfl) ?_
  show own_WP p e below _ T (mkF m 5 #[.val (.long x0), .second, .val (.long x2), .second, .val (.long (x0 &&& x2)), .second] [])
  refine own_go (fun _ => XS.lload X.here hx rfl (hb hby d2_5) rfl) ?_
  show own_WP p e below _ T (mkF m 7 #[.val (.long x0), .second, .val (.long x2), .second, .val (.long (x0 &&& x2)), .second] [(.long (x0 &&& x2))])
  refine own_go (fun _ => XS.l2i X.here hx rfl (hb hby d2_7) rfl) ?_
  show own_WP p e below _ T (mkF m 8 #[.val (.long x0), .second, .val (.long x2), .second, .val (.long (x0 &&& x2)), .second] [(.int ((x0 &&& x2).toInt32))])
  by_cases h8 : ((x0 &&& x2).toInt32) = (0 : Int32)
  · replace hv := (if_pos h8).symm.trans hv
    refine own_go (fun _ => XS.ifYes X.here hx rfl (pc0 := 8) (pc' := 25) rfl (hb hby d2_8) rfl (XT.i0_eq_t h8) (by decide) (by decide)) ?_
    show own_WP p e below _ T (mkF m 25 #[.val (.long x0), .second, .val (.long x2), .second, .val (.long (x0 &&& x2)), .second] [])
    refine own_go (fun _ => XS.iconst X.here hx rfl (hb hby d2_25)) ?_
    show own_WP p e below _ T (mkF m 26 #[.val (.long x0), .second, .val (.long x2), .second, .val (.long (x0 &&& x2)), .second] [(.int (0 : Int32))])
    subst hv e0; exact own_retN X C (by simp) (hb hby d2_26) hP (by decide) (by decide)
  · replace hv := (if_neg h8).symm.trans hv
    refine own_go (fun _ => XS.ifNo X.here hx rfl (hb hby d2_8) rfl (XT.i0_eq_f h8)) ?_
    show own_WP p e below _ T (mkF m 11 #[.val (.long x0), .second, .val (.long x2), .second, .val (.long (x0 &&& x2)), .second] [])
    refine own_go (fun _ => XS.lload X.here hx rfl (hb hby d2_11) rfl) ?_
    show own_WP p e below _ T (mkF m 13 #[.val (.long x0), .second, .val (.long x2), .second, .val (.long (x0 &&& x2)), .second] [(.long (x0 &&& x2))])
    refine own_go (fun _ => XS.bipush X.here hx rfl (hb hby d2_13)) ?_
    show own_WP p e below _ T (mkF m 15 #[.val (.long x0), .second, .val (.long x2), .second, .val (.long (x0 &&& x2)), .second] [(.int (32 : Int32)), (.long (x0 &&& x2))])
    refine own_go (fun _ => XT.lushr X.here hx rfl (hb hby d2_15) rfl) ?_
    show own_WP p e below _ T (mkF m 16 #[.val (.long x0), .second, .val (.long x2), .second, .val (.long (x0 &&& x2)), .second] [(.long (XT.ushrL (x0 &&& x2) (32 : Int32)))])
    refine own_go (fun _ => XS.lconst X.here hx rfl (hb hby d2_16)) ?_
    show own_WP p e below _ T (mkF m 17 #[.val (.long x0), .second, .val (.long x2), .second, .val (.long (x0 &&& x2)), .second] [(.long (0 : Int64)), (.long (XT.ushrL (x0 &&& x2) (32 : Int32)))])
    refine own_go (fun _ => XT.lcmp X.here hx rfl (hb hby d2_17) rfl) ?_
    show own_WP p e below _ T (mkF m 18 #[.val (.long x0), .second, .val (.long x2), .second, .val (.long (x0 &&& x2)), .second] [(.int (XT.cmpL (XT.ushrL (x0 &&& x2) (32 : Int32)) (0 : Int64)))])
    by_cases h18 : (XT.ushrL (x0 &&& x2) (32 : Int32)) = (0 : Int64)
    · replace hv := (if_pos h18).symm.trans hv
      refine own_go (fun _ => XS.ifYes X.here hx rfl (pc0 := 18) (pc' := 25) rfl (hb hby d2_18) rfl (XT.ll_eq_t h18) (by decide) (by decide)) ?_
      show own_WP p e below _ T (mkF m 25 #[.val (.long x0), .second, .val (.long x2), .second, .val (.long (x0 &&& x2)), .second] [])
      refine own_go (fun _ => XS.iconst X.here hx rfl (hb hby d2_25)) ?_
      show own_WP p e below _ T (mkF m 26 #[.val (.long x0), .second, .val (.long x2), .second, .val (.long (x0 &&& x2)), .second] [(.int (0 : Int32))])
      subst hv e0; exact own_retN X C (by simp) (hb hby d2_26) hP (by decide) (by decide)
    · replace hv := (if_neg h18).symm.trans hv
      refine own_go (fun _ => XS.ifNo X.here hx rfl (hb hby d2_18) rfl (XT.ll_eq_f h18)) ?_
      show own_WP p e below _ T (mkF m 21 #[.val (.long x0), .second, .val (.long x2), .second, .val (.long (x0 &&& x2)), .second] [])
      refine own_go (fun _ => XS.iconst X.here hx rfl (hb hby d2_21)) ?_
      show own_WP p e below _ T (mkF m 22 #[.val (.long x0), .second, .val (.long x2), .second, .val (.long (x0 &&& x2)), .second] [(.int (1 : Int32))])
      refine own_go (fun _ => XS.goto X.here hx rfl (pc0 := 22) (pc' := 26) rfl (hb hby d2_22) (by decide) (by decide)) ?_
      show own_WP p e below _ T (mkF m 26 #[.val (.long x0), .second, .val (.long x2), .second, .val (.long (x0 &&& x2)), .second] [(.int (1 : Int32))])
      subst hv e0; exact own_retN X C (by simp) (hb hby d2_26) hP (by decide) (by decide)
theorem ef2 (m : MethodId) (x0 : Int64) (x2 : Int64) : entryFrame m #[(.long x0), (.long x2)] 6 = (mkF m 0 #[.val (.long x0), .second, .val (.long x2), .second, .unset, .unset] []) := by first | (simp [entryFrame, mkF, argsToLocals, Value.category]; done) | rfl
theorem pd2 : parseMethodDescriptor "(JJ)Z" = some ⟨[.long, .long], some .boolean⟩ := by decide +kernel
theorem pn2 : plainFor (⟨"com/example/elis/elis/ReadSet", "meet", "(JJ)Z"⟩ : MethodName) = true := plainFor_of_name (by first | (simp [plainName, overriddenIn]; done) | decide +kernel)
theorem rm2 (l : Launch) (Z : State) (a0 : Array Value) (hw : ∀ d ∈ tables_1, d.before a0 Z = true) (x0 : Int64) (x2 : Int64) (h0 : Heap) : own_Met l Z (⟨"com/example/elis/elis/ReadSet", "meet", "(JJ)Z"⟩ : MethodName) prog_25_method_9_code 6 (some .boolean) [] rmR2 #[(.long x0), (.long x2)] h0 (fun v h L => v = some (.int (f2_0 x0 x2)) ∧ L = [] ∧ h = h0) := by
  refine own_body pn2 ?_
  intro p e s m below meth c s₁ C X e0
  exact own_cast (ef2 m x0 x2) (b2_0 hw C X e0 x0 x2 _ rfl ⟨rfl, rfl, rfl⟩)
def f0_118 (x1 : Int64) (x5 : Int32) (x6 : Int32) (x12 : Int32) (t0 : Int32) : Int32 := (if x5 = (0 : Int32) then (0 : Int32) else (if x6 = (0 : Int32) then (0 : Int32) else (if x12 = (0 : Int32) then (0 : Int32) else (if t0 = (0 : Int32) then (0 : Int32) else (if (f2_0 x1 x1) = (0 : Int32) then (0 : Int32) else (1 : Int32))))))
set_option maxRecDepth 65536 in
set_option maxHeartbeats 40000000 in
theorem b0_118 {p : Program} {l : Launch} {e : Env} {s : State} {m : MethodId} {args : Array Value} {below : List Frame} {meth : Method} {c : Code} {T : State} {locs : List Loc} {Z : State} {a0 : Array Value} {h0 : Heap} {P : Option Value → Heap → List Loc → Prop} (hw : ∀ d ∈ tables_1, d.before a0 Z = true) (C : own_Ctx p s m meth c Z x code maxLocals ret)
    (X : Stand p l e room_1 s m args below meth c T locs 0 0) (e0 : T.heap = h0) (x0 : Int32) (x1 : Int64) (x3 : Int32) (x4 : Int32) (x5 : Int32) (x6 : Int32) (x7 : Int64) (x9 : Int32) (x10 : Int32) (x11 : Int32) (x12 : Int32) (t0 : Int32) (r : Int32) (hv : f0_118 x1 x5 x6 x12 t0 = r) (hP : P (some (.int r)) h0 locs) :
    own_WP p e below (own_Q s P room_1.cells room_1.slots) T (mkF m 118 #[.val (.int x0), .val (.long x1), .second, .val (.int x3), .val (.int x4), .val (.int x5), .val (.int x6), .val (.long x7), .second, .val (.int x9), .val (.int x10), .val (.int x11), .val (.int x12), .unset] [(.int t0)]) := by
  obtain ⟨hx, hZ, hby, hml, hown, hnm, hret, hlk⟩ := id C
  unfold f0_118 at hv
  show own_WP p e below _ T (mkF m 118 #[.val (.int x0), .val (.long x1), .second, .val (.int x3), .val (.int x4), .val (.int x5), .val (.int x6), .val (.long x7), .second, .val (.int x9), .val (.int x10), .val (.int x11), .val (.int x12), .unset] [(.int t0)])
  refine own_go (fun _ => XS.istore X.here hx rfl (hb hby at_118) rfl (l' := #[.val (.int x0), .val (.long x1), .second, .val (.int x3), .val (.int x4), .val (.int x5), .val (.int x6), .val (.long x7), .second, .val (.int x9), .val (.int x10), .val (.int x11), .val (.int x12), .val (.int t0)]) rfl) ?_
  show own_WP p e below _ T (mkF m 120 #[.val (.int x0), .val (.long x1), .second, .val (.int x3), .val (.int x4), .val (.int x5), .val (.int x6), .val (.long x7), .second, .val (.int x9), .val (.int x10), .val (.int x11), .val (.int x12), .val (.int t0)] [])
  refine own_go (fun _ => XS.iload X.here hx rfl (hb hby at_120) rfl) ?_
  show own_WP p e below _ T (mkF m 122 #[.val (.int x0), .val (.long x1), .second, .val (.int x3), .val (.int x4), .val (.int x5), .val (.int x6), .val (.long x7), .second, .val (.int x9), .val (.int x10), .val (.int x11), .val (.int x12), .val (.int t0)] [(.int x5)])
  by_cases h122 : x5 = (0 : Int32)
  · replace hv := (if_pos h122).symm.trans hv
    refine own_go (fun _ => XS.ifYes X.here hx rfl (pc0 := 122) (pc' := 152) rfl (hb hby at_122) rfl (XT.i0_eq_t h122) (by decide) (by decide)) ?_
    show own_WP p e below _ T (mkF m 152 #[.val (.int x0), .val (.long x1), .second, .val (.int x3), .val (.int x4), .val (.int x5), .val (.int x6), .val (.long x7), .second, .val (.int x9), .val (.int x10), .val (.int x11), .val (.int x12), .val (.int t0)] [])
    refine own_go (fun _ => XS.iconst X.here hx rfl (hb hby at_152)) ?_
    show own_WP p e below _ T (mkF m 153 #[.val (.int x0), .val (.long x1), .second, .val (.int x3), .val (.int x4), .val (.int x5), .val (.int x6), .val (.long x7), .second, .val (.int x9), .val (.int x10), .val (.int x11), .val (.int x12), .val (.int t0)] [(.int (0 : Int32))])
    subst hv e0; exact own_retN X C (by simp) (hb hby at_153) hP (by decide) (by decide)
  · replace hv := (if_neg h122).symm.trans hv
    refine own_go (fun _ => XS.ifNo X.here hx rfl (hb hby at_122) rfl (XT.i0_eq_f h122)) ?_
    show own_WP p e below _ T (mkF m 125 #[.val (.int x0), .val (.long x1), .second, .val (.int x3), .val (.int x4), .val (.int x5), .val (.int x6), .val (.long x7), .second, .val (.int x9), .val (.int x10), .val (.int x11), .val (.int x12), .val (.int t0)] [])
    refine own_go (fun _ => XS.iload X.here hx rfl (hb hby at_125) rfl) ?_
    show own_WP p e below _ T (mkF m 127 #[.val (.int x0), .val (.long x1), .second, .val (.int x3), .val (.int x4), .val (.int x5), .val (.int x6), .val (.long x7), .second, .val (.int x9), .val (.int x10), .val (.int x11), .val (.int x12), .val (.int t0)] [(.int x6)])
    by_cases h127 : x6 = (0 : Int32)
    · replace hv := (if_pos h127).symm.trans hv
      refine own_go (fun _ => XS.ifYes X.here hx rfl (pc0 := 127) (pc' := 152) rfl (hb hby at_127) rfl (XT.i0_eq_t h127) (by decide) (by decide)) ?_
      show own_WP p e below _ T (mkF m 152 #[.val (.int x0), .val (.long x1), .second, .val (.int x3), .val (.int x4), .val (.int x5), .val (.int x6), .val (.long x7), .second, .val (.int x9), .val (.int x10), .val (.int x11), .val (.int x12), .val (.int t0)] [])
      refine own_go (fun _ => XS.iconst X.here hx rfl (hb hby at_152)) ?_
      show own_WP p e below _ T (mkF m 153 #[.val (.int x0), .val (.long x1), .second, .val (.int x3), .val (.int x4), .val (.int x5), .val (.int x6), .val (.long x7), .second, .val (.int x9), .val (.int x10), .val (.int x11), .val (.int x12), .val (.int t0)] [(.int (0 : Int32))])
      subst hv e0; exact own_retN X C (by simp) (hb hby at_153) hP (by decide) (by decide)
    · replace hv := (if_neg h127).symm.trans hv
      refine own_go (fun _ => XS.ifNo X.here hx rfl (hb hby at_127) rfl (XT.i0_eq_f h127)) ?_
      show own_WP p e below _ T (mkF m 130 #[.val (.int x0), .val (.long x1), .second, .val (.int x3), .val (.int x4), .val (.int x5), .val (.int x6), .val (.long x7), .second, .val (.int x9), .val (.int x10), .val (.int x11), .val (.int x12), .val (.int t0)] [])
      refine own_go (fun _ => XS.iload X.here hx rfl (hb hby at_130) rfl) ?_
      show own_WP p e below _ T (mkF m 132 #[.val (.int x0), .val (.long x1), .second, .val (.int x3), .val (.int x4), .val (.int x5), .val (.int x6), .val (.long x7), .second, .val (.int x9), .val (.int x10), .val (.int x11), .val (.int x12), .val (.int t0)] [(.int x12)])
      by_cases h132 : x12 = (0 : Int32)
      · replace hv := (if_pos h132).symm.trans hv
        refine own_go (fun _ => XS.ifYes X.here hx rfl (pc0 := 132) (pc' := 152) rfl (hb hby at_132) rfl (XT.i0_eq_t h132) (by decide) (by decide)) ?_
        show own_WP p e below _ T (mkF m 152 #[.val (.int x0), .val (.long x1), .second, .val (.int x3), .val (.int x4), .val (.int x5), .val (.int x6), .val (.long x7), .second, .val (.int x9), .val (.int x10), .val (.int x11), .val (.int x12), .val (.int t0)] [])
        refine own_go (fun _ => XS.iconst X.here hx rfl (hb hby at_152)) ?_
        show own_WP p e below _ T (mkF m 153 #[.val (.int x0), .val (.long x1), .second, .val (.int x3), .val (.int x4), .val (.int x5), .val (.int x6), .val (.long x7), .second, .val (.int x9), .val (.int x10), .val (.int x11), .val (.int x12), .val (.int t0)] [(.int (0 : Int32))])
        subst hv e0; exact own_retN X C (by simp) (hb hby at_153) hP (by decide) (by decide)
      · replace hv := (if_neg h132).symm.trans hv
        refine own_go (fun _ => XS.ifNo X.here hx rfl (hb hby at_132) rfl (XT.i0_eq_f h132)) ?_
        show own_WP p e below _ T (mkF m 135 #[.val (.int x0), .val (.long x1), .second, .val (.int x3), .val (.int x4), .val (.int x5), .val (.int x6), .val (.long x7), .second, .val (.int x9), .val (.int x10), .val (.int x11), .val (.int x12), .val (.int t0)] [])
        refine own_go (fun _ => XS.iload X.here hx rfl (hb hby at_135) rfl) ?_
        show own_WP p e below _ T (mkF m 137 #[.val (.int x0), .val (.long x1), .second, .val (.int x3), .val (.int x4), .val (.int x5), .val (.int x6), .val (.long x7), .second, .val (.int x9), .val (.int x10), .val (.int x11), .val (.int x12), .val (.int t0)] [(.int t0)])
        by_cases h137 : t0 = (0 : Int32)
        · replace hv := (if_pos h137).symm.trans hv
          refine own_go (fun _ => XS.ifYes X.here hx rfl (pc0 := 137) (pc' := 152) rfl (hb hby at_137) rfl (XT.i0_eq_t h137) (by decide) (by decide)) ?_
          show own_WP p e below _ T (mkF m 152 #[.val (.int x0), .val (.long x1), .second, .val (.int x3), .val (.int x4), .val (.int x5), .val (.int x6), .val (.long x7), .second, .val (.int x9), .val (.int x10), .val (.int x11), .val (.int x12), .val (.int t0)] [])
          refine own_go (fun _ => XS.iconst X.here hx rfl (hb hby at_152)) ?_
          show own_WP p e below _ T (mkF m 153 #[.val (.int x0), .val (.long x1), .second, .val (.int x3), .val (.int x4), .val (.int x5), .val (.int x6), .val (.long x7), .second, .val (.int x9), .val (.int x10), .val (.int x11), .val (.int x12), .val (.int t0)] [(.int (0 : Int32))])
          subst hv e0; exact own_retN X C (by simp) (hb hby at_153) hP (by decide) (by decide)
        · replace hv := (if_neg h137).symm.trans hv
          refine own_go (fun _ => XS.ifNo X.here hx rfl (hb hby at_137) rfl (XT.i0_eq_f h137)) ?_
          show own_WP p e below _ T (mkF m 140 #[.val (.int x0), .val (.long x1), .second, .val (.int x3), .val (.int x4), .val (.int x5), .val (.int x6), .val (.long x7), .second, .val (.int x9), .val (.int x10), .val (.int x11), .val (.int x12), .val (.int t0)] [])
          refine own_go (fun _ => XS.lloadN X.here hx rfl (hb hby at_140) rfl) ?_
          show own_WP p e below _ T (mkF m 141 #[.val (.int x0), .val (.long x1), .second, .val (.int x3), .val (.int x4), .val (.int x5), .val (.int x6), .val (.long x7), .second, .val (.int x9), .val (.int x10), .val (.int x11), .val (.int x12), .val (.int t0)] [(.long x1)])
          refine own_go (fun _ => XS.lloadN X.here hx rfl (hb hby at_141) rfl) ?_
          show own_WP p e below _ T (mkF m 142 #[.val (.int x0), .val (.long x1), .second, .val (.int x3), .val (.int x4), .val (.int x5), .val (.int x6), .val (.long x7), .second, .val (.int x9), .val (.int x10), .val (.int x11), .val (.int x12), .val (.int t0)] [(.long x1), (.long x1)])
          obtain ⟨T, v', L', X, ⟨rfl, rfl, e0⟩, st'⟩ := own_callS X C (rm2 l Z a0 hw x1 x1 h0) (hw _ (List.mem_of_getElem? (i := 8) rfl)) (hw _ (List.mem_of_getElem? (i := 9) rfl)) (hw _ (List.mem_of_getElem? (i := 2) rfl)) (hw _ (List.mem_of_getElem? (i := 10) rfl)) (by decide) e0 (W := 0) (pc := 142) (Ls := #[.val (.int x0), .val (.long x1), .second, .val (.int x3), .val (.int x4), .val (.int x5), .val (.int x6), .val (.long x7), .second, .val (.int x9), .val (.int x10), .val (.int x11), .val (.int x12), .val (.int t0)]) rfl (lenOf pd2 rfl) (rest := []) (stk := [(.long x1), (.long x1)]) rfl (Nat.le_of_ble_eq_true rfl) (hb hby at_142) (by decide) (by decide) (by decide) (by decide)
          rw [List.append_nil] at X
          refine own_go st' ?_
          show own_WP p e below _ T (mkF m 145 #[.val (.int x0), .val (.long x1), .second, .val (.int x3), .val (.int x4), .val (.int x5), .val (.int x6), .val (.long x7), .second, .val (.int x9), .val (.int x10), .val (.int x11), .val (.int x12), .val (.int t0)] [(.int (f2_0 x1 x1))])
          by_cases h145 : (f2_0 x1 x1) = (0 : Int32)
          · replace hv := (if_pos h145).symm.trans hv
            refine own_go (fun _ => XS.ifYes X.here hx rfl (pc0 := 145) (pc' := 152) rfl (hb hby at_145) rfl (XT.i0_eq_t h145) (by decide) (by decide)) ?_
            show own_WP p e below _ T (mkF m 152 #[.val (.int x0), .val (.long x1), .second, .val (.int x3), .val (.int x4), .val (.int x5), .val (.int x6), .val (.long x7), .second, .val (.int x9), .val (.int x10), .val (.int x11), .val (.int x12), .val (.int t0)] [])
            refine own_go (fun _ => XS.iconst X.here hx rfl (hb hby at_152)) ?_
            show own_WP p e below _ T (mkF m 153 #[.val (.int x0), .val (.long x1), .second, .val (.int x3), .val (.int x4), .val (.int x5), .val (.int x6), .val (.long x7), .second, .val (.int x9), .val (.int x10), .val (.int x11), .val (.int x12), .val (.int t0)] [(.int (0 : Int32))])
            subst hv e0; exact own_retN X C (by simp) (hb hby at_153) hP (by decide) (by decide)
          · replace hv := (if_neg h145).symm.trans hv
            refine own_go (fun _ => XS.ifNo X.here hx rfl (hb hby at_145) rfl (XT.i0_eq_f h145)) ?_
            show own_WP p e below _ T (mkF m 148 #[.val (.int x0), .val (.long x1), .second, .val (.int x3), .val (.int x4), .val (.int x5), .val (.int x6), .val (.long x7), .second, .val (.int x9), .val (.int x10), .val (.int x11), .val (.int x12), .val (.int t0)] [])
            refine own_go (fun _ => XS.iconst X.here hx rfl (hb hby at_148)) ?_
            show own_WP p e below _ T (mkF m 149 #[.val (.int x0), .val (.long x1), .second, .val (.int x3), .val (.int x4), .val (.int x5), .val (.int x6), .val (.long x7), .second, .val (.int x9), .val (.int x10), .val (.int x11), .val (.int x12), .val (.int t0)] [(.int (1 : Int32))])
            refine own_go (fun _ => XS.goto X.here hx rfl (pc0 := 149) (pc' := 153) rfl (hb hby at_149) (by decide) (by decide)) ?_
            show own_WP p e below _ T (mkF m 153 #[.val (.int x0), .val (.long x1), .second, .val (.int x3), .val (.int x4), .val (.int x5), .val (.int x6), .val (.long x7), .second, .val (.int x9), .val (.int x10), .val (.int x11), .val (.int x12), .val (.int t0)] [(.int (1 : Int32))])
            subst hv e0; exact own_retN X C (by simp) (hb hby at_153) hP (by decide) (by decide)
def f0_102 (x1 : Int64) (x4 : Int32) (x5 : Int32) (x6 : Int32) (x11 : Int32) (t0 : Int32) : Int32 := (if x4 = ((1 : Int32) <<< (x11 &&& 31)) then (f0_118 x1 x5 x6 t0 (1 : Int32)) else (f0_118 x1 x5 x6 t0 (0 : Int32)))
set_option maxRecDepth 65536 in
set_option maxHeartbeats 40000000 in
theorem b0_102 {p : Program} {l : Launch} {e : Env} {s : State} {m : MethodId} {args : Array Value} {below : List Frame} {meth : Method} {c : Code} {T : State} {locs : List Loc} {Z : State} {a0 : Array Value} {h0 : Heap} {P : Option Value → Heap → List Loc → Prop} (hw : ∀ d ∈ tables_1, d.before a0 Z = true) (C : own_Ctx p s m meth c Z x code maxLocals ret)
    (X : Stand p l e room_1 s m args below meth c T locs 0 0) (e0 : T.heap = h0) (x0 : Int32) (x1 : Int64) (x3 : Int32) (x4 : Int32) (x5 : Int32) (x6 : Int32) (x7 : Int64) (x9 : Int32) (x10 : Int32) (x11 : Int32) (t0 : Int32) (r : Int32) (hv : f0_102 x1 x4 x5 x6 x11 t0 = r) (hP : P (some (.int r)) h0 locs) :
    own_WP p e below (own_Q s P room_1.cells room_1.slots) T (mkF m 102 #[.val (.int x0), .val (.long x1), .second, .val (.int x3), .val (.int x4), .val (.int x5), .val (.int x6), .val (.long x7), .second, .val (.int x9), .val (.int x10), .val (.int x11), .unset, .unset] [(.int t0)]) := by
  obtain ⟨hx, hZ, hby, hml, hown, hnm, hret, hlk⟩ := id C
  unfold f0_102 at hv
  show own_WP p e below _ T (mkF m 102 #[.val (.int x0), .val (.long x1), .second, .val (.int x3), .val (.int x4), .val (.int x5), .val (.int x6), .val (.long x7), .second, .val (.int x9), .val (.int x10), .val (.int x11), .unset, .unset] [(.int t0)])
  refine own_go (fun _ => XS.istore X.here hx rfl (hb hby at_102) rfl (l' := #[.val (.int x0), .val (.long x1), .second, .val (.int x3), .val (.int x4), .val (.int x5), .val (.int x6), .val (.long x7), .second, .val (.int x9), .val (.int x10), .val (.int x11), .val (.int t0), .unset]) rfl) ?_
  show own_WP p e below _ T (mkF m 104 #[.val (.int x0), .val (.long x1), .second, .val (.int x3), .val (.int x4), .val (.int x5), .val (.int x6), .val (.long x7), .second, .val (.int x9), .val (.int x10), .val (.int x11), .val (.int t0), .unset] [])
  refine own_go (fun _ => XS.iload X.here hx rfl (hb hby at_104) rfl) ?_
  show own_WP p e below _ T (mkF m 106 #[.val (.int x0), .val (.long x1), .second, .val (.int x3), .val (.int x4), .val (.int x5), .val (.int x6), .val (.long x7), .second, .val (.int x9), .val (.int x10), .val (.int x11), .val (.int t0), .unset] [(.int x4)])
  refine own_go (fun _ => XS.iconst X.here hx rfl (hb hby at_106)) ?_
  show own_WP p e below _ T (mkF m 107 #[.val (.int x0), .val (.long x1), .second, .val (.int x3), .val (.int x4), .val (.int x5), .val (.int x6), .val (.long x7), .second, .val (.int x9), .val (.int x10), .val (.int x11), .val (.int t0), .unset] [(.int (1 : Int32)), (.int x4)])
  refine own_go (fun _ => XS.iload X.here hx rfl (hb hby at_107) rfl) ?_
  show own_WP p e below _ T (mkF m 109 #[.val (.int x0), .val (.long x1), .second, .val (.int x3), .val (.int x4), .val (.int x5), .val (.int x6), .val (.long x7), .second, .val (.int x9), .val (.int x10), .val (.int x11), .val (.int t0), .unset] [(.int x11), (.int (1 : Int32)), (.int x4)])
  refine own_go (fun _ => XS.ishl X.here hx rfl (hb hby at_109) rfl) ?_
  show own_WP p e below _ T (mkF m 110 #[.val (.int x0), .val (.long x1), .second, .val (.int x3), .val (.int x4), .val (.int x5), .val (.int x6), .val (.long x7), .second, .val (.int x9), .val (.int x10), .val (.int x11), .val (.int t0), .unset] [(.int ((1 : Int32) <<< (x11 &&& 31))), (.int x4)])
  by_cases h110 : x4 = ((1 : Int32) <<< (x11 &&& 31))
  · replace hv := (if_pos h110).symm.trans hv
    refine own_go (fun _ => XS.icmpNo X.here hx rfl (hb hby at_110) rfl (XT.ii_ne_f h110)) ?_
    show own_WP p e below _ T (mkF m 113 #[.val (.int x0), .val (.long x1), .second, .val (.int x3), .val (.int x4), .val (.int x5), .val (.int x6), .val (.long x7), .second, .val (.int x9), .val (.int x10), .val (.int x11), .val (.int t0), .unset] [])
    refine own_go (fun _ => XS.iconst X.here hx rfl (hb hby at_113)) ?_
    show own_WP p e below _ T (mkF m 114 #[.val (.int x0), .val (.long x1), .second, .val (.int x3), .val (.int x4), .val (.int x5), .val (.int x6), .val (.long x7), .second, .val (.int x9), .val (.int x10), .val (.int x11), .val (.int t0), .unset] [(.int (1 : Int32))])
    refine own_go (fun _ => XS.goto X.here hx rfl (pc0 := 114) (pc' := 118) rfl (hb hby at_114) (by decide) (by decide)) ?_
    exact b0_118 hw C X e0 x0 x1 x3 x4 x5 x6 x7 x9 x10 x11 t0 (1 : Int32) r hv hP
  · replace hv := (if_neg h110).symm.trans hv
    refine own_go (fun _ => XS.icmpYes X.here hx rfl (pc0 := 110) (pc' := 117) rfl (hb hby at_110) rfl (XT.ii_ne_t h110) (by decide) (by decide)) ?_
    show own_WP p e below _ T (mkF m 117 #[.val (.int x0), .val (.long x1), .second, .val (.int x3), .val (.int x4), .val (.int x5), .val (.int x6), .val (.long x7), .second, .val (.int x9), .val (.int x10), .val (.int x11), .val (.int t0), .unset] [])
    refine own_go (fun _ => XS.iconst X.here hx rfl (hb hby at_117)) ?_
    exact b0_118 hw C X e0 x0 x1 x3 x4 x5 x6 x7 x9 x10 x11 t0 (0 : Int32) r hv hP
def f0_89 (x1 : Int64) (x3 : Int32) (x4 : Int32) (x5 : Int32) (x6 : Int32) (x10 : Int32) (x11 : Int32) : Int32 := (if x3 = ((1 : Int32) <<< (x10 &&& 31)) then (f0_102 x1 x4 x5 x6 x11 (1 : Int32)) else (f0_102 x1 x4 x5 x6 x11 (0 : Int32)))
set_option maxRecDepth 65536 in
set_option maxHeartbeats 40000000 in
theorem b0_89 {p : Program} {l : Launch} {e : Env} {s : State} {m : MethodId} {args : Array Value} {below : List Frame} {meth : Method} {c : Code} {T : State} {locs : List Loc} {Z : State} {a0 : Array Value} {h0 : Heap} {P : Option Value → Heap → List Loc → Prop} (hw : ∀ d ∈ tables_1, d.before a0 Z = true) (C : own_Ctx p s m meth c Z x code maxLocals ret)
    (X : Stand p l e room_1 s m args below meth c T locs 0 0) (e0 : T.heap = h0) (x0 : Int32) (x1 : Int64) (x3 : Int32) (x4 : Int32) (x5 : Int32) (x6 : Int32) (x7 : Int64) (x9 : Int32) (x10 : Int32) (x11 : Int32) (r : Int32) (hv : f0_89 x1 x3 x4 x5 x6 x10 x11 = r) (hP : P (some (.int r)) h0 locs) :
    own_WP p e below (own_Q s P room_1.cells room_1.slots) T (mkF m 89 #[.val (.int x0), .val (.long x1), .second, .val (.int x3), .val (.int x4), .val (.int x5), .val (.int x6), .val (.long x7), .second, .val (.int x9), .val (.int x10), .val (.int x11), .unset, .unset] []) := by
  obtain ⟨hx, hZ, hby, hml, hown, hnm, hret, hlk⟩ := id C
  unfold f0_89 at hv
  show own_WP p e below _ T (mkF m 89 #[.val (.int x0), .val (.long x1), .second, .val (.int x3), .val (.int x4), .val (.int x5), .val (.int x6), .val (.long x7), .second, .val (.int x9), .val (.int x10), .val (.int x11), .unset, .unset] [])
  refine own_go (fun _ => XS.iloadN X.here hx rfl (hb hby at_89) rfl) ?_
  show own_WP p e below _ T (mkF m 90 #[.val (.int x0), .val (.long x1), .second, .val (.int x3), .val (.int x4), .val (.int x5), .val (.int x6), .val (.long x7), .second, .val (.int x9), .val (.int x10), .val (.int x11), .unset, .unset] [(.int x3)])
  refine own_go (fun _ => XS.iconst X.here hx rfl (hb hby at_90)) ?_
  show own_WP p e below _ T (mkF m 91 #[.val (.int x0), .val (.long x1), .second, .val (.int x3), .val (.int x4), .val (.int x5), .val (.int x6), .val (.long x7), .second, .val (.int x9), .val (.int x10), .val (.int x11), .unset, .unset] [(.int (1 : Int32)), (.int x3)])
  refine own_go (fun _ => XS.iload X.here hx rfl (hb hby at_91) rfl) ?_
  show own_WP p e below _ T (mkF m 93 #[.val (.int x0), .val (.long x1), .second, .val (.int x3), .val (.int x4), .val (.int x5), .val (.int x6), .val (.long x7), .second, .val (.int x9), .val (.int x10), .val (.int x11), .unset, .unset] [(.int x10), (.int (1 : Int32)), (.int x3)])
  refine own_go (fun _ => XS.ishl X.here hx rfl (hb hby at_93) rfl) ?_
  show own_WP p e below _ T (mkF m 94 #[.val (.int x0), .val (.long x1), .second, .val (.int x3), .val (.int x4), .val (.int x5), .val (.int x6), .val (.long x7), .second, .val (.int x9), .val (.int x10), .val (.int x11), .unset, .unset] [(.int ((1 : Int32) <<< (x10 &&& 31))), (.int x3)])
  by_cases h94 : x3 = ((1 : Int32) <<< (x10 &&& 31))
  · replace hv := (if_pos h94).symm.trans hv
    refine own_go (fun _ => XS.icmpNo X.here hx rfl (hb hby at_94) rfl (XT.ii_ne_f h94)) ?_
    show own_WP p e below _ T (mkF m 97 #[.val (.int x0), .val (.long x1), .second, .val (.int x3), .val (.int x4), .val (.int x5), .val (.int x6), .val (.long x7), .second, .val (.int x9), .val (.int x10), .val (.int x11), .unset, .unset] [])
    refine own_go (fun _ => XS.iconst X.here hx rfl (hb hby at_97)) ?_
    show own_WP p e below _ T (mkF m 98 #[.val (.int x0), .val (.long x1), .second, .val (.int x3), .val (.int x4), .val (.int x5), .val (.int x6), .val (.long x7), .second, .val (.int x9), .val (.int x10), .val (.int x11), .unset, .unset] [(.int (1 : Int32))])
    refine own_go (fun _ => XS.goto X.here hx rfl (pc0 := 98) (pc' := 102) rfl (hb hby at_98) (by decide) (by decide)) ?_
    exact b0_102 hw C X e0 x0 x1 x3 x4 x5 x6 x7 x9 x10 x11 (1 : Int32) r hv hP
  · replace hv := (if_neg h94).symm.trans hv
    refine own_go (fun _ => XS.icmpYes X.here hx rfl (pc0 := 94) (pc' := 101) rfl (hb hby at_94) rfl (XT.ii_ne_t h94) (by decide) (by decide)) ?_
    show own_WP p e below _ T (mkF m 101 #[.val (.int x0), .val (.long x1), .second, .val (.int x3), .val (.int x4), .val (.int x5), .val (.int x6), .val (.long x7), .second, .val (.int x9), .val (.int x10), .val (.int x11), .unset, .unset] [])
    refine own_go (fun _ => XS.iconst X.here hx rfl (hb hby at_101)) ?_
    exact b0_102 hw C X e0 x0 x1 x3 x4 x5 x6 x7 x9 x10 x11 (0 : Int32) r hv hP
def f0_79 (x1 : Int64) (x3 : Int32) (x4 : Int32) (x5 : Int32) (x6 : Int32) (x9 : Int32) (x10 : Int32) : Int32 := (f0_89 x1 x3 x4 x5 x6 x10 ((XT.ushr x9 (22 : Int32)) &&& (31 : Int32)))
set_option maxRecDepth 65536 in
set_option maxHeartbeats 40000000 in
theorem b0_79 {p : Program} {l : Launch} {e : Env} {s : State} {m : MethodId} {args : Array Value} {below : List Frame} {meth : Method} {c : Code} {T : State} {locs : List Loc} {Z : State} {a0 : Array Value} {h0 : Heap} {P : Option Value → Heap → List Loc → Prop} (hw : ∀ d ∈ tables_1, d.before a0 Z = true) (C : own_Ctx p s m meth c Z x code maxLocals ret)
    (X : Stand p l e room_1 s m args below meth c T locs 0 0) (e0 : T.heap = h0) (x0 : Int32) (x1 : Int64) (x3 : Int32) (x4 : Int32) (x5 : Int32) (x6 : Int32) (x7 : Int64) (x9 : Int32) (x10 : Int32) (r : Int32) (hv : f0_79 x1 x3 x4 x5 x6 x9 x10 = r) (hP : P (some (.int r)) h0 locs) :
    own_WP p e below (own_Q s P room_1.cells room_1.slots) T (mkF m 79 #[.val (.int x0), .val (.long x1), .second, .val (.int x3), .val (.int x4), .val (.int x5), .val (.int x6), .val (.long x7), .second, .val (.int x9), .val (.int x10), .unset, .unset, .unset] []) := by
  obtain ⟨hx, hZ, hby, hml, hown, hnm, hret, hlk⟩ := id C
  unfold f0_79 at hv
  show own_WP p e below _ T (mkF m 79 #[.val (.int x0), .val (.long x1), .second, .val (.int x3), .val (.int x4), .val (.int x5), .val (.int x6), .val (.long x7), .second, .val (.int x9), .val (.int x10), .unset, .unset, .unset] [])
  refine own_go (fun _ => XS.iload X.here hx rfl (hb hby at_79) rfl) ?_
  show own_WP p e below _ T (mkF m 81 #[.val (.int x0), .val (.long x1), .second, .val (.int x3), .val (.int x4), .val (.int x5), .val (.int x6), .val (.long x7), .second, .val (.int x9), .val (.int x10), .unset, .unset, .unset] [(.int x9)])
  refine own_go (fun _ => XS.bipush X.here hx rfl (hb hby at_81)) ?_
  show own_WP p e below _ T (mkF m 83 #[.val (.int x0), .val (.long x1), .second, .val (.int x3), .val (.int x4), .val (.int x5), .val (.int x6), .val (.long x7), .second, .val (.int x9), .val (.int x10), .unset, .unset, .unset] [(.int (22 : Int32)), (.int x9)])
  refine own_go (fun _ => XT.iushr X.here hx rfl (hb hby at_83) rfl) ?_
  show own_WP p e below _ T (mkF m 84 #[.val (.int x0), .val (.long x1), .second, .val (.int x3), .val (.int x4), .val (.int x5), .val (.int x6), .val (.long x7), .second, .val (.int x9), .val (.int x10), .unset, .unset, .unset] [(.int (XT.ushr x9 (22 : Int32)))])
  refine own_go (fun _ => XS.bipush X.here hx rfl (hb hby at_84)) ?_
  show own_WP p e below _ T (mkF m 86 #[.val (.int x0), .val (.long x1), .second, .val (.int x3), .val (.int x4), .val (.int x5), .val (.int x6), .val (.long x7), .second, .val (.int x9), .val (.int x10), .unset, .unset, .unset] [(.int (31 : Int32)), (.int (XT.ushr x9 (22 : Int32)))])
  refine own_go (fun _ => XS.iand X.here hx rfl (hb hby at_86) rfl) ?_
  show own_WP p e below _ T (mkF m 87 #[.val (.int x0), .val (.long x1), .second, .val (.int x3), .val (.int x4), .val (.int x5), .val (.int x6), .val (.long x7), .second, .val (.int x9), .val (.int x10), .unset, .unset, .unset] [(.int ((XT.ushr x9 (22 : Int32)) &&& (31 : Int32)))])
  refine own_go (fun _ => XS.istore X.here hx rfl (hb hby at_87) rfl (l' := #[.val (.int x0), .val (.long x1), .second, .val (.int x3), .val (.int x4), .val (.int x5), .val (.int x6), .val (.long x7), .second, .val (.int x9), .val (.int x10), .val (.int ((XT.ushr x9 (22 : Int32)) &&& (31 : Int32))), .unset, .unset]) rfl) ?_
  exact b0_89 hw C X e0 x0 x1 x3 x4 x5 x6 x7 x9 x10 ((XT.ushr x9 (22 : Int32)) &&& (31 : Int32)) r hv hP
def f0_72 (x1 : Int64) (x3 : Int32) (x4 : Int32) (x5 : Int32) (x6 : Int32) (x9 : Int32) : Int32 := (f0_79 x1 x3 x4 x5 x6 x9 (XT.ushr x9 (27 : Int32)))
set_option maxRecDepth 65536 in
set_option maxHeartbeats 40000000 in
theorem b0_72 {p : Program} {l : Launch} {e : Env} {s : State} {m : MethodId} {args : Array Value} {below : List Frame} {meth : Method} {c : Code} {T : State} {locs : List Loc} {Z : State} {a0 : Array Value} {h0 : Heap} {P : Option Value → Heap → List Loc → Prop} (hw : ∀ d ∈ tables_1, d.before a0 Z = true) (C : own_Ctx p s m meth c Z x code maxLocals ret)
    (X : Stand p l e room_1 s m args below meth c T locs 0 0) (e0 : T.heap = h0) (x0 : Int32) (x1 : Int64) (x3 : Int32) (x4 : Int32) (x5 : Int32) (x6 : Int32) (x7 : Int64) (x9 : Int32) (r : Int32) (hv : f0_72 x1 x3 x4 x5 x6 x9 = r) (hP : P (some (.int r)) h0 locs) :
    own_WP p e below (own_Q s P room_1.cells room_1.slots) T (mkF m 72 #[.val (.int x0), .val (.long x1), .second, .val (.int x3), .val (.int x4), .val (.int x5), .val (.int x6), .val (.long x7), .second, .val (.int x9), .unset, .unset, .unset, .unset] []) := by
  obtain ⟨hx, hZ, hby, hml, hown, hnm, hret, hlk⟩ := id C
  unfold f0_72 at hv
  show own_WP p e below _ T (mkF m 72 #[.val (.int x0), .val (.long x1), .second, .val (.int x3), .val (.int x4), .val (.int x5), .val (.int x6), .val (.long x7), .second, .val (.int x9), .unset, .unset, .unset, .unset] [])
  refine own_go (fun _ => XS.iload X.here hx rfl (hb hby at_72) rfl) ?_
  show own_WP p e below _ T (mkF m 74 #[.val (.int x0), .val (.long x1), .second, .val (.int x3), .val (.int x4), .val (.int x5), .val (.int x6), .val (.long x7), .second, .val (.int x9), .unset, .unset, .unset, .unset] [(.int x9)])
  refine own_go (fun _ => XS.bipush X.here hx rfl (hb hby at_74)) ?_
  show own_WP p e below _ T (mkF m 76 #[.val (.int x0), .val (.long x1), .second, .val (.int x3), .val (.int x4), .val (.int x5), .val (.int x6), .val (.long x7), .second, .val (.int x9), .unset, .unset, .unset, .unset] [(.int (27 : Int32)), (.int x9)])
  refine own_go (fun _ => XT.iushr X.here hx rfl (hb hby at_76) rfl) ?_
  show own_WP p e below _ T (mkF m 77 #[.val (.int x0), .val (.long x1), .second, .val (.int x3), .val (.int x4), .val (.int x5), .val (.int x6), .val (.long x7), .second, .val (.int x9), .unset, .unset, .unset, .unset] [(.int (XT.ushr x9 (27 : Int32)))])
  refine own_go (fun _ => XS.istore X.here hx rfl (hb hby at_77) rfl (l' := #[.val (.int x0), .val (.long x1), .second, .val (.int x3), .val (.int x4), .val (.int x5), .val (.int x6), .val (.long x7), .second, .val (.int x9), .val (.int (XT.ushr x9 (27 : Int32))), .unset, .unset, .unset]) rfl) ?_
  exact b0_79 hw C X e0 x0 x1 x3 x4 x5 x6 x7 x9 (XT.ushr x9 (27 : Int32)) r hv hP
def f0_64 (x1 : Int64) (x3 : Int32) (x4 : Int32) (x5 : Int32) (x6 : Int32) (x7 : Int64) : Int32 := (f0_72 x1 x3 x4 x5 x6 ((XT.ushrL x7 (32 : Int32)).toInt32))
set_option maxRecDepth 65536 in
set_option maxHeartbeats 40000000 in
theorem b0_64 {p : Program} {l : Launch} {e : Env} {s : State} {m : MethodId} {args : Array Value} {below : List Frame} {meth : Method} {c : Code} {T : State} {locs : List Loc} {Z : State} {a0 : Array Value} {h0 : Heap} {P : Option Value → Heap → List Loc → Prop} (hw : ∀ d ∈ tables_1, d.before a0 Z = true) (C : own_Ctx p s m meth c Z x code maxLocals ret)
    (X : Stand p l e room_1 s m args below meth c T locs 0 0) (e0 : T.heap = h0) (x0 : Int32) (x1 : Int64) (x3 : Int32) (x4 : Int32) (x5 : Int32) (x6 : Int32) (x7 : Int64) (r : Int32) (hv : f0_64 x1 x3 x4 x5 x6 x7 = r) (hP : P (some (.int r)) h0 locs) :
    own_WP p e below (own_Q s P room_1.cells room_1.slots) T (mkF m 64 #[.val (.int x0), .val (.long x1), .second, .val (.int x3), .val (.int x4), .val (.int x5), .val (.int x6), .val (.long x7), .second, .unset, .unset, .unset, .unset, .unset] []) := by
  obtain ⟨hx, hZ, hby, hml, hown, hnm, hret, hlk⟩ := id C
  unfold f0_64 at hv
  show own_WP p e below _ T (mkF m 64 #[.val (.int x0), .val (.long x1), .second, .val (.int x3), .val (.int x4), .val (.int x5), .val (.int x6), .val (.long x7), .second, .unset, .unset, .unset, .unset, .unset] [])
  refine own_go (fun _ => XS.lload X.here hx rfl (hb hby at_64) rfl) ?_
  show own_WP p e below _ T (mkF m 66 #[.val (.int x0), .val (.long x1), .second, .val (.int x3), .val (.int x4), .val (.int x5), .val (.int x6), .val (.long x7), .second, .unset, .unset, .unset, .unset, .unset] [(.long x7)])
  refine own_go (fun _ => XS.bipush X.here hx rfl (hb hby at_66)) ?_
  show own_WP p e below _ T (mkF m 68 #[.val (.int x0), .val (.long x1), .second, .val (.int x3), .val (.int x4), .val (.int x5), .val (.int x6), .val (.long x7), .second, .unset, .unset, .unset, .unset, .unset] [(.int (32 : Int32)), (.long x7)])
  refine own_go (fun _ => XT.lushr X.here hx rfl (hb hby at_68) rfl) ?_
  show own_WP p e below _ T (mkF m 69 #[.val (.int x0), .val (.long x1), .second, .val (.int x3), .val (.int x4), .val (.int x5), .val (.int x6), .val (.long x7), .second, .unset, .unset, .unset, .unset, .unset] [(.long (XT.ushrL x7 (32 : Int32)))])
  refine own_go (fun _ => XS.l2i X.here hx rfl (hb hby at_69) rfl) ?_
  show own_WP p e below _ T (mkF m 70 #[.val (.int x0), .val (.long x1), .second, .val (.int x3), .val (.int x4), .val (.int x5), .val (.int x6), .val (.long x7), .second, .unset, .unset, .unset, .unset, .unset] [(.int ((XT.ushrL x7 (32 : Int32)).toInt32))])
  refine own_go (fun _ => XS.istore X.here hx rfl (hb hby at_70) rfl (l' := #[.val (.int x0), .val (.long x1), .second, .val (.int x3), .val (.int x4), .val (.int x5), .val (.int x6), .val (.long x7), .second, .val (.int ((XT.ushrL x7 (32 : Int32)).toInt32)), .unset, .unset, .unset, .unset]) rfl) ?_
  exact b0_72 hw C X e0 x0 x1 x3 x4 x5 x6 x7 ((XT.ushrL x7 (32 : Int32)).toInt32) r hv hP
def f0_54 (x0 : Int32) (x1 : Int64) (x3 : Int32) (x4 : Int32) (x5 : Int32) (t0 : Int32) : Int32 := (f0_64 x1 x3 x4 x5 t0 ((x0.toInt64) * (-7046029254386353131 : Int64)))
set_option maxRecDepth 65536 in
set_option maxHeartbeats 40000000 in
theorem b0_54 {p : Program} {l : Launch} {e : Env} {s : State} {m : MethodId} {args : Array Value} {below : List Frame} {meth : Method} {c : Code} {T : State} {locs : List Loc} {Z : State} {a0 : Array Value} {h0 : Heap} {P : Option Value → Heap → List Loc → Prop} (hw : ∀ d ∈ tables_1, d.before a0 Z = true) (C : own_Ctx p s m meth c Z x code maxLocals ret)
    (X : Stand p l e room_1 s m args below meth c T locs 0 0) (e0 : T.heap = h0) (x0 : Int32) (x1 : Int64) (x3 : Int32) (x4 : Int32) (x5 : Int32) (t0 : Int32) (r : Int32) (hv : f0_54 x0 x1 x3 x4 x5 t0 = r) (hP : P (some (.int r)) h0 locs) :
    own_WP p e below (own_Q s P room_1.cells room_1.slots) T (mkF m 54 #[.val (.int x0), .val (.long x1), .second, .val (.int x3), .val (.int x4), .val (.int x5), .unset, .unset, .unset, .unset, .unset, .unset, .unset, .unset] [(.int t0)]) := by
  obtain ⟨hx, hZ, hby, hml, hown, hnm, hret, hlk⟩ := id C
  unfold f0_54 at hv
  show own_WP p e below _ T (mkF m 54 #[.val (.int x0), .val (.long x1), .second, .val (.int x3), .val (.int x4), .val (.int x5), .unset, .unset, .unset, .unset, .unset, .unset, .unset, .unset] [(.int t0)])
  refine own_go (fun _ => XS.istore X.here hx rfl (hb hby at_54) rfl (l' := #[.val (.int x0), .val (.long x1), .second, .val (.int x3), .val (.int x4), .val (.int x5), .val (.int t0), .unset, .unset, .unset, .unset, .unset, .unset, .unset]) rfl) ?_
  show own_WP p e below _ T (mkF m 56 #[.val (.int x0), .val (.long x1), .second, .val (.int x3), .val (.int x4), .val (.int x5), .val (.int t0), .unset, .unset, .unset, .unset, .unset, .unset, .unset] [])
  refine own_go (fun _ => XS.iloadN X.here hx rfl (hb hby at_56) rfl) ?_
  show own_WP p e below _ T (mkF m 57 #[.val (.int x0), .val (.long x1), .second, .val (.int x3), .val (.int x4), .val (.int x5), .val (.int t0), .unset, .unset, .unset, .unset, .unset, .unset, .unset] [(.int x0)])
  refine own_go (fun _ => XS.i2l X.here hx rfl (hb hby at_57) rfl) ?_
  show own_WP p e below _ T (mkF m 58 #[.val (.int x0), .val (.long x1), .second, .val (.int x3), .val (.int x4), .val (.int x5), .val (.int t0), .unset, .unset, .unset, .unset, .unset, .unset, .unset] [(.long (x0.toInt64))])
  refine own_go (X.ldc2Long hx hown (mvT hZ (hw _ (List.mem_of_getElem? (i := 7) rfl))) (g := (mkF m 58 #[.val (.int x0), .val (.long x1), .second, .val (.int x3), .val (.int x4), .val (.int x5), .val (.int t0), .unset, .unset, .unset, .unset, .unset, .unset, .unset] [(.long (x0.toInt64))])) rfl (hb hby at_58)) ?_
  show own_WP p e below _ T (mkF m 61 #[.val (.int x0), .val (.long x1), .second, .val (.int x3), .val (.int x4), .val (.int x5), .val (.int t0), .unset, .unset, .unset, .unset, .unset, .unset, .unset] [(.long (-7046029254386353131 : Int64)), (.long (x0.toInt64))])
  refine own_go (fun _ => XS.lmul X.here hx rfl (hb hby at_61) rfl) ?_
  show own_WP p e below _ T (mkF m 62 #[.val (.int x0), .val (.long x1), .second, .val (.int x3), .val (.int x4), .val (.int x5), .val (.int t0), .unset, .unset, .unset, .unset, .unset, .unset, .unset] [(.long ((x0.toInt64) * (-7046029254386353131 : Int64)))])
  refine own_go (fun _ => XS.lstore X.here hx rfl (hb hby at_62) rfl (l' := #[.val (.int x0), .val (.long x1), .second, .val (.int x3), .val (.int x4), .val (.int x5), .val (.int t0), .val (.long ((x0.toInt64) * (-7046029254386353131 : Int64))), .second, .unset, .unset, .unset, .unset, .unset]) rfl) ?_
  exact b0_64 hw C X e0 x0 x1 x3 x4 x5 t0 ((x0.toInt64) * (-7046029254386353131 : Int64)) r hv hP
def f0_53 (x0 : Int32) (x1 : Int64) (x3 : Int32) (x4 : Int32) (x5 : Int32) : Int32 := (f0_54 x0 x1 x3 x4 x5 (0 : Int32))
set_option maxRecDepth 65536 in
set_option maxHeartbeats 40000000 in
theorem b0_53 {p : Program} {l : Launch} {e : Env} {s : State} {m : MethodId} {args : Array Value} {below : List Frame} {meth : Method} {c : Code} {T : State} {locs : List Loc} {Z : State} {a0 : Array Value} {h0 : Heap} {P : Option Value → Heap → List Loc → Prop} (hw : ∀ d ∈ tables_1, d.before a0 Z = true) (C : own_Ctx p s m meth c Z x code maxLocals ret)
    (X : Stand p l e room_1 s m args below meth c T locs 0 0) (e0 : T.heap = h0) (x0 : Int32) (x1 : Int64) (x3 : Int32) (x4 : Int32) (x5 : Int32) (r : Int32) (hv : f0_53 x0 x1 x3 x4 x5 = r) (hP : P (some (.int r)) h0 locs) :
    own_WP p e below (own_Q s P room_1.cells room_1.slots) T (mkF m 53 #[.val (.int x0), .val (.long x1), .second, .val (.int x3), .val (.int x4), .val (.int x5), .unset, .unset, .unset, .unset, .unset, .unset, .unset, .unset] []) := by
  obtain ⟨hx, hZ, hby, hml, hown, hnm, hret, hlk⟩ := id C
  unfold f0_53 at hv
  show own_WP p e below _ T (mkF m 53 #[.val (.int x0), .val (.long x1), .second, .val (.int x3), .val (.int x4), .val (.int x5), .unset, .unset, .unset, .unset, .unset, .unset, .unset, .unset] [])
  refine own_go (fun _ => XS.iconst X.here hx rfl (hb hby at_53)) ?_
  exact b0_54 hw C X e0 x0 x1 x3 x4 x5 (0 : Int32) r hv hP
def f0_32 (x0 : Int32) (x1 : Int64) (x3 : Int32) (x4 : Int32) (t0 : Int32) : Int32 := (if x4 = (0 : Int32) then (f0_53 x0 x1 x3 x4 t0) else (if (x4 &&& (x4 - (1 : Int32))) = (0 : Int32) then (f0_54 x0 x1 x3 x4 t0 (1 : Int32)) else (f0_53 x0 x1 x3 x4 t0)))
set_option maxRecDepth 65536 in
set_option maxHeartbeats 40000000 in
theorem b0_32 {p : Program} {l : Launch} {e : Env} {s : State} {m : MethodId} {args : Array Value} {below : List Frame} {meth : Method} {c : Code} {T : State} {locs : List Loc} {Z : State} {a0 : Array Value} {h0 : Heap} {P : Option Value → Heap → List Loc → Prop} (hw : ∀ d ∈ tables_1, d.before a0 Z = true) (C : own_Ctx p s m meth c Z x code maxLocals ret)
    (X : Stand p l e room_1 s m args below meth c T locs 0 0) (e0 : T.heap = h0) (x0 : Int32) (x1 : Int64) (x3 : Int32) (x4 : Int32) (t0 : Int32) (r : Int32) (hv : f0_32 x0 x1 x3 x4 t0 = r) (hP : P (some (.int r)) h0 locs) :
    own_WP p e below (own_Q s P room_1.cells room_1.slots) T (mkF m 32 #[.val (.int x0), .val (.long x1), .second, .val (.int x3), .val (.int x4), .unset, .unset, .unset, .unset, .unset, .unset, .unset, .unset, .unset] [(.int t0)]) := by
  obtain ⟨hx, hZ, hby, hml, hown, hnm, hret, hlk⟩ := id C
  unfold f0_32 at hv
  show own_WP p e below _ T (mkF m 32 #[.val (.int x0), .val (.long x1), .second, .val (.int x3), .val (.int x4), .unset, .unset, .unset, .unset, .unset, .unset, .unset, .unset, .unset] [(.int t0)])
  refine own_go (fun _ => XS.istore X.here hx rfl (hb hby at_32) rfl (l' := #[.val (.int x0), .val (.long x1), .second, .val (.int x3), .val (.int x4), .val (.int t0), .unset, .unset, .unset, .unset, .unset, .unset, .unset, .unset]) rfl) ?_
  show own_WP p e below _ T (mkF m 34 #[.val (.int x0), .val (.long x1), .second, .val (.int x3), .val (.int x4), .val (.int t0), .unset, .unset, .unset, .unset, .unset, .unset, .unset, .unset] [])
  refine own_go (fun _ => XS.iload X.here hx rfl (hb hby at_34) rfl) ?_
  show own_WP p e below _ T (mkF m 36 #[.val (.int x0), .val (.long x1), .second, .val (.int x3), .val (.int x4), .val (.int t0), .unset, .unset, .unset, .unset, .unset, .unset, .unset, .unset] [(.int x4)])
  by_cases h36 : x4 = (0 : Int32)
  · replace hv := (if_pos h36).symm.trans hv
    refine own_go (fun _ => XS.ifYes X.here hx rfl (pc0 := 36) (pc' := 53) rfl (hb hby at_36) rfl (XT.i0_eq_t h36) (by decide) (by decide)) ?_
    exact b0_53 hw C X e0 x0 x1 x3 x4 t0 r hv hP
  · replace hv := (if_neg h36).symm.trans hv
    refine own_go (fun _ => XS.ifNo X.here hx rfl (hb hby at_36) rfl (XT.i0_eq_f h36)) ?_
    show own_WP p e below _ T (mkF m 39 #[.val (.int x0), .val (.long x1), .second, .val (.int x3), .val (.int x4), .val (.int t0), .unset, .unset, .unset, .unset, .unset, .unset, .unset, .unset] [])
    refine own_go (fun _ => XS.iload X.here hx rfl (hb hby at_39) rfl) ?_
    show own_WP p e below _ T (mkF m 41 #[.val (.int x0), .val (.long x1), .second, .val (.int x3), .val (.int x4), .val (.int t0), .unset, .unset, .unset, .unset, .unset, .unset, .unset, .unset] [(.int x4)])
    refine own_go (fun _ => XS.iload X.here hx rfl (hb hby at_41) rfl) ?_
    show own_WP p e below _ T (mkF m 43 #[.val (.int x0), .val (.long x1), .second, .val (.int x3), .val (.int x4), .val (.int t0), .unset, .unset, .unset, .unset, .unset, .unset, .unset, .unset] [(.int x4), (.int x4)])
    refine own_go (fun _ => XS.iconst X.here hx rfl (hb hby at_43)) ?_
    show own_WP p e below _ T (mkF m 44 #[.val (.int x0), .val (.long x1), .second, .val (.int x3), .val (.int x4), .val (.int t0), .unset, .unset, .unset, .unset, .unset, .unset, .unset, .unset] [(.int (1 : Int32)), (.int x4), (.int x4)])
    refine own_go (fun _ => XS.isub X.here hx rfl (hb hby at_44) rfl) ?_
    show own_WP p e below _ T (mkF m 45 #[.val (.int x0), .val (.long x1), .second, .val (.int x3), .val (.int x4), .val (.int t0), .unset, .unset, .unset, .unset, .unset, .unset, .unset, .unset] [(.int (x4 - (1 : Int32))), (.int x4)])
    refine own_go (fun _ => XS.iand X.here hx rfl (hb hby at_45) rfl) ?_
    show own_WP p e below _ T (mkF m 46 #[.val (.int x0), .val (.long x1), .second, .val (.int x3), .val (.int x4), .val (.int t0), .unset, .unset, .unset, .unset, .unset, .unset, .unset, .unset] [(.int (x4 &&& (x4 - (1 : Int32))))])
    by_cases h46 : (x4 &&& (x4 - (1 : Int32))) = (0 : Int32)
    · replace hv := (if_pos h46).symm.trans hv
      refine own_go (fun _ => XS.ifNo X.here hx rfl (hb hby at_46) rfl (XT.i0_ne_f h46)) ?_
      show own_WP p e below _ T (mkF m 49 #[.val (.int x0), .val (.long x1), .second, .val (.int x3), .val (.int x4), .val (.int t0), .unset, .unset, .unset, .unset, .unset, .unset, .unset, .unset] [])
      refine own_go (fun _ => XS.iconst X.here hx rfl (hb hby at_49)) ?_
      show own_WP p e below _ T (mkF m 50 #[.val (.int x0), .val (.long x1), .second, .val (.int x3), .val (.int x4), .val (.int t0), .unset, .unset, .unset, .unset, .unset, .unset, .unset, .unset] [(.int (1 : Int32))])
      refine own_go (fun _ => XS.goto X.here hx rfl (pc0 := 50) (pc' := 54) rfl (hb hby at_50) (by decide) (by decide)) ?_
      exact b0_54 hw C X e0 x0 x1 x3 x4 t0 (1 : Int32) r hv hP
    · replace hv := (if_neg h46).symm.trans hv
      refine own_go (fun _ => XS.ifYes X.here hx rfl (pc0 := 46) (pc' := 53) rfl (hb hby at_46) rfl (XT.i0_ne_t h46) (by decide) (by decide)) ?_
      exact b0_53 hw C X e0 x0 x1 x3 x4 t0 r hv hP
def f0_31 (x0 : Int32) (x1 : Int64) (x3 : Int32) (x4 : Int32) : Int32 := (f0_32 x0 x1 x3 x4 (0 : Int32))
set_option maxRecDepth 65536 in
set_option maxHeartbeats 40000000 in
theorem b0_31 {p : Program} {l : Launch} {e : Env} {s : State} {m : MethodId} {args : Array Value} {below : List Frame} {meth : Method} {c : Code} {T : State} {locs : List Loc} {Z : State} {a0 : Array Value} {h0 : Heap} {P : Option Value → Heap → List Loc → Prop} (hw : ∀ d ∈ tables_1, d.before a0 Z = true) (C : own_Ctx p s m meth c Z x code maxLocals ret)
    (X : Stand p l e room_1 s m args below meth c T locs 0 0) (e0 : T.heap = h0) (x0 : Int32) (x1 : Int64) (x3 : Int32) (x4 : Int32) (r : Int32) (hv : f0_31 x0 x1 x3 x4 = r) (hP : P (some (.int r)) h0 locs) :
    own_WP p e below (own_Q s P room_1.cells room_1.slots) T (mkF m 31 #[.val (.int x0), .val (.long x1), .second, .val (.int x3), .val (.int x4), .unset, .unset, .unset, .unset, .unset, .unset, .unset, .unset, .unset] []) := by
  obtain ⟨hx, hZ, hby, hml, hown, hnm, hret, hlk⟩ := id C
  unfold f0_31 at hv
  show own_WP p e below _ T (mkF m 31 #[.val (.int x0), .val (.long x1), .second, .val (.int x3), .val (.int x4), .unset, .unset, .unset, .unset, .unset, .unset, .unset, .unset, .unset] [])
  refine own_go (fun _ => XS.iconst X.here hx rfl (hb hby at_31)) ?_
  exact b0_32 hw C X e0 x0 x1 x3 x4 (0 : Int32) r hv hP
def f0_15 (x0 : Int32) (x1 : Int64) (x3 : Int32) (x4 : Int32) : Int32 := (if x3 = (0 : Int32) then (f0_31 x0 x1 x3 x4) else (if (x3 &&& (x3 - (1 : Int32))) = (0 : Int32) then (f0_32 x0 x1 x3 x4 (1 : Int32)) else (f0_31 x0 x1 x3 x4)))
set_option maxRecDepth 65536 in
set_option maxHeartbeats 40000000 in
theorem b0_15 {p : Program} {l : Launch} {e : Env} {s : State} {m : MethodId} {args : Array Value} {below : List Frame} {meth : Method} {c : Code} {T : State} {locs : List Loc} {Z : State} {a0 : Array Value} {h0 : Heap} {P : Option Value → Heap → List Loc → Prop} (hw : ∀ d ∈ tables_1, d.before a0 Z = true) (C : own_Ctx p s m meth c Z x code maxLocals ret)
    (X : Stand p l e room_1 s m args below meth c T locs 0 0) (e0 : T.heap = h0) (x0 : Int32) (x1 : Int64) (x3 : Int32) (x4 : Int32) (r : Int32) (hv : f0_15 x0 x1 x3 x4 = r) (hP : P (some (.int r)) h0 locs) :
    own_WP p e below (own_Q s P room_1.cells room_1.slots) T (mkF m 15 #[.val (.int x0), .val (.long x1), .second, .val (.int x3), .val (.int x4), .unset, .unset, .unset, .unset, .unset, .unset, .unset, .unset, .unset] []) := by
  obtain ⟨hx, hZ, hby, hml, hown, hnm, hret, hlk⟩ := id C
  unfold f0_15 at hv
  show own_WP p e below _ T (mkF m 15 #[.val (.int x0), .val (.long x1), .second, .val (.int x3), .val (.int x4), .unset, .unset, .unset, .unset, .unset, .unset, .unset, .unset, .unset] [])
  refine own_go (fun _ => XS.iloadN X.here hx rfl (hb hby at_15) rfl) ?_
  show own_WP p e below _ T (mkF m 16 #[.val (.int x0), .val (.long x1), .second, .val (.int x3), .val (.int x4), .unset, .unset, .unset, .unset, .unset, .unset, .unset, .unset, .unset] [(.int x3)])
  by_cases h16 : x3 = (0 : Int32)
  · replace hv := (if_pos h16).symm.trans hv
    refine own_go (fun _ => XS.ifYes X.here hx rfl (pc0 := 16) (pc' := 31) rfl (hb hby at_16) rfl (XT.i0_eq_t h16) (by decide) (by decide)) ?_
    exact b0_31 hw C X e0 x0 x1 x3 x4 r hv hP
  · replace hv := (if_neg h16).symm.trans hv
    refine own_go (fun _ => XS.ifNo X.here hx rfl (hb hby at_16) rfl (XT.i0_eq_f h16)) ?_
    show own_WP p e below _ T (mkF m 19 #[.val (.int x0), .val (.long x1), .second, .val (.int x3), .val (.int x4), .unset, .unset, .unset, .unset, .unset, .unset, .unset, .unset, .unset] [])
    refine own_go (fun _ => XS.iloadN X.here hx rfl (hb hby at_19) rfl) ?_
    show own_WP p e below _ T (mkF m 20 #[.val (.int x0), .val (.long x1), .second, .val (.int x3), .val (.int x4), .unset, .unset, .unset, .unset, .unset, .unset, .unset, .unset, .unset] [(.int x3)])
    refine own_go (fun _ => XS.iloadN X.here hx rfl (hb hby at_20) rfl) ?_
    show own_WP p e below _ T (mkF m 21 #[.val (.int x0), .val (.long x1), .second, .val (.int x3), .val (.int x4), .unset, .unset, .unset, .unset, .unset, .unset, .unset, .unset, .unset] [(.int x3), (.int x3)])
    refine own_go (fun _ => XS.iconst X.here hx rfl (hb hby at_21)) ?_
    show own_WP p e below _ T (mkF m 22 #[.val (.int x0), .val (.long x1), .second, .val (.int x3), .val (.int x4), .unset, .unset, .unset, .unset, .unset, .unset, .unset, .unset, .unset] [(.int (1 : Int32)), (.int x3), (.int x3)])
    refine own_go (fun _ => XS.isub X.here hx rfl (hb hby at_22) rfl) ?_
    show own_WP p e below _ T (mkF m 23 #[.val (.int x0), .val (.long x1), .second, .val (.int x3), .val (.int x4), .unset, .unset, .unset, .unset, .unset, .unset, .unset, .unset, .unset] [(.int (x3 - (1 : Int32))), (.int x3)])
    refine own_go (fun _ => XS.iand X.here hx rfl (hb hby at_23) rfl) ?_
    show own_WP p e below _ T (mkF m 24 #[.val (.int x0), .val (.long x1), .second, .val (.int x3), .val (.int x4), .unset, .unset, .unset, .unset, .unset, .unset, .unset, .unset, .unset] [(.int (x3 &&& (x3 - (1 : Int32))))])
    by_cases h24 : (x3 &&& (x3 - (1 : Int32))) = (0 : Int32)
    · replace hv := (if_pos h24).symm.trans hv
      refine own_go (fun _ => XS.ifNo X.here hx rfl (hb hby at_24) rfl (XT.i0_ne_f h24)) ?_
      show own_WP p e below _ T (mkF m 27 #[.val (.int x0), .val (.long x1), .second, .val (.int x3), .val (.int x4), .unset, .unset, .unset, .unset, .unset, .unset, .unset, .unset, .unset] [])
      refine own_go (fun _ => XS.iconst X.here hx rfl (hb hby at_27)) ?_
      show own_WP p e below _ T (mkF m 28 #[.val (.int x0), .val (.long x1), .second, .val (.int x3), .val (.int x4), .unset, .unset, .unset, .unset, .unset, .unset, .unset, .unset, .unset] [(.int (1 : Int32))])
      refine own_go (fun _ => XS.goto X.here hx rfl (pc0 := 28) (pc' := 32) rfl (hb hby at_28) (by decide) (by decide)) ?_
      exact b0_32 hw C X e0 x0 x1 x3 x4 (1 : Int32) r hv hP
    · replace hv := (if_neg h24).symm.trans hv
      refine own_go (fun _ => XS.ifYes X.here hx rfl (pc0 := 24) (pc' := 31) rfl (hb hby at_24) rfl (XT.i0_ne_t h24) (by decide) (by decide)) ?_
      exact b0_31 hw C X e0 x0 x1 x3 x4 r hv hP
def f0_0 (x0 : Int32) : Int32 := (f0_15 x0 (f1_0 x0) ((f1_0 x0).toInt32) ((XT.ushrL (f1_0 x0) (32 : Int32)).toInt32))
set_option maxRecDepth 65536 in
set_option maxHeartbeats 40000000 in
theorem b0_0 {p : Program} {l : Launch} {e : Env} {s : State} {m : MethodId} {args : Array Value} {below : List Frame} {meth : Method} {c : Code} {T : State} {locs : List Loc} {Z : State} {a0 : Array Value} {h0 : Heap} {P : Option Value → Heap → List Loc → Prop} (hw : ∀ d ∈ tables_1, d.before a0 Z = true) (C : own_Ctx p s m meth c Z x code maxLocals ret)
    (X : Stand p l e room_1 s m args below meth c T locs 0 0) (e0 : T.heap = h0) (x0 : Int32) (r : Int32) (hv : f0_0 x0 = r) (hP : P (some (.int r)) h0 locs) :
    own_WP p e below (own_Q s P room_1.cells room_1.slots) T (mkF m 0 #[.val (.int x0), .unset, .unset, .unset, .unset, .unset, .unset, .unset, .unset, .unset, .unset, .unset, .unset, .unset] []) := by
  obtain ⟨hx, hZ, hby, hml, hown, hnm, hret, hlk⟩ := id C
  unfold f0_0 at hv
  show own_WP p e below _ T (mkF m 0 #[.val (.int x0), .unset, .unset, .unset, .unset, .unset, .unset, .unset, .unset, .unset, .unset, .unset, .unset, .unset] [])
  refine own_go (fun _ => XS.iloadN X.here hx rfl (hb hby at_0) rfl) ?_
  show own_WP p e below _ T (mkF m 1 #[.val (.int x0), .unset, .unset, .unset, .unset, .unset, .unset, .unset, .unset, .unset, .unset, .unset, .unset, .unset] [(.int x0)])
  obtain ⟨T, v', L', X, ⟨rfl, rfl, e0⟩, st'⟩ := own_callS X C (rm1 l Z a0 hw x0 h0) (hw _ (List.mem_of_getElem? (i := 0) rfl)) (hw _ (List.mem_of_getElem? (i := 1) rfl)) (hw _ (List.mem_of_getElem? (i := 2) rfl)) (hw _ (List.mem_of_getElem? (i := 3) rfl)) (by decide) e0 (W := 0) (pc := 1) (Ls := #[.val (.int x0), .unset, .unset, .unset, .unset, .unset, .unset, .unset, .unset, .unset, .unset, .unset, .unset, .unset]) rfl (lenOf pd1 rfl) (rest := []) (stk := [(.int x0)]) rfl (Nat.le_of_ble_eq_true rfl) (hb hby at_1) (by decide) (by decide) (by decide) (by decide)
  rw [List.append_nil] at X
  refine own_go st' ?_
  show own_WP p e below _ T (mkF m 4 #[.val (.int x0), .unset, .unset, .unset, .unset, .unset, .unset, .unset, .unset, .unset, .unset, .unset, .unset, .unset] [(.long (f1_0 x0))])
  refine own_go (fun _ => XS.lstoreN X.here hx rfl (hb hby at_4) rfl (l' := #[.val (.int x0), .val (.long (f1_0 x0)), .second, .unset, .unset, .unset, .unset, .unset, .unset, .unset, .unset, .unset, .unset, .unset]) rfl) ?_
  show own_WP p e below _ T (mkF m 5 #[.val (.int x0), .val (.long (f1_0 x0)), .second, .unset, .unset, .unset, .unset, .unset, .unset, .unset, .unset, .unset, .unset, .unset] [])
  refine own_go (fun _ => XS.lloadN X.here hx rfl (hb hby at_5) rfl) ?_
  show own_WP p e below _ T (mkF m 6 #[.val (.int x0), .val (.long (f1_0 x0)), .second, .unset, .unset, .unset, .unset, .unset, .unset, .unset, .unset, .unset, .unset, .unset] [(.long (f1_0 x0))])
  refine own_go (fun _ => XS.l2i X.here hx rfl (hb hby at_6) rfl) ?_
  show own_WP p e below _ T (mkF m 7 #[.val (.int x0), .val (.long (f1_0 x0)), .second, .unset, .unset, .unset, .unset, .unset, .unset, .unset, .unset, .unset, .unset, .unset] [(.int ((f1_0 x0).toInt32))])
  refine own_go (fun _ => XS.istoreN X.here hx rfl (hb hby at_7) rfl (l' := #[.val (.int x0), .val (.long (f1_0 x0)), .second, .val (.int ((f1_0 x0).toInt32)), .unset, .unset, .unset, .unset, .unset, .unset, .unset, .unset, .unset, .unset]) rfl) ?_
  show own_WP p e below _ T (mkF m 8 #[.val (.int x0), .val (.long (f1_0 x0)), .second, .val (.int ((f1_0 x0).toInt32)), .unset, .unset, .unset, .unset, .unset, .unset, .unset, .unset, .unset, .unset] [])
  refine own_go (fun _ => XS.lloadN X.here hx rfl (hb hby at_8) rfl) ?_
  show own_WP p e below _ T (mkF m 9 #[.val (.int x0), .val (.long (f1_0 x0)), .second, .val (.int ((f1_0 x0).toInt32)), .unset, .unset, .unset, .unset, .unset, .unset, .unset, .unset, .unset, .unset] [(.long (f1_0 x0))])
  refine own_go (fun _ => XS.bipush X.here hx rfl (hb hby at_9)) ?_
  show own_WP p e below _ T (mkF m 11 #[.val (.int x0), .val (.long (f1_0 x0)), .second, .val (.int ((f1_0 x0).toInt32)), .unset, .unset, .unset, .unset, .unset, .unset, .unset, .unset, .unset, .unset] [(.int (32 : Int32)), (.long (f1_0 x0))])
  refine own_go (fun _ => XT.lushr X.here hx rfl (hb hby at_11) rfl) ?_
  show own_WP p e below _ T (mkF m 12 #[.val (.int x0), .val (.long (f1_0 x0)), .second, .val (.int ((f1_0 x0).toInt32)), .unset, .unset, .unset, .unset, .unset, .unset, .unset, .unset, .unset, .unset] [(.long (XT.ushrL (f1_0 x0) (32 : Int32)))])
  refine own_go (fun _ => XS.l2i X.here hx rfl (hb hby at_12) rfl) ?_
  show own_WP p e below _ T (mkF m 13 #[.val (.int x0), .val (.long (f1_0 x0)), .second, .val (.int ((f1_0 x0).toInt32)), .unset, .unset, .unset, .unset, .unset, .unset, .unset, .unset, .unset, .unset] [(.int ((XT.ushrL (f1_0 x0) (32 : Int32)).toInt32))])
  refine own_go (fun _ => XS.istore X.here hx rfl (hb hby at_13) rfl (l' := #[.val (.int x0), .val (.long (f1_0 x0)), .second, .val (.int ((f1_0 x0).toInt32)), .val (.int ((XT.ushrL (f1_0 x0) (32 : Int32)).toInt32)), .unset, .unset, .unset, .unset, .unset, .unset, .unset, .unset, .unset]) rfl) ?_
  exact b0_15 hw C X e0 x0 (f1_0 x0) ((f1_0 x0).toInt32) ((XT.ushrL (f1_0 x0) (32 : Int32)).toInt32) r hv hP
theorem ef0 (m : MethodId) (x0 : Int32) : entryFrame m #[(.int x0)] maxLocals = (mkF m 0 #[.val (.int x0), .unset, .unset, .unset, .unset, .unset, .unset, .unset, .unset, .unset, .unset, .unset, .unset, .unset] []) := by first | (simp [entryFrame, mkF, argsToLocals, Value.category, maxLocals]; done) | rfl
def own_R (i j : Int32) : Int64 := ((1 : Int64) <<< (i &&& 0x3f).toInt64) ||| ((4294967296 : Int64) <<< (j &&& 0x3f).toInt64)
theorem own_ushrL (m : Int64) (k : Int32) (n : Nat) (hk : ((k.toInt64.toUInt64 &&& Int64.toUInt64 63).toBitVec % 64).toNat = n) : (XT.ushrL m k).toBitVec = m.toBitVec >>> n := by
  show m.toUInt64.toBitVec >>> ((k.toInt64.toUInt64 &&& Int64.toUInt64 63).toBitVec % 64) = _
  rw [BitVec.ushiftRight_eq', hk]; rfl
theorem own_l2i (m : Int64) : m.toInt32.toBitVec = m.toBitVec.setWidth 32 := by
  rw [Int64.toBitVec_toInt32]
  exact BitVec.signExtend_eq_setWidth_of_le _ (by decide)
theorem own_i (m : Int64) : (XT.ushrL m (59 : Int32)).toInt32 = Int32.ofNat (m.toBitVec.toNat / 576460752303423488) := by
  apply Int32.toBitVec_inj.mp
  rw [own_l2i, own_ushrL m 59 59 (by decide +kernel)]
  show _ = BitVec.ofNat 32 _
  apply BitVec.eq_of_toNat_eq
  simp only [BitVec.toNat_setWidth, BitVec.toNat_ushiftRight, Nat.shiftRight_eq_div_pow, BitVec.toNat_ofNat]
theorem own_j (m : Int64) : ((XT.ushrL m (54 : Int32)) &&& (31 : Int64)).toInt32 = Int32.ofNat (m.toBitVec.toNat / 18014398509481984 % 32) := by
  apply Int32.toBitVec_inj.mp
  rw [own_l2i, Int64.toBitVec_and, own_ushrL m 54 54 (by decide +kernel)]
  show _ = BitVec.ofNat 32 _
  apply BitVec.eq_of_toNat_eq
  simp only [BitVec.toNat_setWidth, BitVec.toNat_and, BitVec.toNat_ushiftRight, Nat.shiftRight_eq_div_pow, BitVec.toNat_ofNat]
  have e : (31 : Int64).toBitVec.toNat = 2 ^ 5 - 1 := by decide +kernel
  rw [e, Nat.and_two_pow_sub_one_eq_mod]
def own_one (v : Int32) : Int32 := if v = 0 then 0 else if v &&& (v - 1) = 0 then 1 else 0
theorem own_15 (x0 : Int32) (r : Int64) (lo hi : Int32) : f0_15 x0 r lo hi = f0_64 r lo hi (own_one lo) (own_one hi) (x0.toInt64 * (-7046029254386353131 : Int64)) := by
  unfold f0_15 f0_31 f0_32 f0_53 f0_54 own_one
  repeat' split
  all_goals rfl
theorem own_top (m : Int64) : XT.ushr ((XT.ushrL m (32 : Int32)).toInt32) (27 : Int32) = Int32.ofNat (m.toBitVec.toNat / 576460752303423488) := by
  apply Int32.toBitVec_inj.mp
  have e : (XT.ushr ((XT.ushrL m (32 : Int32)).toInt32) (27 : Int32)).toBitVec = ((XT.ushrL m (32 : Int32)).toInt32).toBitVec >>> 27 := rfl
  rw [e, own_l2i, own_ushrL m 32 32 (by decide +kernel)]
  show _ = BitVec.ofNat 32 _
  apply BitVec.eq_of_toNat_eq
  simp only [BitVec.toNat_setWidth, BitVec.toNat_ushiftRight, Nat.shiftRight_eq_div_pow, BitVec.toNat_ofNat]
  have b := m.toBitVec.isLt
  generalize m.toBitVec.toNat = n at *
  omega
theorem own_next (m : Int64) : (XT.ushr ((XT.ushrL m (32 : Int32)).toInt32) (22 : Int32)) &&& (31 : Int32) = Int32.ofNat (m.toBitVec.toNat / 18014398509481984 % 32) := by
  apply Int32.toBitVec_inj.mp
  have e : (XT.ushr ((XT.ushrL m (32 : Int32)).toInt32) (22 : Int32)).toBitVec = ((XT.ushrL m (32 : Int32)).toInt32).toBitVec >>> 22 := rfl
  rw [Int32.toBitVec_and, e, own_l2i, own_ushrL m 32 32 (by decide +kernel)]
  show _ = BitVec.ofNat 32 _
  apply BitVec.eq_of_toNat_eq
  simp only [BitVec.toNat_and, BitVec.toNat_setWidth, BitVec.toNat_ushiftRight, Nat.shiftRight_eq_div_pow, BitVec.toNat_ofNat]
  have q : (31 : Int32).toBitVec.toNat = 2 ^ 5 - 1 := by decide +kernel
  rw [q, Nat.and_two_pow_sub_one_eq_mod]
  have b := m.toBitVec.isLt
  generalize m.toBitVec.toNat = n at *
  omega
set_option maxRecDepth 65536 in
theorem own_fin : ∀ i j : Fin 32, f0_89 (own_R (Int32.ofNat i.val) (Int32.ofNat j.val)) ((own_R (Int32.ofNat i.val) (Int32.ofNat j.val)).toInt32) ((XT.ushrL (own_R (Int32.ofNat i.val) (Int32.ofNat j.val)) (32 : Int32)).toInt32) (own_one ((own_R (Int32.ofNat i.val) (Int32.ofNat j.val)).toInt32)) (own_one ((XT.ushrL (own_R (Int32.ofNat i.val) (Int32.ofNat j.val)) (32 : Int32)).toInt32)) (Int32.ofNat i.val) (Int32.ofNat j.val) = 1 := by decide +kernel
theorem plain0 (x0 : Int32) : f0_0 x0 = 1 := by
  unfold f0_0
  rw [own_15]
  have e : f1_0 x0 = f1_7 (x0.toInt64 * (-7046029254386353131 : Int64)) := rfl
  rw [e]
  generalize x0.toInt64 * (-7046029254386353131 : Int64) = m
  have e2 : f1_7 m = own_R ((XT.ushrL m (59 : Int32)).toInt32) (((XT.ushrL m (54 : Int32)) &&& (31 : Int64)).toInt32) := rfl
  rw [e2]
  unfold f0_64 f0_72 f0_79
  rw [own_top, own_next, own_i, own_j]
  have b := m.toBitVec.isLt
  exact own_fin ⟨m.toBitVec.toNat / 576460752303423488, by omega⟩ ⟨m.toBitVec.toNat / 18014398509481984 % 32, by omega⟩
theorem pn0 : plainFor x = true := plainFor_of_name (by first | (simp [plainName, overriddenIn, x]; done) | decide +kernel)
theorem rm0 (l : Launch) (Z : State) (a0 : Array Value) (hw : ∀ d ∈ tables_1, d.before a0 Z = true) (ws : List Jvm.Cond) (x0 : Int32) (h0 : Heap) : own_Met l Z x code maxLocals ret ws room_1 #[(.int x0)] h0 (fun v h L => v = some (.int 1) ∧ Fr h0.size L) := by
  refine own_body pn0 ?_
  intro p e s m below meth c s₁ C X e0
  exact own_cast (ef0 m x0) (b0_0 hw C X e0 x0 _ (plain0 x0) ⟨rfl, Fr.nil _⟩)
set_option maxRecDepth 65536 in
set_option maxHeartbeats 40000000 in
theorem comes_1 {Post : Tables → Env → Array Value → State → Outcome → State → Prop} (hpost : ∀ tb e args s v u, (limb_1_1.after args s (.returned v) u = true ∧ limb_1_2.after args s (.returned v) u = true ∧ True) → FrameEnd s (.returned v) u (Jvm.fieldLocs frame_1_writes args s ++ Jvm.arrayLocs frame_1_arrays args s ++ Jvm.staticLocs frame_1_statics s) 0 0 → Post tb e args s (.returned v) u) :
    ArmFor flags0 classFile x code maxLocals ret World_1 tables_1 room_1 Calls_1 rest_1 Pre_1 Post := by
  intro l hfl _ _ p e ha hc hk s m args below hf hA hF happ hP
  obtain ⟨hcalls, hrest, hpre⟩ := hP
  obtain ⟨-, -, -, hnamed, -, -, -, hat⟩ := (Spec.applies_iff hf).mp happ
  obtain ⟨hg, hn⟩ := and_e (Cond.before_iff.mp (show (Jvm.Cond.and given_1 narrow_1).before args s = true from hpre))
  obtain ⟨hcnt, hg0⟩ := and_e hg
  have ha0 := hg0
  obtain ⟨w0, rfl⟩ : ∃ w0 : Value, args = #[w0] := by
    have hs : args.size = 1 := by simpa [Cond.value, given_1] using hcnt
    obtain ⟨L⟩ := args
    match L, hs with
    | [w0], _ => exact ⟨w0, rfl⟩
  have hw := fun d (hd : d ∈ tables_1) => atoms_spec (ws := Jvm.Cond.code x code maxLocals ret :: tables_1) hat d (List.mem_cons_of_mem _ hd)
  obtain ⟨i0, ei0⟩ := is_v ha0
  obtain rfl : w0 = (.int i0) := Option.some.inj ei0
  obtain ⟨n, o, h1, h2, h3, _, L, rfl, ⟨rfl, N⟩, hq⟩ := rm0 l s _ hw tables_1 i0 s.heap p e ha hc hk s m _ below hf ((Spec.applies_iff_loose hf).mp happ).1 ⟨rfl, State.Warmed39.refl s, rfl⟩ trivial
  refine ⟨n, _, h1, h2, h3, hpost _ _ _ _ _ _ ⟨Cond.after_iff.mpr rfl, Cond.after_iff.mpr (eq_i res_at (Term.int_eval (1)) rfl), trivial⟩ ⟨hq.1, hq.2.1, (hq.2.2.sift fun y hy => Or.inr (N y hy)).mono (by decide) (by decide)⟩⟩
theorem main_1_1 : Claimed_1_1 := comes_1 fun _ _ _ _ _ _ h hF => ⟨h.1, hF⟩
theorem main_1_2 : Claimed_1_2 := comes_1 fun _ _ _ _ _ _ h hF => ⟨h.2.1, hF⟩
end Jvm.Pilot.@@N@@
namespace Jvm.Pilot.@@N@@
open Jvm Jvm.ClassFile Sem Op Lib Jvm.Free Jvm.Stand Jvm.Pilot.@@N@@.Jvm.D
/-! MADE BY PROGRAM (witnessworld.py) out of the Statement's table words and the real class files: 10 classes; the members and pool entries that the words name. The judged class is class 1, her method 1. -/
namespace start1
open Jvm.ClassFile
def u (s : String) : CpInfo := .utf8 (stringToUtf16 s)
/-- a pool by its gaps: so many unusable entries, then the entry; so many at the end -/
def gap : Nat → List CpInfo → List CpInfo
  | 0, r => r
  | n + 1, r => .unusable :: gap n r
def poolList (es : List (Nat × CpInfo)) (last : Nat) : List CpInfo := es.foldr (fun e r => gap e.1 (e.2 :: r)) (gap last [])
def pool (es : List (Nat × CpInfo)) (last : Nat) : Array CpInfo := ⟨poolList es last⟩
def fileOf (pool : Array CpInfo) (this : Nat) (attrs : Array Attribute := #[]) (ms : Array MethodInfo := #[]) (fl : Nat := 33) (sup : Nat := 0) (ifs : Array Nat := #[]) (fds : Array FieldInfo := #[]) : ClassFile where
  minorVersion := 0
  majorVersion := 65
  constantPool := pool
  accessFlags := fl
  thisClass := this
  superClass := sup
  interfaces := ifs
  fields := fds
  methods := ms
  attributes := attrs
def plain (name : String) (sup : Option ClassId) : Class where
  name := name
  kind := .ordinary
  loader := none
  accessFlags := 33
  super := sup
  interfaces := #[]
  cf := none
  fields := #[]
  methods := #[]
  instanceTypes := #[]
  staticTypes := #[]
  resolved := #[]
  callSites := []
  init := .initialized
  statics := none
  mirror := none

def pool0 : Array CpInfo := pool [(5, u "<init>"), (0, u "()V"), (1, .class_ 10), (1, u "java/lang/Object")] 113

def k0m0 : Method := { name := "<init>", desc := "()V", sig := { parameters := [], returnType := none }, accessFlags := 1, code := none }
/-- java/lang/Object -/
def k0 : Class := { plain "java/lang/Object" none with
  accessFlags := 33
  interfaces := #[]
  cf := some (fileOf pool0 8 #[] #[{ accessFlags := 1, nameIndex := 5, descriptorIndex := 6, attributes := #[] }] 33 0 #[] #[])
  fields := #[]
  methods := #[k0m0]
  instanceTypes := #[]
  staticTypes := #[]
  resolved := Array.replicate 124 none
  statics := none }

def pool1 : Array CpInfo := pool [(2, .class_ 4), (1, u "java/lang/Object"), (0, u "<init>"), (0, u "()V"), (0, .methodref 8 9), (0, .class_ 10), (0, .nameAndType 11 12), (0, u "com/example/elis/elis/ReadSet"), (0, u "signatureOf"), (0, u "(I)J"), (0, .long 11400714819323198485), (1, .methodref 8 16), (0, .nameAndType 17 18), (0, u "meet"), (0, u "(JJ)Z"), (0, .class_ 20), (0, u "com/example/elis/elis/ReadSetSignatureOfPinLaw"), (2, u "law"), (0, u "(I)Z")] 3

def k1m0 : Method := { name := "<init>", desc := "()V", sig := { parameters := [], returnType := none }, accessFlags := 1, code := none }
def k1c1 : Code := { maxStack := 4, maxLocals := 14, code := code, exceptionTable := #[], attributes := #[] }
def k1m1 : Method := { name := "law", desc := "(I)Z", sig := { parameters := [.int], returnType := some .boolean }, accessFlags := 9, code := some k1c1 }
/-- com/example/elis/elis/ReadSetSignatureOfPinLaw -/
def k1 : Class := { plain "com/example/elis/elis/ReadSetSignatureOfPinLaw" (some 0) with
  accessFlags := 49
  interfaces := #[]
  cf := some (fileOf pool1 19 #[] #[{ accessFlags := 1, nameIndex := 5, descriptorIndex := 6, attributes := #[] }, { accessFlags := 9, nameIndex := 23, descriptorIndex := 24, attributes := #[] }] 49 2 #[] #[])
  fields := #[]
  methods := #[k1m0, k1m1]
  instanceTypes := #[]
  staticTypes := #[]
  resolved := Array.replicate 28 none
  statics := none }

def pool2 : Array CpInfo := pool [(1, .class_ 2), (0, u "com/example/elis/elis/storage/MultiVersionMap$KeysRead"), (0, .class_ 4), (0, u "java/lang/Object"), (5, .class_ 11), (0, u "com/example/elis/elis/storage/MultiVersionMap")] 2

/-- com/example/elis/elis/storage/MultiVersionMap$KeysRead -/
def k2 : Class := { plain "com/example/elis/elis/storage/MultiVersionMap$KeysRead" (some 0) with
  accessFlags := 1537
  interfaces := #[]
  cf := some (fileOf pool2 1 #[.nestHost 10] #[] 1537 3 #[] #[])
  fields := #[]
  methods := #[]
  instanceTypes := #[]
  staticTypes := #[]
  resolved := Array.replicate 14 none
  statics := none }

def pool3 : Array CpInfo := pool [(2, .class_ 4), (1, u "java/lang/Object"), (0, u "<init>"), (0, u "()V"), (0, .class_ 8), (0, u "com/example/elis/elis/ReadSet"), (1, u "[B"), (2, u "keys"), (0, u "[[B"), (2, u "hashes"), (0, u "[I"), (2, u "joined"), (0, u "Z"), (2, u "index"), (2, u "count"), (0, u "I"), (23, u "FIRST_KEY"), (9, u "Ljava/util/Comparator;"), (8, u "ranges"), (0, u "[Lcom/example/elis/elis/ReadSet$Range;"), (0, .class_ 75), (0, u "com/example/elis/elis/ReadSet$Range"), (2, u "rangeCount"), (15, u "BY_START"), (24, u "signatureOf"), (0, u "(I)J"), (4, u "signature"), (0, u "J"), (0, .long 11400714819323198485), (1, .long 4294967296), (1, .long 31), (3, u "meet"), (0, u "(JJ)Z"), (75, .class_ 213), (0, u "com/example/elis/elis/storage/MultiVersionMap$KeysRead"), (0, u "FEW"), (2, u "FIRST_ROOM")] 49

def k3m0 : Method := { name := "<init>", desc := "()V", sig := { parameters := [], returnType := none }, accessFlags := 0, code := none }
def k3c1 : Code := { maxStack := 8, maxLocals := 3, code := prog_25_method_8_code, exceptionTable := #[], attributes := #[] }
def k3m1 : Method := { name := "signatureOf", desc := "(I)J", sig := { parameters := [.int], returnType := some .long }, accessFlags := 8, code := some k3c1 }
def k3c2 : Code := { maxStack := 4, maxLocals := 6, code := prog_25_method_9_code, exceptionTable := #[], attributes := #[] }
def k3m2 : Method := { name := "meet", desc := "(JJ)Z", sig := { parameters := [.long, .long], returnType := some .boolean }, accessFlags := 8, code := some k3c2 }
/-- com/example/elis/elis/ReadSet -/
def k3 : Class := { plain "com/example/elis/elis/ReadSet" (some 0) with
  accessFlags := 48
  interfaces := #[2]
  cf := some (fileOf pool3 7 #[.nestMembers #[74]] #[{ accessFlags := 0, nameIndex := 5, descriptorIndex := 6, attributes := #[] }, { accessFlags := 8, nameIndex := 119, descriptorIndex := 120, attributes := #[] }, { accessFlags := 8, nameIndex := 135, descriptorIndex := 136, attributes := #[] }] 48 2 #[212] #[{ accessFlags := 24, nameIndex := 214, descriptorIndex := 29, attributes := #[] }, { accessFlags := 26, nameIndex := 53, descriptorIndex := 10, attributes := #[] }, { accessFlags := 26, nameIndex := 217, descriptorIndex := 29, attributes := #[] }, { accessFlags := 26, nameIndex := 94, descriptorIndex := 63, attributes := #[] }, { accessFlags := 2, nameIndex := 13, descriptorIndex := 14, attributes := #[] }, { accessFlags := 2, nameIndex := 17, descriptorIndex := 18, attributes := #[] }, { accessFlags := 2, nameIndex := 28, descriptorIndex := 29, attributes := #[] }, { accessFlags := 2, nameIndex := 25, descriptorIndex := 18, attributes := #[] }, { accessFlags := 2, nameIndex := 72, descriptorIndex := 73, attributes := #[] }, { accessFlags := 2, nameIndex := 78, descriptorIndex := 29, attributes := #[] }, { accessFlags := 2, nameIndex := 21, descriptorIndex := 22, attributes := #[] }, { accessFlags := 2, nameIndex := 125, descriptorIndex := 126, attributes := #[] }])
  fields := #[{ name := "FEW", type := .int, accessFlags := 24, slot := 0, constantValue := 0 }, { name := "FIRST_KEY", type := (.array .byte), accessFlags := 26, slot := 1, constantValue := 0 }, { name := "FIRST_ROOM", type := .int, accessFlags := 26, slot := 2, constantValue := 0 }, { name := "BY_START", type := (.object "java/util/Comparator"), accessFlags := 26, slot := 3, constantValue := 0 }, { name := "keys", type := (.array (.array .byte)), accessFlags := 2, slot := 0, constantValue := 0 }, { name := "hashes", type := (.array .int), accessFlags := 2, slot := 1, constantValue := 0 }, { name := "count", type := .int, accessFlags := 2, slot := 2, constantValue := 0 }, { name := "index", type := (.array .int), accessFlags := 2, slot := 3, constantValue := 0 }, { name := "ranges", type := (.array (.object "com/example/elis/elis/ReadSet$Range")), accessFlags := 2, slot := 4, constantValue := 0 }, { name := "rangeCount", type := .int, accessFlags := 2, slot := 5, constantValue := 0 }, { name := "joined", type := .boolean, accessFlags := 2, slot := 6, constantValue := 0 }, { name := "signature", type := .long, accessFlags := 2, slot := 7, constantValue := 0 }]
  methods := #[k3m0, k3m1, k3m2]
  instanceTypes := #[(.array (.array .byte)), (.array .int), .int, (.array .int), (.array (.object "com/example/elis/elis/ReadSet$Range")), .int, .boolean, .long]
  staticTypes := #[.int, (.array .byte), .int, (.object "java/util/Comparator")]
  resolved := Array.replicate 267 none
  statics := none }

def pool4 : Array CpInfo := pool [(1, u "java/lang/Cloneable"), (0, .class_ 1), (0, u "java/lang/Object"), (0, .class_ 3)] 3

/-- java/lang/Cloneable -/
def k4 : Class := { plain "java/lang/Cloneable" (some 0) with
  accessFlags := 1537
  interfaces := #[]
  cf := some (fileOf pool4 2 #[] #[] 1537 4 #[] #[])
  fields := #[]
  methods := #[]
  instanceTypes := #[]
  staticTypes := #[]
  resolved := Array.replicate 8 none
  statics := none }

def pool5 : Array CpInfo := pool [(1, u "java/io/Serializable"), (0, .class_ 1), (0, u "java/lang/Object"), (0, .class_ 3)] 3

/-- java/io/Serializable -/
def k5 : Class := { plain "java/io/Serializable" (some 0) with
  accessFlags := 1537
  interfaces := #[]
  cf := some (fileOf pool5 2 #[] #[] 1537 4 #[] #[])
  fields := #[]
  methods := #[]
  instanceTypes := #[]
  staticTypes := #[]
  resolved := Array.replicate 8 none
  statics := none }

/-- the primitive byte -/
def k6 : Class := { plain "byte" none with kind := .primitive 'B', accessFlags := 0x411 }
/-- [B -/
def k7 : Class := { plain "[B" (some 0) with kind := .array 6 .byte, interfaces := #[4, 5], accessFlags := 1041 }

/-- the primitive int -/
def k8 : Class := { plain "int" none with kind := .primitive 'I', accessFlags := 0x411 }
/-- [I -/
def k9 : Class := { plain "[I" (some 0) with kind := .array 8 .int, interfaces := #[4, 5], accessFlags := 1041 }

def heap : Heap := #[]
def classes : Array Class := #[k0, k1, k2, k3, k4, k5, k6, k7, k8, k9]
def interned : List (Array UInt16 × Addr) := []
def slotsUsed : Nat := 0
def theMethod : MethodId := ⟨1, 1⟩
def args0 : Array Value := #[.int 5]
def aboutOver (below : List Frame) : State where
  vm := { classes := classes, interned := interned.toArray }
  heap := heap
  slotsUsed := slotsUsed
  threads := #[{ frames := .invoking theMethod args0 :: below }]
def below0 : List Frame := [.native { method := ⟨0, 0⟩, args := #[] }]
def about1 : State := aboutOver below0
def p0 : Program := .bare "" "" ""
def e0 : Env := launch0.env 0 0 0
theorem w_frames : about1.frames = Frame.invoking theMethod args0 :: below0 := rfl
set_option maxRecDepth 65536 in
theorem w_args : argsFit about1.vm theMethod args0 = true := by decide +kernel
set_option maxRecDepth 65536 in
theorem w_heap : heapFits about1 = true := by decide +kernel
set_option maxRecDepth 65536 in
theorem w_runnable : about1.curStatus? = some .runnable := by decide +kernel
set_option maxRecDepth 65536 in
theorem w_alone : about1.alone = true := by decide +kernel
set_option maxRecDepth 65536 in
theorem w_named : about1.methodNamed? x = some theMethod := by decide +kernel
set_option maxRecDepth 65536 in
theorem w_hears : about1.hears theMethod below0 = true := by decide +kernel
set_option maxRecDepth 65536 in
theorem w_ripe : about1.ripe theMethod args0 below0 = true := by decide +kernel
theorem w_running : about1.status = .running := rfl
set_option maxRecDepth 65536 in
theorem w_room : about1.hasRoom e0.platform room_1 = true :=
  launch0.hasRoom_least _ room_1 (by decide +kernel) (by decide +kernel) (by decide +kernel) (by decide +kernel) (by decide +kernel) (by decide +kernel)
theorem allAtoms_all (ts : List Jvm.Cond) (a : Array Jvm.Value) (st : Jvm.State) : (allAtoms ts).before a st = ts.all (fun c => c.before a st) := by
  induction ts with
  | nil => rfl
  | cons c t ih =>
    show (Jvm.Cond.and c (allAtoms t)).before a st = _
    rw [Jvm.Cond.before_and, ih, List.all_cons]
def words1 : List Jvm.Cond := Jvm.Cond.code x code maxLocals ret :: tables_1
/-- a 'code' word, met by the world's own term for the bytes: nothing is compared byte by byte -/
theorem code_word {y : MethodName} {bytes : ByteArray} {mx : Nat} {rt : Option FieldType} {a : Array Value} {s : State} {m : MethodId} {meth : Method} {c : Code} (h1 : s.methodNamed? y = some m) (h2 : s.vm.method? m = some meth) (h3 : meth.code = some c) (h4 : c.code = bytes)
    (h5 : (c.maxLocals == mx && c.exceptionTable.isEmpty && decide (c.maxStack ≤ mostOperands) && decide (meth.sig.returnType = rt) && !meth.locks && decide (parseMethodDescriptor y.desc = some meth.sig)) = true) : (Jvm.Cond.code y bytes mx rt).before a s = true := by
  simp only [Bool.and_eq_true, beq_iff_eq, Bool.not_eq_true', decide_eq_true_eq] at h5
  obtain ⟨⟨⟨⟨⟨g1, g2⟩, g3⟩, g4⟩, g5⟩, g6⟩ := h5
  simp [Cond.before, Cond.holds, Cond.value, h1, h2, h3, h4, g1, g2, g3, g4, g5, g6]
def isCode : Jvm.Cond → Bool
  | .code _ _ _ _ => true
  | _ => false
theorem all_split {L : List Jvm.Cond} {P : Jvm.Cond → Bool} (h1 : L.all (fun c => isCode c || P c) = true) (h2 : ∀ c ∈ L.filter isCode, P c = true) : L.all P = true := by
  refine List.all_eq_true.mpr fun c hc => ?_
  have h := List.all_eq_true.mp h1 c hc
  rcases Bool.eq_false_or_eq_true (isCode c) with hi | hi
  · exact h2 c (List.mem_filter.mpr ⟨hc, hi⟩)
  · simpa [hi] using h
set_option maxRecDepth 65536 in
theorem w_c0 : (Jvm.Cond.code x code maxLocals ret).before args0 about1 = true := code_word (m := ⟨1, 1⟩) (meth := k1m1) (c := k1c1) (by decide +kernel) rfl rfl rfl (by decide +kernel)
set_option maxRecDepth 65536 in
theorem w_c1 : (Jvm.Cond.code ({ cls := "com/example/elis/elis/ReadSet", name := "signatureOf", desc := "(I)J" } : Jvm.MethodName) prog_25_method_8_code (3 : Nat) (Option.some Jvm.ClassFile.FieldType.long)).before args0 about1 = true := code_word (m := ⟨3, 1⟩) (meth := k3m1) (c := k3c1) (by decide +kernel) rfl rfl rfl (by decide +kernel)
set_option maxRecDepth 65536 in
theorem w_c2 : (Jvm.Cond.code ({ cls := "com/example/elis/elis/ReadSet", name := "meet", desc := "(JJ)Z" } : Jvm.MethodName) prog_25_method_9_code (6 : Nat) (Option.some Jvm.ClassFile.FieldType.boolean)).before args0 about1 = true := code_word (m := ⟨3, 2⟩) (meth := k3m2) (c := k3c2) (by decide +kernel) rfl rfl rfl (by decide +kernel)
def codes1 : List Jvm.Cond := [Jvm.Cond.code x code maxLocals ret, Jvm.Cond.code ({ cls := "com/example/elis/elis/ReadSet", name := "signatureOf", desc := "(I)J" } : Jvm.MethodName) prog_25_method_8_code (3 : Nat) (Option.some Jvm.ClassFile.FieldType.long), Jvm.Cond.code ({ cls := "com/example/elis/elis/ReadSet", name := "meet", desc := "(JJ)Z" } : Jvm.MethodName) prog_25_method_9_code (6 : Nat) (Option.some Jvm.ClassFile.FieldType.boolean)]
set_option maxRecDepth 65536 in
theorem codes_eq : words1.filter isCode = codes1 := rfl
theorem w_codes : ∀ c ∈ words1.filter isCode, c.before args0 about1 = true := by
  rw [codes_eq]
  intro c hc
  simp only [codes1, List.mem_cons, List.not_mem_nil, or_false] at hc
  rcases hc with rfl | rfl | rfl
  · exact w_c0
  · exact w_c1
  · exact w_c2
set_option maxRecDepth 65536 in
theorem w_t1 : words1.all (fun c => isCode c || c.before args0 about1) = true := by decide +kernel
theorem w_tables : (allAtoms (Jvm.Cond.code x code maxLocals ret :: tables_1)).before args0 about1 = true := by
  rw [allAtoms_all]
  show words1.all (fun c => c.before args0 about1) = true
  refine all_split ?_ w_codes
  rw [w_t1]
set_option maxRecDepth 65536 in
theorem w_case : (Jvm.Cond.and given_1 narrow_1).before args0 about1 = true := by decide +kernel
theorem w_applies : (headSpec (Jvm.Cond.code x code maxLocals ret :: tables_1) room_1).applies x e0.platform about1 = true :=
  (Spec.applies_iff w_frames).mpr ⟨w_running, w_runnable, w_alone, w_named, w_hears, w_ripe, w_room, w_tables⟩
theorem atStart : AtStart classFile x code maxLocals ret World_1 tables_1 room_1 Calls_1 rest_1 Pre_1 launch0 p0 e0 about1 theMethod args0 below0 :=
  ⟨lists_1, trivial, launch0.admits_env _ _ _, launch0.least_env, fairChoices_fair.cas, fairChoices_fair.clock, w_frames, w_args, w_heap, w_applies, trivial, trivial, w_case⟩
end start1
theorem witness_1 : WitnessClaimed_1 := ⟨start1.p0, start1.e0, start1.about1, start1.theMethod, start1.args0, start1.below0, start1.atStart⟩
end Jvm.Pilot.@@N@@
