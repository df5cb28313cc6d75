import JvmDerived
import JvmDerived.Pilot.@@N@@Statement
import JvmDerived.Pilot.@@N@@Code
set_option linter.unusedVariables false
set_option linter.unusedSimpArgs false
namespace Jvm.RoadKit
open Sem ClassFile Op Lib Jvm.Stand Jvm.Free Jvm.LawKit
section New
variable {p : Program} {l : Launch} {e : Env} {R : Room} {s : State} {m : MethodId} {args : Array Value} {below : List Frame} {meth : Method} {c : Code} {T : State} {locs : List Loc} {cells slots : Nat}
theorem retI (X : Stand p l e R s m args below meth c T locs cells slots) (hx : p.tables.exec = Jvm.exec) {pc : Nat} {Ls : Array Slot} {z : Int32} {rest : List Value} (hret : meth.sig.returnType = some .int) (hd : decode c.code pc = .ok (.ireturn, 1)) {fs : List Frame}
    (hl : ∀ (f : JFrame) (acts : List Action), f.method = m → f.locked = none → f.entered = [] → (doReturn e (T.setTop f) acts (some (.int z))).1 = T.setFrames fs) : Steps p.tables e below (T.setTop (mkF m pc Ls (.int z :: rest))) (T.setFrames fs) := by
  have hm' : T.vm.method? m = some meth := X.method'
  have hn : narrow .int (.int z) = .int z := rfl
  show Steps p.tables e below (T.setTop { method := m, pc := pc, locals := Ls, stack := _ :: rest, locked := none }) _
  jvm_step X.here [X.here.top, hx, hd, hm', hret, hn]
  first | (intro acts; rw [hl _ acts rfl rfl rfl]) | rw [hl _ _ rfl rfl rfl]
  exact Steps.refl _
end New
end Jvm.RoadKit
namespace Jvm.Pilot.@@N@@
open Jvm Jvm.ClassFile Sem Op Lib Jvm.Free Jvm.Stand Jvm.LawKit Jvm.RoadKit Bundle Jvm.Pilot.@@N@@.Jvm.D
/-- what is still to come: from the frame g at T the run comes to an end that Q takes -/
def own_WP (p : Program) (e : Env) (below : List Frame) (Q : Outcome → State → Prop) (T : State) (g : JFrame) : Prop :=
  ∃ s₂ o, Steps p.tables e below (T.setTop g) s₂ ∧ s₂.status = .running ∧ Ended s₂ below o ∧ Q o s₂
def own_Q (s : State) (P : Option Value → Heap → List Loc → Prop) (C S : Nat) (o : Outcome) (U : State) : Prop :=
  ∃ v L, o = .returned v ∧ P v U.heap L ∧ FrameEnd s o U L C S
def own_Ctx (p : Program) (s : State) (m : MethodId) (meth : Method) (c : Code) (Z : State) (y : MethodName) (bytes : ByteArray) (maxL : Nat) (rt : Option FieldType) : Prop :=
  p.tables.exec = Jvm.exec ∧ Z.Warmed39 s.vm ∧ c.code = bytes ∧ c.maxLocals = maxL ∧ s.vm.findClass y.cls = some m.cls ∧ meth.name = y.name ∧ meth.sig.returnType = rt ∧ meth.locks = false
def own_Met (l : Launch) (Z : State) (y : MethodName) (bytes : ByteArray) (maxL : Nat) (rt : Option FieldType) (ws : List Jvm.Cond) (rm : Room) (as' : Array Value) (h : Heap) (P : Option Value → Heap → List Loc → Prop) : Prop :=
  MetFree l y (head1 (Jvm.Cond.code y bytes maxL rt :: ws) rm) (fun a U => a = as' ∧ Z.Warmed39 U.vm ∧ U.heap = h) (fun _ _ _ _ _ => True) (fun _ U o U' => ∃ v L, o = .returned v ∧ P v U'.heap L ∧ FrameEnd U o U' L rm.cells rm.slots)
section Own
variable {p : Program} {l : Launch} {e : Env} {R : Room} {s : State} {m : MethodId} {args : Array Value} {below : List Frame} {meth : Method} {c : Code} {T T' : State} {locs : List Loc} {cells slots : Nat} {Z : State} {a0 : Array Value} {y : MethodName} {bytes : ByteArray} {maxL : Nat} {rt : Option FieldType} {P : Option Value → Heap → List Loc → Prop} {Q : Outcome → State → Prop}
theorem own_go {g g' : JFrame} (st : ∀ t, Steps p.tables e below (T'.setTop g') t → Steps p.tables e below (T.setTop g) t) (h : own_WP p e below Q T' g') : own_WP p e below Q T g := by
  obtain ⟨s₂, o, h1, h2⟩ := h
  exact ⟨s₂, o, st _ h1, h2⟩
theorem own_body {ws : List Jvm.Cond} {rm : Room} {as' : Array Value} {h : Heap} (hp : plainFor y = true)
    (body : ∀ p e s m below meth c s₁, own_Ctx p s m meth c Z y bytes maxL rt → Stand p l e rm s m as' below meth c s₁ [] 0 0 → s₁.heap = h → own_WP p e below (own_Q s P rm.cells rm.slots) s₁ (entryFrame m as' maxL)) :
    own_Met l Z y bytes maxL rt ws rm as' h P := by
  refine MetFree.of_bodySF hp hisR ?_
  intro p e s m args below meth c s₁ Bd hml0 hP hK
  obtain ⟨rfl, hZ, hh⟩ := hP
  exact body p e s m below meth c s₁ ⟨Bd.exec, hZ, Bd.bytes, hml0, findClass_of_methodNamed Bd.named, (name_of_methodNamed Bd.named Bd.method).1, Bd.returns, Bd.notSynchronized⟩ (Stand.of_body Bd) (by rw [← hh, Bd.state]; rfl)
theorem own_cast {g g' : JFrame} (q : g = g') (k : own_WP p e below Q T g') : own_WP p e below Q T g := q ▸ k
theorem own_retI (X : Stand p l e R s m args below meth c T locs cells slots) (C : own_Ctx p s m meth c Z y bytes maxL (some .int)) {pc : Nat} {Ls : Array Slot} {z : Int32} {rest : List Value} {CC SS : Nat}
    (hd : decode c.code pc = .ok (.ireturn, 1)) (hP : P (some (.int z)) T.heap locs) (hc : cells ≤ CC) (hs : slots ≤ SS) : own_WP p e below (own_Q s P CC SS) T (mkF m pc Ls (.int z :: rest)) := by
  obtain ⟨hx, -, -, -, -, -, hr, hlk⟩ := C
  obtain ⟨fs, hrr, hrun, hended, hW, hsame⟩ := X.leave (v := some (.int z)) (fun h => by rw [hr] at h; cases h) hlk
  exact ⟨_, _, retI X hx hr hd hrr, hrun, hended, _, _, rfl, hP, ⟨_, rfl⟩, hW, hsame.mono hc hs⟩
theorem own_retN {t : FieldType} (X : Stand p l e R s m args below meth c T locs cells slots) (C : own_Ctx p s m meth c Z y bytes maxL (some t)) (ht : t = .boolean ∨ t = .byte ∨ t = .char ∨ t = .short) {pc : Nat} {Ls : Array Slot} {z : Int32} {rest : List Value} {CC SS : Nat}
    (hd : decode c.code pc = .ok (.ireturn, 1)) (hP : P (some (.int (nar t z))) T.heap locs) (hc : cells ≤ CC) (hs : slots ≤ SS) : own_WP p e below (own_Q s P CC SS) T (mkF m pc Ls (.int z :: rest)) := by
  obtain ⟨hx, -, -, -, -, -, hr, hlk⟩ := C
  obtain ⟨fs, hrr, hrun, hended, hW, hsame⟩ := X.leave (v := some (.int (nar t z))) (fun h => by rw [hr] at h; cases h) hlk
  exact ⟨_, _, retN X hx hr ht hd hrr, hrun, hended, _, _, rfl, hP, ⟨_, rfl⟩, hW, hsame.mono hc hs⟩
theorem own_retL (X : Stand p l e R s m args below meth c T locs cells slots) (C : own_Ctx p s m meth c Z y bytes maxL (some .long)) {pc : Nat} {Ls : Array Slot} {z : Int64} {CC SS : Nat}
    (hd : decode c.code pc = .ok (.lreturn, 1)) (hP : P (some (.long z)) T.heap locs) (hc : cells ≤ CC) (hs : slots ≤ SS) : own_WP p e below (own_Q s P CC SS) T (mkF m pc Ls [.long z]) := by
  obtain ⟨hx, -, -, -, -, -, hr, hlk⟩ := C
  obtain ⟨fs, hrr, hrun, hended, hW, hsame⟩ := X.leave (v := some (.long z)) (fun h => by rw [hr] at h; cases h) hlk
  exact ⟨_, _, X.lreturnOut hx hr hd hrr, hrun, hended, _, _, rfl, hP, ⟨_, rfl⟩, hW, hsame.mono hc hs⟩
theorem own_retV (X : Stand p l e R s m args below meth c T locs cells slots) (C : own_Ctx p s m meth c Z y bytes maxL none) {pc : Nat} {Ls : Array Slot} {CC SS : Nat}
    (hd : decode c.code pc = .ok (.return_, 1)) (hP : P none T.heap locs) (hc : cells ≤ CC) (hs : slots ≤ SS) : own_WP p e below (own_Q s P CC SS) T (mkF m pc Ls []) := by
  obtain ⟨hx, -, -, -, -, -, hr, hlk⟩ := C
  obtain ⟨fs, hrr, hrun, hended, hW, hsame⟩ := X.leave (v := none) (fun _ => rfl) hlk
  exact ⟨_, _, X.returnOut hx hr hd hrr, hrun, hended, _, _, rfl, hP, ⟨_, rfl⟩, hW, hsame.mono hc hs⟩
theorem own_retA {t : FieldType} (X : Stand p l e R s m args below meth c T locs cells slots) (C : own_Ctx p s m meth c Z y bytes maxL (some t)) (ht : t.isReference = true) {pc : Nat} {Ls : Array Slot} {a : Addr} {CC SS : Nat}
    (hd : decode c.code pc = .ok (.areturn, 1)) (hP : P (some (.ref a)) T.heap locs) (hc : cells ≤ CC) (hs : slots ≤ SS) : own_WP p e below (own_Q s P CC SS) T (mkF m pc Ls [.ref a]) := by
  obtain ⟨hx, -, -, -, -, -, hr, hlk⟩ := C
  obtain ⟨fs, hrr, hrun, hended, hW, hsame⟩ := X.leave (v := some (.ref a)) (fun h => by rw [hr] at h; cases h) hlk
  exact ⟨_, _, X.areturnOut hx rfl hr ht hd hrr, hrun, hended, _, _, rfl, hP, ⟨_, rfl⟩, hW, hsame.mono hc hs⟩
/-- a static call by the callee's contract -/
theorem own_callS (X : Stand p l e R s m args below meth c T locs cells slots) (C : own_Ctx p s m meth c Z y bytes maxL rt) {idx : Nat} {y' : MethodName} {bytes' : ByteArray} {maxL' : Nat} {rt' : Option FieldType} {rm' : Room} {argsL rest : List Value} {h : Heap} {P' : Option Value → Heap → List Loc → Prop}
    (hM : own_Met l Z y' bytes' maxL' rt' [] rm' argsL.toArray h P') (w1 : (Cond.methodLink y.cls idx y').before a0 Z = true) (w2 : (Cond.static y').before a0 Z = true) (w3 : (Cond.initialized y'.cls).before a0 Z = true) (w4 : (Cond.code y' bytes' maxL' rt').before a0 Z = true)
    (hy : y'.cls ≠ "java/lang/invoke/MethodHandle" ∧ y'.cls ≠ "java/lang/invoke/VarHandle") (eT : T.heap = h) {W : Nat} {pc : Nat} {Ls : Array Slot} (hsz : Ls.size = maxL) (hlen : ∀ sig, parseMethodDescriptor y'.desc = some sig → argsL.length = sig.parameters.length)
    {stk : List Value} (hst : stk = argsL.reverse ++ rest) (hW : (rest.map fun v => v.category).sum ≤ W) (hd : decode c.code pc = .ok (.invokestatic idx, 3))
    (hf : rm'.frames + 1 ≤ R.frames) (hl : W + (maxL' + 11) + rm'.locals ≤ R.locals) (hc : cells + rm'.cells ≤ R.cells) (hs : slots + rm'.slots ≤ R.slots) :
    ∃ T' v L, Stand p l e R s m args below meth c T' (locs ++ L) (cells + rm'.cells) (slots + rm'.slots) ∧ P' v T'.heap L ∧ ∀ t, Steps p.tables e below (T'.setTop (mkF m (pc + 3) Ls (v.toList ++ rest))) t → Steps p.tables e below (T.setTop (mkF m pc Ls stk)) t := by
  obtain ⟨hx, hZ, hby, hml, hown, hnm, hr, hlk⟩ := C
  obtain ⟨v, _, ⟨T', L', k', n'⟩, -, X', ⟨L, hQ, hl', hk', hn'⟩, st⟩ := Jvm.LawKit.callS X hx (y := y') hown (mvT hZ w1) (mvT hZ w2) (mvT hZ w3) (mvT hZ w4) hy (backOf (W := W) hM hZ w4 w3 hf hl) (g := mkF m pc Ls stk) rfl (by rw [hml]; exact hsz) (argsL := argsL) (rest := rest) hlen hst (by show 2 * 0 + _ ≤ _; omega) hd (fun _ _ => ⟨rfl, eT, hc, hs⟩)
  dsimp only [Pt.U, Pt.locs, Pt.cells, Pt.slots] at X' hl' hk' hn' st hQ
  subst hl' hk' hn'
  exact ⟨T', v, L, X', hQ, st⟩
/-- a constructor by its contract -/
theorem own_callN (X : Stand p l e R s m args below meth c T locs cells slots) (C : own_Ctx p s m meth c Z y bytes maxL rt) {idx : Nat} {y' : MethodName} {bytes' : ByteArray} {maxL' : Nat} {rm' : Room} {a : Addr} {argsL rest : List Value} {h : Heap} {P' : Option Value → Heap → List Loc → Prop}
    (hM : own_Met l Z y' bytes' maxL' none [] rm' (.ref a :: argsL).toArray h P') (hyn : y'.name = "<init>") (w1 : (Cond.methodLink y.cls idx y').before a0 Z = true) (w2 : (Cond.instanceMethod y').before a0 Z = true) (w3 : (Cond.initialized y'.cls).before a0 Z = true) (w4 : (Cond.code y' bytes' maxL' none).before a0 Z = true)
    (hy : y'.cls ≠ "java/lang/invoke/MethodHandle" ∧ y'.cls ≠ "java/lang/invoke/VarHandle") (eT : T.heap = h) {W : Nat} {pc : Nat} {Ls : Array Slot} (hsz : Ls.size = maxL) (hlen : ∀ sig, parseMethodDescriptor y'.desc = some sig → argsL.length = sig.parameters.length)
    {stk : List Value} (hst : stk = argsL.reverse ++ .ref a :: rest) (hW : (rest.map fun v => v.category).sum ≤ W) (hd : decode c.code pc = .ok (.invokespecial idx, 3))
    (hf : rm'.frames + 1 ≤ R.frames) (hl : W + (maxL' + 11) + rm'.locals ≤ R.locals) (hc : cells + rm'.cells ≤ R.cells) (hs : slots + rm'.slots ≤ R.slots) :
    ∃ T' v L, Stand p l e R s m args below meth c T' (locs ++ L) (cells + rm'.cells) (slots + rm'.slots) ∧ P' v T'.heap L ∧ ∀ t, Steps p.tables e below (T'.setTop (mkF m (pc + 3) Ls (v.toList ++ rest))) t → Steps p.tables e below (T.setTop (mkF m pc Ls stk)) t := by
  obtain ⟨hx, hZ, hby, hml, hown, hnm, hr, hlk⟩ := C
  obtain ⟨v, _, ⟨T', L', k', n'⟩, -, X', ⟨L, hQ, hl', hk', hn'⟩, st⟩ := X.specialBack hx (y := y') hyn hown (mvT hZ w1) (mvT hZ w2) (mvT hZ w4) hy (backOf (W := W) hM hZ w4 w3 hf hl) (g := mkF m pc Ls stk) rfl (by rw [hml]; exact hsz) (Steps.refl _) (a := a) (argsL := argsL) (rest := rest) hlen hst (by show 2 * 0 + _ ≤ _; omega) hd (fun _ _ => ⟨rfl, eT, hc, hs⟩)
  dsimp only [Pt.U, Pt.locs, Pt.cells, Pt.slots] at X' hl' hk' hn' st hQ
  subst hl' hk' hn'
  exact ⟨T', v, L, X', hQ, fun t k => st.trans k⟩
/-- an instance method by the contract of the body that is selected (the class that declares it is the receiver's own) -/
theorem own_callV (X : Stand p l e R s m args below meth c T locs cells slots) (C : own_Ctx p s m meth c Z y bytes maxL rt) {idx : Nat} {y' : MethodName} {bytes' : ByteArray} {maxL' : Nat} {rt' : Option FieldType} {rm' : Room} {a : Addr} {argsL rest : List Value} {h : Heap} {P' : Option Value → Heap → List Loc → Prop}
    (hM : own_Met l Z y' bytes' maxL' rt' [] rm' (.ref a :: argsL).toArray h P') (w1 : (Cond.methodLink y.cls idx y').before a0 Z = true) (wd : (Cond.declares y').before a0 Z = true) (wsel : (Cond.selects y'.cls y' y').before a0 Z = true) (w2 : (Cond.instanceMethod y').before a0 Z = true) (w3 : (Cond.initialized y'.cls).before a0 Z = true) (w4 : (Cond.code y' bytes' maxL' rt').before a0 Z = true)
    (hy : y'.cls ≠ "java/lang/invoke/MethodHandle" ∧ y'.cls ≠ "java/lang/invoke/VarHandle") (eT : T.heap = h) (E : Exa Z h a y'.cls) {W : Nat} {pc : Nat} {Ls : Array Slot} (hsz : Ls.size = maxL) (hlen : ∀ sig, parseMethodDescriptor y'.desc = some sig → argsL.length = sig.parameters.length)
    {stk : List Value} (hst : stk = argsL.reverse ++ .ref a :: rest) (hW : (rest.map fun v => v.category).sum ≤ W) (hd : decode c.code pc = .ok (.invokevirtual idx, 3))
    (hf : rm'.frames + 1 ≤ R.frames) (hl : W + (maxL' + 11) + rm'.locals ≤ R.locals) (hc : cells + rm'.cells ≤ R.cells) (hs : slots + rm'.slots ≤ R.slots) :
    ∃ T' v L, Stand p l e R s m args below meth c T' (locs ++ L) (cells + rm'.cells) (slots + rm'.slots) ∧ P' v T'.heap L ∧ ∀ t, Steps p.tables e below (T'.setTop (mkF m (pc + 3) Ls (v.toList ++ rest))) t → Steps p.tables e below (T.setTop (mkF m pc Ls stk)) t := by
  obtain ⟨hx, hZ, hby, hml, hown, hnm, hr, hlk⟩ := C
  obtain ⟨cq, kq, qa, qb, qc⟩ := isOf hZ eT E
  obtain ⟨v, _, ⟨T', L', k', n'⟩, -, X', ⟨L, hQ, hl', hk', hn'⟩, st⟩ := X.virtualBack hx (y := y') (z := y') hown (mvT hZ w1) (mvT hZ wd) (notFace_of_selects (args := #[]) (mvT hZ wsel)) (mvT hZ wsel) (mvT hZ w2) hy (backOf (W := W) hM hZ w4 w3 hf hl) qa qc (g := mkF m pc Ls stk) rfl (by rw [hml]; exact hsz) (Steps.refl _) (argsL := argsL) (rest := rest) hlen hst (by show 2 * 0 + _ ≤ _; omega) hd (fun _ _ => ⟨rfl, eT, hc, hs⟩)
  dsimp only [Pt.U, Pt.locs, Pt.cells, Pt.slots] at X' hl' hk' hn' st hQ
  subst hl' hk' hn'
  exact ⟨T', v, L, X', hQ, fun t k => st.trans k⟩
end Own
end Jvm.Pilot.@@N@@
namespace Jvm.Pilot.@@N@@
open Jvm Jvm.ClassFile Sem Op Lib Jvm.Free Jvm.Stand Jvm.LawKit Jvm.RoadKit Bundle Jvm.Pilot.@@N@@.Jvm.D
theorem d1_0 : decode prog_25_method_9_code 0 = .ok (.lload_n 0, 1) := by decide +kernel
theorem d1_1 : decode prog_25_method_9_code 1 = .ok (.lload_n 2, 1) := by decide +kernel
theorem d1_2 : decode prog_25_method_9_code 2 = .ok (.land, 1) := by decide +kernel
theorem d1_3 : decode prog_25_method_9_code 3 = .ok (.lstore 4, 2) := by decide +kernel
theorem d1_5 : decode prog_25_method_9_code 5 = .ok (.lload 4, 2) := by decide +kernel
theorem d1_7 : decode prog_25_method_9_code 7 = .ok (.l2i, 1) := by decide +kernel
theorem d1_8 : decode prog_25_method_9_code 8 = .ok (.ifCond .eq 17, 3) := by decide +kernel
theorem d1_11 : decode prog_25_method_9_code 11 = .ok (.lload 4, 2) := by decide +kernel
theorem d1_13 : decode prog_25_method_9_code 13 = .ok (.bipush 32, 2) := by decide +kernel
theorem d1_15 : decode prog_25_method_9_code 15 = .ok (.lushr, 1) := by decide +kernel
theorem d1_16 : decode prog_25_method_9_code 16 = .ok (.lconst 0, 1) := by decide +kernel
theorem d1_17 : decode prog_25_method_9_code 17 = .ok (.lcmp, 1) := by decide +kernel
theorem d1_18 : decode prog_25_method_9_code 18 = .ok (.ifCond .eq 7, 3) := by decide +kernel
theorem d1_21 : decode prog_25_method_9_code 21 = .ok (.iconst 1, 1) := by decide +kernel
theorem d1_22 : decode prog_25_method_9_code 22 = .ok (.goto 4, 3) := by decide +kernel
theorem d1_25 : decode prog_25_method_9_code 25 = .ok (.iconst 0, 1) := by decide +kernel
theorem d1_26 : decode prog_25_method_9_code 26 = .ok (.ireturn, 1) := by decide +kernel
def rmR1 : Room := { frames := 0, cells := 0, slots := 0, locals := 0 }
def f1_0 (x0 : Int64) (x2 : Int64) : Int32 := (if ((x0 &&& x2).toInt32) = (0 : Int32) then (0 : Int32) else (if (XT.ushrL (x0 &&& x2) (32 : Int32)) = (0 : Int64) then (0 : Int32) else (1 : Int32)))
set_option maxRecDepth 65536 in
set_option maxHeartbeats 40000000 in
theorem b1_0 {p : Program} {l : Launch} {e : Env} {s : State} {m : MethodId} {args : Array Value} {below : List Frame} {meth : Method} {c : Code} {T : State} {locs : List Loc} {Z : State} {a0 : Array Value} {h0 : Heap} {P : Option Value → Heap → List Loc → Prop} (hw : ∀ d ∈ tables_1, d.before a0 Z = true) (C : own_Ctx p s m meth c Z (⟨"com/example/elis/elis/ReadSet", "meet", "(JJ)Z"⟩ : MethodName) prog_25_method_9_code 6 (some .boolean))
    (X : Stand p l e rmR1 s m args below meth c T locs 0 0) (e0 : T.heap = h0) (x0 : Int64) (x2 : Int64) (r : Int32) (hv : f1_0 x0 x2 = r) (hP : P (some (.int r)) h0 locs) :
    own_WP p e below (own_Q s P rmR1.cells rmR1.slots) T (mkF m 0 #[.val (.long x0), .second, .val (.long x2), .second, .unset, .unset] []) := by
  obtain ⟨hx, hZ, hby, hml, hown, hnm, hret, hlk⟩ := id C
  unfold f1_0 at hv
  show own_WP p e below _ T (mkF m 0 #[.val (.long x0), .second, .val (.long x2), .second, .unset, .unset] [])
  refine own_go (fun _ => XS.lloadN X.here hx rfl (hb hby d1_0) rfl) ?_
  show own_WP p e below _ T (mkF m 1 #[.val (.long x0), .second, .val (.long x2), .second, .unset, .unset] [(.long x0)])
  refine own_go (fun _ => XS.lloadN X.here hx rfl (hb hby d1_1) rfl) ?_
  show own_WP p e below _ T (mkF m 2 #[.val (.long x0), .second, .val (.long x2), .second, .unset, .unset] [(.long x2), (.long x0)])
  refine own_go (fun _ => XS.land X.here hx rfl (hb hby d1_2) rfl) ?_
  show own_WP p e below _ T (mkF m 3 #[.val (.long x0), .second, .val (.long x2), .second, .unset, .unset] [(.long (x0 &&& x2))])
  refine own_go (fun _ => XS.lstore X.here hx rfl (hb hby d1_3) rfl (l' := #[.val (.long x0), .second, .val (.long x2), .second, .val (.long (x0 &&& x2)), .second]) rfl) ?_
  show own_WP p e below _ T (mkF m 5 #[.val (.long x0), .second, .val (.long x2), .second, .val (.long (x0 &&& x2)), .second] [])
  refine own_go (fun _ => XS.lload X.here hx rfl (hb hby d1_5) rfl) ?_
  show own_WP p e below _ T (mkF m 7 #[.val (.long x0), .second, .val (.long x2), .second, .val (.long (x0 &&& x2)), .second] [(.long (x0 &&& x2))])
  refine own_go (fun _ => XS.l2i X.here hx rfl (hb hby d1_7) rfl) ?_
  show own_WP p e below _ T (mkF m 8 #[.val (.long x0), .second, .val (.long x2), .second, .val (.long (x0 &&& x2)), .second] [(.int ((x0 &&& x2).toInt32))])
  by_cases h8 : ((x0 &&& x2).toInt32) = (0 : Int32)
  · replace hv := (if_pos h8).symm.trans hv
    refine own_go (fun _ => XS.ifYes X.here hx rfl (pc0 := 8) (pc' := 25) rfl (hb hby d1_8) rfl (XT.i0_eq_t h8) (by decide) (by decide)) ?_
    show own_WP p e below _ T (mkF m 25 #[.val (.long x0), .second, .val (.long x2), .second, .val (.long (x0 &&& x2)), .second] [])
    refine own_go (fun _ => XS.iconst X.here hx rfl (hb hby d1_25)) ?_
    show own_WP p e below _ T (mkF m 26 #[.val (.long x0), .second, .val (.long x2), .second, .val (.long (x0 &&& x2)), .second] [(.int (0 : Int32))])
    subst hv e0; exact own_retN X C (by simp) (hb hby d1_26) hP (by decide) (by decide)
  · replace hv := (if_neg h8).symm.trans hv
    refine own_go (fun _ => XS.ifNo X.here hx rfl (hb hby d1_8) rfl (XT.i0_eq_f h8)) ?_
    show own_WP p e below _ T (mkF m 11 #[.val (.long x0), .second, .val (.long x2), .second, .val (.long (x0 &&& x2)), .second] [])
    refine own_go (fun _ => XS.lload X.here hx rfl (hb hby d1_11) rfl) ?_
    show own_WP p e below _ T (mkF m 13 #[.val (.long x0), .second, .val (.long x2), .second, .val (.long (x0 &&& x2)), .second] [(.long (x0 &&& x2))])
    refine own_go (fun _ => XS.bipush X.here hx rfl (hb hby d1_13)) ?_
    show own_WP p e below _ T (mkF m 15 #[.val (.long x0), .second, .val (.long x2), .second, .val (.long (x0 &&& x2)), .second] [(.int (32 : Int32)), (.long (x0 &&& x2))])
    refine own_go (fun _ => XT.lushr X.here hx rfl (hb hby d1_15) rfl) ?_
    show own_WP p e below _ T (mkF m 16 #[.val (.long x0), .second, .val (.long x2), .second, .val (.long (x0 &&& x2)), .second] [(.long (XT.ushrL (x0 &&& x2) (32 : Int32)))])
    refine own_go (fun _ => XS.lconst X.here hx rfl (hb hby d1_16)) ?_
    show own_WP p e below _ T (mkF m 17 #[.val (.long x0), .second, .val (.long x2), .second, .val (.long (x0 &&& x2)), .second] [(.long (0 : Int64)), (.long (XT.ushrL (x0 &&& x2) (32 : Int32)))])
    refine own_go (fun _ => XT.lcmp X.here hx rfl (hb hby d1_17) rfl) ?_
    show own_WP p e below _ T (mkF m 18 #[.val (.long x0), .second, .val (.long x2), .second, .val (.long (x0 &&& x2)), .second] [(.int (XT.cmpL (XT.ushrL (x0 &&& x2) (32 : Int32)) (0 : Int64)))])
    by_cases h18 : (XT.ushrL (x0 &&& x2) (32 : Int32)) = (0 : Int64)
    · replace hv := (if_pos h18).symm.trans hv
      refine own_go (fun _ => XS.ifYes X.here hx rfl (pc0 := 18) (pc' := 25) rfl (hb hby d1_18) rfl (XT.ll_eq_t h18) (by decide) (by decide)) ?_
      show own_WP p e below _ T (mkF m 25 #[.val (.long x0), .second, .val (.long x2), .second, .val (.long (x0 &&& x2)), .second] [])
      refine own_go (fun _ => XS.iconst X.here hx rfl (hb hby d1_25)) ?_
      show own_WP p e below _ T (mkF m 26 #[.val (.long x0), .second, .val (.long x2), .second, .val (.long (x0 &&& x2)), .second] [(.int (0 : Int32))])
      subst hv e0; exact own_retN X C (by simp) (hb hby d1_26) hP (by decide) (by decide)
    · replace hv := (if_neg h18).symm.trans hv
      refine own_go (fun _ => XS.ifNo X.here hx rfl (hb hby d1_18) rfl (XT.ll_eq_f h18)) ?_
      show own_WP p e below _ T (mkF m 21 #[.val (.long x0), .second, .val (.long x2), .second, .val (.long (x0 &&& x2)), .second] [])
      refine own_go (fun _ => XS.iconst X.here hx rfl (hb hby d1_21)) ?_
      show own_WP p e below _ T (mkF m 22 #[.val (.long x0), .second, .val (.long x2), .second, .val (.long (x0 &&& x2)), .second] [(.int (1 : Int32))])
      refine own_go (fun _ => XS.goto X.here hx rfl (pc0 := 22) (pc' := 26) rfl (hb hby d1_22) (by decide) (by decide)) ?_
      show own_WP p e below _ T (mkF m 26 #[.val (.long x0), .second, .val (.long x2), .second, .val (.long (x0 &&& x2)), .second] [(.int (1 : Int32))])
      subst hv e0; exact own_retN X C (by simp) (hb hby d1_26) hP (by decide) (by decide)
theorem ef1 (m : MethodId) (x0 : Int64) (x2 : Int64) : entryFrame m #[(.long x0), (.long x2)] 6 = (mkF m 0 #[.val (.long x0), .second, .val (.long x2), .second, .unset, .unset] []) := by first | (simp [entryFrame, mkF, argsToLocals, Value.category]; done) | rfl
theorem pd1 : parseMethodDescriptor "(JJ)Z" = some ⟨[.long, .long], some .boolean⟩ := by decide +kernel
theorem pn1 : plainFor (⟨"com/example/elis/elis/ReadSet", "meet", "(JJ)Z"⟩ : MethodName) = true := plainFor_of_name (by first | (simp [plainName, overriddenIn]; done) | decide +kernel)
theorem rm1 (l : Launch) (Z : State) (a0 : Array Value) (hw : ∀ d ∈ tables_1, d.before a0 Z = true) (x0 : Int64) (x2 : Int64) (h0 : Heap) : own_Met l Z (⟨"com/example/elis/elis/ReadSet", "meet", "(JJ)Z"⟩ : MethodName) prog_25_method_9_code 6 (some .boolean) [] rmR1 #[(.long x0), (.long x2)] h0 (fun v h L => v = some (.int (f1_0 x0 x2)) ∧ L = [] ∧ h = h0) := by
  refine own_body pn1 ?_
  intro p e s m below meth c s₁ C X e0
  exact own_cast (ef1 m x0 x2) (b1_0 hw C X e0 x0 x2 _ rfl ⟨rfl, rfl, rfl⟩)
theorem d2_0 : decode prog_25_method_8_code 0 = .ok (.iload_n 0, 1) := by decide +kernel
theorem d2_1 : decode prog_25_method_8_code 1 = .ok (.i2l, 1) := by decide +kernel
theorem d2_2 : decode prog_25_method_8_code 2 = .ok (.ldc2_w 127, 3) := by decide +kernel
theorem d2_5 : decode prog_25_method_8_code 5 = .ok (.lmul, 1) := by decide +kernel
theorem d2_6 : decode prog_25_method_8_code 6 = .ok (.lstore_n 1, 1) := by decide +kernel
theorem d2_7 : decode prog_25_method_8_code 7 = .ok (.lconst 1, 1) := by decide +kernel
theorem d2_8 : decode prog_25_method_8_code 8 = .ok (.lload_n 1, 1) := by decide +kernel
theorem d2_9 : decode prog_25_method_8_code 9 = .ok (.bipush 59, 2) := by decide +kernel
theorem d2_11 : decode prog_25_method_8_code 11 = .ok (.lushr, 1) := by decide +kernel
theorem d2_12 : decode prog_25_method_8_code 12 = .ok (.l2i, 1) := by decide +kernel
theorem d2_13 : decode prog_25_method_8_code 13 = .ok (.lshl, 1) := by decide +kernel
theorem d2_14 : decode prog_25_method_8_code 14 = .ok (.ldc2_w 129, 3) := by decide +kernel
theorem d2_17 : decode prog_25_method_8_code 17 = .ok (.lload_n 1, 1) := by decide +kernel
theorem d2_18 : decode prog_25_method_8_code 18 = .ok (.bipush 54, 2) := by decide +kernel
theorem d2_20 : decode prog_25_method_8_code 20 = .ok (.lushr, 1) := by decide +kernel
theorem d2_21 : decode prog_25_method_8_code 21 = .ok (.ldc2_w 131, 3) := by decide +kernel
theorem d2_24 : decode prog_25_method_8_code 24 = .ok (.land, 1) := by decide +kernel
theorem d2_25 : decode prog_25_method_8_code 25 = .ok (.l2i, 1) := by decide +kernel
theorem d2_26 : decode prog_25_method_8_code 26 = .ok (.lshl, 1) := by decide +kernel
theorem d2_27 : decode prog_25_method_8_code 27 = .ok (.lor, 1) := by decide +kernel
theorem d2_28 : decode prog_25_method_8_code 28 = .ok (.lreturn, 1) := by decide +kernel
def rmR2 : Room := { frames := 0, cells := 0, slots := 0, locals := 0 }
def f2_7 (x1 : Int64) : Int64 := (((1 : Int64) <<< (((XT.ushrL x1 (59 : Int32)).toInt32) &&& 0x3f).toInt64) ||| ((4294967296 : Int64) <<< ((((XT.ushrL x1 (54 : Int32)) &&& (31 : Int64)).toInt32) &&& 0x3f).toInt64))
set_option maxRecDepth 65536 in
set_option maxHeartbeats 40000000 in
theorem b2_7 {p : Program} {l : Launch} {e : Env} {s : State} {m : MethodId} {args : Array Value} {below : List Frame} {meth : Method} {c : Code} {T : State} {locs : List Loc} {Z : State} {a0 : Array Value} {h0 : Heap} {P : Option Value → Heap → List Loc → Prop} (hw : ∀ d ∈ tables_1, d.before a0 Z = true) (C : own_Ctx p s m meth c Z (⟨"com/example/elis/elis/ReadSet", "signatureOf", "(I)J"⟩ : MethodName) prog_25_method_8_code 3 (some .long))
    (X : Stand p l e rmR2 s m args below meth c T locs 0 0) (e0 : T.heap = h0) (x0 : Int32) (x1 : Int64) (r : Int64) (hv : f2_7 x1 = r) (hP : P (some (.long r)) h0 locs) :
    own_WP p e below (own_Q s P rmR2.cells rmR2.slots) T (mkF m 7 #[.val (.int x0), .val (.long x1), .second] []) := by
  obtain ⟨hx, hZ, hby, hml, hown, hnm, hret, hlk⟩ := id C
  unfold f2_7 at hv
  show own_WP p e below _ T (mkF m 7 #[.val (.int x0), .val (.long x1), .second] [])
  refine own_go (fun _ => XS.lconst X.here hx rfl (hb hby d2_7)) ?_
  show own_WP p e below _ T (mkF m 8 #[.val (.int x0), .val (.long x1), .second] [(.long (1 : Int64))])
  refine own_go (fun _ => XS.lloadN X.here hx rfl (hb hby d2_8) rfl) ?_
  show own_WP p e below _ T (mkF m 9 #[.val (.int x0), .val (.long x1), .second] [(.long x1), (.long (1 : Int64))])
  refine own_go (fun _ => XS.bipush X.here hx rfl (hb hby d2_9)) ?_
  show own_WP p e below _ T (mkF m 11 #[.val (.int x0), .val (.long x1), .second] [(.int (59 : Int32)), (.long x1), (.long (1 : Int64))])
  refine own_go (fun _ => XT.lushr X.here hx rfl (hb hby d2_11) rfl) ?_
  show own_WP p e below _ T (mkF m 12 #[.val (.int x0), .val (.long x1), .second] [(.long (XT.ushrL x1 (59 : Int32))), (.long (1 : Int64))])
  refine own_go (fun _ => XS.l2i X.here hx rfl (hb hby d2_12) rfl) ?_
  show own_WP p e below _ T (mkF m 13 #[.val (.int x0), .val (.long x1), .second] [(.int ((XT.ushrL x1 (59 : Int32)).toInt32)), (.long (1 : Int64))])
  refine own_go (fun _ => XS.lshl X.here hx rfl (hb hby d2_13) rfl) ?_
  show own_WP p e below _ T (mkF m 14 #[.val (.int x0), .val (.long x1), .second] [(.long ((1 : Int64) <<< (((XT.ushrL x1 (59 : Int32)).toInt32) &&& 0x3f).toInt64))])
  refine own_go (X.ldc2Long hx hown (mvT hZ (hw _ (List.mem_of_getElem? (i := 8) rfl))) (g := (mkF m 14 #[.val (.int x0), .val (.long x1), .second] [(.long ((1 : Int64) <<< (((XT.ushrL x1 (59 : Int32)).toInt32) &&& 0x3f).toInt64))])) rfl (hb hby d2_14)) ?_
  show own_WP p e below _ T (mkF m 17 #[.val (.int x0), .val (.long x1), .second] [(.long (4294967296 : Int64)), (.long ((1 : Int64) <<< (((XT.ushrL x1 (59 : Int32)).toInt32) &&& 0x3f).toInt64))])
  refine own_go (fun _ => XS.lloadN X.here hx rfl (hb hby d2_17) rfl) ?_
  show own_WP p e below _ T (mkF m 18 #[.val (.int x0), .val (.long x1), .second] [(.long x1), (.long (4294967296 : Int64)), (.long ((1 : Int64) <<< (((XT.ushrL x1 (59 : Int32)).toInt32) &&& 0x3f).toInt64))])
  refine own_go (fun _ => XS.bipush X.here hx rfl (hb hby d2_18)) ?_
  show own_WP p e below _ T (mkF m 20 #[.val (.int x0), .val (.long x1), .second] [(.int (54 : Int32)), (.long x1), (.long (4294967296 : Int64)), (.long ((1 : Int64) <<< (((XT.ushrL x1 (59 : Int32)).toInt32) &&& 0x3f).toInt64))])
  refine own_go (fun _ => XT.lushr X.here hx rfl (hb hby d2_20) rfl) ?_
  show own_WP p e below _ T (mkF m 21 #[.val (.int x0), .val (.long x1), .second] [(.long (XT.ushrL x1 (54 : Int32))), (.long (4294967296 : Int64)), (.long ((1 : Int64) <<< (((XT.ushrL x1 (59 : Int32)).toInt32) &&& 0x3f).toInt64))])
  refine own_go (X.ldc2Long hx hown (mvT hZ (hw _ (List.mem_of_getElem? (i := 9) rfl))) (g := (mkF m 21 #[.val (.int x0), .val (.long x1), .second] [(.long (XT.ushrL x1 (54 : Int32))), (.long (4294967296 : Int64)), (.long ((1 : Int64) <<< (((XT.ushrL x1 (59 : Int32)).toInt32) &&& 0x3f).toInt64))])) rfl (hb hby d2_21)) ?_
  show own_WP p e below _ T (mkF m 24 #[.val (.int x0), .val (.long x1), .second] [(.long (31 : Int64)), (.long (XT.ushrL x1 (54 : Int32))), (.long (4294967296 : Int64)), (.long ((1 : Int64) <<< (((XT.ushrL x1 (59 : Int32)).toInt32) &&& 0x3f).toInt64))])
  refine own_go (fun _ => XS.land X.here hx rfl (hb hby d2_24) rfl) ?_
  show own_WP p e below _ T (mkF m 25 #[.val (.int x0), .val (.long x1), .second] [(.long ((XT.ushrL x1 (54 : Int32)) &&& (31 : Int64))), (.long (4294967296 : Int64)), (.long ((1 : Int64) <<< (((XT.ushrL x1 (59 : Int32)).toInt32) &&& 0x3f).toInt64))])
  refine own_go (fun _ => XS.l2i X.here hx rfl (hb hby d2_25) rfl) ?_
  show own_WP p e below _ T (mkF m 26 #[.val (.int x0), .val (.long x1), .second] [(.int (((XT.ushrL x1 (54 : Int32)) &&& (31 : Int64)).toInt32)), (.long (4294967296 : Int64)), (.long ((1 : Int64) <<< (((XT.ushrL x1 (59 : Int32)).toInt32) &&& 0x3f).toInt64))])
  refine own_go (fun _ => XS.lshl X.here hx rfl (hb hby d2_26) rfl) ?_
  show own_WP p e below _ T (mkF m 27 #[.val (.int x0), .val (.long x1), .second] [(.long ((4294967296 : Int64) <<< ((((XT.ushrL x1 (54 : Int32)) &&& (31 : Int64)).toInt32) &&& 0x3f).toInt64)), (.long ((1 : Int64) <<< (((XT.ushrL x1 (59 : Int32)).toInt32) &&& 0x3f).toInt64))])
  refine own_go (fun _ => XS.lor X.here hx rfl (hb hby d2_27) rfl) ?_
  show own_WP p e below _ T (mkF m 28 #[.val (.int x0), .val (.long x1), .second] [(.long (((1 : Int64) <<< (((XT.ushrL x1 (59 : Int32)).toInt32) &&& 0x3f).toInt64) ||| ((4294967296 : Int64) <<< ((((XT.ushrL x1 (54 : Int32)) &&& (31 : Int64)).toInt32) &&& 0x3f).toInt64)))])
  subst hv e0; exact own_retL X C (hb hby d2_28) hP (by decide) (by decide)
def f2_0 (x0 : Int32) : Int64 := (f2_7 ((x0.toInt64) * (-7046029254386353131 : Int64)))
set_option maxRecDepth 65536 in
set_option maxHeartbeats 40000000 in
theorem b2_0 {p : Program} {l : Launch} {e : Env} {s : State} {m : MethodId} {args : Array Value} {below : List Frame} {meth : Method} {c : Code} {T : State} {locs : List Loc} {Z : State} {a0 : Array Value} {h0 : Heap} {P : Option Value → Heap → List Loc → Prop} (hw : ∀ d ∈ tables_1, d.before a0 Z = true) (C : own_Ctx p s m meth c Z (⟨"com/example/elis/elis/ReadSet", "signatureOf", "(I)J"⟩ : MethodName) prog_25_method_8_code 3 (some .long))
    (X : Stand p l e rmR2 s m args below meth c T locs 0 0) (e0 : T.heap = h0) (x0 : Int32) (r : Int64) (hv : f2_0 x0 = r) (hP : P (some (.long r)) h0 locs) :
    own_WP p e below (own_Q s P rmR2.cells rmR2.slots) T (mkF m 0 #[.val (.int x0), .unset, .unset] []) := by
  obtain ⟨hx, hZ, hby, hml, hown, hnm, hret, hlk⟩ := id C
  unfold f2_0 at hv
  show own_WP p e below _ T (mkF m 0 #[.val (.int x0), .unset, .unset] [])
  refine own_go (fun _ => XS.iloadN X.here hx rfl (hb hby d2_0) rfl) ?_
  show own_WP p e below _ T (mkF m 1 #[.val (.int x0), .unset, .unset] [(.int x0)])
  refine own_go (fun _ => XS.i2l X.here hx rfl (hb hby d2_1) rfl) ?_
  show own_WP p e below _ T (mkF m 2 #[.val (.int x0), .unset, .unset] [(.long (x0.toInt64))])
  refine own_go (X.ldc2Long hx hown (mvT hZ (hw _ (List.mem_of_getElem? (i := 7) rfl))) (g := (mkF m 2 #[.val (.int x0), .unset, .unset] [(.long (x0.toInt64))])) rfl (hb hby d2_2)) ?_
  show own_WP p e below _ T (mkF m 5 #[.val (.int x0), .unset, .unset] [(.long (-7046029254386353131 : Int64)), (.long (x0.toInt64))])
  refine own_go (fun _ => XS.lmul X.here hx rfl (hb hby d2_5) rfl) ?_
  show own_WP p e below _ T (mkF m 6 #[.val (.int x0), .unset, .unset] [(.long ((x0.toInt64) * (-7046029254386353131 : Int64)))])
  refine own_go (fun _ => XS.lstoreN X.here hx rfl (hb hby d2_6) rfl (l' := #[.val (.int x0), .val (.long ((x0.toInt64) * (-7046029254386353131 : Int64))), .second]) rfl) ?_
  exact b2_7 hw C X e0 x0 ((x0.toInt64) * (-7046029254386353131 : Int64)) r hv hP
theorem ef2 (m : MethodId) (x0 : Int32) : entryFrame m #[(.int x0)] 3 = (mkF m 0 #[.val (.int x0), .unset, .unset] []) := by first | (simp [entryFrame, mkF, argsToLocals, Value.category]; done) | rfl
theorem pd2 : parseMethodDescriptor "(I)J" = some ⟨[.int], some .long⟩ := by decide +kernel
theorem pn2 : plainFor (⟨"com/example/elis/elis/ReadSet", "signatureOf", "(I)J"⟩ : MethodName) = true := plainFor_of_name (by first | (simp [plainName, overriddenIn]; done) | decide +kernel)
theorem rm2 (l : Launch) (Z : State) (a0 : Array Value) (hw : ∀ d ∈ tables_1, d.before a0 Z = true) (x0 : Int32) (h0 : Heap) : own_Met l Z (⟨"com/example/elis/elis/ReadSet", "signatureOf", "(I)J"⟩ : MethodName) prog_25_method_8_code 3 (some .long) [] rmR2 #[(.int x0)] h0 (fun v h L => v = some (.long (f2_0 x0)) ∧ L = [] ∧ h = h0) := by
  refine own_body pn2 ?_
  intro p e s m below meth c s₁ C X e0
  exact own_cast (ef2 m x0) (b2_0 hw C X e0 x0 _ rfl ⟨rfl, rfl, rfl⟩)
def f0_157 (x10 : Int32) (x13 : Int32) (x14 : Int32) (x17 : Int32) : Int32 := (if x10 = x13 then (if x14 = (0 : Int32) then (0 : Int32) else (if x17 = (0 : Int32) then (0 : Int32) else (1 : Int32))) else (0 : Int32))
set_option maxRecDepth 65536 in
set_option maxHeartbeats 40000000 in
theorem b0_157 {p : Program} {l : Launch} {e : Env} {s : State} {m : MethodId} {args : Array Value} {below : List Frame} {meth : Method} {c : Code} {T : State} {locs : List Loc} {Z : State} {a0 : Array Value} {h0 : Heap} {P : Option Value → Heap → List Loc → Prop} (hw : ∀ d ∈ tables_1, d.before a0 Z = true) (C : own_Ctx p s m meth c Z x code maxLocals ret)
    (X : Stand p l e room_1 s m args below meth c T locs 0 0) (e0 : T.heap = h0) (x0 : Int64) (x2 : Int64) (x4 : Int32) (x5 : Int32) (x6 : Int64) (x8 : Int64) (x10 : Int32) (x11 : Int32) (x12 : Int32) (x13 : Int32) (x14 : Int32) (x15 : Int64) (x17 : Int32) (r : Int32) (hv : f0_157 x10 x13 x14 x17 = r) (hP : P (some (.int r)) h0 locs) :
    own_WP p e below (own_Q s P room_1.cells room_1.slots) T (mkF m 157 #[.val (.long x0), .second, .val (.long x2), .second, .val (.int x4), .val (.int x5), .val (.long x6), .second, .val (.long x8), .second, .val (.int x10), .val (.int x11), .val (.int x12), .val (.int x13), .val (.int x14), .val (.long x15), .second, .val (.int x17)] []) := by
  obtain ⟨hx, hZ, hby, hml, hown, hnm, hret, hlk⟩ := id C
  unfold f0_157 at hv
  show own_WP p e below _ T (mkF m 157 #[.val (.long x0), .second, .val (.long x2), .second, .val (.int x4), .val (.int x5), .val (.long x6), .second, .val (.long x8), .second, .val (.int x10), .val (.int x11), .val (.int x12), .val (.int x13), .val (.int x14), .val (.long x15), .second, .val (.int x17)] [])
  refine own_go (fun _ => XS.iload X.here hx rfl (hb hby at_157) rfl) ?_
  show own_WP p e below _ T (mkF m 159 #[.val (.long x0), .second, .val (.long x2), .second, .val (.int x4), .val (.int x5), .val (.long x6), .second, .val (.long x8), .second, .val (.int x10), .val (.int x11), .val (.int x12), .val (.int x13), .val (.int x14), .val (.long x15), .second, .val (.int x17)] [(.int x10)])
  refine own_go (fun _ => XS.iload X.here hx rfl (hb hby at_159) rfl) ?_
  show own_WP p e below _ T (mkF m 161 #[.val (.long x0), .second, .val (.long x2), .second, .val (.int x4), .val (.int x5), .val (.long x6), .second, .val (.long x8), .second, .val (.int x10), .val (.int x11), .val (.int x12), .val (.int x13), .val (.int x14), .val (.long x15), .second, .val (.int x17)] [(.int x13), (.int x10)])
  by_cases h161 : x10 = x13
  · replace hv := (if_pos h161).symm.trans hv
    refine own_go (fun _ => XS.icmpNo X.here hx rfl (hb hby at_161) rfl (XT.ii_ne_f h161)) ?_
    show own_WP p e below _ T (mkF m 164 #[.val (.long x0), .second, .val (.long x2), .second, .val (.int x4), .val (.int x5), .val (.long x6), .second, .val (.long x8), .second, .val (.int x10), .val (.int x11), .val (.int x12), .val (.int x13), .val (.int x14), .val (.long x15), .second, .val (.int x17)] [])
    refine own_go (fun _ => XS.iload X.here hx rfl (hb hby at_164) rfl) ?_
    show own_WP p e below _ T (mkF m 166 #[.val (.long x0), .second, .val (.long x2), .second, .val (.int x4), .val (.int x5), .val (.long x6), .second, .val (.long x8), .second, .val (.int x10), .val (.int x11), .val (.int x12), .val (.int x13), .val (.int x14), .val (.long x15), .second, .val (.int x17)] [(.int x14)])
    by_cases h166 : x14 = (0 : Int32)
    · replace hv := (if_pos h166).symm.trans hv
      refine own_go (fun _ => XS.ifYes X.here hx rfl (pc0 := 166) (pc' := 178) rfl (hb hby at_166) rfl (XT.i0_eq_t h166) (by decide) (by decide)) ?_
      show own_WP p e below _ T (mkF m 178 #[.val (.long x0), .second, .val (.long x2), .second, .val (.int x4), .val (.int x5), .val (.long x6), .second, .val (.long x8), .second, .val (.int x10), .val (.int x11), .val (.int x12), .val (.int x13), .val (.int x14), .val (.long x15), .second, .val (.int x17)] [])
      refine own_go (fun _ => XS.iconst X.here hx rfl (hb hby at_178)) ?_
      show own_WP p e below _ T (mkF m 179 #[.val (.long x0), .second, .val (.long x2), .second, .val (.int x4), .val (.int x5), .val (.long x6), .second, .val (.long x8), .second, .val (.int x10), .val (.int x11), .val (.int x12), .val (.int x13), .val (.int x14), .val (.long x15), .second, .val (.int x17)] [(.int (0 : Int32))])
      subst hv e0; exact own_retN X C (by simp) (hb hby at_179) hP (by decide) (by decide)
    · replace hv := (if_neg h166).symm.trans hv
      refine own_go (fun _ => XS.ifNo X.here hx rfl (hb hby at_166) rfl (XT.i0_eq_f h166)) ?_
      show own_WP p e below _ T (mkF m 169 #[.val (.long x0), .second, .val (.long x2), .second, .val (.int x4), .val (.int x5), .val (.long x6), .second, .val (.long x8), .second, .val (.int x10), .val (.int x11), .val (.int x12), .val (.int x13), .val (.int x14), .val (.long x15), .second, .val (.int x17)] [])
      refine own_go (fun _ => XS.iload X.here hx rfl (hb hby at_169) rfl) ?_
      show own_WP p e below _ T (mkF m 171 #[.val (.long x0), .second, .val (.long x2), .second, .val (.int x4), .val (.int x5), .val (.long x6), .second, .val (.long x8), .second, .val (.int x10), .val (.int x11), .val (.int x12), .val (.int x13), .val (.int x14), .val (.long x15), .second, .val (.int x17)] [(.int x17)])
      by_cases h171 : x17 = (0 : Int32)
      · replace hv := (if_pos h171).symm.trans hv
        refine own_go (fun _ => XS.ifYes X.here hx rfl (pc0 := 171) (pc' := 178) rfl (hb hby at_171) rfl (XT.i0_eq_t h171) (by decide) (by decide)) ?_
        show own_WP p e below _ T (mkF m 178 #[.val (.long x0), .second, .val (.long x2), .second, .val (.int x4), .val (.int x5), .val (.long x6), .second, .val (.long x8), .second, .val (.int x10), .val (.int x11), .val (.int x12), .val (.int x13), .val (.int x14), .val (.long x15), .second, .val (.int x17)] [])
        refine own_go (fun _ => XS.iconst X.here hx rfl (hb hby at_178)) ?_
        show own_WP p e below _ T (mkF m 179 #[.val (.long x0), .second, .val (.long x2), .second, .val (.int x4), .val (.int x5), .val (.long x6), .second, .val (.long x8), .second, .val (.int x10), .val (.int x11), .val (.int x12), .val (.int x13), .val (.int x14), .val (.long x15), .second, .val (.int x17)] [(.int (0 : Int32))])
        subst hv e0; exact own_retN X C (by simp) (hb hby at_179) hP (by decide) (by decide)
      · replace hv := (if_neg h171).symm.trans hv
        refine own_go (fun _ => XS.ifNo X.here hx rfl (hb hby at_171) rfl (XT.i0_eq_f h171)) ?_
        show own_WP p e below _ T (mkF m 174 #[.val (.long x0), .second, .val (.long x2), .second, .val (.int x4), .val (.int x5), .val (.long x6), .second, .val (.long x8), .second, .val (.int x10), .val (.int x11), .val (.int x12), .val (.int x13), .val (.int x14), .val (.long x15), .second, .val (.int x17)] [])
        refine own_go (fun _ => XS.iconst X.here hx rfl (hb hby at_174)) ?_
        show own_WP p e below _ T (mkF m 175 #[.val (.long x0), .second, .val (.long x2), .second, .val (.int x4), .val (.int x5), .val (.long x6), .second, .val (.long x8), .second, .val (.int x10), .val (.int x11), .val (.int x12), .val (.int x13), .val (.int x14), .val (.long x15), .second, .val (.int x17)] [(.int (1 : Int32))])
        refine own_go (fun _ => XS.goto X.here hx rfl (pc0 := 175) (pc' := 179) rfl (hb hby at_175) (by decide) (by decide)) ?_
        show own_WP p e below _ T (mkF m 179 #[.val (.long x0), .second, .val (.long x2), .second, .val (.int x4), .val (.int x5), .val (.long x6), .second, .val (.long x8), .second, .val (.int x10), .val (.int x11), .val (.int x12), .val (.int x13), .val (.int x14), .val (.long x15), .second, .val (.int x17)] [(.int (1 : Int32))])
        subst hv e0; exact own_retN X C (by simp) (hb hby at_179) hP (by decide) (by decide)
  · replace hv := (if_neg h161).symm.trans hv
    refine own_go (fun _ => XS.icmpYes X.here hx rfl (pc0 := 161) (pc' := 178) rfl (hb hby at_161) rfl (XT.ii_ne_t h161) (by decide) (by decide)) ?_
    show own_WP p e below _ T (mkF m 178 #[.val (.long x0), .second, .val (.long x2), .second, .val (.int x4), .val (.int x5), .val (.long x6), .second, .val (.long x8), .second, .val (.int x10), .val (.int x11), .val (.int x12), .val (.int x13), .val (.int x14), .val (.long x15), .second, .val (.int x17)] [])
    refine own_go (fun _ => XS.iconst X.here hx rfl (hb hby at_178)) ?_
    show own_WP p e below _ T (mkF m 179 #[.val (.long x0), .second, .val (.long x2), .second, .val (.int x4), .val (.int x5), .val (.long x6), .second, .val (.long x8), .second, .val (.int x10), .val (.int x11), .val (.int x12), .val (.int x13), .val (.int x14), .val (.long x15), .second, .val (.int x17)] [(.int (0 : Int32))])
    subst hv e0; exact own_retN X C (by simp) (hb hby at_179) hP (by decide) (by decide)
def f0_133 (x5 : Int32) (x6 : Int64) (x8 : Int64) (x10 : Int32) (x13 : Int32) (t0 : Int32) : Int32 := (f0_157 x10 x13 t0 (f1_0 ((f2_0 x5) ||| x6) ((f2_0 x5) ||| x8)))
set_option maxRecDepth 65536 in
set_option maxHeartbeats 40000000 in
theorem b0_133 {p : Program} {l : Launch} {e : Env} {s : State} {m : MethodId} {args : Array Value} {below : List Frame} {meth : Method} {c : Code} {T : State} {locs : List Loc} {Z : State} {a0 : Array Value} {h0 : Heap} {P : Option Value → Heap → List Loc → Prop} (hw : ∀ d ∈ tables_1, d.before a0 Z = true) (C : own_Ctx p s m meth c Z x code maxLocals ret)
    (X : Stand p l e room_1 s m args below meth c T locs 0 0) (e0 : T.heap = h0) (x0 : Int64) (x2 : Int64) (x4 : Int32) (x5 : Int32) (x6 : Int64) (x8 : Int64) (x10 : Int32) (x11 : Int32) (x12 : Int32) (x13 : Int32) (t0 : Int32) (r : Int32) (hv : f0_133 x5 x6 x8 x10 x13 t0 = r) (hP : P (some (.int r)) h0 locs) :
    own_WP p e below (own_Q s P room_1.cells room_1.slots) T (mkF m 133 #[.val (.long x0), .second, .val (.long x2), .second, .val (.int x4), .val (.int x5), .val (.long x6), .second, .val (.long x8), .second, .val (.int x10), .val (.int x11), .val (.int x12), .val (.int x13), .unset, .unset, .unset, .unset] [(.int t0)]) := by
  obtain ⟨hx, hZ, hby, hml, hown, hnm, hret, hlk⟩ := id C
  unfold f0_133 at hv
  show own_WP p e below _ T (mkF m 133 #[.val (.long x0), .second, .val (.long x2), .second, .val (.int x4), .val (.int x5), .val (.long x6), .second, .val (.long x8), .second, .val (.int x10), .val (.int x11), .val (.int x12), .val (.int x13), .unset, .unset, .unset, .unset] [(.int t0)])
  refine own_go (fun _ => XS.istore X.here hx rfl (hb hby at_133) rfl (l' := #[.val (.long x0), .second, .val (.long x2), .second, .val (.int x4), .val (.int x5), .val (.long x6), .second, .val (.long x8), .second, .val (.int x10), .val (.int x11), .val (.int x12), .val (.int x13), .val (.int t0), .unset, .unset, .unset]) rfl) ?_
  show own_WP p e below _ T (mkF m 135 #[.val (.long x0), .second, .val (.long x2), .second, .val (.int x4), .val (.int x5), .val (.long x6), .second, .val (.long x8), .second, .val (.int x10), .val (.int x11), .val (.int x12), .val (.int x13), .val (.int t0), .unset, .unset, .unset] [])
  refine own_go (fun _ => XS.iload X.here hx rfl (hb hby at_135) rfl) ?_
  show own_WP p e below _ T (mkF m 137 #[.val (.long x0), .second, .val (.long x2), .second, .val (.int x4), .val (.int x5), .val (.long x6), .second, .val (.long x8), .second, .val (.int x10), .val (.int x11), .val (.int x12), .val (.int x13), .val (.int t0), .unset, .unset, .unset] [(.int x5)])
  obtain ⟨T, v', L', X, ⟨rfl, rfl, e0⟩, st'⟩ := own_callS X C (rm2 l Z a0 hw x5 h0) (hw _ (List.mem_of_getElem? (i := 4) rfl)) (hw _ (List.mem_of_getElem? (i := 5) rfl)) (hw _ (List.mem_of_getElem? (i := 2) rfl)) (hw _ (List.mem_of_getElem? (i := 6) rfl)) (by decide) e0 (W := 0) (pc := 137) (Ls := #[.val (.long x0), .second, .val (.long x2), .second, .val (.int x4), .val (.int x5), .val (.long x6), .second, .val (.long x8), .second, .val (.int x10), .val (.int x11), .val (.int x12), .val (.int x13), .val (.int t0), .unset, .unset, .unset]) rfl (lenOf pd2 rfl) (rest := []) (stk := [(.int x5)]) rfl (Nat.le_of_ble_eq_true rfl) (hb hby at_137) (by decide) (by decide) (by decide) (by decide)
  rw [List.append_nil] at X
  refine own_go st' ?_
  show own_WP p e below _ T (mkF m 140 #[.val (.long x0), .second, .val (.long x2), .second, .val (.int x4), .val (.int x5), .val (.long x6), .second, .val (.long x8), .second, .val (.int x10), .val (.int x11), .val (.int x12), .val (.int x13), .val (.int t0), .unset, .unset, .unset] [(.long (f2_0 x5))])
  refine own_go (fun _ => XS.lstore X.here hx rfl (hb hby at_140) rfl (l' := #[.val (.long x0), .second, .val (.long x2), .second, .val (.int x4), .val (.int x5), .val (.long x6), .second, .val (.long x8), .second, .val (.int x10), .val (.int x11), .val (.int x12), .val (.int x13), .val (.int t0), .val (.long (f2_0 x5)), .second, .unset]) rfl) ?_
  show own_WP p e below _ T (mkF m 142 #[.val (.long x0), .second, .val (.long x2), .second, .val (.int x4), .val (.int x5), .val (.long x6), .second, .val (.long x8), .second, .val (.int x10), .val (.int x11), .val (.int x12), .val (.int x13), .val (.int t0), .val (.long (f2_0 x5)), .second, .unset] [])
  refine own_go (fun _ => XS.lload X.here hx rfl (hb hby at_142) rfl) ?_
  show own_WP p e below _ T (mkF m 144 #[.val (.long x0), .second, .val (.long x2), .second, .val (.int x4), .val (.int x5), .val (.long x6), .second, .val (.long x8), .second, .val (.int x10), .val (.int x11), .val (.int x12), .val (.int x13), .val (.int t0), .val (.long (f2_0 x5)), .second, .unset] [(.long (f2_0 x5))])
  refine own_go (fun _ => XS.lload X.here hx rfl (hb hby at_144) rfl) ?_
  show own_WP p e below _ T (mkF m 146 #[.val (.long x0), .second, .val (.long x2), .second, .val (.int x4), .val (.int x5), .val (.long x6), .second, .val (.long x8), .second, .val (.int x10), .val (.int x11), .val (.int x12), .val (.int x13), .val (.int t0), .val (.long (f2_0 x5)), .second, .unset] [(.long x6), (.long (f2_0 x5))])
  refine own_go (fun _ => XS.lor X.here hx rfl (hb hby at_146) rfl) ?_
  show own_WP p e below _ T (mkF m 147 #[.val (.long x0), .second, .val (.long x2), .second, .val (.int x4), .val (.int x5), .val (.long x6), .second, .val (.long x8), .second, .val (.int x10), .val (.int x11), .val (.int x12), .val (.int x13), .val (.int t0), .val (.long (f2_0 x5)), .second, .unset] [(.long ((f2_0 x5) ||| x6))])
  refine own_go (fun _ => XS.lload X.here hx rfl (hb hby at_147) rfl) ?_
  show own_WP p e below _ T (mkF m 149 #[.val (.long x0), .second, .val (.long x2), .second, .val (.int x4), .val (.int x5), .val (.long x6), .second, .val (.long x8), .second, .val (.int x10), .val (.int x11), .val (.int x12), .val (.int x13), .val (.int t0), .val (.long (f2_0 x5)), .second, .unset] [(.long (f2_0 x5)), (.long ((f2_0 x5) ||| x6))])
  refine own_go (fun _ => XS.lload X.here hx rfl (hb hby at_149) rfl) ?_
  show own_WP p e below _ T (mkF m 151 #[.val (.long x0), .second, .val (.long x2), .second, .val (.int x4), .val (.int x5), .val (.long x6), .second, .val (.long x8), .second, .val (.int x10), .val (.int x11), .val (.int x12), .val (.int x13), .val (.int t0), .val (.long (f2_0 x5)), .second, .unset] [(.long x8), (.long (f2_0 x5)), (.long ((f2_0 x5) ||| x6))])
  refine own_go (fun _ => XS.lor X.here hx rfl (hb hby at_151) rfl) ?_
  show own_WP p e below _ T (mkF m 152 #[.val (.long x0), .second, .val (.long x2), .second, .val (.int x4), .val (.int x5), .val (.long x6), .second, .val (.long x8), .second, .val (.int x10), .val (.int x11), .val (.int x12), .val (.int x13), .val (.int t0), .val (.long (f2_0 x5)), .second, .unset] [(.long ((f2_0 x5) ||| x8)), (.long ((f2_0 x5) ||| x6))])
  obtain ⟨T, v', L', X, ⟨rfl, rfl, e0⟩, st'⟩ := own_callS X C (rm1 l Z a0 hw ((f2_0 x5) ||| x6) ((f2_0 x5) ||| x8) h0) (hw _ (List.mem_of_getElem? (i := 0) rfl)) (hw _ (List.mem_of_getElem? (i := 1) rfl)) (hw _ (List.mem_of_getElem? (i := 2) rfl)) (hw _ (List.mem_of_getElem? (i := 3) rfl)) (by decide) e0 (W := 0) (pc := 152) (Ls := #[.val (.long x0), .second, .val (.long x2), .second, .val (.int x4), .val (.int x5), .val (.long x6), .second, .val (.long x8), .second, .val (.int x10), .val (.int x11), .val (.int x12), .val (.int x13), .val (.int t0), .val (.long (f2_0 x5)), .second, .unset]) rfl (lenOf pd1 rfl) (rest := []) (stk := [(.long ((f2_0 x5) ||| x8)), (.long ((f2_0 x5) ||| x6))]) rfl (Nat.le_of_ble_eq_true rfl) (hb hby at_152) (by decide) (by decide) (by decide) (by decide)
  rw [List.append_nil] at X
  refine own_go st' ?_
  show own_WP p e below _ T (mkF m 155 #[.val (.long x0), .second, .val (.long x2), .second, .val (.int x4), .val (.int x5), .val (.long x6), .second, .val (.long x8), .second, .val (.int x10), .val (.int x11), .val (.int x12), .val (.int x13), .val (.int t0), .val (.long (f2_0 x5)), .second, .unset] [(.int (f1_0 ((f2_0 x5) ||| x6) ((f2_0 x5) ||| x8)))])
  refine own_go (fun _ => XS.istore X.here hx rfl (hb hby at_155) rfl (l' := #[.val (.long x0), .second, .val (.long x2), .second, .val (.int x4), .val (.int x5), .val (.long x6), .second, .val (.long x8), .second, .val (.int x10), .val (.int x11), .val (.int x12), .val (.int x13), .val (.int t0), .val (.long (f2_0 x5)), .second, .val (.int (f1_0 ((f2_0 x5) ||| x6) ((f2_0 x5) ||| x8)))]) rfl) ?_
  exact b0_157 hw C X e0 x0 x2 x4 x5 x6 x8 x10 x11 x12 x13 t0 (f2_0 x5) (f1_0 ((f2_0 x5) ||| x6) ((f2_0 x5) ||| x8)) r hv hP
def f0_114 (x5 : Int32) (x6 : Int64) (x8 : Int64) (x10 : Int32) (t0 : Int32) : Int32 := (if (f1_0 x8 x6) = x10 then (f0_133 x5 x6 x8 x10 t0 (1 : Int32)) else (f0_133 x5 x6 x8 x10 t0 (0 : Int32)))
set_option maxRecDepth 65536 in
set_option maxHeartbeats 40000000 in
theorem b0_114 {p : Program} {l : Launch} {e : Env} {s : State} {m : MethodId} {args : Array Value} {below : List Frame} {meth : Method} {c : Code} {T : State} {locs : List Loc} {Z : State} {a0 : Array Value} {h0 : Heap} {P : Option Value → Heap → List Loc → Prop} (hw : ∀ d ∈ tables_1, d.before a0 Z = true) (C : own_Ctx p s m meth c Z x code maxLocals ret)
    (X : Stand p l e room_1 s m args below meth c T locs 0 0) (e0 : T.heap = h0) (x0 : Int64) (x2 : Int64) (x4 : Int32) (x5 : Int32) (x6 : Int64) (x8 : Int64) (x10 : Int32) (x11 : Int32) (x12 : Int32) (t0 : Int32) (r : Int32) (hv : f0_114 x5 x6 x8 x10 t0 = r) (hP : P (some (.int r)) h0 locs) :
    own_WP p e below (own_Q s P room_1.cells room_1.slots) T (mkF m 114 #[.val (.long x0), .second, .val (.long x2), .second, .val (.int x4), .val (.int x5), .val (.long x6), .second, .val (.long x8), .second, .val (.int x10), .val (.int x11), .val (.int x12), .unset, .unset, .unset, .unset, .unset] [(.int t0)]) := by
  obtain ⟨hx, hZ, hby, hml, hown, hnm, hret, hlk⟩ := id C
  unfold f0_114 at hv
  show own_WP p e below _ T (mkF m 114 #[.val (.long x0), .second, .val (.long x2), .second, .val (.int x4), .val (.int x5), .val (.long x6), .second, .val (.long x8), .second, .val (.int x10), .val (.int x11), .val (.int x12), .unset, .unset, .unset, .unset, .unset] [(.int t0)])
  refine own_go (fun _ => XS.istore X.here hx rfl (hb hby at_114) rfl (l' := #[.val (.long x0), .second, .val (.long x2), .second, .val (.int x4), .val (.int x5), .val (.long x6), .second, .val (.long x8), .second, .val (.int x10), .val (.int x11), .val (.int x12), .val (.int t0), .unset, .unset, .unset, .unset]) rfl) ?_
  show own_WP p e below _ T (mkF m 116 #[.val (.long x0), .second, .val (.long x2), .second, .val (.int x4), .val (.int x5), .val (.long x6), .second, .val (.long x8), .second, .val (.int x10), .val (.int x11), .val (.int x12), .val (.int t0), .unset, .unset, .unset, .unset] [])
  refine own_go (fun _ => XS.lload X.here hx rfl (hb hby at_116) rfl) ?_
  show own_WP p e below _ T (mkF m 118 #[.val (.long x0), .second, .val (.long x2), .second, .val (.int x4), .val (.int x5), .val (.long x6), .second, .val (.long x8), .second, .val (.int x10), .val (.int x11), .val (.int x12), .val (.int t0), .unset, .unset, .unset, .unset] [(.long x8)])
  refine own_go (fun _ => XS.lload X.here hx rfl (hb hby at_118) rfl) ?_
  show own_WP p e below _ T (mkF m 120 #[.val (.long x0), .second, .val (.long x2), .second, .val (.int x4), .val (.int x5), .val (.long x6), .second, .val (.long x8), .second, .val (.int x10), .val (.int x11), .val (.int x12), .val (.int t0), .unset, .unset, .unset, .unset] [(.long x6), (.long x8)])
  obtain ⟨T, v', L', X, ⟨rfl, rfl, e0⟩, st'⟩ := own_callS X C (rm1 l Z a0 hw x8 x6 h0) (hw _ (List.mem_of_getElem? (i := 0) rfl)) (hw _ (List.mem_of_getElem? (i := 1) rfl)) (hw _ (List.mem_of_getElem? (i := 2) rfl)) (hw _ (List.mem_of_getElem? (i := 3) rfl)) (by decide) e0 (W := 0) (pc := 120) (Ls := #[.val (.long x0), .second, .val (.long x2), .second, .val (.int x4), .val (.int x5), .val (.long x6), .second, .val (.long x8), .second, .val (.int x10), .val (.int x11), .val (.int x12), .val (.int t0), .unset, .unset, .unset, .unset]) rfl (lenOf pd1 rfl) (rest := []) (stk := [(.long x6), (.long x8)]) rfl (Nat.le_of_ble_eq_true rfl) (hb hby at_120) (by decide) (by decide) (by decide) (by decide)
  rw [List.append_nil] at X
  refine own_go st' ?_
  show own_WP p e below _ T (mkF m 123 #[.val (.long x0), .second, .val (.long x2), .second, .val (.int x4), .val (.int x5), .val (.long x6), .second, .val (.long x8), .second, .val (.int x10), .val (.int x11), .val (.int x12), .val (.int t0), .unset, .unset, .unset, .unset] [(.int (f1_0 x8 x6))])
  refine own_go (fun _ => XS.iload X.here hx rfl (hb hby at_123) rfl) ?_
  show own_WP p e below _ T (mkF m 125 #[.val (.long x0), .second, .val (.long x2), .second, .val (.int x4), .val (.int x5), .val (.long x6), .second, .val (.long x8), .second, .val (.int x10), .val (.int x11), .val (.int x12), .val (.int t0), .unset, .unset, .unset, .unset] [(.int x10), (.int (f1_0 x8 x6))])
  by_cases h125 : (f1_0 x8 x6) = x10
  · replace hv := (if_pos h125).symm.trans hv
    refine own_go (fun _ => XS.icmpNo X.here hx rfl (hb hby at_125) rfl (XT.ii_ne_f h125)) ?_
    show own_WP p e below _ T (mkF m 128 #[.val (.long x0), .second, .val (.long x2), .second, .val (.int x4), .val (.int x5), .val (.long x6), .second, .val (.long x8), .second, .val (.int x10), .val (.int x11), .val (.int x12), .val (.int t0), .unset, .unset, .unset, .unset] [])
    refine own_go (fun _ => XS.iconst X.here hx rfl (hb hby at_128)) ?_
    show own_WP p e below _ T (mkF m 129 #[.val (.long x0), .second, .val (.long x2), .second, .val (.int x4), .val (.int x5), .val (.long x6), .second, .val (.long x8), .second, .val (.int x10), .val (.int x11), .val (.int x12), .val (.int t0), .unset, .unset, .unset, .unset] [(.int (1 : Int32))])
    refine own_go (fun _ => XS.goto X.here hx rfl (pc0 := 129) (pc' := 133) rfl (hb hby at_129) (by decide) (by decide)) ?_
    exact b0_133 hw C X e0 x0 x2 x4 x5 x6 x8 x10 x11 x12 t0 (1 : Int32) r hv hP
  · replace hv := (if_neg h125).symm.trans hv
    refine own_go (fun _ => XS.icmpYes X.here hx rfl (pc0 := 125) (pc' := 132) rfl (hb hby at_125) rfl (XT.ii_ne_t h125) (by decide) (by decide)) ?_
    show own_WP p e below _ T (mkF m 132 #[.val (.long x0), .second, .val (.long x2), .second, .val (.int x4), .val (.int x5), .val (.long x6), .second, .val (.long x8), .second, .val (.int x10), .val (.int x11), .val (.int x12), .val (.int t0), .unset, .unset, .unset, .unset] [])
    refine own_go (fun _ => XS.iconst X.here hx rfl (hb hby at_132)) ?_
    exact b0_133 hw C X e0 x0 x2 x4 x5 x6 x8 x10 x11 x12 t0 (0 : Int32) r hv hP
def f0_113 (x5 : Int32) (x6 : Int64) (x8 : Int64) (x10 : Int32) : Int32 := (f0_114 x5 x6 x8 x10 (0 : Int32))
set_option maxRecDepth 65536 in
set_option maxHeartbeats 40000000 in
theorem b0_113 {p : Program} {l : Launch} {e : Env} {s : State} {m : MethodId} {args : Array Value} {below : List Frame} {meth : Method} {c : Code} {T : State} {locs : List Loc} {Z : State} {a0 : Array Value} {h0 : Heap} {P : Option Value → Heap → List Loc → Prop} (hw : ∀ d ∈ tables_1, d.before a0 Z = true) (C : own_Ctx p s m meth c Z x code maxLocals ret)
    (X : Stand p l e room_1 s m args below meth c T locs 0 0) (e0 : T.heap = h0) (x0 : Int64) (x2 : Int64) (x4 : Int32) (x5 : Int32) (x6 : Int64) (x8 : Int64) (x10 : Int32) (x11 : Int32) (x12 : Int32) (r : Int32) (hv : f0_113 x5 x6 x8 x10 = r) (hP : P (some (.int r)) h0 locs) :
    own_WP p e below (own_Q s P room_1.cells room_1.slots) T (mkF m 113 #[.val (.long x0), .second, .val (.long x2), .second, .val (.int x4), .val (.int x5), .val (.long x6), .second, .val (.long x8), .second, .val (.int x10), .val (.int x11), .val (.int x12), .unset, .unset, .unset, .unset, .unset] []) := by
  obtain ⟨hx, hZ, hby, hml, hown, hnm, hret, hlk⟩ := id C
  unfold f0_113 at hv
  show own_WP p e below _ T (mkF m 113 #[.val (.long x0), .second, .val (.long x2), .second, .val (.int x4), .val (.int x5), .val (.long x6), .second, .val (.long x8), .second, .val (.int x10), .val (.int x11), .val (.int x12), .unset, .unset, .unset, .unset, .unset] [])
  refine own_go (fun _ => XS.iconst X.here hx rfl (hb hby at_113)) ?_
  exact b0_114 hw C X e0 x0 x2 x4 x5 x6 x8 x10 x11 x12 (0 : Int32) r hv hP
def f0_97 (x5 : Int32) (x6 : Int64) (x8 : Int64) (x10 : Int32) (x11 : Int32) (t0 : Int32) : Int32 := (if x11 = (0 : Int32) then (f0_113 x5 x6 x8 x10) else (if t0 = (0 : Int32) then (f0_113 x5 x6 x8 x10) else (f0_114 x5 x6 x8 x10 (1 : Int32))))
set_option maxRecDepth 65536 in
set_option maxHeartbeats 40000000 in
theorem b0_97 {p : Program} {l : Launch} {e : Env} {s : State} {m : MethodId} {args : Array Value} {below : List Frame} {meth : Method} {c : Code} {T : State} {locs : List Loc} {Z : State} {a0 : Array Value} {h0 : Heap} {P : Option Value → Heap → List Loc → Prop} (hw : ∀ d ∈ tables_1, d.before a0 Z = true) (C : own_Ctx p s m meth c Z x code maxLocals ret)
    (X : Stand p l e room_1 s m args below meth c T locs 0 0) (e0 : T.heap = h0) (x0 : Int64) (x2 : Int64) (x4 : Int32) (x5 : Int32) (x6 : Int64) (x8 : Int64) (x10 : Int32) (x11 : Int32) (t0 : Int32) (r : Int32) (hv : f0_97 x5 x6 x8 x10 x11 t0 = r) (hP : P (some (.int r)) h0 locs) :
    own_WP p e below (own_Q s P room_1.cells room_1.slots) T (mkF m 97 #[.val (.long x0), .second, .val (.long x2), .second, .val (.int x4), .val (.int x5), .val (.long x6), .second, .val (.long x8), .second, .val (.int x10), .val (.int x11), .unset, .unset, .unset, .unset, .unset, .unset] [(.int t0)]) := by
  obtain ⟨hx, hZ, hby, hml, hown, hnm, hret, hlk⟩ := id C
  unfold f0_97 at hv
  show own_WP p e below _ T (mkF m 97 #[.val (.long x0), .second, .val (.long x2), .second, .val (.int x4), .val (.int x5), .val (.long x6), .second, .val (.long x8), .second, .val (.int x10), .val (.int x11), .unset, .unset, .unset, .unset, .unset, .unset] [(.int t0)])
  refine own_go (fun _ => XS.istore X.here hx rfl (hb hby at_97) rfl (l' := #[.val (.long x0), .second, .val (.long x2), .second, .val (.int x4), .val (.int x5), .val (.long x6), .second, .val (.long x8), .second, .val (.int x10), .val (.int x11), .val (.int t0), .unset, .unset, .unset, .unset, .unset]) rfl) ?_
  show own_WP p e below _ T (mkF m 99 #[.val (.long x0), .second, .val (.long x2), .second, .val (.int x4), .val (.int x5), .val (.long x6), .second, .val (.long x8), .second, .val (.int x10), .val (.int x11), .val (.int t0), .unset, .unset, .unset, .unset, .unset] [])
  refine own_go (fun _ => XS.iload X.here hx rfl (hb hby at_99) rfl) ?_
  show own_WP p e below _ T (mkF m 101 #[.val (.long x0), .second, .val (.long x2), .second, .val (.int x4), .val (.int x5), .val (.long x6), .second, .val (.long x8), .second, .val (.int x10), .val (.int x11), .val (.int t0), .unset, .unset, .unset, .unset, .unset] [(.int x11)])
  by_cases h101 : x11 = (0 : Int32)
  · replace hv := (if_pos h101).symm.trans hv
    refine own_go (fun _ => XS.ifYes X.here hx rfl (pc0 := 101) (pc' := 113) rfl (hb hby at_101) rfl (XT.i0_eq_t h101) (by decide) (by decide)) ?_
    exact b0_113 hw C X e0 x0 x2 x4 x5 x6 x8 x10 x11 t0 r hv hP
  · replace hv := (if_neg h101).symm.trans hv
    refine own_go (fun _ => XS.ifNo X.here hx rfl (hb hby at_101) rfl (XT.i0_eq_f h101)) ?_
    show own_WP p e below _ T (mkF m 104 #[.val (.long x0), .second, .val (.long x2), .second, .val (.int x4), .val (.int x5), .val (.long x6), .second, .val (.long x8), .second, .val (.int x10), .val (.int x11), .val (.int t0), .unset, .unset, .unset, .unset, .unset] [])
    refine own_go (fun _ => XS.iload X.here hx rfl (hb hby at_104) rfl) ?_
    show own_WP p e below _ T (mkF m 106 #[.val (.long x0), .second, .val (.long x2), .second, .val (.int x4), .val (.int x5), .val (.long x6), .second, .val (.long x8), .second, .val (.int x10), .val (.int x11), .val (.int t0), .unset, .unset, .unset, .unset, .unset] [(.int t0)])
    by_cases h106 : t0 = (0 : Int32)
    · replace hv := (if_pos h106).symm.trans hv
      refine own_go (fun _ => XS.ifYes X.here hx rfl (pc0 := 106) (pc' := 113) rfl (hb hby at_106) rfl (XT.i0_eq_t h106) (by decide) (by decide)) ?_
      exact b0_113 hw C X e0 x0 x2 x4 x5 x6 x8 x10 x11 t0 r hv hP
    · replace hv := (if_neg h106).symm.trans hv
      refine own_go (fun _ => XS.ifNo X.here hx rfl (hb hby at_106) rfl (XT.i0_eq_f h106)) ?_
      show own_WP p e below _ T (mkF m 109 #[.val (.long x0), .second, .val (.long x2), .second, .val (.int x4), .val (.int x5), .val (.long x6), .second, .val (.long x8), .second, .val (.int x10), .val (.int x11), .val (.int t0), .unset, .unset, .unset, .unset, .unset] [])
      refine own_go (fun _ => XS.iconst X.here hx rfl (hb hby at_109)) ?_
      show own_WP p e below _ T (mkF m 110 #[.val (.long x0), .second, .val (.long x2), .second, .val (.int x4), .val (.int x5), .val (.long x6), .second, .val (.long x8), .second, .val (.int x10), .val (.int x11), .val (.int t0), .unset, .unset, .unset, .unset, .unset] [(.int (1 : Int32))])
      refine own_go (fun _ => XS.goto X.here hx rfl (pc0 := 110) (pc' := 114) rfl (hb hby at_110) (by decide) (by decide)) ?_
      exact b0_114 hw C X e0 x0 x2 x4 x5 x6 x8 x10 x11 t0 (1 : Int32) r hv hP
def f0_74 (x5 : Int32) (x6 : Int64) (x8 : Int64) (x10 : Int32) (t0 : Int32) : Int32 := (if (((XT.ushrL x6 (32 : Int32)).toInt32) &&& ((XT.ushrL x8 (32 : Int32)).toInt32)) = (0 : Int32) then (f0_97 x5 x6 x8 x10 t0 (0 : Int32)) else (f0_97 x5 x6 x8 x10 t0 (1 : Int32)))
set_option maxRecDepth 65536 in
set_option maxHeartbeats 40000000 in
theorem b0_74 {p : Program} {l : Launch} {e : Env} {s : State} {m : MethodId} {args : Array Value} {below : List Frame} {meth : Method} {c : Code} {T : State} {locs : List Loc} {Z : State} {a0 : Array Value} {h0 : Heap} {P : Option Value → Heap → List Loc → Prop} (hw : ∀ d ∈ tables_1, d.before a0 Z = true) (C : own_Ctx p s m meth c Z x code maxLocals ret)
    (X : Stand p l e room_1 s m args below meth c T locs 0 0) (e0 : T.heap = h0) (x0 : Int64) (x2 : Int64) (x4 : Int32) (x5 : Int32) (x6 : Int64) (x8 : Int64) (x10 : Int32) (t0 : Int32) (r : Int32) (hv : f0_74 x5 x6 x8 x10 t0 = r) (hP : P (some (.int r)) h0 locs) :
    own_WP p e below (own_Q s P room_1.cells room_1.slots) T (mkF m 74 #[.val (.long x0), .second, .val (.long x2), .second, .val (.int x4), .val (.int x5), .val (.long x6), .second, .val (.long x8), .second, .val (.int x10), .unset, .unset, .unset, .unset, .unset, .unset, .unset] [(.int t0)]) := by
  obtain ⟨hx, hZ, hby, hml, hown, hnm, hret, hlk⟩ := id C
  unfold f0_74 at hv
  show own_WP p e below _ T (mkF m 74 #[.val (.long x0), .second, .val (.long x2), .second, .val (.int x4), .val (.int x5), .val (.long x6), .second, .val (.long x8), .second, .val (.int x10), .unset, .unset, .unset, .unset, .unset, .unset, .unset] [(.int t0)])
  refine own_go (fun _ => XS.istore X.here hx rfl (hb hby at_74) rfl (l' := #[.val (.long x0), .second, .val (.long x2), .second, .val (.int x4), .val (.int x5), .val (.long x6), .second, .val (.long x8), .second, .val (.int x10), .val (.int t0), .unset, .unset, .unset, .unset, .unset, .unset]) rfl) ?_
  show own_WP p e below _ T (mkF m 76 #[.val (.long x0), .second, .val (.long x2), .second, .val (.int x4), .val (.int x5), .val (.long x6), .second, .val (.long x8), .second, .val (.int x10), .val (.int t0), .unset, .unset, .unset, .unset, .unset, .unset] [])
  refine own_go (fun _ => XS.lload X.here hx rfl (hb hby at_76) rfl) ?_
  show own_WP p e below _ T (mkF m 78 #[.val (.long x0), .second, .val (.long x2), .second, .val (.int x4), .val (.int x5), .val (.long x6), .second, .val (.long x8), .second, .val (.int x10), .val (.int t0), .unset, .unset, .unset, .unset, .unset, .unset] [(.long x6)])
  refine own_go (fun _ => XS.bipush X.here hx rfl (hb hby at_78)) ?_
  show own_WP p e below _ T (mkF m 80 #[.val (.long x0), .second, .val (.long x2), .second, .val (.int x4), .val (.int x5), .val (.long x6), .second, .val (.long x8), .second, .val (.int x10), .val (.int t0), .unset, .unset, .unset, .unset, .unset, .unset] [(.int (32 : Int32)), (.long x6)])
  refine own_go (fun _ => XT.lushr X.here hx rfl (hb hby at_80) rfl) ?_
  show own_WP p e below _ T (mkF m 81 #[.val (.long x0), .second, .val (.long x2), .second, .val (.int x4), .val (.int x5), .val (.long x6), .second, .val (.long x8), .second, .val (.int x10), .val (.int t0), .unset, .unset, .unset, .unset, .unset, .unset] [(.long (XT.ushrL x6 (32 : Int32)))])
  refine own_go (fun _ => XS.l2i X.here hx rfl (hb hby at_81) rfl) ?_
  show own_WP p e below _ T (mkF m 82 #[.val (.long x0), .second, .val (.long x2), .second, .val (.int x4), .val (.int x5), .val (.long x6), .second, .val (.long x8), .second, .val (.int x10), .val (.int t0), .unset, .unset, .unset, .unset, .unset, .unset] [(.int ((XT.ushrL x6 (32 : Int32)).toInt32))])
  refine own_go (fun _ => XS.lload X.here hx rfl (hb hby at_82) rfl) ?_
  show own_WP p e below _ T (mkF m 84 #[.val (.long x0), .second, .val (.long x2), .second, .val (.int x4), .val (.int x5), .val (.long x6), .second, .val (.long x8), .second, .val (.int x10), .val (.int t0), .unset, .unset, .unset, .unset, .unset, .unset] [(.long x8), (.int ((XT.ushrL x6 (32 : Int32)).toInt32))])
  refine own_go (fun _ => XS.bipush X.here hx rfl (hb hby at_84)) ?_
  show own_WP p e below _ T (mkF m 86 #[.val (.long x0), .second, .val (.long x2), .second, .val (.int x4), .val (.int x5), .val (.long x6), .second, .val (.long x8), .second, .val (.int x10), .val (.int t0), .unset, .unset, .unset, .unset, .unset, .unset] [(.int (32 : Int32)), (.long x8), (.int ((XT.ushrL x6 (32 : Int32)).toInt32))])
  refine own_go (fun _ => XT.lushr X.here hx rfl (hb hby at_86) rfl) ?_
  show own_WP p e below _ T (mkF m 87 #[.val (.long x0), .second, .val (.long x2), .second, .val (.int x4), .val (.int x5), .val (.long x6), .second, .val (.long x8), .second, .val (.int x10), .val (.int t0), .unset, .unset, .unset, .unset, .unset, .unset] [(.long (XT.ushrL x8 (32 : Int32))), (.int ((XT.ushrL x6 (32 : Int32)).toInt32))])
  refine own_go (fun _ => XS.l2i X.here hx rfl (hb hby at_87) rfl) ?_
  show own_WP p e below _ T (mkF m 88 #[.val (.long x0), .second, .val (.long x2), .second, .val (.int x4), .val (.int x5), .val (.long x6), .second, .val (.long x8), .second, .val (.int x10), .val (.int t0), .unset, .unset, .unset, .unset, .unset, .unset] [(.int ((XT.ushrL x8 (32 : Int32)).toInt32)), (.int ((XT.ushrL x6 (32 : Int32)).toInt32))])
  refine own_go (fun _ => XS.iand X.here hx rfl (hb hby at_88) rfl) ?_
  show own_WP p e below _ T (mkF m 89 #[.val (.long x0), .second, .val (.long x2), .second, .val (.int x4), .val (.int x5), .val (.long x6), .second, .val (.long x8), .second, .val (.int x10), .val (.int t0), .unset, .unset, .unset, .unset, .unset, .unset] [(.int (((XT.ushrL x6 (32 : Int32)).toInt32) &&& ((XT.ushrL x8 (32 : Int32)).toInt32)))])
  by_cases h89 : (((XT.ushrL x6 (32 : Int32)).toInt32) &&& ((XT.ushrL x8 (32 : Int32)).toInt32)) = (0 : Int32)
  · replace hv := (if_pos h89).symm.trans hv
    refine own_go (fun _ => XS.ifYes X.here hx rfl (pc0 := 89) (pc' := 96) rfl (hb hby at_89) rfl (XT.i0_eq_t h89) (by decide) (by decide)) ?_
    show own_WP p e below _ T (mkF m 96 #[.val (.long x0), .second, .val (.long x2), .second, .val (.int x4), .val (.int x5), .val (.long x6), .second, .val (.long x8), .second, .val (.int x10), .val (.int t0), .unset, .unset, .unset, .unset, .unset, .unset] [])
    refine own_go (fun _ => XS.iconst X.here hx rfl (hb hby at_96)) ?_
    exact b0_97 hw C X e0 x0 x2 x4 x5 x6 x8 x10 t0 (0 : Int32) r hv hP
  · replace hv := (if_neg h89).symm.trans hv
    refine own_go (fun _ => XS.ifNo X.here hx rfl (hb hby at_89) rfl (XT.i0_eq_f h89)) ?_
    show own_WP p e below _ T (mkF m 92 #[.val (.long x0), .second, .val (.long x2), .second, .val (.int x4), .val (.int x5), .val (.long x6), .second, .val (.long x8), .second, .val (.int x10), .val (.int t0), .unset, .unset, .unset, .unset, .unset, .unset] [])
    refine own_go (fun _ => XS.iconst X.here hx rfl (hb hby at_92)) ?_
    show own_WP p e below _ T (mkF m 93 #[.val (.long x0), .second, .val (.long x2), .second, .val (.int x4), .val (.int x5), .val (.long x6), .second, .val (.long x8), .second, .val (.int x10), .val (.int t0), .unset, .unset, .unset, .unset, .unset, .unset] [(.int (1 : Int32))])
    refine own_go (fun _ => XS.goto X.here hx rfl (pc0 := 93) (pc' := 97) rfl (hb hby at_93) (by decide) (by decide)) ?_
    exact b0_97 hw C X e0 x0 x2 x4 x5 x6 x8 x10 t0 (1 : Int32) r hv hP
def f0_50 (x5 : Int32) (x6 : Int64) (x8 : Int64) : Int32 := (if ((x6.toInt32) &&& (x8.toInt32)) = (0 : Int32) then (f0_74 x5 x6 x8 (f1_0 x6 x8) (0 : Int32)) else (f0_74 x5 x6 x8 (f1_0 x6 x8) (1 : Int32)))
set_option maxRecDepth 65536 in
set_option maxHeartbeats 40000000 in
theorem b0_50 {p : Program} {l : Launch} {e : Env} {s : State} {m : MethodId} {args : Array Value} {below : List Frame} {meth : Method} {c : Code} {T : State} {locs : List Loc} {Z : State} {a0 : Array Value} {h0 : Heap} {P : Option Value → Heap → List Loc → Prop} (hw : ∀ d ∈ tables_1, d.before a0 Z = true) (C : own_Ctx p s m meth c Z x code maxLocals ret)
    (X : Stand p l e room_1 s m args below meth c T locs 0 0) (e0 : T.heap = h0) (x0 : Int64) (x2 : Int64) (x4 : Int32) (x5 : Int32) (x6 : Int64) (x8 : Int64) (r : Int32) (hv : f0_50 x5 x6 x8 = r) (hP : P (some (.int r)) h0 locs) :
    own_WP p e below (own_Q s P room_1.cells room_1.slots) T (mkF m 50 #[.val (.long x0), .second, .val (.long x2), .second, .val (.int x4), .val (.int x5), .val (.long x6), .second, .val (.long x8), .second, .unset, .unset, .unset, .unset, .unset, .unset, .unset, .unset] []) := by
  obtain ⟨hx, hZ, hby, hml, hown, hnm, hret, hlk⟩ := id C
  unfold f0_50 at hv
  show own_WP p e below _ T (mkF m 50 #[.val (.long x0), .second, .val (.long x2), .second, .val (.int x4), .val (.int x5), .val (.long x6), .second, .val (.long x8), .second, .unset, .unset, .unset, .unset, .unset, .unset, .unset, .unset] [])
  refine own_go (fun _ => XS.lload X.here hx rfl (hb hby at_50) rfl) ?_
  show own_WP p e below _ T (mkF m 52 #[.val (.long x0), .second, .val (.long x2), .second, .val (.int x4), .val (.int x5), .val (.long x6), .second, .val (.long x8), .second, .unset, .unset, .unset, .unset, .unset, .unset, .unset, .unset] [(.long x6)])
  refine own_go (fun _ => XS.lload X.here hx rfl (hb hby at_52) rfl) ?_
  show own_WP p e below _ T (mkF m 54 #[.val (.long x0), .second, .val (.long x2), .second, .val (.int x4), .val (.int x5), .val (.long x6), .second, .val (.long x8), .second, .unset, .unset, .unset, .unset, .unset, .unset, .unset, .unset] [(.long x8), (.long x6)])
  obtain ⟨T, v', L', X, ⟨rfl, rfl, e0⟩, st'⟩ := own_callS X C (rm1 l Z a0 hw x6 x8 h0) (hw _ (List.mem_of_getElem? (i := 0) rfl)) (hw _ (List.mem_of_getElem? (i := 1) rfl)) (hw _ (List.mem_of_getElem? (i := 2) rfl)) (hw _ (List.mem_of_getElem? (i := 3) rfl)) (by decide) e0 (W := 0) (pc := 54) (Ls := #[.val (.long x0), .second, .val (.long x2), .second, .val (.int x4), .val (.int x5), .val (.long x6), .second, .val (.long x8), .second, .unset, .unset, .unset, .unset, .unset, .unset, .unset, .unset]) rfl (lenOf pd1 rfl) (rest := []) (stk := [(.long x8), (.long x6)]) rfl (Nat.le_of_ble_eq_true rfl) (hb hby at_54) (by decide) (by decide) (by decide) (by decide)
  rw [List.append_nil] at X
  refine own_go st' ?_
  show own_WP p e below _ T (mkF m 57 #[.val (.long x0), .second, .val (.long x2), .second, .val (.int x4), .val (.int x5), .val (.long x6), .second, .val (.long x8), .second, .unset, .unset, .unset, .unset, .unset, .unset, .unset, .unset] [(.int (f1_0 x6 x8))])
  refine own_go (fun _ => XS.istore X.here hx rfl (hb hby at_57) rfl (l' := #[.val (.long x0), .second, .val (.long x2), .second, .val (.int x4), .val (.int x5), .val (.long x6), .second, .val (.long x8), .second, .val (.int (f1_0 x6 x8)), .unset, .unset, .unset, .unset, .unset, .unset, .unset]) rfl) ?_
  show own_WP p e below _ T (mkF m 59 #[.val (.long x0), .second, .val (.long x2), .second, .val (.int x4), .val (.int x5), .val (.long x6), .second, .val (.long x8), .second, .val (.int (f1_0 x6 x8)), .unset, .unset, .unset, .unset, .unset, .unset, .unset] [])
  refine own_go (fun _ => XS.lload X.here hx rfl (hb hby at_59) rfl) ?_
  show own_WP p e below _ T (mkF m 61 #[.val (.long x0), .second, .val (.long x2), .second, .val (.int x4), .val (.int x5), .val (.long x6), .second, .val (.long x8), .second, .val (.int (f1_0 x6 x8)), .unset, .unset, .unset, .unset, .unset, .unset, .unset] [(.long x6)])
  refine own_go (fun _ => XS.l2i X.here hx rfl (hb hby at_61) rfl) ?_
  show own_WP p e below _ T (mkF m 62 #[.val (.long x0), .second, .val (.long x2), .second, .val (.int x4), .val (.int x5), .val (.long x6), .second, .val (.long x8), .second, .val (.int (f1_0 x6 x8)), .unset, .unset, .unset, .unset, .unset, .unset, .unset] [(.int (x6.toInt32))])
  refine own_go (fun _ => XS.lload X.here hx rfl (hb hby at_62) rfl) ?_
  show own_WP p e below _ T (mkF m 64 #[.val (.long x0), .second, .val (.long x2), .second, .val (.int x4), .val (.int x5), .val (.long x6), .second, .val (.long x8), .second, .val (.int (f1_0 x6 x8)), .unset, .unset, .unset, .unset, .unset, .unset, .unset] [(.long x8), (.int (x6.toInt32))])
  refine own_go (fun _ => XS.l2i X.here hx rfl (hb hby at_64) rfl) ?_
  show own_WP p e below _ T (mkF m 65 #[.val (.long x0), .second, .val (.long x2), .second, .val (.int x4), .val (.int x5), .val (.long x6), .second, .val (.long x8), .second, .val (.int (f1_0 x6 x8)), .unset, .unset, .unset, .unset, .unset, .unset, .unset] [(.int (x8.toInt32)), (.int (x6.toInt32))])
  refine own_go (fun _ => XS.iand X.here hx rfl (hb hby at_65) rfl) ?_
  show own_WP p e below _ T (mkF m 66 #[.val (.long x0), .second, .val (.long x2), .second, .val (.int x4), .val (.int x5), .val (.long x6), .second, .val (.long x8), .second, .val (.int (f1_0 x6 x8)), .unset, .unset, .unset, .unset, .unset, .unset, .unset] [(.int ((x6.toInt32) &&& (x8.toInt32)))])
  by_cases h66 : ((x6.toInt32) &&& (x8.toInt32)) = (0 : Int32)
  · replace hv := (if_pos h66).symm.trans hv
    refine own_go (fun _ => XS.ifYes X.here hx rfl (pc0 := 66) (pc' := 73) rfl (hb hby at_66) rfl (XT.i0_eq_t h66) (by decide) (by decide)) ?_
    show own_WP p e below _ T (mkF m 73 #[.val (.long x0), .second, .val (.long x2), .second, .val (.int x4), .val (.int x5), .val (.long x6), .second, .val (.long x8), .second, .val (.int (f1_0 x6 x8)), .unset, .unset, .unset, .unset, .unset, .unset, .unset] [])
    refine own_go (fun _ => XS.iconst X.here hx rfl (hb hby at_73)) ?_
    exact b0_74 hw C X e0 x0 x2 x4 x5 x6 x8 (f1_0 x6 x8) (0 : Int32) r hv hP
  · replace hv := (if_neg h66).symm.trans hv
    refine own_go (fun _ => XS.ifNo X.here hx rfl (hb hby at_66) rfl (XT.i0_eq_f h66)) ?_
    show own_WP p e below _ T (mkF m 69 #[.val (.long x0), .second, .val (.long x2), .second, .val (.int x4), .val (.int x5), .val (.long x6), .second, .val (.long x8), .second, .val (.int (f1_0 x6 x8)), .unset, .unset, .unset, .unset, .unset, .unset, .unset] [])
    refine own_go (fun _ => XS.iconst X.here hx rfl (hb hby at_69)) ?_
    show own_WP p e below _ T (mkF m 70 #[.val (.long x0), .second, .val (.long x2), .second, .val (.int x4), .val (.int x5), .val (.long x6), .second, .val (.long x8), .second, .val (.int (f1_0 x6 x8)), .unset, .unset, .unset, .unset, .unset, .unset, .unset] [(.int (1 : Int32))])
    refine own_go (fun _ => XS.goto X.here hx rfl (pc0 := 70) (pc' := 74) rfl (hb hby at_70) (by decide) (by decide)) ?_
    exact b0_74 hw C X e0 x0 x2 x4 x5 x6 x8 (f1_0 x6 x8) (1 : Int32) r hv hP
def f0_28 (x4 : Int32) (x5 : Int32) (x6 : Int64) (x8 : Int64) : Int32 := (if (x4 &&& (2 : Int32)) = (0 : Int32) then (f0_50 x5 x6 x8) else (f0_50 x5 x6 (x8 &&& ((x6 &&& (-4294967296 : Int64)) ^^^ (-1 : Int64)))))
set_option maxRecDepth 65536 in
set_option maxHeartbeats 40000000 in
theorem b0_28 {p : Program} {l : Launch} {e : Env} {s : State} {m : MethodId} {args : Array Value} {below : List Frame} {meth : Method} {c : Code} {T : State} {locs : List Loc} {Z : State} {a0 : Array Value} {h0 : Heap} {P : Option Value → Heap → List Loc → Prop} (hw : ∀ d ∈ tables_1, d.before a0 Z = true) (C : own_Ctx p s m meth c Z x code maxLocals ret)
    (X : Stand p l e room_1 s m args below meth c T locs 0 0) (e0 : T.heap = h0) (x0 : Int64) (x2 : Int64) (x4 : Int32) (x5 : Int32) (x6 : Int64) (x8 : Int64) (r : Int32) (hv : f0_28 x4 x5 x6 x8 = r) (hP : P (some (.int r)) h0 locs) :
    own_WP p e below (own_Q s P room_1.cells room_1.slots) T (mkF m 28 #[.val (.long x0), .second, .val (.long x2), .second, .val (.int x4), .val (.int x5), .val (.long x6), .second, .val (.long x8), .second, .unset, .unset, .unset, .unset, .unset, .unset, .unset, .unset] []) := by
  obtain ⟨hx, hZ, hby, hml, hown, hnm, hret, hlk⟩ := id C
  unfold f0_28 at hv
  show own_WP p e below _ T (mkF m 28 #[.val (.long x0), .second, .val (.long x2), .second, .val (.int x4), .val (.int x5), .val (.long x6), .second, .val (.long x8), .second, .unset, .unset, .unset, .unset, .unset, .unset, .unset, .unset] [])
  refine own_go (fun _ => XS.iload X.here hx rfl (hb hby at_28) rfl) ?_
  show own_WP p e below _ T (mkF m 30 #[.val (.long x0), .second, .val (.long x2), .second, .val (.int x4), .val (.int x5), .val (.long x6), .second, .val (.long x8), .second, .unset, .unset, .unset, .unset, .unset, .unset, .unset, .unset] [(.int x4)])
  refine own_go (fun _ => XS.iconst X.here hx rfl (hb hby at_30)) ?_
  show own_WP p e below _ T (mkF m 31 #[.val (.long x0), .second, .val (.long x2), .second, .val (.int x4), .val (.int x5), .val (.long x6), .second, .val (.long x8), .second, .unset, .unset, .unset, .unset, .unset, .unset, .unset, .unset] [(.int (2 : Int32)), (.int x4)])
  refine own_go (fun _ => XS.iand X.here hx rfl (hb hby at_31) rfl) ?_
  show own_WP p e below _ T (mkF m 32 #[.val (.long x0), .second, .val (.long x2), .second, .val (.int x4), .val (.int x5), .val (.long x6), .second, .val (.long x8), .second, .unset, .unset, .unset, .unset, .unset, .unset, .unset, .unset] [(.int (x4 &&& (2 : Int32)))])
  by_cases h32 : (x4 &&& (2 : Int32)) = (0 : Int32)
  · replace hv := (if_pos h32).symm.trans hv
    refine own_go (fun _ => XS.ifYes X.here hx rfl (pc0 := 32) (pc' := 50) rfl (hb hby at_32) rfl (XT.i0_eq_t h32) (by decide) (by decide)) ?_
    exact b0_50 hw C X e0 x0 x2 x4 x5 x6 x8 r hv hP
  · replace hv := (if_neg h32).symm.trans hv
    refine own_go (fun _ => XS.ifNo X.here hx rfl (hb hby at_32) rfl (XT.i0_eq_f h32)) ?_
    show own_WP p e below _ T (mkF m 35 #[.val (.long x0), .second, .val (.long x2), .second, .val (.int x4), .val (.int x5), .val (.long x6), .second, .val (.long x8), .second, .unset, .unset, .unset, .unset, .unset, .unset, .unset, .unset] [])
    refine own_go (fun _ => XS.lload X.here hx rfl (hb hby at_35) rfl) ?_
    show own_WP p e below _ T (mkF m 37 #[.val (.long x0), .second, .val (.long x2), .second, .val (.int x4), .val (.int x5), .val (.long x6), .second, .val (.long x8), .second, .unset, .unset, .unset, .unset, .unset, .unset, .unset, .unset] [(.long x8)])
    refine own_go (fun _ => XS.lload X.here hx rfl (hb hby at_37) rfl) ?_
    show own_WP p e below _ T (mkF m 39 #[.val (.long x0), .second, .val (.long x2), .second, .val (.int x4), .val (.int x5), .val (.long x6), .second, .val (.long x8), .second, .unset, .unset, .unset, .unset, .unset, .unset, .unset, .unset] [(.long x6), (.long x8)])
    refine own_go (X.ldc2Long hx hown (mvT hZ (hw _ (List.mem_of_getElem? (i := 12) rfl))) (g := (mkF m 39 #[.val (.long x0), .second, .val (.long x2), .second, .val (.int x4), .val (.int x5), .val (.long x6), .second, .val (.long x8), .second, .unset, .unset, .unset, .unset, .unset, .unset, .unset, .unset] [(.long x6), (.long x8)])) rfl (hb hby at_39)) ?_
    show own_WP p e below _ T (mkF m 42 #[.val (.long x0), .second, .val (.long x2), .second, .val (.int x4), .val (.int x5), .val (.long x6), .second, .val (.long x8), .second, .unset, .unset, .unset, .unset, .unset, .unset, .unset, .unset] [(.long (-4294967296 : Int64)), (.long x6), (.long x8)])
    refine own_go (fun _ => XS.land X.here hx rfl (hb hby at_42) rfl) ?_
    show own_WP p e below _ T (mkF m 43 #[.val (.long x0), .second, .val (.long x2), .second, .val (.int x4), .val (.int x5), .val (.long x6), .second, .val (.long x8), .second, .unset, .unset, .unset, .unset, .unset, .unset, .unset, .unset] [(.long (x6 &&& (-4294967296 : Int64))), (.long x8)])
    refine own_go (X.ldc2Long hx hown (mvT hZ (hw _ (List.mem_of_getElem? (i := 11) rfl))) (g := (mkF m 43 #[.val (.long x0), .second, .val (.long x2), .second, .val (.int x4), .val (.int x5), .val (.long x6), .second, .val (.long x8), .second, .unset, .unset, .unset, .unset, .unset, .unset, .unset, .unset] [(.long (x6 &&& (-4294967296 : Int64))), (.long x8)])) rfl (hb hby at_43)) ?_
    show own_WP p e below _ T (mkF m 46 #[.val (.long x0), .second, .val (.long x2), .second, .val (.int x4), .val (.int x5), .val (.long x6), .second, .val (.long x8), .second, .unset, .unset, .unset, .unset, .unset, .unset, .unset, .unset] [(.long (-1 : Int64)), (.long (x6 &&& (-4294967296 : Int64))), (.long x8)])
    refine own_go (fun _ => XS.lxor X.here hx rfl (hb hby at_46) rfl) ?_
    show own_WP p e below _ T (mkF m 47 #[.val (.long x0), .second, .val (.long x2), .second, .val (.int x4), .val (.int x5), .val (.long x6), .second, .val (.long x8), .second, .unset, .unset, .unset, .unset, .unset, .unset, .unset, .unset] [(.long ((x6 &&& (-4294967296 : Int64)) ^^^ (-1 : Int64))), (.long x8)])
    refine own_go (fun _ => XS.land X.here hx rfl (hb hby at_47) rfl) ?_
    show own_WP p e below _ T (mkF m 48 #[.val (.long x0), .second, .val (.long x2), .second, .val (.int x4), .val (.int x5), .val (.long x6), .second, .val (.long x8), .second, .unset, .unset, .unset, .unset, .unset, .unset, .unset, .unset] [(.long (x8 &&& ((x6 &&& (-4294967296 : Int64)) ^^^ (-1 : Int64))))])
    refine own_go (fun _ => XS.lstore X.here hx rfl (hb hby at_48) rfl (l' := #[.val (.long x0), .second, .val (.long x2), .second, .val (.int x4), .val (.int x5), .val (.long x6), .second, .val (.long (x8 &&& ((x6 &&& (-4294967296 : Int64)) ^^^ (-1 : Int64)))), .second, .unset, .unset, .unset, .unset, .unset, .unset, .unset, .unset]) rfl) ?_
    exact b0_50 hw C X e0 x0 x2 x4 x5 x6 (x8 &&& ((x6 &&& (-4294967296 : Int64)) ^^^ (-1 : Int64))) r hv hP
def f0_0 (x0 : Int64) (x2 : Int64) (x4 : Int32) (x5 : Int32) : Int32 := (if (x4 &&& (1 : Int32)) = (0 : Int32) then (f0_28 x4 x5 x0 x2) else (f0_28 x4 x5 x0 (x2 &&& ((x0 &&& (4294967295 : Int64)) ^^^ (-1 : Int64)))))
set_option maxRecDepth 65536 in
set_option maxHeartbeats 40000000 in
theorem b0_0 {p : Program} {l : Launch} {e : Env} {s : State} {m : MethodId} {args : Array Value} {below : List Frame} {meth : Method} {c : Code} {T : State} {locs : List Loc} {Z : State} {a0 : Array Value} {h0 : Heap} {P : Option Value → Heap → List Loc → Prop} (hw : ∀ d ∈ tables_1, d.before a0 Z = true) (C : own_Ctx p s m meth c Z x code maxLocals ret)
    (X : Stand p l e room_1 s m args below meth c T locs 0 0) (e0 : T.heap = h0) (x0 : Int64) (x2 : Int64) (x4 : Int32) (x5 : Int32) (r : Int32) (hv : f0_0 x0 x2 x4 x5 = r) (hP : P (some (.int r)) h0 locs) :
    own_WP p e below (own_Q s P room_1.cells room_1.slots) T (mkF m 0 #[.val (.long x0), .second, .val (.long x2), .second, .val (.int x4), .val (.int x5), .unset, .unset, .unset, .unset, .unset, .unset, .unset, .unset, .unset, .unset, .unset, .unset] []) := by
  obtain ⟨hx, hZ, hby, hml, hown, hnm, hret, hlk⟩ := id C
  unfold f0_0 at hv
  show own_WP p e below _ T (mkF m 0 #[.val (.long x0), .second, .val (.long x2), .second, .val (.int x4), .val (.int x5), .unset, .unset, .unset, .unset, .unset, .unset, .unset, .unset, .unset, .unset, .unset, .unset] [])
  refine own_go (fun _ => XS.lloadN X.here hx rfl (hb hby at_0) rfl) ?_
  show own_WP p e below _ T (mkF m 1 #[.val (.long x0), .second, .val (.long x2), .second, .val (.int x4), .val (.int x5), .unset, .unset, .unset, .unset, .unset, .unset, .unset, .unset, .unset, .unset, .unset, .unset] [(.long x0)])
  refine own_go (fun _ => XS.lstore X.here hx rfl (hb hby at_1) rfl (l' := #[.val (.long x0), .second, .val (.long x2), .second, .val (.int x4), .val (.int x5), .val (.long x0), .second, .unset, .unset, .unset, .unset, .unset, .unset, .unset, .unset, .unset, .unset]) rfl) ?_
  show own_WP p e below _ T (mkF m 3 #[.val (.long x0), .second, .val (.long x2), .second, .val (.int x4), .val (.int x5), .val (.long x0), .second, .unset, .unset, .unset, .unset, .unset, .unset, .unset, .unset, .unset, .unset] [])
  refine own_go (fun _ => XS.lloadN X.here hx rfl (hb hby at_3) rfl) ?_
  show own_WP p e below _ T (mkF m 4 #[.val (.long x0), .second, .val (.long x2), .second, .val (.int x4), .val (.int x5), .val (.long x0), .second, .unset, .unset, .unset, .unset, .unset, .unset, .unset, .unset, .unset, .unset] [(.long x2)])
  refine own_go (fun _ => XS.lstore X.here hx rfl (hb hby at_4) rfl (l' := #[.val (.long x0), .second, .val (.long x2), .second, .val (.int x4), .val (.int x5), .val (.long x0), .second, .val (.long x2), .second, .unset, .unset, .unset, .unset, .unset, .unset, .unset, .unset]) rfl) ?_
  show own_WP p e below _ T (mkF m 6 #[.val (.long x0), .second, .val (.long x2), .second, .val (.int x4), .val (.int x5), .val (.long x0), .second, .val (.long x2), .second, .unset, .unset, .unset, .unset, .unset, .unset, .unset, .unset] [])
  refine own_go (fun _ => XS.iload X.here hx rfl (hb hby at_6) rfl) ?_
  show own_WP p e below _ T (mkF m 8 #[.val (.long x0), .second, .val (.long x2), .second, .val (.int x4), .val (.int x5), .val (.long x0), .second, .val (.long x2), .second, .unset, .unset, .unset, .unset, .unset, .unset, .unset, .unset] [(.int x4)])
  refine own_go (fun _ => XS.iconst X.here hx rfl (hb hby at_8)) ?_
  show own_WP p e below _ T (mkF m 9 #[.val (.long x0), .second, .val (.long x2), .second, .val (.int x4), .val (.int x5), .val (.long x0), .second, .val (.long x2), .second, .unset, .unset, .unset, .unset, .unset, .unset, .unset, .unset] [(.int (1 : Int32)), (.int x4)])
  refine own_go (fun _ => XS.iand X.here hx rfl (hb hby at_9) rfl) ?_
  show own_WP p e below _ T (mkF m 10 #[.val (.long x0), .second, .val (.long x2), .second, .val (.int x4), .val (.int x5), .val (.long x0), .second, .val (.long x2), .second, .unset, .unset, .unset, .unset, .unset, .unset, .unset, .unset] [(.int (x4 &&& (1 : Int32)))])
  by_cases h10 : (x4 &&& (1 : Int32)) = (0 : Int32)
  · replace hv := (if_pos h10).symm.trans hv
    refine own_go (fun _ => XS.ifYes X.here hx rfl (pc0 := 10) (pc' := 28) rfl (hb hby at_10) rfl (XT.i0_eq_t h10) (by decide) (by decide)) ?_
    exact b0_28 hw C X e0 x0 x2 x4 x5 x0 x2 r hv hP
  · replace hv := (if_neg h10).symm.trans hv
    refine own_go (fun _ => XS.ifNo X.here hx rfl (hb hby at_10) rfl (XT.i0_eq_f h10)) ?_
    show own_WP p e below _ T (mkF m 13 #[.val (.long x0), .second, .val (.long x2), .second, .val (.int x4), .val (.int x5), .val (.long x0), .second, .val (.long x2), .second, .unset, .unset, .unset, .unset, .unset, .unset, .unset, .unset] [])
    refine own_go (fun _ => XS.lload X.here hx rfl (hb hby at_13) rfl) ?_
    show own_WP p e below _ T (mkF m 15 #[.val (.long x0), .second, .val (.long x2), .second, .val (.int x4), .val (.int x5), .val (.long x0), .second, .val (.long x2), .second, .unset, .unset, .unset, .unset, .unset, .unset, .unset, .unset] [(.long x2)])
    refine own_go (fun _ => XS.lload X.here hx rfl (hb hby at_15) rfl) ?_
    show own_WP p e below _ T (mkF m 17 #[.val (.long x0), .second, .val (.long x2), .second, .val (.int x4), .val (.int x5), .val (.long x0), .second, .val (.long x2), .second, .unset, .unset, .unset, .unset, .unset, .unset, .unset, .unset] [(.long x0), (.long x2)])
    refine own_go (X.ldc2Long hx hown (mvT hZ (hw _ (List.mem_of_getElem? (i := 10) rfl))) (g := (mkF m 17 #[.val (.long x0), .second, .val (.long x2), .second, .val (.int x4), .val (.int x5), .val (.long x0), .second, .val (.long x2), .second, .unset, .unset, .unset, .unset, .unset, .unset, .unset, .unset] [(.long x0), (.long x2)])) rfl (hb hby at_17)) ?_
    show own_WP p e below _ T (mkF m 20 #[.val (.long x0), .second, .val (.long x2), .second, .val (.int x4), .val (.int x5), .val (.long x0), .second, .val (.long x2), .second, .unset, .unset, .unset, .unset, .unset, .unset, .unset, .unset] [(.long (4294967295 : Int64)), (.long x0), (.long x2)])
    refine own_go (fun _ => XS.land X.here hx rfl (hb hby at_20) rfl) ?_
    show own_WP p e below _ T (mkF m 21 #[.val (.long x0), .second, .val (.long x2), .second, .val (.int x4), .val (.int x5), .val (.long x0), .second, .val (.long x2), .second, .unset, .unset, .unset, .unset, .unset, .unset, .unset, .unset] [(.long (x0 &&& (4294967295 : Int64))), (.long x2)])
    refine own_go (X.ldc2Long hx hown (mvT hZ (hw _ (List.mem_of_getElem? (i := 11) rfl))) (g := (mkF m 21 #[.val (.long x0), .second, .val (.long x2), .second, .val (.int x4), .val (.int x5), .val (.long x0), .second, .val (.long x2), .second, .unset, .unset, .unset, .unset, .unset, .unset, .unset, .unset] [(.long (x0 &&& (4294967295 : Int64))), (.long x2)])) rfl (hb hby at_21)) ?_
    show own_WP p e below _ T (mkF m 24 #[.val (.long x0), .second, .val (.long x2), .second, .val (.int x4), .val (.int x5), .val (.long x0), .second, .val (.long x2), .second, .unset, .unset, .unset, .unset, .unset, .unset, .unset, .unset] [(.long (-1 : Int64)), (.long (x0 &&& (4294967295 : Int64))), (.long x2)])
    refine own_go (fun _ => XS.lxor X.here hx rfl (hb hby at_24) rfl) ?_
    show own_WP p e below _ T (mkF m 25 #[.val (.long x0), .second, .val (.long x2), .second, .val (.int x4), .val (.int x5), .val (.long x0), .second, .val (.long x2), .second, .unset, .unset, .unset, .unset, .unset, .unset, .unset, .unset] [(.long ((x0 &&& (4294967295 : Int64)) ^^^ (-1 : Int64))), (.long x2)])
    refine own_go (fun _ => XS.land X.here hx rfl (hb hby at_25) rfl) ?_
    show own_WP p e below _ T (mkF m 26 #[.val (.long x0), .second, .val (.long x2), .second, .val (.int x4), .val (.int x5), .val (.long x0), .second, .val (.long x2), .second, .unset, .unset, .unset, .unset, .unset, .unset, .unset, .unset] [(.long (x2 &&& ((x0 &&& (4294967295 : Int64)) ^^^ (-1 : Int64))))])
    refine own_go (fun _ => XS.lstore X.here hx rfl (hb hby at_26) rfl (l' := #[.val (.long x0), .second, .val (.long x2), .second, .val (.int x4), .val (.int x5), .val (.long x0), .second, .val (.long (x2 &&& ((x0 &&& (4294967295 : Int64)) ^^^ (-1 : Int64)))), .second, .unset, .unset, .unset, .unset, .unset, .unset, .unset, .unset]) rfl) ?_
    exact b0_28 hw C X e0 x0 x2 x4 x5 x0 (x2 &&& ((x0 &&& (4294967295 : Int64)) ^^^ (-1 : Int64))) r hv hP
theorem ef0 (m : MethodId) (x0 : Int64) (x2 : Int64) (x4 : Int32) (x5 : Int32) : entryFrame m #[(.long x0), (.long x2), (.int x4), (.int x5)] maxLocals = (mkF m 0 #[.val (.long x0), .second, .val (.long x2), .second, .val (.int x4), .val (.int x5), .unset, .unset, .unset, .unset, .unset, .unset, .unset, .unset, .unset, .unset, .unset, .unset] []) := by first | (simp [entryFrame, mkF, argsToLocals, Value.category, maxLocals]; done) | rfl
def own_R (i j : Int32) : Int64 := ((1 : Int64) <<< (i &&& 0x3f).toInt64) ||| ((4294967296 : Int64) <<< (j &&& 0x3f).toInt64)
theorem own_ushrL (m : Int64) (k : Int32) (n : Nat) (hk : ((k.toInt64.toUInt64 &&& Int64.toUInt64 63).toBitVec % 64).toNat = n) : (XT.ushrL m k).toBitVec = m.toBitVec >>> n := by
  show m.toUInt64.toBitVec >>> ((k.toInt64.toUInt64 &&& Int64.toUInt64 63).toBitVec % 64) = _
  rw [BitVec.ushiftRight_eq', hk]; rfl
theorem own_l2i (m : Int64) : m.toInt32.toBitVec = m.toBitVec.setWidth 32 := by
  rw [Int64.toBitVec_toInt32]
  exact BitVec.signExtend_eq_setWidth_of_le _ (by decide)
theorem own_i (m : Int64) : (XT.ushrL m (59 : Int32)).toInt32 = Int32.ofNat (m.toBitVec.toNat / 576460752303423488) := by
  apply Int32.toBitVec_inj.mp
  rw [own_l2i, own_ushrL m 59 59 (by decide +kernel)]
  show _ = BitVec.ofNat 32 _
  apply BitVec.eq_of_toNat_eq
  simp only [BitVec.toNat_setWidth, BitVec.toNat_ushiftRight, Nat.shiftRight_eq_div_pow, BitVec.toNat_ofNat]
theorem own_j (m : Int64) : ((XT.ushrL m (54 : Int32)) &&& (31 : Int64)).toInt32 = Int32.ofNat (m.toBitVec.toNat / 18014398509481984 % 32) := by
  apply Int32.toBitVec_inj.mp
  rw [own_l2i, Int64.toBitVec_and, own_ushrL m 54 54 (by decide +kernel)]
  show _ = BitVec.ofNat 32 _
  apply BitVec.eq_of_toNat_eq
  simp only [BitVec.toNat_setWidth, BitVec.toNat_and, BitVec.toNat_ushiftRight, Nat.shiftRight_eq_div_pow, BitVec.toNat_ofNat]
  have e : (31 : Int64).toBitVec.toNat = 2 ^ 5 - 1 := by decide +kernel
  rw [e, Nat.and_two_pow_sub_one_eq_mod]
theorem own_hi (x y : Int64) : XT.ushrL (x &&& y) (32 : Int32) = 0 ↔ ((XT.ushrL x (32 : Int32)).toInt32 &&& (XT.ushrL y (32 : Int32)).toInt32) = 0 := by
  rw [← Int64.toBitVec_inj, ← Int32.toBitVec_inj, Int32.toBitVec_and, own_l2i, own_l2i, own_ushrL _ 32 32 (by decide +kernel), own_ushrL _ 32 32 (by decide +kernel), own_ushrL _ 32 32 (by decide +kernel), Int64.toBitVec_and, BitVec.ushiftRight_and_distrib]
  have b1 : (x.toBitVec >>> 32).toNat < 2 ^ 32 := by
    have b := x.toBitVec.isLt
    rw [BitVec.toNat_ushiftRight, Nat.shiftRight_eq_div_pow]; omega
  have b2 : (y.toBitVec >>> 32).toNat < 2 ^ 32 := by
    have b := y.toBitVec.isLt
    rw [BitVec.toNat_ushiftRight, Nat.shiftRight_eq_div_pow]; omega
  rw [← BitVec.toNat_inj, ← BitVec.toNat_inj]
  simp only [BitVec.toNat_and, BitVec.toNat_setWidth]
  rw [Nat.mod_eq_of_lt b1, Nat.mod_eq_of_lt b2]
  rfl
theorem own_meet (x y : Int64) : f1_0 x y = if (x.toInt32 &&& y.toInt32) = (0 : Int32) then 0 else if ((XT.ushrL x (32 : Int32)).toInt32 &&& (XT.ushrL y (32 : Int32)).toInt32) = (0 : Int32) then 0 else 1 := by
  have e : (x &&& y).toInt32 = x.toInt32 &&& y.toInt32 := by
    apply Int32.toBitVec_inj.mp
    rw [Int32.toBitVec_and, own_l2i, own_l2i, own_l2i, Int64.toBitVec_and, BitVec.setWidth_and]
  unfold f1_0
  rw [e]
  by_cases h : XT.ushrL (x &&& y) (32 : Int32) = 0
  · rw [if_pos h, if_pos ((own_hi x y).mp h)]
  · rw [if_neg h, if_neg (fun q => h ((own_hi x y).mpr q))]
theorem own_comm (x y : Int64) : f1_0 x y = f1_0 y x := by
  unfold f1_0
  rw [Int64.and_comm]
set_option maxRecDepth 65536 in
theorem own_fin : ∀ i j : Fin 32, (own_R (Int32.ofNat i.val) (Int32.ofNat j.val)).toInt32 ≠ 0 ∧ (XT.ushrL (own_R (Int32.ofNat i.val) (Int32.ofNat j.val)) (32 : Int32)).toInt32 ≠ 0 := by decide +kernel
theorem own_sig (h : Int32) : (f2_0 h).toInt32 ≠ 0 ∧ (XT.ushrL (f2_0 h) (32 : Int32)).toInt32 ≠ 0 := by
  have e : f2_0 h = f2_7 (h.toInt64 * (-7046029254386353131 : Int64)) := rfl
  rw [e]
  generalize h.toInt64 * (-7046029254386353131 : Int64) = m
  have e2 : f2_7 m = own_R ((XT.ushrL m (59 : Int32)).toInt32) (((XT.ushrL m (54 : Int32)) &&& (31 : Int64)).toInt32) := rfl
  rw [e2, own_i, own_j]
  have b := m.toBitVec.isLt
  exact own_fin ⟨m.toBitVec.toNat / 576460752303423488, by omega⟩ ⟨m.toBitVec.toNat / 18014398509481984 % 32, by omega⟩
theorem own_sub (a b c : BitVec 32) (h : (a ||| b) &&& (a ||| c) = 0#32) : a = 0#32 := by
  have e : a &&& ((a ||| b) &&& (a ||| c)) = a := by
    ext i hi
    simp only [BitVec.getElem_and, BitVec.getElem_or]
    cases a[i] <;> simp
  rw [h] at e
  rw [← e]; simp
theorem own_lor (s x : Int64) : (s ||| x).toInt32 = s.toInt32 ||| x.toInt32 := by
  apply Int32.toBitVec_inj.mp
  rw [Int32.toBitVec_or, own_l2i, own_l2i, own_l2i, Int64.toBitVec_or, BitVec.setWidth_or]
theorem own_ush_or (s x : Int64) : XT.ushrL (s ||| x) (32 : Int32) = XT.ushrL s (32 : Int32) ||| XT.ushrL x (32 : Int32) := by
  apply Int64.toBitVec_inj.mp
  rw [Int64.toBitVec_or, own_ushrL _ 32 32 (by decide +kernel), own_ushrL _ 32 32 (by decide +kernel), own_ushrL _ 32 32 (by decide +kernel), Int64.toBitVec_or, BitVec.ushiftRight_or_distrib]
theorem own_sub32 (a b c : Int32) (h : (a ||| b) &&& (a ||| c) = 0) : a = 0 := by
  apply Int32.toBitVec_inj.mp
  have q := congrArg Int32.toBitVec h
  rw [Int32.toBitVec_and, Int32.toBitVec_or, Int32.toBitVec_or] at q
  exact own_sub _ _ _ q
theorem own_shared (h : Int32) (x y : Int64) : f1_0 (f2_0 h ||| x) (f2_0 h ||| y) = 1 := by
  obtain ⟨h1, h2⟩ := own_sig h
  rw [own_meet, if_neg, if_neg]
  · intro q
    rw [own_ush_or, own_ush_or, own_lor, own_lor] at q
    exact h2 (own_sub32 _ _ _ q)
  · intro q
    rw [own_lor, own_lor] at q
    exact h1 (own_sub32 _ _ _ q)
theorem own_50 (h : Int32) (x y : Int64) : f0_50 h x y = 1 := by
  have e1 := own_shared h x y
  have e2 := own_comm y x
  simp only [f0_50, f0_74, f0_97, f0_113, f0_114, f0_133, f0_157, e1, e2, own_meet x y]
  by_cases p : (x.toInt32 &&& y.toInt32) = 0
  · simp [p]
  · by_cases q : ((XT.ushrL x (32 : Int32)).toInt32 &&& (XT.ushrL y (32 : Int32)).toInt32) = 0
    · simp [p, q]
    · simp [p, q]
theorem plain0 (x0 x2 : Int64) (x4 x5 : Int32) : f0_0 x0 x2 x4 x5 = 1 := by
  simp only [f0_0, f0_28, own_50]
  repeat' split
  all_goals rfl
theorem pn0 : plainFor x = true := plainFor_of_name (by first | (simp [plainName, overriddenIn, x]; done) | decide +kernel)
theorem rm0 (l : Launch) (Z : State) (a0 : Array Value) (hw : ∀ d ∈ tables_1, d.before a0 Z = true) (ws : List Jvm.Cond) (x0 : Int64) (x2 : Int64) (x4 : Int32) (x5 : Int32) (h0 : Heap) : own_Met l Z x code maxLocals ret ws room_1 #[(.long x0), (.long x2), (.int x4), (.int x5)] h0 (fun v h L => v = some (.int 1) ∧ Fr h0.size L) := by
  refine own_body pn0 ?_
  intro p e s m below meth c s₁ C X e0
  exact own_cast (ef0 m x0 x2 x4 x5) (b0_0 hw C X e0 x0 x2 x4 x5 _ (plain0 x0 x2 x4 x5) ⟨rfl, Fr.nil _⟩)
set_option maxRecDepth 65536 in
set_option maxHeartbeats 40000000 in
theorem comes_1 {Post : Tables → Env → Array Value → State → Outcome → State → Prop} (hpost : ∀ tb e args s v u, (limb_1_1.after args s (.returned v) u = true ∧ limb_1_2.after args s (.returned v) u = true ∧ True) → FrameEnd s (.returned v) u (Jvm.fieldLocs frame_1_writes args s ++ Jvm.arrayLocs frame_1_arrays args s ++ Jvm.staticLocs frame_1_statics s) 0 0 → Post tb e args s (.returned v) u) :
    ArmFor flags0 classFile x code maxLocals ret World_1 tables_1 room_1 Calls_1 rest_1 Pre_1 Post := by
  intro l hfl _ _ p e ha hc hk s m args below hf hA hF happ hP
  obtain ⟨hcalls, hrest, hpre⟩ := hP
  obtain ⟨-, -, -, hnamed, -, -, -, hat⟩ := (Spec.applies_iff hf).mp happ
  obtain ⟨hg, hn⟩ := and_e (Cond.before_iff.mp (show (Jvm.Cond.and given_1 narrow_1).before args s = true from hpre))
  obtain ⟨hcnt, hg0⟩ := and_e hg
  obtain ⟨ha0, hg1⟩ := and_e hg0
  obtain ⟨ha1, hg2⟩ := and_e hg1
  obtain ⟨ha2, hg3⟩ := and_e hg2
  have ha3 := hg3
  obtain ⟨w0, w1, w2, w3, rfl⟩ : ∃ w0 w1 w2 w3 : Value, args = #[w0, w1, w2, w3] := by
    have hs : args.size = 4 := by simpa [Cond.value, given_1] using hcnt
    obtain ⟨L⟩ := args
    match L, hs with
    | [w0, w1, w2, w3], _ => exact ⟨w0, w1, w2, w3, rfl⟩
  have hw := fun d (hd : d ∈ tables_1) => atoms_spec (ws := Jvm.Cond.code x code maxLocals ret :: tables_1) hat d (List.mem_cons_of_mem _ hd)
  obtain ⟨i0, ei0⟩ := isL_v ha0
  obtain rfl : w0 = (.long i0) := Option.some.inj ei0
  obtain ⟨i1, ei1⟩ := isL_v ha1
  obtain rfl : w1 = (.long i1) := Option.some.inj ei1
  obtain ⟨i2, ei2⟩ := is_v ha2
  obtain rfl : w2 = (.int i2) := Option.some.inj ei2
  obtain ⟨i3, ei3⟩ := is_v ha3
  obtain rfl : w3 = (.int i3) := Option.some.inj ei3
  obtain ⟨n, o, h1, h2, h3, _, L, rfl, ⟨rfl, N⟩, hq⟩ := rm0 l s _ hw tables_1 i0 i1 i2 i3 s.heap p e ha hc hk s m _ below hf ((Spec.applies_iff_loose hf).mp happ).1 ⟨rfl, State.Warmed39.refl s, rfl⟩ trivial
  refine ⟨n, _, h1, h2, h3, hpost _ _ _ _ _ _ ⟨Cond.after_iff.mpr rfl, Cond.after_iff.mpr (eq_i res_at (Term.int_eval (1)) rfl), trivial⟩ ⟨hq.1, hq.2.1, (hq.2.2.sift fun y hy => Or.inr (N y hy)).mono (by decide) (by decide)⟩⟩
theorem main_1_1 : Claimed_1_1 := comes_1 fun _ _ _ _ _ _ h hF => ⟨h.1, hF⟩
theorem main_1_2 : Claimed_1_2 := comes_1 fun _ _ _ _ _ _ h hF => ⟨h.2.1, hF⟩
end Jvm.Pilot.@@N@@
namespace Jvm.Pilot.@@N@@
open Jvm Jvm.ClassFile Sem Op Lib Jvm.Free Jvm.Stand Jvm.Pilot.@@N@@.Jvm.D
/-! MADE BY PROGRAM (witnessworld.py) out of the Statement's table words and the real class files: 10 classes; the members and pool entries that the words name. The judged class is class 1, her method 1. -/
namespace start1
open Jvm.ClassFile
def u (s : String) : CpInfo := .utf8 (stringToUtf16 s)
/-- a pool by its gaps: so many unusable entries, then the entry; so many at the end -/
def gap : Nat → List CpInfo → List CpInfo
  | 0, r => r
  | n + 1, r => .unusable :: gap n r
def poolList (es : List (Nat × CpInfo)) (last : Nat) : List CpInfo := es.foldr (fun e r => gap e.1 (e.2 :: r)) (gap last [])
def pool (es : List (Nat × CpInfo)) (last : Nat) : Array CpInfo := ⟨poolList es last⟩
def fileOf (pool : Array CpInfo) (this : Nat) (attrs : Array Attribute := #[]) (ms : Array MethodInfo := #[]) (fl : Nat := 33) (sup : Nat := 0) (ifs : Array Nat := #[]) (fds : Array FieldInfo := #[]) : ClassFile where
  minorVersion := 0
  majorVersion := 65
  constantPool := pool
  accessFlags := fl
  thisClass := this
  superClass := sup
  interfaces := ifs
  fields := fds
  methods := ms
  attributes := attrs
def plain (name : String) (sup : Option ClassId) : Class where
  name := name
  kind := .ordinary
  loader := none
  accessFlags := 33
  super := sup
  interfaces := #[]
  cf := none
  fields := #[]
  methods := #[]
  instanceTypes := #[]
  staticTypes := #[]
  resolved := #[]
  callSites := []
  init := .initialized
  statics := none
  mirror := none

def pool0 : Array CpInfo := pool [(5, u "<init>"), (0, u "()V"), (1, .class_ 10), (1, u "java/lang/Object")] 113

def k0m0 : Method := { name := "<init>", desc := "()V", sig := { parameters := [], returnType := none }, accessFlags := 1, code := none }
/-- java/lang/Object -/
def k0 : Class := { plain "java/lang/Object" none with
  accessFlags := 33
  interfaces := #[]
  cf := some (fileOf pool0 8 #[] #[{ accessFlags := 1, nameIndex := 5, descriptorIndex := 6, attributes := #[] }] 33 0 #[] #[])
  fields := #[]
  methods := #[k0m0]
  instanceTypes := #[]
  staticTypes := #[]
  resolved := Array.replicate 124 none
  statics := none }

def pool1 : Array CpInfo := pool [(2, .class_ 4), (1, u "java/lang/Object"), (0, u "<init>"), (0, u "()V"), (0, .long 4294967295), (1, .long 18446744073709551615), (1, .long 18446744069414584320), (1, .methodref 14 15), (0, .class_ 16), (0, .nameAndType 17 18), (0, u "com/example/elis/elis/ReadSet"), (0, u "meet"), (0, u "(JJ)Z"), (0, .methodref 14 20), (0, .nameAndType 21 22), (0, u "signatureOf"), (0, u "(I)J"), (0, .class_ 24), (0, u "com/example/elis/elis/ReadSetMeetPinLaw"), (2, u "law"), (0, u "(JJII)Z")] 3

def k1m0 : Method := { name := "<init>", desc := "()V", sig := { parameters := [], returnType := none }, accessFlags := 1, code := none }
def k1c1 : Code := { maxStack := 6, maxLocals := 18, code := code, exceptionTable := #[], attributes := #[] }
def k1m1 : Method := { name := "law", desc := "(JJII)Z", sig := { parameters := [.long, .long, .int, .int], returnType := some .boolean }, accessFlags := 9, code := some k1c1 }
/-- com/example/elis/elis/ReadSetMeetPinLaw -/
def k1 : Class := { plain "com/example/elis/elis/ReadSetMeetPinLaw" (some 0) with
  accessFlags := 49
  interfaces := #[]
  cf := some (fileOf pool1 23 #[] #[{ accessFlags := 1, nameIndex := 5, descriptorIndex := 6, attributes := #[] }, { accessFlags := 9, nameIndex := 27, descriptorIndex := 28, attributes := #[] }] 49 2 #[] #[])
  fields := #[]
  methods := #[k1m0, k1m1]
  instanceTypes := #[]
  staticTypes := #[]
  resolved := Array.replicate 32 none
  statics := none }

def pool2 : Array CpInfo := pool [(1, .class_ 2), (0, u "com/example/elis/elis/storage/MultiVersionMap$KeysRead"), (0, .class_ 4), (0, u "java/lang/Object"), (5, .class_ 11), (0, u "com/example/elis/elis/storage/MultiVersionMap")] 2

/-- com/example/elis/elis/storage/MultiVersionMap$KeysRead -/
def k2 : Class := { plain "com/example/elis/elis/storage/MultiVersionMap$KeysRead" (some 0) with
  accessFlags := 1537
  interfaces := #[]
  cf := some (fileOf pool2 1 #[.nestHost 10] #[] 1537 3 #[] #[])
  fields := #[]
  methods := #[]
  instanceTypes := #[]
  staticTypes := #[]
  resolved := Array.replicate 14 none
  statics := none }

def pool3 : Array CpInfo := pool [(2, .class_ 4), (1, u "java/lang/Object"), (0, u "<init>"), (0, u "()V"), (0, .class_ 8), (0, u "com/example/elis/elis/ReadSet"), (1, u "[B"), (2, u "keys"), (0, u "[[B"), (2, u "hashes"), (0, u "[I"), (2, u "joined"), (0, u "Z"), (2, u "index"), (2, u "count"), (0, u "I"), (23, u "FIRST_KEY"), (9, u "Ljava/util/Comparator;"), (8, u "ranges"), (0, u "[Lcom/example/elis/elis/ReadSet$Range;"), (0, .class_ 75), (0, u "com/example/elis/elis/ReadSet$Range"), (2, u "rangeCount"), (15, u "BY_START"), (24, u "signatureOf"), (0, u "(I)J"), (4, u "signature"), (0, u "J"), (0, .long 11400714819323198485), (1, .long 4294967296), (1, .long 31), (3, u "meet"), (0, u "(JJ)Z"), (75, .class_ 213), (0, u "com/example/elis/elis/storage/MultiVersionMap$KeysRead"), (0, u "FEW"), (2, u "FIRST_ROOM")] 49

def k3m0 : Method := { name := "<init>", desc := "()V", sig := { parameters := [], returnType := none }, accessFlags := 0, code := none }
def k3c1 : Code := { maxStack := 8, maxLocals := 3, code := prog_25_method_8_code, exceptionTable := #[], attributes := #[] }
def k3m1 : Method := { name := "signatureOf", desc := "(I)J", sig := { parameters := [.int], returnType := some .long }, accessFlags := 8, code := some k3c1 }
def k3c2 : Code := { maxStack := 4, maxLocals := 6, code := prog_25_method_9_code, exceptionTable := #[], attributes := #[] }
def k3m2 : Method := { name := "meet", desc := "(JJ)Z", sig := { parameters := [.long, .long], returnType := some .boolean }, accessFlags := 8, code := some k3c2 }
/-- com/example/elis/elis/ReadSet -/
def k3 : Class := { plain "com/example/elis/elis/ReadSet" (some 0) with
  accessFlags := 48
  interfaces := #[2]
  cf := some (fileOf pool3 7 #[.nestMembers #[74]] #[{ accessFlags := 0, nameIndex := 5, descriptorIndex := 6, attributes := #[] }, { accessFlags := 8, nameIndex := 119, descriptorIndex := 120, attributes := #[] }, { accessFlags := 8, nameIndex := 135, descriptorIndex := 136, attributes := #[] }] 48 2 #[212] #[{ accessFlags := 24, nameIndex := 214, descriptorIndex := 29, attributes := #[] }, { accessFlags := 26, nameIndex := 53, descriptorIndex := 10, attributes := #[] }, { accessFlags := 26, nameIndex := 217, descriptorIndex := 29, attributes := #[] }, { accessFlags := 26, nameIndex := 94, descriptorIndex := 63, attributes := #[] }, { accessFlags := 2, nameIndex := 13, descriptorIndex := 14, attributes := #[] }, { accessFlags := 2, nameIndex := 17, descriptorIndex := 18, attributes := #[] }, { accessFlags := 2, nameIndex := 28, descriptorIndex := 29, attributes := #[] }, { accessFlags := 2, nameIndex := 25, descriptorIndex := 18, attributes := #[] }, { accessFlags := 2, nameIndex := 72, descriptorIndex := 73, attributes := #[] }, { accessFlags := 2, nameIndex := 78, descriptorIndex := 29, attributes := #[] }, { accessFlags := 2, nameIndex := 21, descriptorIndex := 22, attributes := #[] }, { accessFlags := 2, nameIndex := 125, descriptorIndex := 126, attributes := #[] }])
  fields := #[{ name := "FEW", type := .int, accessFlags := 24, slot := 0, constantValue := 0 }, { name := "FIRST_KEY", type := (.array .byte), accessFlags := 26, slot := 1, constantValue := 0 }, { name := "FIRST_ROOM", type := .int, accessFlags := 26, slot := 2, constantValue := 0 }, { name := "BY_START", type := (.object "java/util/Comparator"), accessFlags := 26, slot := 3, constantValue := 0 }, { name := "keys", type := (.array (.array .byte)), accessFlags := 2, slot := 0, constantValue := 0 }, { name := "hashes", type := (.array .int), accessFlags := 2, slot := 1, constantValue := 0 }, { name := "count", type := .int, accessFlags := 2, slot := 2, constantValue := 0 }, { name := "index", type := (.array .int), accessFlags := 2, slot := 3, constantValue := 0 }, { name := "ranges", type := (.array (.object "com/example/elis/elis/ReadSet$Range")), accessFlags := 2, slot := 4, constantValue := 0 }, { name := "rangeCount", type := .int, accessFlags := 2, slot := 5, constantValue := 0 }, { name := "joined", type := .boolean, accessFlags := 2, slot := 6, constantValue := 0 }, { name := "signature", type := .long, accessFlags := 2, slot := 7, constantValue := 0 }]
  methods := #[k3m0, k3m1, k3m2]
  instanceTypes := #[(.array (.array .byte)), (.array .int), .int, (.array .int), (.array (.object "com/example/elis/elis/ReadSet$Range")), .int, .boolean, .long]
  staticTypes := #[.int, (.array .byte), .int, (.object "java/util/Comparator")]
  resolved := Array.replicate 267 none
  statics := none }

def pool4 : Array CpInfo := pool [(1, u "java/lang/Cloneable"), (0, .class_ 1), (0, u "java/lang/Object"), (0, .class_ 3)] 3

/-- java/lang/Cloneable -/
def k4 : Class := { plain "java/lang/Cloneable" (some 0) with
  accessFlags := 1537
  interfaces := #[]
  cf := some (fileOf pool4 2 #[] #[] 1537 4 #[] #[])
  fields := #[]
  methods := #[]
  instanceTypes := #[]
  staticTypes := #[]
  resolved := Array.replicate 8 none
  statics := none }

def pool5 : Array CpInfo := pool [(1, u "java/io/Serializable"), (0, .class_ 1), (0, u "java/lang/Object"), (0, .class_ 3)] 3

/-- java/io/Serializable -/
def k5 : Class := { plain "java/io/Serializable" (some 0) with
  accessFlags := 1537
  interfaces := #[]
  cf := some (fileOf pool5 2 #[] #[] 1537 4 #[] #[])
  fields := #[]
  methods := #[]
  instanceTypes := #[]
  staticTypes := #[]
  resolved := Array.replicate 8 none
  statics := none }

/-- the primitive byte -/
def k6 : Class := { plain "byte" none with kind := .primitive 'B', accessFlags := 0x411 }
/-- [B -/
def k7 : Class := { plain "[B" (some 0) with kind := .array 6 .byte, interfaces := #[4, 5], accessFlags := 1041 }

/-- the primitive int -/
def k8 : Class := { plain "int" none with kind := .primitive 'I', accessFlags := 0x411 }
/-- [I -/
def k9 : Class := { plain "[I" (some 0) with kind := .array 8 .int, interfaces := #[4, 5], accessFlags := 1041 }

def heap : Heap := #[]
def classes : Array Class := #[k0, k1, k2, k3, k4, k5, k6, k7, k8, k9]
def interned : List (Array UInt16 × Addr) := []
def slotsUsed : Nat := 0
def theMethod : MethodId := ⟨1, 1⟩
def args0 : Array Value := #[.long 5, .long 5, .int 5, .int 5]
def aboutOver (below : List Frame) : State where
  vm := { classes := classes, interned := interned.toArray }
  heap := heap
  slotsUsed := slotsUsed
  threads := #[{ frames := .invoking theMethod args0 :: below }]
def below0 : List Frame := [.native { method := ⟨0, 0⟩, args := #[] }]
def about1 : State := aboutOver below0
def p0 : Program := .bare "" "" ""
def e0 : Env := launch0.env 0 0 0
theorem w_frames : about1.frames = Frame.invoking theMethod args0 :: below0 := rfl
set_option maxRecDepth 65536 in
theorem w_args : argsFit about1.vm theMethod args0 = true := by decide +kernel
set_option maxRecDepth 65536 in
theorem w_heap : heapFits about1 = true := by decide +kernel
set_option maxRecDepth 65536 in
theorem w_runnable : about1.curStatus? = some .runnable := by decide +kernel
set_option maxRecDepth 65536 in
theorem w_alone : about1.alone = true := by decide +kernel
set_option maxRecDepth 65536 in
theorem w_named : about1.methodNamed? x = some theMethod := by decide +kernel
set_option maxRecDepth 65536 in
theorem w_hears : about1.hears theMethod below0 = true := by decide +kernel
set_option maxRecDepth 65536 in
theorem w_ripe : about1.ripe theMethod args0 below0 = true := by decide +kernel
theorem w_running : about1.status = .running := rfl
set_option maxRecDepth 65536 in
theorem w_room : about1.hasRoom e0.platform room_1 = true :=
  launch0.hasRoom_least _ room_1 (by decide +kernel) (by decide +kernel) (by decide +kernel) (by decide +kernel) (by decide +kernel) (by decide +kernel)
theorem allAtoms_all (ts : List Jvm.Cond) (a : Array Jvm.Value) (st : Jvm.State) : (allAtoms ts).before a st = ts.all (fun c => c.before a st) := by
  induction ts with
  | nil => rfl
  | cons c t ih =>
    show (Jvm.Cond.and c (allAtoms t)).before a st = _
    rw [Jvm.Cond.before_and, ih, List.all_cons]
def words1 : List Jvm.Cond := Jvm.Cond.code x code maxLocals ret :: tables_1
/-- a 'code' word, met by the world's own term for the bytes: nothing is compared byte by byte -/
theorem code_word {y : MethodName} {bytes : ByteArray} {mx : Nat} {rt : Option FieldType} {a : Array Value} {s : State} {m : MethodId} {meth : Method} {c : Code} (h1 : s.methodNamed? y = some m) (h2 : s.vm.method? m = some meth) (h3 : meth.code = some c) (h4 : c.code = bytes)
    (h5 : (c.maxLocals == mx && c.exceptionTable.isEmpty && decide (c.maxStack ≤ mostOperands) && decide (meth.sig.returnType = rt) && !meth.locks && decide (parseMethodDescriptor y.desc = some meth.sig)) = true) : (Jvm.Cond.code y bytes mx rt).before a s = true := by
  simp only [Bool.and_eq_true, beq_iff_eq, Bool.not_eq_true', decide_eq_true_eq] at h5
  obtain ⟨⟨⟨⟨⟨g1, g2⟩, g3⟩, g4⟩, g5⟩, g6⟩ := h5
  simp [Cond.before, Cond.holds, Cond.value, h1, h2, h3, h4, g1, g2, g3, g4, g5, g6]
def isCode : Jvm.Cond → Bool
  | .code _ _ _ _ => true
  | _ => false
theorem all_split {L : List Jvm.Cond} {P : Jvm.Cond → Bool} (h1 : L.all (fun c => isCode c || P c) = true) (h2 : ∀ c ∈ L.filter isCode, P c = true) : L.all P = true := by
  refine List.all_eq_true.mpr fun c hc => ?_
  have h := List.all_eq_true.mp h1 c hc
  rcases Bool.eq_false_or_eq_true (isCode c) with hi | hi
  · exact h2 c (List.mem_filter.mpr ⟨hc, hi⟩)
  · simpa [hi] using h
set_option maxRecDepth 65536 in
theorem w_c0 : (Jvm.Cond.code x code maxLocals ret).before args0 about1 = true := code_word (m := ⟨1, 1⟩) (meth := k1m1) (c := k1c1) (by decide +kernel) rfl rfl rfl (by decide +kernel)
set_option maxRecDepth 65536 in
theorem w_c1 : (Jvm.Cond.code ({ cls := "com/example/elis/elis/ReadSet", name := "meet", desc := "(JJ)Z" } : Jvm.MethodName) prog_25_method_9_code (6 : Nat) (Option.some Jvm.ClassFile.FieldType.boolean)).before args0 about1 = true := code_word (m := ⟨3, 2⟩) (meth := k3m2) (c := k3c2) (by decide +kernel) rfl rfl rfl (by decide +kernel)
set_option maxRecDepth 65536 in
theorem w_c2 : (Jvm.Cond.code ({ cls := "com/example/elis/elis/ReadSet", name := "signatureOf", desc := "(I)J" } : Jvm.MethodName) prog_25_method_8_code (3 : Nat) (Option.some Jvm.ClassFile.FieldType.long)).before args0 about1 = true := code_word (m := ⟨3, 1⟩) (meth := k3m1) (c := k3c1) (by decide +kernel) rfl rfl rfl (by decide +kernel)
def codes1 : List Jvm.Cond := [Jvm.Cond.code x code maxLocals ret, Jvm.Cond.code ({ cls := "com/example/elis/elis/ReadSet", name := "meet", desc := "(JJ)Z" } : Jvm.MethodName) prog_25_method_9_code (6 : Nat) (Option.some Jvm.ClassFile.FieldType.boolean), Jvm.Cond.code ({ cls := "com/example/elis/elis/ReadSet", name := "signatureOf", desc := "(I)J" } : Jvm.MethodName) prog_25_method_8_code (3 : Nat) (Option.some Jvm.ClassFile.FieldType.long)]
set_option maxRecDepth 65536 in
theorem codes_eq : words1.filter isCode = codes1 := rfl
theorem w_codes : ∀ c ∈ words1.filter isCode, c.before args0 about1 = true := by
  rw [codes_eq]
  intro c hc
  simp only [codes1, List.mem_cons, List.not_mem_nil, or_false] at hc
  rcases hc with rfl | rfl | rfl
  · exact w_c0
  · exact w_c1
  · exact w_c2
set_option maxRecDepth 65536 in
theorem w_t1 : words1.all (fun c => isCode c || c.before args0 about1) = true := by decide +kernel
theorem w_tables : (allAtoms (Jvm.Cond.code x code maxLocals ret :: tables_1)).before args0 about1 = true := by
  rw [allAtoms_all]
  show words1.all (fun c => c.before args0 about1) = true
  refine all_split ?_ w_codes
  rw [w_t1]
set_option maxRecDepth 65536 in
theorem w_case : (Jvm.Cond.and given_1 narrow_1).before args0 about1 = true := by decide +kernel
theorem w_applies : (headSpec (Jvm.Cond.code x code maxLocals ret :: tables_1) room_1).applies x e0.platform about1 = true :=
  (Spec.applies_iff w_frames).mpr ⟨w_running, w_runnable, w_alone, w_named, w_hears, w_ripe, w_room, w_tables⟩
theorem atStart : AtStart classFile x code maxLocals ret World_1 tables_1 room_1 Calls_1 rest_1 Pre_1 launch0 p0 e0 about1 theMethod args0 below0 :=
  ⟨lists_1, trivial, launch0.admits_env _ _ _, launch0.least_env, fairChoices_fair.cas, fairChoices_fair.clock, w_frames, w_args, w_heap, w_applies, trivial, trivial, w_case⟩
end start1
theorem witness_1 : WitnessClaimed_1 := ⟨start1.p0, start1.e0, start1.about1, start1.theMethod, start1.args0, start1.below0, start1.atStart⟩
end Jvm.Pilot.@@N@@
