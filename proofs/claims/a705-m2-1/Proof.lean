import JvmDerived
import JvmDerived.Pilot.@@N@@Statement
import JvmDerived.Pilot.@@N@@Code
set_option linter.unusedVariables false
set_option linter.unusedSimpArgs false
@@BLOCK:NumsL.lean.txt@@
@@BLOCK:HandJ.lean.txt@@
@@BLOCK:SymMore.lean.txt@@
namespace Jvm.Pilot.@@N@@
open Jvm Jvm.ClassFile Sem Op Lib Jvm.Free Jvm.Stand Jvm.LawKit Jvm.RoadKit Bundle Jvm.Pilot.@@N@@.Jvm.D
/-- a long's slot, written short -/
abbrev jv (x : Int64) : Slot := .val (.long x)
section OwnKit
variable {p : Program} {l : Launch} {e : Env} {R : Room} {s : State} {m : MethodId} {args : Array Value} {below : List Frame} {meth : Method} {c : Code} {T T' : State} {locs : List Loc} {cells slots : Nat} {Q : Option Value → Heap → List Loc → Prop} {kc ks : Nat} {g : JFrame} {Z : State} {a0 : Array Value} {h : Heap} {Fi : State → Prop} {kk : Nat} {vm0 : Vm} {k0 : Nat}
/-- what is left to do, from the state T with the top frame g: the run comes to a state of which Fi holds -/
def own_G (p : Program) (e : Env) (below : List Frame) (Fi : State → Prop) (T : State) (g : JFrame) : Prop := ∃ t, Steps p.tables e below (T.setTop g) t ∧ Fi t
/-- a well ended invocation that began at s (and whose heap has kk cells or more) is one of which Fi holds -/
def own_Ends (Fi : State → Prop) (below : List Frame) (s : State) (kk : Nat) (Q : Option Value → Heap → List Loc → Prop) (kc ks : Nat) : Prop :=
  ∀ (t : State) (v : Option Value) (L : List Loc), t.status = .running → Ended t below (.returned v) → kk ≤ t.heap.size → s.WarmedH t.vm → s.sameButNew { t with vm := s.vm } L kc ks → Q v t.heap L → Fi t
theorem own_go (g' : JFrame) (k : ∀ t, Steps p.tables e below (T'.setTop g') t → Steps p.tables e below (T.setTop g) t) (h : own_G p e below Fi T' g') : own_G p e below Fi T g := by
  obtain ⟨t, h1, h2⟩ := h
  exact ⟨t, k t h1, h2⟩
/-- a step that leaves the locals alone -/
theorem own_gs {pc : Nat} {Ls : Array Slot} {S : List Value} (pc' : Nat) (S' : List Value) (k : ∀ t, Steps p.tables e below (T.setTop (mkF m pc' Ls S')) t → Steps p.tables e below (T.setTop (mkF m pc Ls S)) t) (h : own_G p e below Fi T (mkF m pc' Ls S')) : own_G p e below Fi T (mkF m pc Ls S) := own_go _ k h
theorem own_out (hF : own_Ends Fi below s kk Q kc ks) (hkk : kk ≤ T.heap.size) (X : Stand p l e R s m args below meth c T locs cells slots) (hlk : meth.locks = false) {v : Option Value} (hv : meth.sig.returnType = none → v = none)
    (st : ∀ fs, (∀ (f : JFrame) (acts : List Action), f.method = m → f.locked = none → f.entered = [] → (doReturn e (T.setTop f) acts v).1 = T.setFrames fs) → Steps p.tables e below (T.setTop g) (T.setFrames fs))
    (hQ : Q v T.heap locs) (h1 : cells ≤ kc) (h2 : slots ≤ ks) : own_G p e below Fi T g := by
  obtain ⟨fs, hr, hrun, hended, hW, hsame⟩ := X.leave (v := v) hv hlk
  exact ⟨_, st fs hr, hF _ v locs hrun hended hkk hW (hsame.mono h1 h2) hQ⟩
theorem own_retI (hF : own_Ends Fi below s kk Q kc ks) (hkk : kk ≤ T.heap.size) (X : Stand p l e R s m args below meth c T locs cells slots) (hx : p.tables.exec = Jvm.exec) (hlk : meth.locks = false) (hret : meth.sig.returnType = some .int) {pc : Nat} {Ls : Array Slot} {z : Int32} {rest : List Value} (hd : decode c.code pc = .ok (.ireturn, 1))
    (hQ : Q (some (.int z)) T.heap locs) (h1 : cells ≤ kc) (h2 : slots ≤ ks) : own_G p e below Fi T (mkF m pc Ls (.int z :: rest)) := by
  refine own_out hF hkk X hlk (v := some (.int z)) (fun h => by rw [hret] at h; cases h) (fun fs hl => ?_) hQ h1 h2
  have hm' : T.vm.method? m = some meth := X.method'
  have hn : narrow .int (.int z) = .int z := rfl
  show Steps p.tables e below (T.setTop { method := m, pc := pc, locals := Ls, stack := _ :: rest, locked := none }) _
  jvm_step X.here [X.here.top, hx, hd, hm', hret, hn]
  first | (intro acts; rw [hl _ acts rfl rfl rfl]) | rw [hl _ _ rfl rfl rfl]
  exact Steps.refl _
theorem own_retZ (hF : own_Ends Fi below s kk Q kc ks) (hkk : kk ≤ T.heap.size) (X : Stand p l e R s m args below meth c T locs cells slots) (hx : p.tables.exec = Jvm.exec) (hlk : meth.locks = false) (hret : meth.sig.returnType = some .boolean) {pc : Nat} {Ls : Array Slot} {z : Int32} {rest : List Value} (hd : decode c.code pc = .ok (.ireturn, 1))
    (hQ : Q (some (.int (z &&& 1))) T.heap locs) (h1 : cells ≤ kc) (h2 : slots ≤ ks) : own_G p e below Fi T (mkF m pc Ls (.int z :: rest)) :=
  own_out hF hkk X hlk (v := some (.int (z &&& 1))) (fun h => by rw [hret] at h; cases h) (fun fs hl => retN X hx (t := .boolean) hret (by simp) hd hl) hQ h1 h2
theorem own_retJ (hF : own_Ends Fi below s kk Q kc ks) (hkk : kk ≤ T.heap.size) (X : Stand p l e R s m args below meth c T locs cells slots) (hx : p.tables.exec = Jvm.exec) (hlk : meth.locks = false) (hret : meth.sig.returnType = some .long) {pc : Nat} {Ls : Array Slot} {z : Int64} (hd : decode c.code pc = .ok (.lreturn, 1))
    (hQ : Q (some (.long z)) T.heap locs) (h1 : cells ≤ kc) (h2 : slots ≤ ks) : own_G p e below Fi T (mkF m pc Ls [.long z]) :=
  own_out hF hkk X hlk (v := some (.long z)) (fun h => by rw [hret] at h; cases h) (fun fs hl => X.lreturnOut hx hret hd hl) hQ h1 h2
theorem own_retA (hF : own_Ends Fi below s kk Q kc ks) (hkk : kk ≤ T.heap.size) (X : Stand p l e R s m args below meth c T locs cells slots) (hx : p.tables.exec = Jvm.exec) (hlk : meth.locks = false) {t : FieldType} (hret : meth.sig.returnType = some t) (ht : t.isReference = true) {pc : Nat} {Ls : Array Slot} {z : Value} (hz : z.isRef = true) (hd : decode c.code pc = .ok (.areturn, 1))
    (hQ : Q (some z) T.heap locs) (h1 : cells ≤ kc) (h2 : slots ≤ ks) : own_G p e below Fi T (mkF m pc Ls [z]) :=
  own_out hF hkk X hlk (v := some z) (fun h => by rw [hret] at h; cases h) (fun fs hl => X.areturnOut hx hz hret ht hd hl) hQ h1 h2
theorem own_retV (hF : own_Ends Fi below s kk Q kc ks) (hkk : kk ≤ T.heap.size) (X : Stand p l e R s m args below meth c T locs cells slots) (hx : p.tables.exec = Jvm.exec) (hlk : meth.locks = false) (hret : meth.sig.returnType = none) {pc : Nat} {Ls : Array Slot} (hd : decode c.code pc = .ok (.return_, 1))
    (hQ : Q none T.heap locs) (h1 : cells ≤ kc) (h2 : slots ≤ ks) : own_G p e below Fi T (mkF m pc Ls []) :=
  own_out hF hkk X hlk (v := none) (fun _ => rfl) (fun fs hl => X.returnOut hx hret hd hl) hQ h1 h2
/-- a method's contract at one heap and one row of arguments -/
def own_C (l : Launch) (Z : State) (y : MethodName) (bytes : ByteArray) (mx : Nat) (ret : Option FieldType) (ws : List Jvm.Cond) (rm : Room) (as : Array Value) (h0 : Heap) (Q : Option Value → Heap → List Loc → Prop) : Prop :=
  MetFree l y (head1 (Jvm.Cond.code y bytes mx ret :: ws) rm) (fun a U => a = as ∧ Z.Warmed39 U.vm ∧ U.heap = h0) (fun _ _ _ _ _ => True) (fun _ U o U' => ∃ v L, o = .returned v ∧ Q v U'.heap L ∧ FrameEnd U o U' L rm.cells rm.slots)
theorem own_met {y : MethodName} {bytes : ByteArray} {mx : Nat} {ret : Option FieldType} {ws : List Jvm.Cond} {rm : Room} {as : Array Value} {h0 : Heap} (hp : plainFor y = true) (L0 : Array Slot) (hef : ∀ m, entryFrame m as mx = mkF m 0 L0 [])
    (body : ∀ (p : Program) (e : Env) (s : State) (m : MethodId) (below : List Frame) (meth : Method) (c : Code) (s₁ : State) (Fi : State → Prop), p.tables.exec = Jvm.exec → c.code = bytes → c.maxLocals = mx → s.vm.findClass y.cls = some m.cls → meth.sig.returnType = ret → meth.locks = false → Z.Warmed39 s.vm → meth.name = y.name →
      own_Ends Fi below s 0 Q rm.cells rm.slots → Stand p l e rm s m as below meth c s₁ [] 0 0 → s₁.heap = h0 → own_G p e below Fi s₁ (mkF m 0 L0 [])) :
    own_C l Z y bytes mx ret ws rm as h0 Q := by
  refine MetFree.of_bodySF hp hisR ?_
  intro p e s m args below meth c s₁ Bd hml0 hP hK
  obtain ⟨rfl, hZ, hh⟩ := hP
  have hown : s.vm.findClass y.cls = some m.cls := findClass_of_methodNamed Bd.named
  have hnm := (name_of_methodNamed Bd.named Bd.method).1
  have X0 : Stand p l e rm s m args below meth c s₁ [] 0 0 := Stand.of_body Bd
  have e0 : s₁.heap = h0 := by rw [← hh, Bd.state]; rfl
  obtain ⟨t, h1, o, h2⟩ := body p e s m below meth c s₁ (fun t => ∃ o, t.status = .running ∧ Ended t below o ∧ ∃ v L, o = .returned v ∧ Q v t.heap L ∧ FrameEnd s o t L rm.cells rm.slots) Bd.exec Bd.bytes hml0 hown Bd.returns Bd.notSynchronized hZ hnm
    (fun t v L r1 r2 _ r4 r5 r6 => ⟨_, r1, r2, v, L, rfl, r6, ⟨_, rfl⟩, r4, r5⟩) X0 e0
  exact ⟨t, o, castTop (hef m) h1, h2⟩
/-- a method's contract at one heap and one row of arguments, where it may intern -/
def own_CW (l : Launch) (Z : State) (y : MethodName) (bytes : ByteArray) (mx : Nat) (ret : Option FieldType) (ws : List Jvm.Cond) (rm : Room) (as : Array Value) (h0 : Heap) (Q : Option Value → Heap → List Loc → Prop) : Prop :=
  MetFree l y (head1 (Jvm.Cond.code y bytes mx ret :: ws) rm) (fun a U => a = as ∧ Z.Warmed39 U.vm ∧ U.heap = h0) (fun _ _ _ _ _ => True) (fun _ U o U' => ∃ v L, o = .returned v ∧ Q v U'.heap L ∧ ReturnedEndW U o U' L rm.cells rm.slots)
theorem own_metW {y : MethodName} {bytes : ByteArray} {mx : Nat} {ret : Option FieldType} {ws : List Jvm.Cond} {rm : Room} {as : Array Value} {h0 : Heap} (hp : plainFor y = true) (L0 : Array Slot) (hef : ∀ m, entryFrame m as mx = mkF m 0 L0 [])
    (body : ∀ (p : Program) (e : Env) (s : State) (vm0 : Vm) (m : MethodId) (below : List Frame) (meth : Method) (c : Code) (s₁ : State) (Fi : State → Prop), p.tables.exec = Jvm.exec → c.code = bytes → c.maxLocals = mx → (s.setVm vm0).vm.findClass y.cls = some m.cls → meth.sig.returnType = ret → meth.locks = false → Z.Warmed39 (s.setVm vm0).vm → meth.name = y.name →
      (∀ vm₁ n, s.Since vm₁ n → own_Ends Fi below (s.setVm vm₁) n Q rm.cells rm.slots) → s.Since vm0 0 → 0 ≤ h0.size → Stand p l e rm (s.setVm vm0) m as below meth c s₁ [] 0 0 → s₁.heap = h0 → own_G p e below Fi s₁ (mkF m 0 L0 [])) :
    own_CW l Z y bytes mx ret ws rm as h0 Q := by
  refine MetFree.of_bodySF hp hisR ?_
  intro p e s m args below meth c s₁ Bd hml0 hP hK
  obtain ⟨rfl, hZ, hh⟩ := hP
  have hown : s.vm.findClass y.cls = some m.cls := findClass_of_methodNamed Bd.named
  have hnm := (name_of_methodNamed Bd.named Bd.method).1
  have X0 : Stand p l e rm s m args below meth c s₁ [] 0 0 := Stand.of_body Bd
  have e0 : s₁.heap = h0 := by rw [← hh, Bd.state]; rfl
  obtain ⟨t, h1, o, h2⟩ := body p e s s.vm m below meth c s₁ (fun t => ∃ o, t.status = .running ∧ Ended t below o ∧ ∃ v L, o = .returned v ∧ Q v t.heap L ∧ ReturnedEndW s o t L rm.cells rm.slots) Bd.exec Bd.bytes hml0 hown Bd.returns Bd.notSynchronized hZ hnm
    (fun vm₁ n hS t v L r1 r2 r3 r4 r5 r6 => by
      obtain ⟨q1, q2, q3⟩ := hS.ended (U := t) r4 r3 r5
      exact ⟨_, r1, r2, v, L, rfl, r6, ⟨v, rfl⟩, q1, q2, q3⟩) ((State.WarmedH.refl s).since 0) (Nat.zero_le _) X0 e0
  exact ⟨t, o, castTop (hef m) h1, h2⟩
/-- a static call by the callee's contract -/
theorem own_callS (X : Stand p l e R s m args below meth c T locs cells slots) (hx : p.tables.exec = Jvm.exec) (hZ : Z.Warmed39 s.vm) {own : String} {index : Nat} {y : MethodName} {bytes : ByteArray} {mx : Nat} {ret : Option FieldType} {rm : Room} {Qc : Option Value → Heap → List Loc → Prop}
    (hown : s.vm.findClass own = some m.cls) (w1 : (Jvm.Cond.methodLink own index y).before a0 Z = true) (w2 : (Jvm.Cond.static y).before a0 Z = true) (w3 : (Jvm.Cond.initialized y.cls).before a0 Z = true) (w4 : (Jvm.Cond.code y bytes mx ret).before a0 Z = true) (hy : y.cls ≠ "java/lang/invoke/MethodHandle" ∧ y.cls ≠ "java/lang/invoke/VarHandle")
    (eT : T.heap = h) (argsL rest : List Value) (hM : own_C l Z y bytes mx ret [] rm argsL.toArray h Qc) (W : Nat) (hf : rm.frames + 1 ≤ R.frames) (hlo : W + (mx + 11) + rm.locals ≤ R.locals) (hW : (rest.map fun v => v.category).sum ≤ W) (hc : cells + rm.cells ≤ R.cells) (hs : slots + rm.slots ≤ R.slots)
    {pc : Nat} {Ls : Array Slot} {S : List Value} (hsize : Ls.size = c.maxLocals) (hlen : ∀ sig, parseMethodDescriptor y.desc = some sig → argsL.length = sig.parameters.length) (hS : S = argsL.reverse ++ rest) (hd : decode c.code pc = .ok (.invokestatic index, 3))
    (k : ∀ (T' : State) (v : Option Value) (L : List Loc), Stand p l e R s m args below meth c T' (locs ++ L) (cells + rm.cells) (slots + rm.slots) → Qc v T'.heap L → own_G p e below Fi T' (mkF m (pc + 3) Ls (v.toList ++ rest))) :
    own_G p e below Fi T (mkF m pc Ls S) := by
  obtain ⟨v, _, ⟨T', L', k', n'⟩, -, X', ⟨L, hQ, q1, q2, q3⟩, st⟩ := Jvm.LawKit.callS X hx (y := y) hown (mvT hZ w1) (mvT hZ w2) (mvT hZ w3) (mvT hZ w4) hy (backOf (W := W) hM hZ w4 w3 hf hlo) (g := mkF m pc Ls S) rfl hsize (argsL := argsL) (rest := rest) hlen hS (by show 2 * 0 + _ ≤ _; omega) hd (fun _ _ => ⟨rfl, eT, hc, hs⟩)
  dsimp only [Pt.U, Pt.locs, Pt.cells, Pt.slots] at X' q1 q2 q3 st hQ
  subst q1 q2 q3
  exact own_go _ st (k T' v L X' hQ)
/-- what a pure method's end is: this value, the heap as it was, no place written -/
def own_P (r : Value) (h0 : Heap) (v : Option Value) (h : Heap) (L : List Loc) : Prop := v = some r ∧ h = h0 ∧ L = []
/-- a static call of a pure method -/
theorem own_callP (X : Stand p l e R s m args below meth c T locs cells slots) (hx : p.tables.exec = Jvm.exec) (hZ : Z.Warmed39 s.vm) {own : String} {index : Nat} {y : MethodName} {bytes : ByteArray} {mx : Nat} {ret : Option FieldType} {fr lo : Nat} {r : Value}
    (hown : s.vm.findClass own = some m.cls) (w1 : (Jvm.Cond.methodLink own index y).before a0 Z = true) (w2 : (Jvm.Cond.static y).before a0 Z = true) (w3 : (Jvm.Cond.initialized y.cls).before a0 Z = true) (w4 : (Jvm.Cond.code y bytes mx ret).before a0 Z = true) (hy : y.cls ≠ "java/lang/invoke/MethodHandle" ∧ y.cls ≠ "java/lang/invoke/VarHandle")
    (eT : T.heap = h) (argsL rest : List Value) (hM : own_C l Z y bytes mx ret [] { frames := fr, cells := 0, slots := 0, locals := lo } argsL.toArray h (own_P r h)) (W : Nat) (hf : fr + 1 ≤ R.frames) (hlo : W + (mx + 11) + lo ≤ R.locals) (hW : (rest.map fun v => v.category).sum ≤ W) (hc : cells ≤ R.cells) (hs : slots ≤ R.slots)
    {pc : Nat} {Ls : Array Slot} {S : List Value} (hsize : Ls.size = c.maxLocals) (hlen : ∀ sig, parseMethodDescriptor y.desc = some sig → argsL.length = sig.parameters.length) (hS : S = argsL.reverse ++ rest) (hd : decode c.code pc = .ok (.invokestatic index, 3))
    (k : ∀ (T' : State), Stand p l e R s m args below meth c T' locs cells slots → T'.heap = h → own_G p e below Fi T' (mkF m (pc + 3) Ls (r :: rest))) :
    own_G p e below Fi T (mkF m pc Ls S) := by
  refine own_callS X hx hZ hown w1 w2 w3 w4 hy eT argsL rest hM W hf hlo hW hc hs hsize hlen hS hd ?_
  rintro T' v L X' ⟨rfl, q2, rfl⟩
  rw [List.append_nil] at X'
  exact k T' X' q2
/-- a constructor's call -/
theorem own_callI (X : Stand p l e R s m args below meth c T locs cells slots) (hx : p.tables.exec = Jvm.exec) (hZ : Z.Warmed39 s.vm) {own : String} {index : Nat} {y : MethodName} {bytes : ByteArray} {mx : Nat} {rm : Room} {Qc : Option Value → Heap → List Loc → Prop} (hy1 : y.name = "<init>")
    (hown : s.vm.findClass own = some m.cls) (w1 : (Jvm.Cond.methodLink own index y).before a0 Z = true) (w2 : (Jvm.Cond.instanceMethod y).before a0 Z = true) (w3 : (Jvm.Cond.initialized y.cls).before a0 Z = true) (w4 : (Jvm.Cond.code y bytes mx none).before a0 Z = true) (hy : y.cls ≠ "java/lang/invoke/MethodHandle" ∧ y.cls ≠ "java/lang/invoke/VarHandle")
    (eT : T.heap = h) (a : Addr) (argsL rest : List Value) (hM : own_C l Z y bytes mx none [] rm (.ref a :: argsL).toArray h Qc) (W : Nat) (hf : rm.frames + 1 ≤ R.frames) (hlo : W + (mx + 11) + rm.locals ≤ R.locals) (hW : (rest.map fun v => v.category).sum ≤ W) (hc : cells + rm.cells ≤ R.cells) (hs : slots + rm.slots ≤ R.slots)
    {pc : Nat} {Ls : Array Slot} {S : List Value} (hsize : Ls.size = c.maxLocals) (hlen : ∀ sig, parseMethodDescriptor y.desc = some sig → argsL.length = sig.parameters.length) (hS : S = argsL.reverse ++ .ref a :: rest) (hd : decode c.code pc = .ok (.invokespecial index, 3))
    (k : ∀ (T' : State) (v : Option Value) (L : List Loc), Stand p l e R s m args below meth c T' (locs ++ L) (cells + rm.cells) (slots + rm.slots) → Qc v T'.heap L → own_G p e below Fi T' (mkF m (pc + 3) Ls (v.toList ++ rest))) :
    own_G p e below Fi T (mkF m pc Ls S) := by
  obtain ⟨v, _, ⟨T', L', k', n'⟩, -, X', ⟨L, hQ, q1, q2, q3⟩, st⟩ := X.specialBack hx (y := y) hy1 hown (mvT hZ w1) (mvT hZ w2) (mvT hZ w4) hy (backOf (W := W) hM hZ w4 w3 hf hlo) (g := mkF m pc Ls S) rfl hsize (Steps.refl _) (a := a) (argsL := argsL) (rest := rest) hlen hS (by show 2 * 0 + _ ≤ _; omega) hd (fun _ _ => ⟨rfl, eT, hc, hs⟩)
  dsimp only [Pt.U, Pt.locs, Pt.cells, Pt.slots] at X' q1 q2 q3 st hQ
  subst q1 q2 q3
  exact own_go _ (fun t kt => st.trans kt) (k T' v L X' hQ)
/-- an instance method's call -/
theorem own_callV (X : Stand p l e R s m args below meth c T locs cells slots) (hx : p.tables.exec = Jvm.exec) (hZ : Z.Warmed39 s.vm) {own C : String} {index : Nat} {y : MethodName} {bytes : ByteArray} {mx : Nat} {ret : Option FieldType} {rm : Room} {Qc : Option Value → Heap → List Loc → Prop}
    (hown : s.vm.findClass own = some m.cls) (w1 : (Jvm.Cond.methodLink own index y).before a0 Z = true) (w5 : (Jvm.Cond.declares y).before a0 Z = true) (w6 : (Jvm.Cond.selects C y y).before a0 Z = true) (w2 : (Jvm.Cond.instanceMethod y).before a0 Z = true) (w3 : (Jvm.Cond.initialized y.cls).before a0 Z = true) (w4 : (Jvm.Cond.code y bytes mx ret).before a0 Z = true) (hy : y.cls ≠ "java/lang/invoke/MethodHandle" ∧ y.cls ≠ "java/lang/invoke/VarHandle")
    (eT : T.heap = h) {a : Addr} (E : Exa Z h a C) (argsL rest : List Value) (hM : own_C l Z y bytes mx ret [] rm (.ref a :: argsL).toArray h Qc) (W : Nat) (hf : rm.frames + 1 ≤ R.frames) (hlo : W + (mx + 11) + rm.locals ≤ R.locals) (hW : (rest.map fun v => v.category).sum ≤ W) (hc : cells + rm.cells ≤ R.cells) (hs : slots + rm.slots ≤ R.slots)
    {pc : Nat} {Ls : Array Slot} {S : List Value} (hsize : Ls.size = c.maxLocals) (hlen : ∀ sig, parseMethodDescriptor y.desc = some sig → argsL.length = sig.parameters.length) (hS : S = argsL.reverse ++ .ref a :: rest) (hd : decode c.code pc = .ok (.invokevirtual index, 3))
    (k : ∀ (T' : State) (v : Option Value) (L : List Loc), Stand p l e R s m args below meth c T' (locs ++ L) (cells + rm.cells) (slots + rm.slots) → Qc v T'.heap L → own_G p e below Fi T' (mkF m (pc + 3) Ls (v.toList ++ rest))) :
    own_G p e below Fi T (mkF m pc Ls S) := by
  obtain ⟨cq, kq, qa, qb, qc⟩ := isOf hZ eT E
  obtain ⟨v, _, ⟨T', L', k', n'⟩, -, X', ⟨L, hQ, q1, q2, q3⟩, st⟩ := X.virtualBack hx (y := y) (z := y) hown (mvT hZ w1) (mvT hZ w5) (notFace_of_selects (args := #[]) (mvT hZ w6)) (mvT hZ w6) (mvT hZ w2) hy (backOf (W := W) hM hZ w4 w3 hf hlo) qa qc (g := mkF m pc Ls S) rfl hsize (Steps.refl _) (argsL := argsL) (rest := rest) hlen hS (by show 2 * 0 + _ ≤ _; omega) hd (fun _ _ => ⟨rfl, eT, hc, hs⟩)
  dsimp only [Pt.U, Pt.locs, Pt.cells, Pt.slots] at X' q1 q2 q3 st hQ
  subst q1 q2 q3
  exact own_go _ (fun t kt => st.trans kt) (k T' v L X' hQ)
end OwnKit
section OwnHeap
variable {p : Program} {l : Launch} {e : Env} {R : Room} {s : State} {m : MethodId} {args : Array Value} {below : List Frame} {meth : Method} {c : Code} {T T' : State} {locs : List Loc} {cells slots n0 : Nat} {Q : Option Value → Heap → List Loc → Prop} {kc ks : Nat} {g : JFrame} {Z : State} {a0 : Array Value} {h h' h0 : Heap} {a b : Addr} {vs : List Value} {ty : FieldType} {v w : Value} {sl pc : Nat} {Ls : Array Slot} {rest : List Value} {Fi : State → Prop} {kk : Nat} {vm0 : Vm} {k0 : Nat}
/-- the run stands here, and whatever was written lies in cells at or above n0 -/
def own_S (p : Program) (l : Launch) (e : Env) (R : Room) (s : State) (m : MethodId) (args : Array Value) (below : List Frame) (meth : Method) (c : Code) (n0 : Nat) (T : State) (cells slots : Nat) : Prop := ∃ locs, Stand p l e R s m args below meth c T locs cells slots ∧ Fr n0 locs
theorem own_S.of (X : Stand p l e R s m args below meth c T [] cells slots) (n0 : Nat) : own_S p l e R s m args below meth c n0 T cells slots := ⟨[], X, Fr.nil n0⟩
theorem own_S.here (X : own_S p l e R s m args below meth c n0 T cells slots) : At T m c below := X.elim fun _ q => q.1.here
theorem own_S.ldcInt (X : own_S p l e R s m args below meth c n0 T cells slots) (hx : p.tables.exec = Jvm.exec) {own : String} {index : Nat} {v : Int32} (hown : s.vm.findClass own = some m.cls)
    (hc : (Jvm.Cond.constant own index v).before args s = true) {g : JFrame} (hg : g.method = m) (hd : decode c.code g.pc = .ok (.ldc index, 2)) (t : State) (k : Steps p.tables e below (T.setTop { g with pc := g.pc + 2, stack := .int v :: g.stack }) t) : Steps p.tables e below (T.setTop g) t :=
  X.elim fun _ q => q.1.ldcInt hx hown hc hg hd t k
theorem own_S.ldcwInt (X : own_S p l e R s m args below meth c n0 T cells slots) (hx : p.tables.exec = Jvm.exec) {own : String} {index : Nat} {v : Int32} (hown : s.vm.findClass own = some m.cls)
    (hc : (Jvm.Cond.constant own index v).before args s = true) {g : JFrame} (hg : g.method = m) (hd : decode c.code g.pc = .ok (.ldc_w index, 3)) (t : State) (k : Steps p.tables e below (T.setTop { g with pc := g.pc + 3, stack := .int v :: g.stack }) t) : Steps p.tables e below (T.setTop g) t :=
  X.elim fun _ q => q.1.ldcwInt hx hown hc hg hd t k
theorem own_S.ldc2Long (X : own_S p l e R s m args below meth c n0 T cells slots) (hx : p.tables.exec = Jvm.exec) {own : String} {index : Nat} {v : Int64} (hown : s.vm.findClass own = some m.cls)
    (hc : (Jvm.Cond.constantLong own index v).before args s = true) {g : JFrame} (hg : g.method = m) (hd : decode c.code g.pc = .ok (.ldc2_w index, 3)) (t : State) (k : Steps p.tables e below (T.setTop { g with pc := g.pc + 3, stack := .long v :: g.stack }) t) : Steps p.tables e below (T.setTop g) t :=
  X.elim fun _ q => q.1.ldc2Long hx hown hc hg hd t k
theorem own_S.more (X : own_S p l e R s m args below meth c n0 T cells slots) {cells' slots' : Nat} (h1 : cells ≤ cells') (h2 : slots ≤ slots') : own_S p l e R s m args below meth c n0 T cells' slots' := X.elim fun L q => ⟨L, q.1.more h1 h2, q.2⟩
/-- what a contract with a heap says: the places written are new, and P -/
def own_Q (n0 : Nat) (P : Option Value → Heap → Prop) (v : Option Value) (h : Heap) (L : List Loc) : Prop := Fr n0 L ∧ P v h
theorem own_S.retI {P : Option Value → Heap → Prop} (hF : own_Ends Fi below s kk (own_Q n0 P) kc ks) (hkk : kk ≤ T.heap.size) (X : own_S p l e R s m args below meth c n0 T cells slots) (hx : p.tables.exec = Jvm.exec) (hlk : meth.locks = false) (hret : meth.sig.returnType = some .int) {z : Int32} (hd : decode c.code pc = .ok (.ireturn, 1))
    (hQ : P (some (.int z)) T.heap) (h1 : cells ≤ kc) (h2 : slots ≤ ks) : own_G p e below Fi T (mkF m pc Ls (.int z :: rest)) := X.elim fun L q => own_retI hF hkk q.1 hx hlk hret hd ⟨q.2, hQ⟩ h1 h2
theorem own_S.retZ {P : Option Value → Heap → Prop} (hF : own_Ends Fi below s kk (own_Q n0 P) kc ks) (hkk : kk ≤ T.heap.size) (X : own_S p l e R s m args below meth c n0 T cells slots) (hx : p.tables.exec = Jvm.exec) (hlk : meth.locks = false) (hret : meth.sig.returnType = some .boolean) {z : Int32} (hd : decode c.code pc = .ok (.ireturn, 1))
    (hQ : P (some (.int (z &&& 1))) T.heap) (h1 : cells ≤ kc) (h2 : slots ≤ ks) : own_G p e below Fi T (mkF m pc Ls (.int z :: rest)) := X.elim fun L q => own_retZ hF hkk q.1 hx hlk hret hd ⟨q.2, hQ⟩ h1 h2
theorem own_S.retJ {P : Option Value → Heap → Prop} (hF : own_Ends Fi below s kk (own_Q n0 P) kc ks) (hkk : kk ≤ T.heap.size) (X : own_S p l e R s m args below meth c n0 T cells slots) (hx : p.tables.exec = Jvm.exec) (hlk : meth.locks = false) (hret : meth.sig.returnType = some .long) {z : Int64} (hd : decode c.code pc = .ok (.lreturn, 1))
    (hQ : P (some (.long z)) T.heap) (h1 : cells ≤ kc) (h2 : slots ≤ ks) : own_G p e below Fi T (mkF m pc Ls [.long z]) := X.elim fun L q => own_retJ hF hkk q.1 hx hlk hret hd ⟨q.2, hQ⟩ h1 h2
theorem own_S.retA {P : Option Value → Heap → Prop} (hF : own_Ends Fi below s kk (own_Q n0 P) kc ks) (hkk : kk ≤ T.heap.size) (X : own_S p l e R s m args below meth c n0 T cells slots) (hx : p.tables.exec = Jvm.exec) (hlk : meth.locks = false) {t : FieldType} (hret : meth.sig.returnType = some t) (ht : t.isReference = true) {z : Value} (hz : z.isRef = true) (hd : decode c.code pc = .ok (.areturn, 1))
    (hQ : P (some z) T.heap) (h1 : cells ≤ kc) (h2 : slots ≤ ks) : own_G p e below Fi T (mkF m pc Ls [z]) := X.elim fun L q => own_retA hF hkk q.1 hx hlk hret ht hz hd ⟨q.2, hQ⟩ h1 h2
theorem own_S.retV {P : Option Value → Heap → Prop} (hF : own_Ends Fi below s kk (own_Q n0 P) kc ks) (hkk : kk ≤ T.heap.size) (X : own_S p l e R s m args below meth c n0 T cells slots) (hx : p.tables.exec = Jvm.exec) (hlk : meth.locks = false) (hret : meth.sig.returnType = none) (hd : decode c.code pc = .ok (.return_, 1))
    (hQ : P none T.heap) (h1 : cells ≤ kc) (h2 : slots ≤ ks) : own_G p e below Fi T (mkF m pc Ls []) := X.elim fun L q => own_retV hF hkk q.1 hx hlk hret hd ⟨q.2, hQ⟩ h1 h2
/-- fields -/
theorem own_S.getF (X : own_S p l e R s m args below meth c n0 T cells slots) (hx : p.tables.exec = Jvm.exec) (hZ : Z.Warmed39 s.vm) {own C n d : String} {index : Nat} (hown : s.vm.findClass own = some m.cls) (w1 : (Jvm.Cond.fieldLink own index C n d).before a0 Z = true) (eT : T.heap = h) (F : Fld Z h a C n d v) (hd : decode c.code pc = .ok (.getfield index, 3))
    (k : ∀ T', own_S p l e R s m args below meth c n0 T' cells slots → T'.heap = h → own_G p e below Fi T' (mkF m (pc + 3) Ls (v :: rest))) : own_G p e below Fi T (mkF m pc Ls (.ref a :: rest)) := by
  obtain ⟨locs, Y, N⟩ := X
  obtain ⟨T', Y', e', st⟩ := Jvm.RoadKit.getF Y hx hZ hown (host := "") (Or.inl w1) Via.refl eT F (g := mkF m pc Ls (.ref a :: rest)) rfl rfl hd
  exact own_go _ st (k T' ⟨locs, Y', N⟩ e')
theorem own_S.putF (X : own_S p l e R s m args below meth c n0 T cells slots) (hx : p.tables.exec = Jvm.exec) (hZ : Z.Warmed39 s.vm) {own C n d : String} {index kk : Nat} {ty : FieldType} (hown : s.vm.findClass own = some m.cls) (w1 : (Jvm.Cond.fieldLink own index C n d).before a0 Z = true) (eT : T.heap = h) {old : Value} (F : Fld Z h a C n d old) (E : Exa Z h a C) (g0 : n0 ≤ a)
    (L : (Jvm.Cond.lays C C n d).before a0 Z = true ∨ ((Jvm.Cond.laysFinal C C n d).before a0 Z = true ∧ own = C ∧ meth.name = "<init>")) (wi : (Jvm.Cond.instantiable C kk).before a0 Z = true) (hty : parseFieldDescriptor d = some ty) (hn : narrow ty v = v) (hf : fits ty v = true) (hd : decode c.code pc = .ok (.putfield index, 3))
    (k : ∀ T' h', own_S p l e R s m args below meth c n0 T' cells slots → T'.heap = h' → Wr h h' a (Jvm.RoadKit.slotOf Z C n d) v → own_G p e below Fi T' (mkF m (pc + 3) Ls rest)) : own_G p e below Fi T (mkF m pc Ls (v :: .ref a :: rest)) := by
  obtain ⟨locs, Y, N⟩ := X
  obtain ⟨T', h', Y', e', W, st⟩ := Jvm.RoadKit.putF Y hx hZ hown (host := "") (Or.inl w1) Via.refl eT F E L wi hty hn hf (g := mkF m pc Ls (v :: .ref a :: rest)) rfl rfl hd
  exact own_go _ st (k T' h' ⟨_, Y', Fr.snoc Y' N g0⟩ e' W)
theorem own_S.initO (X : own_S p l e R s m args below meth c n0 T cells slots) (hx : p.tables.exec = Jvm.exec) (hZ : Z.Warmed39 s.vm) {own : String} {idx : Nat} (hown : s.vm.findClass own = some m.cls) (w1 : (Jvm.Cond.methodLink own idx Lib.objectInit).before a0 Z = true) (w2 : (Jvm.Cond.instanceMethod Lib.objectInit).before a0 Z = true)
    (w3 : (Jvm.Cond.code Lib.objectInit ⟨#[0xb1]⟩ 1 none).before a0 Z = true) (eT : T.heap = h) (hsize : Ls.size = c.maxLocals) (hd : decode c.code pc = .ok (.invokespecial idx, 3)) (hf : 1 ≤ R.frames) (W : Nat) (hW : (rest.map fun v => v.category).sum ≤ W) (hl : W + 12 ≤ R.locals)
    (k : ∀ T', own_S p l e R s m args below meth c n0 T' cells slots → T'.heap = h → own_G p e below Fi T' (mkF m (pc + 3) Ls rest)) : own_G p e below Fi T (mkF m pc Ls (.ref a :: rest)) := by
  obtain ⟨locs, Y, N⟩ := X
  obtain ⟨T', Y', e', st⟩ := Jvm.RoadKit.initO Y hx hZ hown w1 w2 w3 eT (g := mkF m pc Ls (.ref a :: rest)) rfl hsize (a := a) (rest := rest) rfl hd hf (W := W) (by show 2 * 0 + _ ≤ _; omega) hl
  exact own_go _ st (k T' ⟨locs, Y', N⟩ e')
/-- new -/
theorem own_S.newO (X : own_S p l e R s m args below meth c n0 T cells slots) (hx : p.tables.exec = Jvm.exec) (hZ : Z.Warmed39 s.vm) {own C : String} {index n : Nat} (hown : s.vm.findClass own = some m.cls) (w1 : (Jvm.Cond.classLink own index C).before a0 Z = true) (wi : (Jvm.Cond.instantiable C n).before a0 Z = true) (wz : (Jvm.Cond.initialized C).before a0 Z = true) (eT : T.heap = h)
    (hd : decode c.code pc = .ok (.new index, 3)) (hc : cells + 1 ≤ R.cells) (hl : slots + n ≤ R.slots)
    (k : ∀ T' h' (b : Addr), own_S p l e R s m args below meth c n0 T' (cells + 1) (slots + n) → T'.heap = h' → b = h.size → Ext h h' → Exa Z h' b C → (∀ {O nm d : String} {ty : FieldType}, Laid Z a0 C O nm d → parseFieldDescriptor d = some ty → Fld Z h' b O nm d (defaultValue ty)) → own_G p e below Fi T' (mkF m (pc + 3) Ls (.ref b :: rest))) :
    own_G p e below Fi T (mkF m pc Ls rest) := by
  obtain ⟨locs, Y, N⟩ := X
  obtain ⟨T', h', Y', e', E, A, D, -, st⟩ := Jvm.RoadKit.newO Y hx hZ hown w1 wi wz eT (g := mkF m pc Ls rest) rfl hd hc hl
  exact own_go _ st (k T' h' h.size ⟨_, Y', N⟩ e' rfl E A D)
/-- an array, by the list of what it holds -/
def own_A (Z : State) (h : Heap) (ty : FieldType) (a : Addr) (vs : List Value) : Prop := ∃ cl : Cell, Arr Z h a cl ty ∧ cl.slots = vs.toArray ∧ vs.length < 2 ^ 31
theorem own_A.lt (A : own_A Z h ty a vs) : a < h.size := A.elim fun _ q => q.1.lt
theorem own_A.ext (A : own_A Z h ty a vs) (E : Ext h h') : own_A Z h' ty a vs := A.elim fun cl q => ⟨cl, q.1.ext E, q.2⟩
theorem own_A.other (A : own_A Z h ty b vs) (W : Wr h h' a sl v) (q : b ≠ a) : own_A Z h' ty b vs := A.elim fun cl r => ⟨cl, r.1.other W q, r.2⟩
theorem own_A.keep {ws : List Addr} (A : own_A Z h ty a vs) (K : Keep h h' ws) (q : a ∉ ws) : own_A Z h' ty a vs := A.elim fun cl r => ⟨cl, ⟨K.2.1 a cl r.1.1 q, r.1.2⟩, r.2⟩
theorem own_A.set (A : own_A Z h ty a vs) {i : Nat} (W : Wr h h' a i v) : own_A Z h' ty a (vs.set i v) := by
  obtain ⟨cl, A, q1, q2⟩ := A
  refine ⟨_, A.same W, ?_, by rw [List.length_set]; exact q2⟩
  simp [Cell.setSlot, q1]
theorem own_A.len (A : own_A Z h ty a vs) : vs.length < 2 ^ 31 := A.elim fun _ q => q.2.2
theorem own_clamp {j : Int32} {i : Nat} (hj : j.toInt = i) : j.toNatClampNeg = i ∧ ¬ j < 0 := by
  refine ⟨by simp [Int32.toNatClampNeg, hj], ?_⟩
  rw [Int32.lt_iff_toInt_lt, Int32.toInt_zero]; omega
theorem own_in {cl : Cell} (q1 : cl.slots = vs.toArray) {j : Int32} {i : Nat} (hj : j.toInt = i) (hi : i < vs.length) : ¬ (j < 0 ∨ cl.slots.size ≤ j.toNatClampNeg) := by
  obtain ⟨c1, c2⟩ := own_clamp hj
  rw [q1, c1]; intro r
  rcases r with r | r
  · exact c2 r
  · simp at r; omega
theorem own_lt_of {i : Nat} (hv : vs[i]? = some v) : i < vs.length := (List.getElem?_eq_some_iff.mp hv).1
theorem own_S.ldJ (X : own_S p l e R s m args below meth c n0 T cells slots) (hx : p.tables.exec = Jvm.exec) (hZ : Z.Warmed39 s.vm) (eT : T.heap = h) (A : own_A Z h .long a vs) {j : Int32} (i : Nat) (hj : j.toInt = i) (hv : vs[i]? = some v) (hd : decode c.code pc = .ok (.laload, 1))
    (k : own_G p e below Fi T (mkF m (pc + 1) Ls (v :: rest))) : own_G p e below Fi T (mkF m pc Ls (.int j :: .ref a :: rest)) := by
  obtain ⟨locs, Y, N⟩ := X
  obtain ⟨cl, A, q1, q2⟩ := A
  refine own_go _ (fun t kt => Y.laload hx (j := j) (v := v) (by rw [eT]; exact A.1) (State.isArrayOf_alike hZ.alike A.2.1) A.2.2 (own_in q1 hj (own_lt_of hv)) (by rw [(own_clamp hj).1, q1]; simpa using hv) (g := mkF m pc Ls (.int j :: .ref a :: rest)) rfl rfl hd t kt) k
theorem own_S.ldI (X : own_S p l e R s m args below meth c n0 T cells slots) (hx : p.tables.exec = Jvm.exec) (hZ : Z.Warmed39 s.vm) (eT : T.heap = h) (A : own_A Z h .int a vs) {j : Int32} (i : Nat) (hj : j.toInt = i) (hv : vs[i]? = some v) (hd : decode c.code pc = .ok (.iaload, 1))
    (k : own_G p e below Fi T (mkF m (pc + 1) Ls (v :: rest))) : own_G p e below Fi T (mkF m pc Ls (.int j :: .ref a :: rest)) := by
  obtain ⟨locs, Y, N⟩ := X
  obtain ⟨cl, A, q1, q2⟩ := A
  refine own_go _ (fun t kt => Y.iaload hx (j := j) (v := v) (by rw [eT]; exact A.1) (State.isArrayOf_alike hZ.alike A.2.1) A.2.2 (own_in q1 hj (own_lt_of hv)) (by rw [(own_clamp hj).1, q1]; simpa using hv) (g := mkF m pc Ls (.int j :: .ref a :: rest)) rfl rfl hd t kt) k
theorem own_S.ldB (X : own_S p l e R s m args below meth c n0 T cells slots) (hx : p.tables.exec = Jvm.exec) (hZ : Z.Warmed39 s.vm) (eT : T.heap = h) (A : own_A Z h .byte a vs) {j : Int32} (i : Nat) (hj : j.toInt = i) (hv : vs[i]? = some v) (hd : decode c.code pc = .ok (.baload, 1))
    (k : own_G p e below Fi T (mkF m (pc + 1) Ls (v :: rest))) : own_G p e below Fi T (mkF m pc Ls (.int j :: .ref a :: rest)) := by
  obtain ⟨locs, Y, N⟩ := X
  obtain ⟨cl, A, q1, q2⟩ := A
  refine own_go _ (fun t kt => Y.baloadBytes hx (j := j) (v := v) (by rw [eT]; exact A.1) (State.isArrayOf_alike hZ.alike A.2.1) A.2.2 (own_in q1 hj (own_lt_of hv)) (by rw [(own_clamp hj).1, q1]; simpa using hv) (g := mkF m pc Ls (.int j :: .ref a :: rest)) rfl rfl hd t kt) k
theorem own_S.alen (X : own_S p l e R s m args below meth c n0 T cells slots) (hx : p.tables.exec = Jvm.exec) (hZ : Z.Warmed39 s.vm) (eT : T.heap = h) (A : own_A Z h ty a vs) (hd : decode c.code pc = .ok (.arraylength, 1))
    (k : own_G p e below Fi T (mkF m (pc + 1) Ls (.int (Int32.ofNat vs.length) :: rest))) : own_G p e below Fi T (mkF m pc Ls (.ref a :: rest)) := by
  obtain ⟨locs, Y, N⟩ := X
  obtain ⟨cl, A, q1, q2⟩ := A
  have q : cl.slots.size.toInt32 = Int32.ofNat vs.length := by rw [q1]; simp
  refine own_go _ (fun t kt => Y.arraylength hx (by rw [eT]; exact A.1) (State.isArrayOf_alike hZ.alike A.2.1) (g := mkF m pc Ls (.ref a :: rest)) rfl rfl hd t (by rw [q]; exact kt)) k
theorem own_S.stJ (X : own_S p l e R s m args below meth c n0 T cells slots) (hx : p.tables.exec = Jvm.exec) (hZ : Z.Warmed39 s.vm) (eT : T.heap = h) (A : own_A Z h .long a vs) (g0 : n0 ≤ a) {j : Int32} {x : Int64} (i : Nat) (hj : j.toInt = i) (hi : i < vs.length) (hd : decode c.code pc = .ok (.lastore, 1))
    (k : ∀ T' h', own_S p l e R s m args below meth c n0 T' cells slots → T'.heap = h' → Wr h h' a i (.long x) → own_A Z h' .long a (vs.set i (.long x)) → own_G p e below Fi T' (mkF m (pc + 1) Ls rest)) : own_G p e below Fi T (mkF m pc Ls (.long x :: .int j :: .ref a :: rest)) := by
  obtain ⟨locs, Y, N⟩ := X
  have A' := A
  obtain ⟨cl, A, q1, q2⟩ := A
  obtain ⟨T', h', Y', e', W, st⟩ := Jvm.RoadKit.stJ Y hx hZ eT A (j := j) (x := x) (own_in q1 hj hi) (g := mkF m pc Ls (.long x :: .int j :: .ref a :: rest)) rfl rfl hd
  rw [(own_clamp hj).1] at W
  exact own_go _ st (k T' h' ⟨_, Y', Fr.snoc Y' N g0⟩ e' W (A'.set W))
theorem own_S.stI (X : own_S p l e R s m args below meth c n0 T cells slots) (hx : p.tables.exec = Jvm.exec) (hZ : Z.Warmed39 s.vm) (eT : T.heap = h) (A : own_A Z h .int a vs) (g0 : n0 ≤ a) {j : Int32} {x : Int32} (i : Nat) (hj : j.toInt = i) (hi : i < vs.length) (hd : decode c.code pc = .ok (.iastore, 1))
    (k : ∀ T' h', own_S p l e R s m args below meth c n0 T' cells slots → T'.heap = h' → Wr h h' a i (.int x) → own_A Z h' .int a (vs.set i (.int x)) → own_G p e below Fi T' (mkF m (pc + 1) Ls rest)) : own_G p e below Fi T (mkF m pc Ls (.int x :: .int j :: .ref a :: rest)) := by
  obtain ⟨locs, Y, N⟩ := X
  have A' := A
  obtain ⟨cl, A, q1, q2⟩ := A
  obtain ⟨T', h', Y', e', W, st⟩ := Jvm.RoadKit.stI Y hx hZ eT A (j := j) (x := x) (own_in q1 hj hi) (g := mkF m pc Ls (.int x :: .int j :: .ref a :: rest)) rfl rfl hd
  rw [(own_clamp hj).1] at W
  exact own_go _ st (k T' h' ⟨_, Y', Fr.snoc Y' N g0⟩ e' W (A'.set W))
theorem own_S.stB (X : own_S p l e R s m args below meth c n0 T cells slots) (hx : p.tables.exec = Jvm.exec) (hZ : Z.Warmed39 s.vm) (eT : T.heap = h) (A : own_A Z h .byte a vs) (g0 : n0 ≤ a) {j : Int32} {x : Int32} (i : Nat) (hj : j.toInt = i) (hi : i < vs.length) (hd : decode c.code pc = .ok (.bastore, 1))
    (k : ∀ T' h', own_S p l e R s m args below meth c n0 T' cells slots → T'.heap = h' → Wr h h' a i (.int x.toInt8.toInt32) → own_A Z h' .byte a (vs.set i (.int x.toInt8.toInt32)) → own_G p e below Fi T' (mkF m (pc + 1) Ls rest)) : own_G p e below Fi T (mkF m pc Ls (.int x :: .int j :: .ref a :: rest)) := by
  obtain ⟨locs, Y, N⟩ := X
  have A' := A
  obtain ⟨cl, A, q1, q2⟩ := A
  obtain ⟨T', h', Y', e', W, st⟩ := Jvm.RoadKit.stB Y hx hZ eT A (j := j) (x := x) (own_in q1 hj hi) (g := mkF m pc Ls (.int x :: .int j :: .ref a :: rest)) rfl rfl hd
  rw [(own_clamp hj).1] at W
  exact own_go _ st (k T' h' ⟨_, Y', Fr.snoc Y' N g0⟩ e' W (A'.set W))
theorem own_S.stZ (X : own_S p l e R s m args below meth c n0 T cells slots) (hx : p.tables.exec = Jvm.exec) (hZ : Z.Warmed39 s.vm) (eT : T.heap = h) (A : own_A Z h .boolean a vs) (g0 : n0 ≤ a) {j : Int32} {x : Int32} (i : Nat) (hj : j.toInt = i) (hi : i < vs.length) (hd : decode c.code pc = .ok (.bastore, 1))
    (k : ∀ T' h', own_S p l e R s m args below meth c n0 T' cells slots → T'.heap = h' → Wr h h' a i (.int (x &&& 1)) → own_A Z h' .boolean a (vs.set i (.int (x &&& 1))) → own_G p e below Fi T' (mkF m (pc + 1) Ls rest)) : own_G p e below Fi T (mkF m pc Ls (.int x :: .int j :: .ref a :: rest)) := by
  obtain ⟨locs, Y, N⟩ := X
  have A' := A
  obtain ⟨cl, A, q1, q2⟩ := A
  obtain ⟨T', h', Y', e', W, st⟩ := Jvm.RoadKit.stZ Y hx hZ eT A (j := j) (x := x) (own_in q1 hj hi) (g := mkF m pc Ls (.int x :: .int j :: .ref a :: rest)) rfl rfl hd
  rw [(own_clamp hj).1] at W
  exact own_go _ st (k T' h' ⟨_, Y', Fr.snoc Y' N g0⟩ e' W (A'.set W))
theorem own_S.newP (X : own_S p l e R s m args below meth c n0 T cells slots) (hx : p.tables.exec = Jvm.exec) (hZ : Z.Warmed39 s.vm) {aty : ArrayType} (w1 : (Jvm.Cond.arrayClass (newarray.typeOf aty)).before a0 Z = true) (eT : T.heap = h) {j : Int32} (n : Nat) (hj : j.toInt = n) (hd : decode c.code pc = .ok (.newarray aty, 2)) (cap : Nat) (hn : n ≤ cap) (hb : cap * 8 ≤ 536870912) (hc : cells + 1 ≤ R.cells) (hl : slots + cap ≤ R.slots)
    (k : ∀ T' h' (b : Addr), own_S p l e R s m args below meth c n0 T' (cells + 1) (slots + cap) → T'.heap = h' → b = h.size → Ext h h' → own_A Z h' (newarray.typeOf aty) b (List.replicate n (defaultValue (newarray.typeOf aty))) → own_G p e below Fi T' (mkF m (pc + 2) Ls (.ref b :: rest))) :
    own_G p e below Fi T (mkF m pc Ls (.int j :: rest)) := by
  obtain ⟨locs, Y, N⟩ := X
  obtain ⟨c1, c2⟩ := own_clamp hj
  obtain ⟨T', h', cA, Y', e', E, A, st⟩ := Jvm.RoadKit.newP Y hx hZ w1 eT (g := mkF m pc Ls (.int j :: rest)) rfl hd rfl c2 (cap := cap) (by rw [c1]; exact hn) hb hc hl
  refine own_go _ st (k T' h' h.size ⟨_, Y', N⟩ e' rfl E ⟨_, A, ?_, ?_⟩)
  · simp [newA, c1]
  · rw [List.length_replicate]; omega
/-- calls -/
theorem own_S.callS (X : own_S p l e R s m args below meth c n0 T cells slots) (hx : p.tables.exec = Jvm.exec) (hZ : Z.Warmed39 s.vm) {own : String} {index : Nat} {y : MethodName} {bytes : ByteArray} {mx : Nat} {ret : Option FieldType} {rm : Room} {P : Option Value → Heap → Prop}
    (hown : s.vm.findClass own = some m.cls) (w1 : (Jvm.Cond.methodLink own index y).before a0 Z = true) (w2 : (Jvm.Cond.static y).before a0 Z = true) (w3 : (Jvm.Cond.initialized y.cls).before a0 Z = true) (w4 : (Jvm.Cond.code y bytes mx ret).before a0 Z = true) (hy : y.cls ≠ "java/lang/invoke/MethodHandle" ∧ y.cls ≠ "java/lang/invoke/VarHandle")
    (eT : T.heap = h) (argsL rest : List Value) (hM : own_C l Z y bytes mx ret [] rm argsL.toArray h (own_Q n0 P)) (W : Nat) (hf : rm.frames + 1 ≤ R.frames) (hlo : W + (mx + 11) + rm.locals ≤ R.locals) (hW : (rest.map fun v => v.category).sum ≤ W) (hc : cells + rm.cells ≤ R.cells) (hs : slots + rm.slots ≤ R.slots)
    {S : List Value} (hsize : Ls.size = c.maxLocals) (hlen : ∀ sig, parseMethodDescriptor y.desc = some sig → argsL.length = sig.parameters.length) (hS : S = argsL.reverse ++ rest) (hd : decode c.code pc = .ok (.invokestatic index, 3))
    (k : ∀ (T' : State) (v : Option Value), own_S p l e R s m args below meth c n0 T' (cells + rm.cells) (slots + rm.slots) → P v T'.heap → own_G p e below Fi T' (mkF m (pc + 3) Ls (v.toList ++ rest))) :
    own_G p e below Fi T (mkF m pc Ls S) := by
  obtain ⟨locs, Y, N⟩ := X
  exact own_callS Y hx hZ hown w1 w2 w3 w4 hy eT argsL rest hM W hf hlo hW hc hs hsize hlen hS hd fun T' v L Y' hq => k T' v ⟨_, Y', N.app hq.1⟩ hq.2
theorem own_S.callP (X : own_S p l e R s m args below meth c n0 T cells slots) (hx : p.tables.exec = Jvm.exec) (hZ : Z.Warmed39 s.vm) {own : String} {index : Nat} {y : MethodName} {bytes : ByteArray} {mx : Nat} {ret : Option FieldType} {fr lo : Nat} {r : Value}
    (hown : s.vm.findClass own = some m.cls) (w1 : (Jvm.Cond.methodLink own index y).before a0 Z = true) (w2 : (Jvm.Cond.static y).before a0 Z = true) (w3 : (Jvm.Cond.initialized y.cls).before a0 Z = true) (w4 : (Jvm.Cond.code y bytes mx ret).before a0 Z = true) (hy : y.cls ≠ "java/lang/invoke/MethodHandle" ∧ y.cls ≠ "java/lang/invoke/VarHandle")
    (eT : T.heap = h) (argsL rest : List Value) (hM : own_C l Z y bytes mx ret [] { frames := fr, cells := 0, slots := 0, locals := lo } argsL.toArray h (own_P r h)) (W : Nat) (hf : fr + 1 ≤ R.frames) (hlo : W + (mx + 11) + lo ≤ R.locals) (hW : (rest.map fun v => v.category).sum ≤ W) (hc : cells ≤ R.cells) (hs : slots ≤ R.slots)
    {S : List Value} (hsize : Ls.size = c.maxLocals) (hlen : ∀ sig, parseMethodDescriptor y.desc = some sig → argsL.length = sig.parameters.length) (hS : S = argsL.reverse ++ rest) (hd : decode c.code pc = .ok (.invokestatic index, 3))
    (k : ∀ (T' : State), own_S p l e R s m args below meth c n0 T' cells slots → T'.heap = h → own_G p e below Fi T' (mkF m (pc + 3) Ls (r :: rest))) :
    own_G p e below Fi T (mkF m pc Ls S) := by
  obtain ⟨locs, Y, N⟩ := X
  exact own_callP Y hx hZ hown w1 w2 w3 w4 hy eT argsL rest hM W hf hlo hW hc hs hsize hlen hS hd fun T' Y' e' => k T' ⟨_, Y', N⟩ e'
theorem own_S.callI (X : own_S p l e R s m args below meth c n0 T cells slots) (hx : p.tables.exec = Jvm.exec) (hZ : Z.Warmed39 s.vm) {own : String} {index : Nat} {y : MethodName} {bytes : ByteArray} {mx : Nat} {rm : Room} {P : Option Value → Heap → Prop} (hy1 : y.name = "<init>")
    (hown : s.vm.findClass own = some m.cls) (w1 : (Jvm.Cond.methodLink own index y).before a0 Z = true) (w2 : (Jvm.Cond.instanceMethod y).before a0 Z = true) (w3 : (Jvm.Cond.initialized y.cls).before a0 Z = true) (w4 : (Jvm.Cond.code y bytes mx none).before a0 Z = true) (hy : y.cls ≠ "java/lang/invoke/MethodHandle" ∧ y.cls ≠ "java/lang/invoke/VarHandle")
    (eT : T.heap = h) (a : Addr) (argsL rest : List Value) (hM : own_C l Z y bytes mx none [] rm (.ref a :: argsL).toArray h (own_Q n0 P)) (W : Nat) (hf : rm.frames + 1 ≤ R.frames) (hlo : W + (mx + 11) + rm.locals ≤ R.locals) (hW : (rest.map fun v => v.category).sum ≤ W) (hc : cells + rm.cells ≤ R.cells) (hs : slots + rm.slots ≤ R.slots)
    {S : List Value} (hsize : Ls.size = c.maxLocals) (hlen : ∀ sig, parseMethodDescriptor y.desc = some sig → argsL.length = sig.parameters.length) (hS : S = argsL.reverse ++ .ref a :: rest) (hd : decode c.code pc = .ok (.invokespecial index, 3))
    (k : ∀ (T' : State) (v : Option Value), own_S p l e R s m args below meth c n0 T' (cells + rm.cells) (slots + rm.slots) → P v T'.heap → own_G p e below Fi T' (mkF m (pc + 3) Ls (v.toList ++ rest))) :
    own_G p e below Fi T (mkF m pc Ls S) := by
  obtain ⟨locs, Y, N⟩ := X
  exact own_callI Y hx hZ hy1 hown w1 w2 w3 w4 hy eT a argsL rest hM W hf hlo hW hc hs hsize hlen hS hd fun T' v L Y' hq => k T' v ⟨_, Y', N.app hq.1⟩ hq.2
theorem own_S.callV (X : own_S p l e R s m args below meth c n0 T cells slots) (hx : p.tables.exec = Jvm.exec) (hZ : Z.Warmed39 s.vm) {own C : String} {index : Nat} {y : MethodName} {bytes : ByteArray} {mx : Nat} {ret : Option FieldType} {rm : Room} {P : Option Value → Heap → Prop}
    (hown : s.vm.findClass own = some m.cls) (w1 : (Jvm.Cond.methodLink own index y).before a0 Z = true) (w5 : (Jvm.Cond.declares y).before a0 Z = true) (w6 : (Jvm.Cond.selects C y y).before a0 Z = true) (w2 : (Jvm.Cond.instanceMethod y).before a0 Z = true) (w3 : (Jvm.Cond.initialized y.cls).before a0 Z = true) (w4 : (Jvm.Cond.code y bytes mx ret).before a0 Z = true) (hy : y.cls ≠ "java/lang/invoke/MethodHandle" ∧ y.cls ≠ "java/lang/invoke/VarHandle")
    (eT : T.heap = h) {a : Addr} (E : Exa Z h a C) (argsL rest : List Value) (hM : own_C l Z y bytes mx ret [] rm (.ref a :: argsL).toArray h (own_Q n0 P)) (W : Nat) (hf : rm.frames + 1 ≤ R.frames) (hlo : W + (mx + 11) + rm.locals ≤ R.locals) (hW : (rest.map fun v => v.category).sum ≤ W) (hc : cells + rm.cells ≤ R.cells) (hs : slots + rm.slots ≤ R.slots)
    {S : List Value} (hsize : Ls.size = c.maxLocals) (hlen : ∀ sig, parseMethodDescriptor y.desc = some sig → argsL.length = sig.parameters.length) (hS : S = argsL.reverse ++ .ref a :: rest) (hd : decode c.code pc = .ok (.invokevirtual index, 3))
    (k : ∀ (T' : State) (v : Option Value), own_S p l e R s m args below meth c n0 T' (cells + rm.cells) (slots + rm.slots) → P v T'.heap → own_G p e below Fi T' (mkF m (pc + 3) Ls (v.toList ++ rest))) :
    own_G p e below Fi T (mkF m pc Ls S) := by
  obtain ⟨locs, Y, N⟩ := X
  exact own_callV Y hx hZ hown w1 w5 w6 w2 w3 w4 hy eT E argsL rest hM W hf hlo hW hc hs hsize hlen hS hd fun T' v L Y' hq => k T' v ⟨_, Y', N.app hq.1⟩ hq.2
end OwnHeap
section OwnPriv
variable {p : Program} {l : Launch} {e : Env} {R : Room} {s : State} {m : MethodId} {args : Array Value} {below : List Frame} {meth : Method} {c : Code} {T T' : State} {locs : List Loc} {cells slots n0 n : Nat} {Q : Option Value → Heap → List Loc → Prop} {kc ks : Nat} {Z : State} {a0 : Array Value} {h h' h0 : Heap} {a b : Addr} {pc : Nat} {Ls : Array Slot} {rest : List Value} {Fi : State → Prop} {kk : Nat} {vm0 : Vm} {k0 : Nat}
/-- a private instance method's call by invokevirtual -/
theorem own_S.callR (X : own_S p l e R s m args below meth c n0 T cells slots) (hx : p.tables.exec = Jvm.exec) (hZ : Z.Warmed39 s.vm) {own : String} {index ni : Nat} {y : MethodName} {bytes : ByteArray} {mx : Nat} {ret : Option FieldType} {rm : Room} {P : Option Value → Heap → Prop}
    (hown : s.vm.findClass own = some m.cls) (w1 : (Jvm.Cond.methodLink own index y).before a0 Z = true) (w5 : (Jvm.Cond.instantiable y.cls ni).before a0 Z = true) (w6 : (Jvm.Cond.privateMethod y).before a0 Z = true) (w2 : (Jvm.Cond.instanceMethod y).before a0 Z = true) (w3 : (Jvm.Cond.initialized y.cls).before a0 Z = true) (w4 : (Jvm.Cond.code y bytes mx ret).before a0 Z = true) (hy : y.cls ≠ "java/lang/invoke/MethodHandle" ∧ y.cls ≠ "java/lang/invoke/VarHandle")
    (eT : T.heap = h) {a : Addr} {C : String} (E : Exa Z h a C) (argsL rest : List Value) (hM : own_C l Z y bytes mx ret [] rm (.ref a :: argsL).toArray h (own_Q n0 P)) (W : Nat) (hf : rm.frames + 1 ≤ R.frames) (hlo : W + (mx + 11) + rm.locals ≤ R.locals) (hW : (rest.map fun v => v.category).sum ≤ W) (hc : cells + rm.cells ≤ R.cells) (hs : slots + rm.slots ≤ R.slots)
    {S : List Value} (hsize : Ls.size = c.maxLocals) (hlen : ∀ sig, parseMethodDescriptor y.desc = some sig → argsL.length = sig.parameters.length) (hS : S = argsL.reverse ++ .ref a :: rest) (hd : decode c.code pc = .ok (.invokevirtual index, 3))
    (k : ∀ (T' : State) (v : Option Value), own_S p l e R s m args below meth c n0 T' (cells + rm.cells) (slots + rm.slots) → P v T'.heap → own_G p e below Fi T' (mkF m (pc + 3) Ls (v.toList ++ rest))) :
    own_G p e below Fi T (mkF m pc Ls S) := by
  obtain ⟨locs, Y, N⟩ := X
  obtain ⟨cq, q1', q2'⟩ := E.cell
  have hpr : (Jvm.Cond.privateMethod y).before args s = true := mvP hZ w6
  have hin : (Jvm.Cond.instanceMethod y).before args s = true := mvT hZ w2
  have hsel : (Jvm.Cond.selects y.cls y y).before args s = true := Jvm.Kit.selects_private hy (mvT hZ w5) hpr hin
  obtain ⟨v, _, ⟨T', L', k', n'⟩, -, X', ⟨L, hQ, q1, q2, q3⟩, st⟩ := Y.privateBack hx (y := y) hown (mvT hZ w1) hin hsel (Jvm.Cond.privateMethod_at hpr) (mvT hZ w4) hy (backOf (W := W) hM hZ w4 w3 hf hlo) (g := mkF m pc Ls S) rfl hsize (Steps.refl _) (a := a) (by rw [eT]; exact q1') q2' (argsL := argsL) (rest := rest) hlen hS (by show 2 * 0 + _ ≤ _; omega) hd (fun _ _ => ⟨rfl, eT, hc, hs⟩)
  dsimp only [Pt.U, Pt.locs, Pt.cells, Pt.slots] at X' q1 q2 q3 st hQ
  subst q1 q2 q3
  exact own_go _ (fun t kt => st.trans kt) (k T' v ⟨_, X', N.app hQ.1⟩ hQ.2)
end OwnPriv
section OwnWide
variable {p : Program} {l : Launch} {e : Env} {R : Room} {s : State} {m : MethodId} {args : Array Value} {below : List Frame} {meth : Method} {c : Code} {T T' : State} {cells slots n0 : Nat} {kc ks : Nat} {g : JFrame} {Z : State} {a0 : Array Value} {h h' h0 : Heap} {a b : Addr} {pc : Nat} {Ls : Array Slot} {rest : List Value} {Fi : State → Prop} {kk : Nat} {vm0 : Vm} {k0 : Nat}
/-- a String constant, by ldc: the walk's start is rebased -/
theorem own_S.ldcS (X : own_S p l e R (s.setVm vm0) m args below meth c n0 T cells slots) (hx : p.tables.exec = Jvm.exec) (hZ : Z.Warmed39 (s.setVm vm0).vm) {own text : String} {index : Nat} (hown : (s.setVm vm0).vm.findClass own = some m.cls) (w : (Jvm.Cond.stringLink own index text).before a0 Z = true) (wS : ∀ a ∈ Bundle.stringAtoms, a.before a0 Z = true)
    (eT : T.heap = h) (hS : s.Since vm0 k0) (hk : k0 ≤ h.size) (n : Nat) (hn : 4 * text.toList.length ≤ n) (hbig : n ≤ 536870912) (hc : cells + 2 ≤ R.cells) (hl : slots + (n + 4) ≤ R.slots) (hd : decode c.code pc = .ok (.ldc index, 2))
    (k : ∀ (T' : State) (h' : Heap) (vm1 : Vm) (k1 : Nat) (a : Addr), own_S p l e R (s.setVm vm1) m args below meth c n0 T' (cells + 2) (slots + (n + 4)) → T'.heap = h' → Ext h h' → s.Since vm1 k1 → k1 ≤ h'.size → Z.Warmed39 (s.setVm vm1).vm → (s.setVm vm1).vm.findClass own = some m.cls → own_G p e below Fi T' (mkF m (pc + 2) Ls (.ref a :: rest))) :
    own_G p e below Fi T (mkF m pc Ls rest) := by
  obtain ⟨locs, Y, N⟩ := X
  obtain ⟨a, T', h', k1, Y', e', E, hS', hk', hZ', hown', st⟩ := Jvm.RoadKit.ldcS Y hx hZ hown w wS eT hS hk (g := mkF m pc Ls rest) rfl hd hn hbig hc hl
  exact own_go _ st (k T' h' _ k1 a ⟨locs, Y', N⟩ e' E hS' hk' hZ' hown')
/-- a static call of a method that may intern -/
theorem own_S.callSW (X : own_S p l e R (s.setVm vm0) m args below meth c n0 T cells slots) (hx : p.tables.exec = Jvm.exec) (hZ : Z.Warmed39 (s.setVm vm0).vm) {own : String} {index : Nat} {y : MethodName} {bytes : ByteArray} {mx : Nat} {ret : Option FieldType} {rm : Room} {P : Option Value → Heap → Prop}
    (hown : (s.setVm vm0).vm.findClass own = some m.cls) (w1 : (Jvm.Cond.methodLink own index y).before a0 Z = true) (w2 : (Jvm.Cond.static y).before a0 Z = true) (w3 : (Jvm.Cond.initialized y.cls).before a0 Z = true) (w4 : (Jvm.Cond.code y bytes mx ret).before a0 Z = true) (hy : y.cls ≠ "java/lang/invoke/MethodHandle" ∧ y.cls ≠ "java/lang/invoke/VarHandle")
    (eT : T.heap = h) (hS : s.Since vm0 k0) (hk : k0 ≤ h.size) (argsL rest : List Value) (hM : own_CW l Z y bytes mx ret [] rm argsL.toArray h (own_Q n0 P)) (W : Nat) (hf : rm.frames + 1 ≤ R.frames) (hlo : W + (mx + 11) + rm.locals ≤ R.locals) (hW : (rest.map fun v => v.category).sum ≤ W) (hc : cells + rm.cells ≤ R.cells) (hs : slots + rm.slots ≤ R.slots)
    {S : List Value} (hsize : Ls.size = c.maxLocals) (hlen : ∀ sig, parseMethodDescriptor y.desc = some sig → argsL.length = sig.parameters.length) (hSt : S = argsL.reverse ++ rest) (hd : decode c.code pc = .ok (.invokestatic index, 3))
    (k : ∀ (T' : State) (v : Option Value) (vm1 : Vm) (k1 : Nat), own_S p l e R (s.setVm vm1) m args below meth c n0 T' (cells + rm.cells) (slots + rm.slots) → P v T'.heap → s.Since vm1 k1 → k1 ≤ T'.heap.size → Z.Warmed39 (s.setVm vm1).vm → (s.setVm vm1).vm.findClass own = some m.cls → own_G p e below Fi T' (mkF m (pc + 3) Ls (v.toList ++ rest))) :
    own_G p e below Fi T (mkF m pc Ls S) := by
  obtain ⟨locs, Y, N⟩ := X
  subst eT
  obtain ⟨v, _, ⟨T', L', k', n'⟩, -, X', hS', hg, ⟨L, hQ, q1, q2, q3⟩, st⟩ := Jvm.RoadKit.callSS Y hx (y := y) hown (mvT hZ w1) (mvT hZ w2) (mvT hZ w3) (mvT hZ w4) hy (Jvm.RoadKit.backOfS (W := W) hM hZ w4 w3 hf hlo) (g := mkF m pc Ls S) rfl hsize (argsL := argsL) (rest := rest) hlen hSt (by show 2 * 0 + _ ≤ _; omega) hd (fun _ _ => ⟨rfl, rfl, hc, hs⟩)
  dsimp only [Pt.U, Pt.locs, Pt.cells, Pt.slots] at X' q1 q2 q3 st hQ hS' hg
  subst q1 q2 q3
  exact own_go _ (fun t kt => st.trans kt) (k T' v T'.vm _ ⟨_, X', N.app hQ.1⟩ hQ.2 (hS.trans hS' (Nat.le_trans hk hg)) (Nat.le_refl _) (State.Warmed39.trans (t := s.setVm vm0) hZ hS'.1) (by rw [show (s.setVm T'.vm).vm = T'.vm from rfl, hS'.1.alike.findClass]; exact hown))
/-- a constructor's call that may intern -/
theorem own_S.callIW (X : own_S p l e R (s.setVm vm0) m args below meth c n0 T cells slots) (hx : p.tables.exec = Jvm.exec) (hZ : Z.Warmed39 (s.setVm vm0).vm) {own : String} {index : Nat} {y : MethodName} {bytes : ByteArray} {mx : Nat} {rm : Room} {P : Option Value → Heap → Prop} (hy1 : y.name = "<init>")
    (hown : (s.setVm vm0).vm.findClass own = some m.cls) (w1 : (Jvm.Cond.methodLink own index y).before a0 Z = true) (w2 : (Jvm.Cond.instanceMethod y).before a0 Z = true) (w3 : (Jvm.Cond.initialized y.cls).before a0 Z = true) (w4 : (Jvm.Cond.code y bytes mx none).before a0 Z = true) (hy : y.cls ≠ "java/lang/invoke/MethodHandle" ∧ y.cls ≠ "java/lang/invoke/VarHandle")
    (eT : T.heap = h) (hS : s.Since vm0 k0) (hk : k0 ≤ h.size) (a : Addr) (argsL rest : List Value) (hM : own_CW l Z y bytes mx none [] rm (.ref a :: argsL).toArray h (own_Q n0 P)) (W : Nat) (hf : rm.frames + 1 ≤ R.frames) (hlo : W + (mx + 11) + rm.locals ≤ R.locals) (hW : (rest.map fun v => v.category).sum ≤ W) (hc : cells + rm.cells ≤ R.cells) (hs : slots + rm.slots ≤ R.slots)
    {S : List Value} (hsize : Ls.size = c.maxLocals) (hlen : ∀ sig, parseMethodDescriptor y.desc = some sig → argsL.length = sig.parameters.length) (hSt : S = argsL.reverse ++ .ref a :: rest) (hd : decode c.code pc = .ok (.invokespecial index, 3))
    (k : ∀ (T' : State) (v : Option Value) (vm1 : Vm) (k1 : Nat), own_S p l e R (s.setVm vm1) m args below meth c n0 T' (cells + rm.cells) (slots + rm.slots) → P v T'.heap → s.Since vm1 k1 → k1 ≤ T'.heap.size → Z.Warmed39 (s.setVm vm1).vm → (s.setVm vm1).vm.findClass own = some m.cls → own_G p e below Fi T' (mkF m (pc + 3) Ls (v.toList ++ rest))) :
    own_G p e below Fi T (mkF m pc Ls S) := by
  obtain ⟨locs, Y, N⟩ := X
  subst eT
  obtain ⟨v, _, ⟨T', L', k', n'⟩, -, X', hS', hg, ⟨L, hQ, q1, q2, q3⟩, st⟩ := Y.specialBackS hx (y := y) hy1 hown (mvT hZ w1) (mvT hZ w2) (mvT hZ w4) hy (Jvm.RoadKit.backOfS (W := W) hM hZ w4 w3 hf hlo) (g := mkF m pc Ls S) rfl hsize (Steps.refl _) (a := a) (argsL := argsL) (rest := rest) hlen hSt (by show 2 * 0 + _ ≤ _; omega) hd (fun _ _ => ⟨rfl, rfl, hc, hs⟩)
  dsimp only [Pt.U, Pt.locs, Pt.cells, Pt.slots] at X' q1 q2 q3 st hQ hS' hg
  subst q1 q2 q3
  exact own_go _ (fun t kt => st.trans kt) (k T' v T'.vm _ ⟨_, X', N.app hQ.1⟩ hQ.2 (hS.trans hS' (Nat.le_trans hk hg)) (Nat.le_refl _) (State.Warmed39.trans (t := s.setVm vm0) hZ hS'.1) (by rw [show (s.setVm T'.vm).vm = T'.vm from rfl, hS'.1.alike.findClass]; exact hown))
end OwnWide
section OwnLongs
variable {p : Program} {l : Launch} {e : Env} {R : Room} {s : State} {m : MethodId} {args : Array Value} {below : List Frame} {meth : Method} {c : Code} {T T' : State} {cells slots n0 n : Nat} {g : JFrame} {Z : State} {a0 : Array Value} {h h' h0 : Heap} {a b : Addr} {v w : Value} {sl pc : Nat} {Ls : Array Slot} {rest : List Value} {Fi : State → Prop} {f : Nat → Int64}
/-- a long[] of n places by the function of what it holds -/
def own_L (Z : State) (h : Heap) (a : Addr) (n : Nat) (f : Nat → Int64) : Prop := ∃ cl : Cell, Arr Z h a cl .long ∧ cl.slots.size = n ∧ n < 2 ^ 31 ∧ ∀ k, k < n → cl.slots[k]? = some (.long (f k))
theorem own_L.lt (A : own_L Z h a n f) : a < h.size := A.elim fun _ q => q.1.lt
theorem own_L.ext (A : own_L Z h a n f) (E : Ext h h') : own_L Z h' a n f := A.elim fun cl q => ⟨cl, q.1.ext E, q.2⟩
theorem own_L.other (A : own_L Z h b n f) (W : Wr h h' a sl v) (q : b ≠ a) : own_L Z h' b n f := A.elim fun cl r => ⟨cl, r.1.other W q, r.2⟩
theorem own_L.keep {ws : List Addr} (A : own_L Z h a n f) (K : Keep h h' ws) (q : a ∉ ws) : own_L Z h' a n f := A.elim fun cl r => ⟨cl, ⟨K.2.1 a cl r.1.1 q, r.1.2⟩, r.2⟩
theorem own_L.new (A : own_A Z h .long a (List.replicate n (.long 0))) : own_L Z h a n (fun _ => 0) := by
  obtain ⟨cl, A, q1, q2⟩ := A
  rw [List.length_replicate] at q2
  refine ⟨cl, A, by rw [q1]; simp, q2, fun k hk => by rw [q1]; simp [hk]⟩
/-- the function with one place changed -/
def own_up (f : Nat → Int64) (i : Nat) (x : Int64) : Nat → Int64 := fun k => if k = i then x else f k
theorem own_L.set (A : own_L Z h a n f) {i : Nat} {x : Int64} (W : Wr h h' a i (.long x)) : own_L Z h' a n (own_up f i x) := by
  obtain ⟨cl, A, q1, q2, q3⟩ := A
  refine ⟨_, A.same W, by rw [sz_set]; exact q1, q2, fun k hk => ?_⟩
  unfold own_up
  by_cases u : k = i
  · subst u; rw [if_pos rfl]; simp [Cell.setSlot, q1, hk]
  · rw [if_neg u]
    simp only [Cell.setSlot]; rw [Array.getElem?_setIfInBounds_ne (Ne.symm u)]; exact q3 k hk
theorem own_inL {cl : Cell} (q1 : cl.slots.size = n) {j : Int32} {i : Nat} (hj : j.toInt = i) (hi : i < n) : ¬ (j < 0 ∨ cl.slots.size ≤ j.toNatClampNeg) := by
  obtain ⟨c1, c2⟩ := own_clamp hj
  rw [q1, c1]; intro r
  rcases r with r | r
  · exact c2 r
  · omega
theorem own_S.ldJf (X : own_S p l e R s m args below meth c n0 T cells slots) (hx : p.tables.exec = Jvm.exec) (hZ : Z.Warmed39 s.vm) (eT : T.heap = h) (A : own_L Z h a n f) {j : Int32} (i : Nat) (hj : j.toInt = i) (hi : i < n) (hd : decode c.code pc = .ok (.laload, 1))
    (k : own_G p e below Fi T (mkF m (pc + 1) Ls (.long (f i) :: rest))) : own_G p e below Fi T (mkF m pc Ls (.int j :: .ref a :: rest)) := by
  obtain ⟨locs, Y, N⟩ := X
  obtain ⟨cl, A, q1, q2, q3⟩ := A
  refine own_go _ (fun t kt => Y.laload hx (j := j) (v := .long (f i)) (by rw [eT]; exact A.1) (State.isArrayOf_alike hZ.alike A.2.1) A.2.2 (own_inL q1 hj hi) (by rw [(own_clamp hj).1]; exact q3 i hi) (g := mkF m pc Ls (.int j :: .ref a :: rest)) rfl rfl hd t kt) k
theorem own_S.stJf (X : own_S p l e R s m args below meth c n0 T cells slots) (hx : p.tables.exec = Jvm.exec) (hZ : Z.Warmed39 s.vm) (eT : T.heap = h) (A : own_L Z h a n f) (g0 : n0 ≤ a) {j : Int32} {x : Int64} (i : Nat) (hj : j.toInt = i) (hi : i < n) (hd : decode c.code pc = .ok (.lastore, 1))
    (k : ∀ T' h', own_S p l e R s m args below meth c n0 T' cells slots → T'.heap = h' → Wr h h' a i (.long x) → own_L Z h' a n (own_up f i x) → own_G p e below Fi T' (mkF m (pc + 1) Ls rest)) : own_G p e below Fi T (mkF m pc Ls (.long x :: .int j :: .ref a :: rest)) := by
  obtain ⟨locs, Y, N⟩ := X
  have A' := A
  obtain ⟨cl, A, q1, q2, q3⟩ := A
  obtain ⟨T', h', Y', e', W, st⟩ := Jvm.RoadKit.stJ Y hx hZ eT A (j := j) (x := x) (own_inL q1 hj hi) (g := mkF m pc Ls (.long x :: .int j :: .ref a :: rest)) rfl rfl hd
  rw [(own_clamp hj).1] at W
  exact own_go _ st (k T' h' ⟨_, Y', Fr.snoc Y' N g0⟩ e' W (A'.set W))
end OwnLongs
theorem own_pd0 : parseMethodDescriptor "(I)I" = some ⟨[.int], some .int⟩ := by decide +kernel
theorem own_pd1 : parseMethodDescriptor "(JJ)J" = some ⟨[.long, .long], some .long⟩ := by decide +kernel
theorem own_pd2 : parseMethodDescriptor "(JILjava/lang/String;)I" = some ⟨[.long, .int, (.object "java/lang/String")], some .int⟩ := by decide +kernel
theorem own_pd3 : parseMethodDescriptor "(JI)I" = some ⟨[.long, .int], some .int⟩ := by decide +kernel
theorem own_pd4 : parseMethodDescriptor "([J[JI)V" = some ⟨[(.array .long), (.array .long), .int], none⟩ := by decide +kernel
theorem own_pd5 : parseMethodDescriptor "(JI)Lcom/example/quotient/quotient/LongArray;" = some ⟨[.long, .int], some (.object "com/example/quotient/quotient/LongArray")⟩ := by decide +kernel
theorem own_pd6 : parseMethodDescriptor "(J)I" = some ⟨[.long], some .int⟩ := by decide +kernel
theorem own_pd7 : parseMethodDescriptor "(II)I" = some ⟨[.int, .int], some .int⟩ := by decide +kernel
theorem own_pd8 : parseMethodDescriptor "(J)Lcom/example/quotient/quotient/LongArray;" = some ⟨[.long], some (.object "com/example/quotient/quotient/LongArray")⟩ := by decide +kernel
theorem own_pd9 : parseMethodDescriptor "(J)J" = some ⟨[.long], some .long⟩ := by decide +kernel
theorem own_pd10 : parseMethodDescriptor "(I)J" = some ⟨[.int], some .long⟩ := by decide +kernel
theorem own_pd11 : parseMethodDescriptor "(IJ)V" = some ⟨[.int, .long], none⟩ := by decide +kernel
theorem own_pd12 : parseMethodDescriptor "(J)V" = some ⟨[.long], none⟩ := by decide +kernel
theorem own_pd13 : parseMethodDescriptor "()Z" = some ⟨[], some .boolean⟩ := by decide +kernel
theorem own_sat {Z : State} {a0 : Array Value} (hw : ∀ d ∈ tables_1, d.before a0 Z = true) : ∀ a ∈ Bundle.stringAtoms, a.before a0 Z = true := by
  intro a ha
  simp only [Bundle.stringAtoms, List.mem_cons, List.not_mem_nil, or_false] at ha
  rcases ha with rfl | rfl | rfl | rfl | rfl | rfl | rfl
  · exact (hw _ (List.mem_of_getElem? (i := 45) rfl))
  · exact (hw _ (List.mem_of_getElem? (i := 46) rfl))
  · exact (hw _ (List.mem_of_getElem? (i := 47) rfl))
  · exact (hw _ (List.mem_of_getElem? (i := 48) rfl))
  · exact (hw _ (List.mem_of_getElem? (i := 49) rfl))
  · exact (hw _ (List.mem_of_getElem? (i := 50) rfl))
  · exact (hw _ (List.mem_of_getElem? (i := 51) rfl))

def own_capf (x : Int64) : Int32 := (if (-16 : Int64) < x then (if x < (64 : Int64) then (1 : Int32) else (if x < (128 : Int64) then (2 : Int32) else (if x < (256 : Int64) then (4 : Int32) else (8 : Int32)))) else (8 : Int32))
theorem own_dC_0 : decode method_2_code 0 = .ok (.lload_n 0, 1) := by decide +kernel
theorem own_dC_1 : decode method_2_code 1 = .ok (.ldc2_w 7, 3) := by decide +kernel
theorem own_dC_4 : decode method_2_code 4 = .ok (.lcmp, 1) := by decide +kernel
theorem own_dC_5 : decode method_2_code 5 = .ok (.ifCond .gt 6, 3) := by decide +kernel
theorem own_dC_8 : decode method_2_code 8 = .ok (.bipush 8, 2) := by decide +kernel
theorem own_dC_10 : decode method_2_code 10 = .ok (.ireturn, 1) := by decide +kernel
theorem own_dC_11 : decode method_2_code 11 = .ok (.lload_n 0, 1) := by decide +kernel
theorem own_dC_12 : decode method_2_code 12 = .ok (.ldc2_w 9, 3) := by decide +kernel
theorem own_dC_15 : decode method_2_code 15 = .ok (.lcmp, 1) := by decide +kernel
theorem own_dC_16 : decode method_2_code 16 = .ok (.ifCond .ge 5, 3) := by decide +kernel
theorem own_dC_19 : decode method_2_code 19 = .ok (.iconst 1, 1) := by decide +kernel
theorem own_dC_20 : decode method_2_code 20 = .ok (.ireturn, 1) := by decide +kernel
theorem own_dC_21 : decode method_2_code 21 = .ok (.lload_n 0, 1) := by decide +kernel
theorem own_dC_22 : decode method_2_code 22 = .ok (.ldc2_w 11, 3) := by decide +kernel
theorem own_dC_25 : decode method_2_code 25 = .ok (.lcmp, 1) := by decide +kernel
theorem own_dC_26 : decode method_2_code 26 = .ok (.ifCond .ge 5, 3) := by decide +kernel
theorem own_dC_29 : decode method_2_code 29 = .ok (.iconst 2, 1) := by decide +kernel
theorem own_dC_30 : decode method_2_code 30 = .ok (.ireturn, 1) := by decide +kernel
theorem own_dC_31 : decode method_2_code 31 = .ok (.lload_n 0, 1) := by decide +kernel
theorem own_dC_32 : decode method_2_code 32 = .ok (.ldc2_w 13, 3) := by decide +kernel
theorem own_dC_35 : decode method_2_code 35 = .ok (.lcmp, 1) := by decide +kernel
theorem own_dC_36 : decode method_2_code 36 = .ok (.ifCond .ge 5, 3) := by decide +kernel
theorem own_dC_39 : decode method_2_code 39 = .ok (.iconst 4, 1) := by decide +kernel
theorem own_dC_40 : decode method_2_code 40 = .ok (.ireturn, 1) := by decide +kernel
theorem own_dC_41 : decode method_2_code 41 = .ok (.bipush 8, 2) := by decide +kernel
theorem own_dC_43 : decode method_2_code 43 = .ok (.ireturn, 1) := by decide +kernel
theorem own_pn_own_rmC : plainFor (⟨"com/example/quotient/quotient/LongTableFullPinLaw", "capacity", "(J)I"⟩ : MethodName) = true := plainFor_of_name (show plainName "com/example/quotient/quotient/LongTableFullPinLaw" = true by first | (simp [plainName, overriddenIn]; done) | decide +kernel)
set_option maxRecDepth 65536 in
set_option maxHeartbeats 40000000 in
theorem own_rmC (l : Launch) (Z : State) (a0 : Array Value) (hw : ∀ d ∈ tables_1, d.before a0 Z = true) (ws : List Jvm.Cond) (h0 : Heap) (x : Int64)  :
    own_C l Z (⟨"com/example/quotient/quotient/LongTableFullPinLaw", "capacity", "(J)I"⟩ : MethodName) method_2_code 2 (some .int) ws ({ frames := 0, cells := 0, slots := 0, locals := 0 } : Room) #[(.long x)] h0 (own_P (.int (own_capf x)) h0) := by
  refine own_met own_pn_own_rmC #[jv x, .second] (fun m => by first | (simp [entryFrame, mkF, argsToLocals, Value.category]; done) | rfl) ?_
  intro p e s m below meth c s₁ Fi hx hby hml hown hret hlk hZ hnm hF X0 e0
  refine own_gs 1 [(.long x)] (fun t' k => XS.lloadN X0.here hx rfl (hb hby own_dC_0) rfl  k) ?_
  refine own_gs 4 [(.long (-16 : Int64)), (.long x)] (fun t' k => X0.ldc2Long hx hown (mvT hZ (hw _ (List.mem_of_getElem? (i := 4) rfl))) (g := (mkF m 1 #[jv x, .second] [(.long x)])) rfl (hb hby own_dC_1) _ k) ?_
  refine own_gs 5 [(.int (lcmpW x (-16 : Int64)))] (fun t' k => XS.lcmp X0.here hx rfl (hb hby own_dC_4) rfl k) ?_
  by_cases hc5 : (-16 : Int64) < x
  · skip
    refine own_gs 11 [] (fun t' k => XS.ifYes X0.here hx rfl (pc0 := 5) (pc' := 11) rfl (hb hby own_dC_5) rfl ((if0 _ _).trans (tlt ((lw_gt x (-16 : Int64)).mpr hc5)).2.2.1) (by decide) (by decide) k) ?_
    refine own_gs 12 [(.long x)] (fun t' k => XS.lloadN X0.here hx rfl (hb hby own_dC_11) rfl  k) ?_
    refine own_gs 15 [(.long (64 : Int64)), (.long x)] (fun t' k => X0.ldc2Long hx hown (mvT hZ (hw _ (List.mem_of_getElem? (i := 5) rfl))) (g := (mkF m 12 #[jv x, .second] [(.long x)])) rfl (hb hby own_dC_12) _ k) ?_
    refine own_gs 16 [(.int (lcmpW x (64 : Int64)))] (fun t' k => XS.lcmp X0.here hx rfl (hb hby own_dC_15) rfl k) ?_
    by_cases hc16 : x < (64 : Int64)
    · skip
      refine own_gs 19 [] (fun t' k => XS.ifNo X0.here hx rfl (hb hby own_dC_16) rfl ((if0 _ _).trans (tlt ((lw_lt x (64 : Int64)).mpr hc16)).2.1) k) ?_
      refine own_gs 20 [(.int (1 : Int32))] (fun t' k => XS.iconst X0.here hx rfl (hb hby own_dC_19) k) ?_
      refine own_retI hF (Nat.zero_le _) X0 hx hlk hret (hb hby own_dC_20) ?_ (by decide) (by decide)
      exact ⟨congrArg (fun z => some (Value.int z)) ((show (own_capf x) = (1 : Int32) from ((if_pos hc5).trans ((if_pos hc16).trans rfl))).trans (by rfl : (1 : Int32) = (1 : Int32))).symm, e0, rfl⟩
    · skip
      refine own_gs 21 [] (fun t' k => XS.ifYes X0.here hx rfl (pc0 := 16) (pc' := 21) rfl (hb hby own_dC_16) rfl ((if0 _ _).trans (flt (fun q' => hc16 ((lw_lt x (64 : Int64)).mp q'))).2.1) (by decide) (by decide) k) ?_
      refine own_gs 22 [(.long x)] (fun t' k => XS.lloadN X0.here hx rfl (hb hby own_dC_21) rfl  k) ?_
      refine own_gs 25 [(.long (128 : Int64)), (.long x)] (fun t' k => X0.ldc2Long hx hown (mvT hZ (hw _ (List.mem_of_getElem? (i := 111) rfl))) (g := (mkF m 22 #[jv x, .second] [(.long x)])) rfl (hb hby own_dC_22) _ k) ?_
      refine own_gs 26 [(.int (lcmpW x (128 : Int64)))] (fun t' k => XS.lcmp X0.here hx rfl (hb hby own_dC_25) rfl k) ?_
      by_cases hc26 : x < (128 : Int64)
      · skip
        refine own_gs 29 [] (fun t' k => XS.ifNo X0.here hx rfl (hb hby own_dC_26) rfl ((if0 _ _).trans (tlt ((lw_lt x (128 : Int64)).mpr hc26)).2.1) k) ?_
        refine own_gs 30 [(.int (2 : Int32))] (fun t' k => XS.iconst X0.here hx rfl (hb hby own_dC_29) k) ?_
        refine own_retI hF (Nat.zero_le _) X0 hx hlk hret (hb hby own_dC_30) ?_ (by decide) (by decide)
        exact ⟨congrArg (fun z => some (Value.int z)) ((show (own_capf x) = (2 : Int32) from ((if_pos hc5).trans ((if_neg hc16).trans ((if_pos hc26).trans rfl)))).trans (by rfl : (2 : Int32) = (2 : Int32))).symm, e0, rfl⟩
      · skip
        refine own_gs 31 [] (fun t' k => XS.ifYes X0.here hx rfl (pc0 := 26) (pc' := 31) rfl (hb hby own_dC_26) rfl ((if0 _ _).trans (flt (fun q' => hc26 ((lw_lt x (128 : Int64)).mp q'))).2.1) (by decide) (by decide) k) ?_
        refine own_gs 32 [(.long x)] (fun t' k => XS.lloadN X0.here hx rfl (hb hby own_dC_31) rfl  k) ?_
        refine own_gs 35 [(.long (256 : Int64)), (.long x)] (fun t' k => X0.ldc2Long hx hown (mvT hZ (hw _ (List.mem_of_getElem? (i := 112) rfl))) (g := (mkF m 32 #[jv x, .second] [(.long x)])) rfl (hb hby own_dC_32) _ k) ?_
        refine own_gs 36 [(.int (lcmpW x (256 : Int64)))] (fun t' k => XS.lcmp X0.here hx rfl (hb hby own_dC_35) rfl k) ?_
        by_cases hc36 : x < (256 : Int64)
        · skip
          refine own_gs 39 [] (fun t' k => XS.ifNo X0.here hx rfl (hb hby own_dC_36) rfl ((if0 _ _).trans (tlt ((lw_lt x (256 : Int64)).mpr hc36)).2.1) k) ?_
          refine own_gs 40 [(.int (4 : Int32))] (fun t' k => XS.iconst X0.here hx rfl (hb hby own_dC_39) k) ?_
          refine own_retI hF (Nat.zero_le _) X0 hx hlk hret (hb hby own_dC_40) ?_ (by decide) (by decide)
          exact ⟨congrArg (fun z => some (Value.int z)) ((show (own_capf x) = (4 : Int32) from ((if_pos hc5).trans ((if_neg hc16).trans ((if_neg hc26).trans ((if_pos hc36).trans rfl))))).trans (by rfl : (4 : Int32) = (4 : Int32))).symm, e0, rfl⟩
        · skip
          refine own_gs 41 [] (fun t' k => XS.ifYes X0.here hx rfl (pc0 := 36) (pc' := 41) rfl (hb hby own_dC_36) rfl ((if0 _ _).trans (flt (fun q' => hc36 ((lw_lt x (256 : Int64)).mp q'))).2.1) (by decide) (by decide) k) ?_
          refine own_gs 43 [(.int (8 : Int32))] (fun t' k => XS.bipush X0.here hx rfl (hb hby own_dC_41) k) ?_
          refine own_retI hF (Nat.zero_le _) X0 hx hlk hret (hb hby own_dC_43) ?_ (by decide) (by decide)
          exact ⟨congrArg (fun z => some (Value.int z)) ((show (own_capf x) = (8 : Int32) from ((if_pos hc5).trans ((if_neg hc16).trans ((if_neg hc26).trans ((if_neg hc36).trans rfl))))).trans (by rfl : (8 : Int32) = (8 : Int32))).symm, e0, rfl⟩
  · skip
    refine own_gs 8 [] (fun t' k => XS.ifNo X0.here hx rfl (hb hby own_dC_5) rfl ((if0 _ _).trans (flt (fun q' => hc5 ((lw_gt x (-16 : Int64)).mp q'))).2.2.1) k) ?_
    refine own_gs 10 [(.int (8 : Int32))] (fun t' k => XS.bipush X0.here hx rfl (hb hby own_dC_8) k) ?_
    refine own_retI hF (Nat.zero_le _) X0 hx hlk hret (hb hby own_dC_10) ?_ (by decide) (by decide)
    exact ⟨congrArg (fun z => some (Value.int z)) ((show (own_capf x) = (8 : Int32) from ((if_neg hc5).trans rfl)).trans (by rfl : (8 : Int32) = (8 : Int32))).symm, e0, rfl⟩

def own_nlz (x : Int32) : Int32 := (if (0 : Int32) < x then (if x < (65536 : Int32) then (if x < (256 : Int32) then (if x < (16 : Int32) then (if x < (4 : Int32) then ((31 : Int32) - ((x.toUInt32 >>> ((1 : Int32) &&& 31).toUInt32).toInt32)) else ((29 : Int32) - ((((x.toUInt32 >>> ((2 : Int32) &&& 31).toUInt32).toInt32).toUInt32 >>> ((1 : Int32) &&& 31).toUInt32).toInt32))) else (if ((x.toUInt32 >>> ((4 : Int32) &&& 31).toUInt32).toInt32) < (4 : Int32) then ((27 : Int32) - ((((x.toUInt32 >>> ((4 : Int32) &&& 31).toUInt32).toInt32).toUInt32 >>> ((1 : Int32) &&& 31).toUInt32).toInt32)) else ((25 : Int32) - ((((((x.toUInt32 >>> ((4 : Int32) &&& 31).toUInt32).toInt32).toUInt32 >>> ((2 : Int32) &&& 31).toUInt32).toInt32).toUInt32 >>> ((1 : Int32) &&& 31).toUInt32).toInt32)))) else (if ((x.toUInt32 >>> ((8 : Int32) &&& 31).toUInt32).toInt32) < (16 : Int32) then (if ((x.toUInt32 >>> ((8 : Int32) &&& 31).toUInt32).toInt32) < (4 : Int32) then ((23 : Int32) - ((((x.toUInt32 >>> ((8 : Int32) &&& 31).toUInt32).toInt32).toUInt32 >>> ((1 : Int32) &&& 31).toUInt32).toInt32)) else ((21 : Int32) - ((((((x.toUInt32 >>> ((8 : Int32) &&& 31).toUInt32).toInt32).toUInt32 >>> ((2 : Int32) &&& 31).toUInt32).toInt32).toUInt32 >>> ((1 : Int32) &&& 31).toUInt32).toInt32))) else (if ((((x.toUInt32 >>> ((8 : Int32) &&& 31).toUInt32).toInt32).toUInt32 >>> ((4 : Int32) &&& 31).toUInt32).toInt32) < (4 : Int32) then ((19 : Int32) - ((((((x.toUInt32 >>> ((8 : Int32) &&& 31).toUInt32).toInt32).toUInt32 >>> ((4 : Int32) &&& 31).toUInt32).toInt32).toUInt32 >>> ((1 : Int32) &&& 31).toUInt32).toInt32)) else ((17 : Int32) - ((((((((x.toUInt32 >>> ((8 : Int32) &&& 31).toUInt32).toInt32).toUInt32 >>> ((4 : Int32) &&& 31).toUInt32).toInt32).toUInt32 >>> ((2 : Int32) &&& 31).toUInt32).toInt32).toUInt32 >>> ((1 : Int32) &&& 31).toUInt32).toInt32))))) else (if ((x.toUInt32 >>> ((16 : Int32) &&& 31).toUInt32).toInt32) < (256 : Int32) then (if ((x.toUInt32 >>> ((16 : Int32) &&& 31).toUInt32).toInt32) < (16 : Int32) then (if ((x.toUInt32 >>> ((16 : Int32) &&& 31).toUInt32).toInt32) < (4 : Int32) then ((15 : Int32) - ((((x.toUInt32 >>> ((16 : Int32) &&& 31).toUInt32).toInt32).toUInt32 >>> ((1 : Int32) &&& 31).toUInt32).toInt32)) else ((13 : Int32) - ((((((x.toUInt32 >>> ((16 : Int32) &&& 31).toUInt32).toInt32).toUInt32 >>> ((2 : Int32) &&& 31).toUInt32).toInt32).toUInt32 >>> ((1 : Int32) &&& 31).toUInt32).toInt32))) else (if ((((x.toUInt32 >>> ((16 : Int32) &&& 31).toUInt32).toInt32).toUInt32 >>> ((4 : Int32) &&& 31).toUInt32).toInt32) < (4 : Int32) then ((11 : Int32) - ((((((x.toUInt32 >>> ((16 : Int32) &&& 31).toUInt32).toInt32).toUInt32 >>> ((4 : Int32) &&& 31).toUInt32).toInt32).toUInt32 >>> ((1 : Int32) &&& 31).toUInt32).toInt32)) else ((9 : Int32) - ((((((((x.toUInt32 >>> ((16 : Int32) &&& 31).toUInt32).toInt32).toUInt32 >>> ((4 : Int32) &&& 31).toUInt32).toInt32).toUInt32 >>> ((2 : Int32) &&& 31).toUInt32).toInt32).toUInt32 >>> ((1 : Int32) &&& 31).toUInt32).toInt32)))) else (if ((((x.toUInt32 >>> ((16 : Int32) &&& 31).toUInt32).toInt32).toUInt32 >>> ((8 : Int32) &&& 31).toUInt32).toInt32) < (16 : Int32) then (if ((((x.toUInt32 >>> ((16 : Int32) &&& 31).toUInt32).toInt32).toUInt32 >>> ((8 : Int32) &&& 31).toUInt32).toInt32) < (4 : Int32) then ((7 : Int32) - ((((((x.toUInt32 >>> ((16 : Int32) &&& 31).toUInt32).toInt32).toUInt32 >>> ((8 : Int32) &&& 31).toUInt32).toInt32).toUInt32 >>> ((1 : Int32) &&& 31).toUInt32).toInt32)) else ((5 : Int32) - ((((((((x.toUInt32 >>> ((16 : Int32) &&& 31).toUInt32).toInt32).toUInt32 >>> ((8 : Int32) &&& 31).toUInt32).toInt32).toUInt32 >>> ((2 : Int32) &&& 31).toUInt32).toInt32).toUInt32 >>> ((1 : Int32) &&& 31).toUInt32).toInt32))) else (if ((((((x.toUInt32 >>> ((16 : Int32) &&& 31).toUInt32).toInt32).toUInt32 >>> ((8 : Int32) &&& 31).toUInt32).toInt32).toUInt32 >>> ((4 : Int32) &&& 31).toUInt32).toInt32) < (4 : Int32) then ((3 : Int32) - ((((((((x.toUInt32 >>> ((16 : Int32) &&& 31).toUInt32).toInt32).toUInt32 >>> ((8 : Int32) &&& 31).toUInt32).toInt32).toUInt32 >>> ((4 : Int32) &&& 31).toUInt32).toInt32).toUInt32 >>> ((1 : Int32) &&& 31).toUInt32).toInt32)) else ((1 : Int32) - ((((((((((x.toUInt32 >>> ((16 : Int32) &&& 31).toUInt32).toInt32).toUInt32 >>> ((8 : Int32) &&& 31).toUInt32).toInt32).toUInt32 >>> ((4 : Int32) &&& 31).toUInt32).toInt32).toUInt32 >>> ((2 : Int32) &&& 31).toUInt32).toInt32).toUInt32 >>> ((1 : Int32) &&& 31).toUInt32).toInt32)))))) else (if x = (0 : Int32) then (32 : Int32) else (0 : Int32)))
theorem own_dN_0 : decode jdk_33_method_47_code 0 = .ok (.iload_n 0, 1) := by decide +kernel
theorem own_dN_1 : decode jdk_33_method_47_code 1 = .ok (.ifCond .gt 14, 3) := by decide +kernel
theorem own_dN_4 : decode jdk_33_method_47_code 4 = .ok (.iload_n 0, 1) := by decide +kernel
theorem own_dN_5 : decode jdk_33_method_47_code 5 = .ok (.ifCond .ne 8, 3) := by decide +kernel
theorem own_dN_8 : decode jdk_33_method_47_code 8 = .ok (.bipush 32, 2) := by decide +kernel
theorem own_dN_10 : decode jdk_33_method_47_code 10 = .ok (.goto 4, 3) := by decide +kernel
theorem own_dN_13 : decode jdk_33_method_47_code 13 = .ok (.iconst 0, 1) := by decide +kernel
theorem own_dN_14 : decode jdk_33_method_47_code 14 = .ok (.ireturn, 1) := by decide +kernel
theorem own_dN_15 : decode jdk_33_method_47_code 15 = .ok (.bipush 31, 2) := by decide +kernel
theorem own_dN_17 : decode jdk_33_method_47_code 17 = .ok (.istore_n 1, 1) := by decide +kernel
theorem own_dN_18 : decode jdk_33_method_47_code 18 = .ok (.iload_n 0, 1) := by decide +kernel
theorem own_dN_19 : decode jdk_33_method_47_code 19 = .ok (.ldc_w 264, 3) := by decide +kernel
theorem own_dN_22 : decode jdk_33_method_47_code 22 = .ok (.if_icmp .lt 11, 3) := by decide +kernel
theorem own_dN_25 : decode jdk_33_method_47_code 25 = .ok (.iinc 1 (-16), 3) := by decide +kernel
theorem own_dN_28 : decode jdk_33_method_47_code 28 = .ok (.iload_n 0, 1) := by decide +kernel
theorem own_dN_29 : decode jdk_33_method_47_code 29 = .ok (.bipush 16, 2) := by decide +kernel
theorem own_dN_31 : decode jdk_33_method_47_code 31 = .ok (.iushr, 1) := by decide +kernel
theorem own_dN_32 : decode jdk_33_method_47_code 32 = .ok (.istore_n 0, 1) := by decide +kernel
theorem own_dN_33 : decode jdk_33_method_47_code 33 = .ok (.iload_n 0, 1) := by decide +kernel
theorem own_dN_34 : decode jdk_33_method_47_code 34 = .ok (.sipush 256, 3) := by decide +kernel
theorem own_dN_37 : decode jdk_33_method_47_code 37 = .ok (.if_icmp .lt 11, 3) := by decide +kernel
theorem own_dN_40 : decode jdk_33_method_47_code 40 = .ok (.iinc 1 (-8), 3) := by decide +kernel
theorem own_dN_43 : decode jdk_33_method_47_code 43 = .ok (.iload_n 0, 1) := by decide +kernel
theorem own_dN_44 : decode jdk_33_method_47_code 44 = .ok (.bipush 8, 2) := by decide +kernel
theorem own_dN_46 : decode jdk_33_method_47_code 46 = .ok (.iushr, 1) := by decide +kernel
theorem own_dN_47 : decode jdk_33_method_47_code 47 = .ok (.istore_n 0, 1) := by decide +kernel
theorem own_dN_48 : decode jdk_33_method_47_code 48 = .ok (.iload_n 0, 1) := by decide +kernel
theorem own_dN_49 : decode jdk_33_method_47_code 49 = .ok (.bipush 16, 2) := by decide +kernel
theorem own_dN_51 : decode jdk_33_method_47_code 51 = .ok (.if_icmp .lt 10, 3) := by decide +kernel
theorem own_dN_54 : decode jdk_33_method_47_code 54 = .ok (.iinc 1 (-4), 3) := by decide +kernel
theorem own_dN_57 : decode jdk_33_method_47_code 57 = .ok (.iload_n 0, 1) := by decide +kernel
theorem own_dN_58 : decode jdk_33_method_47_code 58 = .ok (.iconst 4, 1) := by decide +kernel
theorem own_dN_59 : decode jdk_33_method_47_code 59 = .ok (.iushr, 1) := by decide +kernel
theorem own_dN_60 : decode jdk_33_method_47_code 60 = .ok (.istore_n 0, 1) := by decide +kernel
theorem own_dN_61 : decode jdk_33_method_47_code 61 = .ok (.iload_n 0, 1) := by decide +kernel
theorem own_dN_62 : decode jdk_33_method_47_code 62 = .ok (.iconst 4, 1) := by decide +kernel
theorem own_dN_63 : decode jdk_33_method_47_code 63 = .ok (.if_icmp .lt 10, 3) := by decide +kernel
theorem own_dN_66 : decode jdk_33_method_47_code 66 = .ok (.iinc 1 (-2), 3) := by decide +kernel
theorem own_dN_69 : decode jdk_33_method_47_code 69 = .ok (.iload_n 0, 1) := by decide +kernel
theorem own_dN_70 : decode jdk_33_method_47_code 70 = .ok (.iconst 2, 1) := by decide +kernel
theorem own_dN_71 : decode jdk_33_method_47_code 71 = .ok (.iushr, 1) := by decide +kernel
theorem own_dN_72 : decode jdk_33_method_47_code 72 = .ok (.istore_n 0, 1) := by decide +kernel
theorem own_dN_73 : decode jdk_33_method_47_code 73 = .ok (.iload_n 1, 1) := by decide +kernel
theorem own_dN_74 : decode jdk_33_method_47_code 74 = .ok (.iload_n 0, 1) := by decide +kernel
theorem own_dN_75 : decode jdk_33_method_47_code 75 = .ok (.iconst 1, 1) := by decide +kernel
theorem own_dN_76 : decode jdk_33_method_47_code 76 = .ok (.iushr, 1) := by decide +kernel
theorem own_dN_77 : decode jdk_33_method_47_code 77 = .ok (.isub, 1) := by decide +kernel
theorem own_dN_78 : decode jdk_33_method_47_code 78 = .ok (.ireturn, 1) := by decide +kernel
theorem own_pn_own_rmN : plainFor (⟨"java/lang/Integer", "numberOfLeadingZeros", "(I)I"⟩ : MethodName) = true := plainFor_of_name (show plainName "java/lang/Integer" = true by first | (simp [plainName, overriddenIn]; done) | decide +kernel)
set_option maxRecDepth 65536 in
set_option maxHeartbeats 40000000 in
theorem own_rmN (l : Launch) (Z : State) (a0 : Array Value) (hw : ∀ d ∈ tables_1, d.before a0 Z = true) (ws : List Jvm.Cond) (h0 : Heap) (x : Int32)  :
    own_C l Z (⟨"java/lang/Integer", "numberOfLeadingZeros", "(I)I"⟩ : MethodName) jdk_33_method_47_code 2 (some .int) ws ({ frames := 0, cells := 0, slots := 0, locals := 0 } : Room) #[(.int x)] h0 (own_P (.int (own_nlz x)) h0) := by
  refine own_met own_pn_own_rmN #[iv x, .unset] (fun m => by first | (simp [entryFrame, mkF, argsToLocals, Value.category]; done) | rfl) ?_
  intro p e s m below meth c s₁ Fi hx hby hml hown hret hlk hZ hnm hF X0 e0
  refine own_gs 1 [(.int x)] (fun t' k => XS.iloadN X0.here hx rfl (hb hby own_dN_0) rfl  k) ?_
  by_cases hc1 : (0 : Int32) < x
  · skip
    refine own_gs 15 [] (fun t' k => XS.ifYes X0.here hx rfl (pc0 := 1) (pc' := 15) rfl (hb hby own_dN_1) rfl ((if0 _ _).trans (tlt hc1).2.2.1) (by decide) (by decide) k) ?_
    refine own_gs 17 [(.int (31 : Int32))] (fun t' k => XS.bipush X0.here hx rfl (hb hby own_dN_15) k) ?_
    refine own_go (mkF m 18 #[iv x, iv (31 : Int32)] []) (fun t' k => XS.istoreN X0.here hx rfl (hb hby own_dN_17) rfl rfl k) ?_
    refine own_gs 19 [(.int x)] (fun t' k => XS.iloadN X0.here hx rfl (hb hby own_dN_18) rfl  k) ?_
    refine own_gs 22 [(.int (65536 : Int32)), (.int x)] (fun t' k => X0.ldcwInt hx hown (mvT hZ (hw _ (List.mem_of_getElem? (i := 113) rfl))) (g := (mkF m 19 #[iv x, iv (31 : Int32)] [(.int x)])) rfl (hb hby own_dN_19) _ k) ?_
    by_cases hc22 : x < (65536 : Int32)
    · skip
      refine own_gs 33 [] (fun t' k => XS.icmpYes X0.here hx rfl (pc0 := 22) (pc' := 33) rfl (hb hby own_dN_22) rfl (tlt hc22).1 (by decide) (by decide) k) ?_
      refine own_gs 34 [(.int x)] (fun t' k => XS.iloadN X0.here hx rfl (hb hby own_dN_33) rfl  k) ?_
      refine own_gs 37 [(.int (256 : Int32)), (.int x)] (fun t' k => XS.sipush X0.here hx rfl (hb hby own_dN_34) k) ?_
      by_cases hc37 : x < (256 : Int32)
      · skip
        refine own_gs 48 [] (fun t' k => XS.icmpYes X0.here hx rfl (pc0 := 37) (pc' := 48) rfl (hb hby own_dN_37) rfl (tlt hc37).1 (by decide) (by decide) k) ?_
        refine own_gs 49 [(.int x)] (fun t' k => XS.iloadN X0.here hx rfl (hb hby own_dN_48) rfl  k) ?_
        refine own_gs 51 [(.int (16 : Int32)), (.int x)] (fun t' k => XS.bipush X0.here hx rfl (hb hby own_dN_49) k) ?_
        by_cases hc51 : x < (16 : Int32)
        · skip
          refine own_gs 61 [] (fun t' k => XS.icmpYes X0.here hx rfl (pc0 := 51) (pc' := 61) rfl (hb hby own_dN_51) rfl (tlt hc51).1 (by decide) (by decide) k) ?_
          refine own_gs 62 [(.int x)] (fun t' k => XS.iloadN X0.here hx rfl (hb hby own_dN_61) rfl  k) ?_
          refine own_gs 63 [(.int (4 : Int32)), (.int x)] (fun t' k => XS.iconst X0.here hx rfl (hb hby own_dN_62) k) ?_
          by_cases hc63 : x < (4 : Int32)
          · skip
            refine own_gs 73 [] (fun t' k => XS.icmpYes X0.here hx rfl (pc0 := 63) (pc' := 73) rfl (hb hby own_dN_63) rfl (tlt hc63).1 (by decide) (by decide) k) ?_
            refine own_gs 74 [(.int (31 : Int32))] (fun t' k => XS.iloadN X0.here hx rfl (hb hby own_dN_73) rfl  k) ?_
            refine own_gs 75 [(.int x), (.int (31 : Int32))] (fun t' k => XS.iloadN X0.here hx rfl (hb hby own_dN_74) rfl  k) ?_
            refine own_gs 76 [(.int (1 : Int32)), (.int x), (.int (31 : Int32))] (fun t' k => XS.iconst X0.here hx rfl (hb hby own_dN_75) k) ?_
            refine own_gs 77 [(.int ((x.toUInt32 >>> ((1 : Int32) &&& 31).toUInt32).toInt32)), (.int (31 : Int32))] (fun t' k => XS.iushr X0.here hx rfl (hb hby own_dN_76) rfl k) ?_
            refine own_gs 78 [(.int ((31 : Int32) - ((x.toUInt32 >>> ((1 : Int32) &&& 31).toUInt32).toInt32)))] (fun t' k => XS.isub X0.here hx rfl (hb hby own_dN_77) rfl k) ?_
            refine own_retI hF (Nat.zero_le _) X0 hx hlk hret (hb hby own_dN_78) ?_ (by decide) (by decide)
            exact ⟨congrArg (fun z => some (Value.int z)) ((show (own_nlz x) = ((31 : Int32) - ((x.toUInt32 >>> ((1 : Int32) &&& 31).toUInt32).toInt32)) from ((if_pos hc1).trans ((if_pos hc22).trans ((if_pos hc37).trans ((if_pos hc51).trans ((if_pos hc63).trans rfl)))))).trans (by rfl : ((31 : Int32) - ((x.toUInt32 >>> ((1 : Int32) &&& 31).toUInt32).toInt32)) = ((31 : Int32) - ((x.toUInt32 >>> ((1 : Int32) &&& 31).toUInt32).toInt32)))).symm, e0, rfl⟩
          · skip
            refine own_gs 66 [] (fun t' k => XS.icmpNo X0.here hx rfl (hb hby own_dN_63) rfl (flt hc63).1 k) ?_
            refine own_go (mkF m 69 #[iv x, iv (29 : Int32)] []) (fun t' k => XS.iinc X0.here hx rfl (hb hby own_dN_66) rfl rfl k) ?_
            refine own_gs 70 [(.int x)] (fun t' k => XS.iloadN X0.here hx rfl (hb hby own_dN_69) rfl  k) ?_
            refine own_gs 71 [(.int (2 : Int32)), (.int x)] (fun t' k => XS.iconst X0.here hx rfl (hb hby own_dN_70) k) ?_
            refine own_gs 72 [(.int ((x.toUInt32 >>> ((2 : Int32) &&& 31).toUInt32).toInt32))] (fun t' k => XS.iushr X0.here hx rfl (hb hby own_dN_71) rfl k) ?_
            refine own_go (mkF m 73 #[iv ((x.toUInt32 >>> ((2 : Int32) &&& 31).toUInt32).toInt32), iv (29 : Int32)] []) (fun t' k => XS.istoreN X0.here hx rfl (hb hby own_dN_72) rfl rfl k) ?_
            refine own_gs 74 [(.int (29 : Int32))] (fun t' k => XS.iloadN X0.here hx rfl (hb hby own_dN_73) rfl  k) ?_
            refine own_gs 75 [(.int ((x.toUInt32 >>> ((2 : Int32) &&& 31).toUInt32).toInt32)), (.int (29 : Int32))] (fun t' k => XS.iloadN X0.here hx rfl (hb hby own_dN_74) rfl  k) ?_
            refine own_gs 76 [(.int (1 : Int32)), (.int ((x.toUInt32 >>> ((2 : Int32) &&& 31).toUInt32).toInt32)), (.int (29 : Int32))] (fun t' k => XS.iconst X0.here hx rfl (hb hby own_dN_75) k) ?_
            refine own_gs 77 [(.int ((((x.toUInt32 >>> ((2 : Int32) &&& 31).toUInt32).toInt32).toUInt32 >>> ((1 : Int32) &&& 31).toUInt32).toInt32)), (.int (29 : Int32))] (fun t' k => XS.iushr X0.here hx rfl (hb hby own_dN_76) rfl k) ?_
            refine own_gs 78 [(.int ((29 : Int32) - ((((x.toUInt32 >>> ((2 : Int32) &&& 31).toUInt32).toInt32).toUInt32 >>> ((1 : Int32) &&& 31).toUInt32).toInt32)))] (fun t' k => XS.isub X0.here hx rfl (hb hby own_dN_77) rfl k) ?_
            refine own_retI hF (Nat.zero_le _) X0 hx hlk hret (hb hby own_dN_78) ?_ (by decide) (by decide)
            exact ⟨congrArg (fun z => some (Value.int z)) ((show (own_nlz x) = ((29 : Int32) - ((((x.toUInt32 >>> ((2 : Int32) &&& 31).toUInt32).toInt32).toUInt32 >>> ((1 : Int32) &&& 31).toUInt32).toInt32)) from ((if_pos hc1).trans ((if_pos hc22).trans ((if_pos hc37).trans ((if_pos hc51).trans ((if_neg hc63).trans rfl)))))).trans (by rfl : ((29 : Int32) - ((((x.toUInt32 >>> ((2 : Int32) &&& 31).toUInt32).toInt32).toUInt32 >>> ((1 : Int32) &&& 31).toUInt32).toInt32)) = ((29 : Int32) - ((((x.toUInt32 >>> ((2 : Int32) &&& 31).toUInt32).toInt32).toUInt32 >>> ((1 : Int32) &&& 31).toUInt32).toInt32)))).symm, e0, rfl⟩
        · skip
          refine own_gs 54 [] (fun t' k => XS.icmpNo X0.here hx rfl (hb hby own_dN_51) rfl (flt hc51).1 k) ?_
          refine own_go (mkF m 57 #[iv x, iv (27 : Int32)] []) (fun t' k => XS.iinc X0.here hx rfl (hb hby own_dN_54) rfl rfl k) ?_
          refine own_gs 58 [(.int x)] (fun t' k => XS.iloadN X0.here hx rfl (hb hby own_dN_57) rfl  k) ?_
          refine own_gs 59 [(.int (4 : Int32)), (.int x)] (fun t' k => XS.iconst X0.here hx rfl (hb hby own_dN_58) k) ?_
          refine own_gs 60 [(.int ((x.toUInt32 >>> ((4 : Int32) &&& 31).toUInt32).toInt32))] (fun t' k => XS.iushr X0.here hx rfl (hb hby own_dN_59) rfl k) ?_
          refine own_go (mkF m 61 #[iv ((x.toUInt32 >>> ((4 : Int32) &&& 31).toUInt32).toInt32), iv (27 : Int32)] []) (fun t' k => XS.istoreN X0.here hx rfl (hb hby own_dN_60) rfl rfl k) ?_
          refine own_gs 62 [(.int ((x.toUInt32 >>> ((4 : Int32) &&& 31).toUInt32).toInt32))] (fun t' k => XS.iloadN X0.here hx rfl (hb hby own_dN_61) rfl  k) ?_
          refine own_gs 63 [(.int (4 : Int32)), (.int ((x.toUInt32 >>> ((4 : Int32) &&& 31).toUInt32).toInt32))] (fun t' k => XS.iconst X0.here hx rfl (hb hby own_dN_62) k) ?_
          by_cases hc63 : ((x.toUInt32 >>> ((4 : Int32) &&& 31).toUInt32).toInt32) < (4 : Int32)
          · skip
            refine own_gs 73 [] (fun t' k => XS.icmpYes X0.here hx rfl (pc0 := 63) (pc' := 73) rfl (hb hby own_dN_63) rfl (tlt hc63).1 (by decide) (by decide) k) ?_
            refine own_gs 74 [(.int (27 : Int32))] (fun t' k => XS.iloadN X0.here hx rfl (hb hby own_dN_73) rfl  k) ?_
            refine own_gs 75 [(.int ((x.toUInt32 >>> ((4 : Int32) &&& 31).toUInt32).toInt32)), (.int (27 : Int32))] (fun t' k => XS.iloadN X0.here hx rfl (hb hby own_dN_74) rfl  k) ?_
            refine own_gs 76 [(.int (1 : Int32)), (.int ((x.toUInt32 >>> ((4 : Int32) &&& 31).toUInt32).toInt32)), (.int (27 : Int32))] (fun t' k => XS.iconst X0.here hx rfl (hb hby own_dN_75) k) ?_
            refine own_gs 77 [(.int ((((x.toUInt32 >>> ((4 : Int32) &&& 31).toUInt32).toInt32).toUInt32 >>> ((1 : Int32) &&& 31).toUInt32).toInt32)), (.int (27 : Int32))] (fun t' k => XS.iushr X0.here hx rfl (hb hby own_dN_76) rfl k) ?_
            refine own_gs 78 [(.int ((27 : Int32) - ((((x.toUInt32 >>> ((4 : Int32) &&& 31).toUInt32).toInt32).toUInt32 >>> ((1 : Int32) &&& 31).toUInt32).toInt32)))] (fun t' k => XS.isub X0.here hx rfl (hb hby own_dN_77) rfl k) ?_
            refine own_retI hF (Nat.zero_le _) X0 hx hlk hret (hb hby own_dN_78) ?_ (by decide) (by decide)
            exact ⟨congrArg (fun z => some (Value.int z)) ((show (own_nlz x) = ((27 : Int32) - ((((x.toUInt32 >>> ((4 : Int32) &&& 31).toUInt32).toInt32).toUInt32 >>> ((1 : Int32) &&& 31).toUInt32).toInt32)) from ((if_pos hc1).trans ((if_pos hc22).trans ((if_pos hc37).trans ((if_neg hc51).trans ((if_pos hc63).trans rfl)))))).trans (by rfl : ((27 : Int32) - ((((x.toUInt32 >>> ((4 : Int32) &&& 31).toUInt32).toInt32).toUInt32 >>> ((1 : Int32) &&& 31).toUInt32).toInt32)) = ((27 : Int32) - ((((x.toUInt32 >>> ((4 : Int32) &&& 31).toUInt32).toInt32).toUInt32 >>> ((1 : Int32) &&& 31).toUInt32).toInt32)))).symm, e0, rfl⟩
          · skip
            refine own_gs 66 [] (fun t' k => XS.icmpNo X0.here hx rfl (hb hby own_dN_63) rfl (flt hc63).1 k) ?_
            refine own_go (mkF m 69 #[iv ((x.toUInt32 >>> ((4 : Int32) &&& 31).toUInt32).toInt32), iv (25 : Int32)] []) (fun t' k => XS.iinc X0.here hx rfl (hb hby own_dN_66) rfl rfl k) ?_
            refine own_gs 70 [(.int ((x.toUInt32 >>> ((4 : Int32) &&& 31).toUInt32).toInt32))] (fun t' k => XS.iloadN X0.here hx rfl (hb hby own_dN_69) rfl  k) ?_
            refine own_gs 71 [(.int (2 : Int32)), (.int ((x.toUInt32 >>> ((4 : Int32) &&& 31).toUInt32).toInt32))] (fun t' k => XS.iconst X0.here hx rfl (hb hby own_dN_70) k) ?_
            refine own_gs 72 [(.int ((((x.toUInt32 >>> ((4 : Int32) &&& 31).toUInt32).toInt32).toUInt32 >>> ((2 : Int32) &&& 31).toUInt32).toInt32))] (fun t' k => XS.iushr X0.here hx rfl (hb hby own_dN_71) rfl k) ?_
            refine own_go (mkF m 73 #[iv ((((x.toUInt32 >>> ((4 : Int32) &&& 31).toUInt32).toInt32).toUInt32 >>> ((2 : Int32) &&& 31).toUInt32).toInt32), iv (25 : Int32)] []) (fun t' k => XS.istoreN X0.here hx rfl (hb hby own_dN_72) rfl rfl k) ?_
            refine own_gs 74 [(.int (25 : Int32))] (fun t' k => XS.iloadN X0.here hx rfl (hb hby own_dN_73) rfl  k) ?_
            refine own_gs 75 [(.int ((((x.toUInt32 >>> ((4 : Int32) &&& 31).toUInt32).toInt32).toUInt32 >>> ((2 : Int32) &&& 31).toUInt32).toInt32)), (.int (25 : Int32))] (fun t' k => XS.iloadN X0.here hx rfl (hb hby own_dN_74) rfl  k) ?_
            refine own_gs 76 [(.int (1 : Int32)), (.int ((((x.toUInt32 >>> ((4 : Int32) &&& 31).toUInt32).toInt32).toUInt32 >>> ((2 : Int32) &&& 31).toUInt32).toInt32)), (.int (25 : Int32))] (fun t' k => XS.iconst X0.here hx rfl (hb hby own_dN_75) k) ?_
            refine own_gs 77 [(.int ((((((x.toUInt32 >>> ((4 : Int32) &&& 31).toUInt32).toInt32).toUInt32 >>> ((2 : Int32) &&& 31).toUInt32).toInt32).toUInt32 >>> ((1 : Int32) &&& 31).toUInt32).toInt32)), (.int (25 : Int32))] (fun t' k => XS.iushr X0.here hx rfl (hb hby own_dN_76) rfl k) ?_
            refine own_gs 78 [(.int ((25 : Int32) - ((((((x.toUInt32 >>> ((4 : Int32) &&& 31).toUInt32).toInt32).toUInt32 >>> ((2 : Int32) &&& 31).toUInt32).toInt32).toUInt32 >>> ((1 : Int32) &&& 31).toUInt32).toInt32)))] (fun t' k => XS.isub X0.here hx rfl (hb hby own_dN_77) rfl k) ?_
            refine own_retI hF (Nat.zero_le _) X0 hx hlk hret (hb hby own_dN_78) ?_ (by decide) (by decide)
            exact ⟨congrArg (fun z => some (Value.int z)) ((show (own_nlz x) = ((25 : Int32) - ((((((x.toUInt32 >>> ((4 : Int32) &&& 31).toUInt32).toInt32).toUInt32 >>> ((2 : Int32) &&& 31).toUInt32).toInt32).toUInt32 >>> ((1 : Int32) &&& 31).toUInt32).toInt32)) from ((if_pos hc1).trans ((if_pos hc22).trans ((if_pos hc37).trans ((if_neg hc51).trans ((if_neg hc63).trans rfl)))))).trans (by rfl : ((25 : Int32) - ((((((x.toUInt32 >>> ((4 : Int32) &&& 31).toUInt32).toInt32).toUInt32 >>> ((2 : Int32) &&& 31).toUInt32).toInt32).toUInt32 >>> ((1 : Int32) &&& 31).toUInt32).toInt32)) = ((25 : Int32) - ((((((x.toUInt32 >>> ((4 : Int32) &&& 31).toUInt32).toInt32).toUInt32 >>> ((2 : Int32) &&& 31).toUInt32).toInt32).toUInt32 >>> ((1 : Int32) &&& 31).toUInt32).toInt32)))).symm, e0, rfl⟩
      · skip
        refine own_gs 40 [] (fun t' k => XS.icmpNo X0.here hx rfl (hb hby own_dN_37) rfl (flt hc37).1 k) ?_
        refine own_go (mkF m 43 #[iv x, iv (23 : Int32)] []) (fun t' k => XS.iinc X0.here hx rfl (hb hby own_dN_40) rfl rfl k) ?_
        refine own_gs 44 [(.int x)] (fun t' k => XS.iloadN X0.here hx rfl (hb hby own_dN_43) rfl  k) ?_
        refine own_gs 46 [(.int (8 : Int32)), (.int x)] (fun t' k => XS.bipush X0.here hx rfl (hb hby own_dN_44) k) ?_
        refine own_gs 47 [(.int ((x.toUInt32 >>> ((8 : Int32) &&& 31).toUInt32).toInt32))] (fun t' k => XS.iushr X0.here hx rfl (hb hby own_dN_46) rfl k) ?_
        refine own_go (mkF m 48 #[iv ((x.toUInt32 >>> ((8 : Int32) &&& 31).toUInt32).toInt32), iv (23 : Int32)] []) (fun t' k => XS.istoreN X0.here hx rfl (hb hby own_dN_47) rfl rfl k) ?_
        refine own_gs 49 [(.int ((x.toUInt32 >>> ((8 : Int32) &&& 31).toUInt32).toInt32))] (fun t' k => XS.iloadN X0.here hx rfl (hb hby own_dN_48) rfl  k) ?_
        refine own_gs 51 [(.int (16 : Int32)), (.int ((x.toUInt32 >>> ((8 : Int32) &&& 31).toUInt32).toInt32))] (fun t' k => XS.bipush X0.here hx rfl (hb hby own_dN_49) k) ?_
        by_cases hc51 : ((x.toUInt32 >>> ((8 : Int32) &&& 31).toUInt32).toInt32) < (16 : Int32)
        · skip
          refine own_gs 61 [] (fun t' k => XS.icmpYes X0.here hx rfl (pc0 := 51) (pc' := 61) rfl (hb hby own_dN_51) rfl (tlt hc51).1 (by decide) (by decide) k) ?_
          refine own_gs 62 [(.int ((x.toUInt32 >>> ((8 : Int32) &&& 31).toUInt32).toInt32))] (fun t' k => XS.iloadN X0.here hx rfl (hb hby own_dN_61) rfl  k) ?_
          refine own_gs 63 [(.int (4 : Int32)), (.int ((x.toUInt32 >>> ((8 : Int32) &&& 31).toUInt32).toInt32))] (fun t' k => XS.iconst X0.here hx rfl (hb hby own_dN_62) k) ?_
          by_cases hc63 : ((x.toUInt32 >>> ((8 : Int32) &&& 31).toUInt32).toInt32) < (4 : Int32)
          · skip
            refine own_gs 73 [] (fun t' k => XS.icmpYes X0.here hx rfl (pc0 := 63) (pc' := 73) rfl (hb hby own_dN_63) rfl (tlt hc63).1 (by decide) (by decide) k) ?_
            refine own_gs 74 [(.int (23 : Int32))] (fun t' k => XS.iloadN X0.here hx rfl (hb hby own_dN_73) rfl  k) ?_
            refine own_gs 75 [(.int ((x.toUInt32 >>> ((8 : Int32) &&& 31).toUInt32).toInt32)), (.int (23 : Int32))] (fun t' k => XS.iloadN X0.here hx rfl (hb hby own_dN_74) rfl  k) ?_
            refine own_gs 76 [(.int (1 : Int32)), (.int ((x.toUInt32 >>> ((8 : Int32) &&& 31).toUInt32).toInt32)), (.int (23 : Int32))] (fun t' k => XS.iconst X0.here hx rfl (hb hby own_dN_75) k) ?_
            refine own_gs 77 [(.int ((((x.toUInt32 >>> ((8 : Int32) &&& 31).toUInt32).toInt32).toUInt32 >>> ((1 : Int32) &&& 31).toUInt32).toInt32)), (.int (23 : Int32))] (fun t' k => XS.iushr X0.here hx rfl (hb hby own_dN_76) rfl k) ?_
            refine own_gs 78 [(.int ((23 : Int32) - ((((x.toUInt32 >>> ((8 : Int32) &&& 31).toUInt32).toInt32).toUInt32 >>> ((1 : Int32) &&& 31).toUInt32).toInt32)))] (fun t' k => XS.isub X0.here hx rfl (hb hby own_dN_77) rfl k) ?_
            refine own_retI hF (Nat.zero_le _) X0 hx hlk hret (hb hby own_dN_78) ?_ (by decide) (by decide)
            exact ⟨congrArg (fun z => some (Value.int z)) ((show (own_nlz x) = ((23 : Int32) - ((((x.toUInt32 >>> ((8 : Int32) &&& 31).toUInt32).toInt32).toUInt32 >>> ((1 : Int32) &&& 31).toUInt32).toInt32)) from ((if_pos hc1).trans ((if_pos hc22).trans ((if_neg hc37).trans ((if_pos hc51).trans ((if_pos hc63).trans rfl)))))).trans (by rfl : ((23 : Int32) - ((((x.toUInt32 >>> ((8 : Int32) &&& 31).toUInt32).toInt32).toUInt32 >>> ((1 : Int32) &&& 31).toUInt32).toInt32)) = ((23 : Int32) - ((((x.toUInt32 >>> ((8 : Int32) &&& 31).toUInt32).toInt32).toUInt32 >>> ((1 : Int32) &&& 31).toUInt32).toInt32)))).symm, e0, rfl⟩
          · skip
            refine own_gs 66 [] (fun t' k => XS.icmpNo X0.here hx rfl (hb hby own_dN_63) rfl (flt hc63).1 k) ?_
            refine own_go (mkF m 69 #[iv ((x.toUInt32 >>> ((8 : Int32) &&& 31).toUInt32).toInt32), iv (21 : Int32)] []) (fun t' k => XS.iinc X0.here hx rfl (hb hby own_dN_66) rfl rfl k) ?_
            refine own_gs 70 [(.int ((x.toUInt32 >>> ((8 : Int32) &&& 31).toUInt32).toInt32))] (fun t' k => XS.iloadN X0.here hx rfl (hb hby own_dN_69) rfl  k) ?_
            refine own_gs 71 [(.int (2 : Int32)), (.int ((x.toUInt32 >>> ((8 : Int32) &&& 31).toUInt32).toInt32))] (fun t' k => XS.iconst X0.here hx rfl (hb hby own_dN_70) k) ?_
            refine own_gs 72 [(.int ((((x.toUInt32 >>> ((8 : Int32) &&& 31).toUInt32).toInt32).toUInt32 >>> ((2 : Int32) &&& 31).toUInt32).toInt32))] (fun t' k => XS.iushr X0.here hx rfl (hb hby own_dN_71) rfl k) ?_
            refine own_go (mkF m 73 #[iv ((((x.toUInt32 >>> ((8 : Int32) &&& 31).toUInt32).toInt32).toUInt32 >>> ((2 : Int32) &&& 31).toUInt32).toInt32), iv (21 : Int32)] []) (fun t' k => XS.istoreN X0.here hx rfl (hb hby own_dN_72) rfl rfl k) ?_
            refine own_gs 74 [(.int (21 : Int32))] (fun t' k => XS.iloadN X0.here hx rfl (hb hby own_dN_73) rfl  k) ?_
            refine own_gs 75 [(.int ((((x.toUInt32 >>> ((8 : Int32) &&& 31).toUInt32).toInt32).toUInt32 >>> ((2 : Int32) &&& 31).toUInt32).toInt32)), (.int (21 : Int32))] (fun t' k => XS.iloadN X0.here hx rfl (hb hby own_dN_74) rfl  k) ?_
            refine own_gs 76 [(.int (1 : Int32)), (.int ((((x.toUInt32 >>> ((8 : Int32) &&& 31).toUInt32).toInt32).toUInt32 >>> ((2 : Int32) &&& 31).toUInt32).toInt32)), (.int (21 : Int32))] (fun t' k => XS.iconst X0.here hx rfl (hb hby own_dN_75) k) ?_
            refine own_gs 77 [(.int ((((((x.toUInt32 >>> ((8 : Int32) &&& 31).toUInt32).toInt32).toUInt32 >>> ((2 : Int32) &&& 31).toUInt32).toInt32).toUInt32 >>> ((1 : Int32) &&& 31).toUInt32).toInt32)), (.int (21 : Int32))] (fun t' k => XS.iushr X0.here hx rfl (hb hby own_dN_76) rfl k) ?_
            refine own_gs 78 [(.int ((21 : Int32) - ((((((x.toUInt32 >>> ((8 : Int32) &&& 31).toUInt32).toInt32).toUInt32 >>> ((2 : Int32) &&& 31).toUInt32).toInt32).toUInt32 >>> ((1 : Int32) &&& 31).toUInt32).toInt32)))] (fun t' k => XS.isub X0.here hx rfl (hb hby own_dN_77) rfl k) ?_
            refine own_retI hF (Nat.zero_le _) X0 hx hlk hret (hb hby own_dN_78) ?_ (by decide) (by decide)
            exact ⟨congrArg (fun z => some (Value.int z)) ((show (own_nlz x) = ((21 : Int32) - ((((((x.toUInt32 >>> ((8 : Int32) &&& 31).toUInt32).toInt32).toUInt32 >>> ((2 : Int32) &&& 31).toUInt32).toInt32).toUInt32 >>> ((1 : Int32) &&& 31).toUInt32).toInt32)) from ((if_pos hc1).trans ((if_pos hc22).trans ((if_neg hc37).trans ((if_pos hc51).trans ((if_neg hc63).trans rfl)))))).trans (by rfl : ((21 : Int32) - ((((((x.toUInt32 >>> ((8 : Int32) &&& 31).toUInt32).toInt32).toUInt32 >>> ((2 : Int32) &&& 31).toUInt32).toInt32).toUInt32 >>> ((1 : Int32) &&& 31).toUInt32).toInt32)) = ((21 : Int32) - ((((((x.toUInt32 >>> ((8 : Int32) &&& 31).toUInt32).toInt32).toUInt32 >>> ((2 : Int32) &&& 31).toUInt32).toInt32).toUInt32 >>> ((1 : Int32) &&& 31).toUInt32).toInt32)))).symm, e0, rfl⟩
        · skip
          refine own_gs 54 [] (fun t' k => XS.icmpNo X0.here hx rfl (hb hby own_dN_51) rfl (flt hc51).1 k) ?_
          refine own_go (mkF m 57 #[iv ((x.toUInt32 >>> ((8 : Int32) &&& 31).toUInt32).toInt32), iv (19 : Int32)] []) (fun t' k => XS.iinc X0.here hx rfl (hb hby own_dN_54) rfl rfl k) ?_
          refine own_gs 58 [(.int ((x.toUInt32 >>> ((8 : Int32) &&& 31).toUInt32).toInt32))] (fun t' k => XS.iloadN X0.here hx rfl (hb hby own_dN_57) rfl  k) ?_
          refine own_gs 59 [(.int (4 : Int32)), (.int ((x.toUInt32 >>> ((8 : Int32) &&& 31).toUInt32).toInt32))] (fun t' k => XS.iconst X0.here hx rfl (hb hby own_dN_58) k) ?_
          refine own_gs 60 [(.int ((((x.toUInt32 >>> ((8 : Int32) &&& 31).toUInt32).toInt32).toUInt32 >>> ((4 : Int32) &&& 31).toUInt32).toInt32))] (fun t' k => XS.iushr X0.here hx rfl (hb hby own_dN_59) rfl k) ?_
          refine own_go (mkF m 61 #[iv ((((x.toUInt32 >>> ((8 : Int32) &&& 31).toUInt32).toInt32).toUInt32 >>> ((4 : Int32) &&& 31).toUInt32).toInt32), iv (19 : Int32)] []) (fun t' k => XS.istoreN X0.here hx rfl (hb hby own_dN_60) rfl rfl k) ?_
          refine own_gs 62 [(.int ((((x.toUInt32 >>> ((8 : Int32) &&& 31).toUInt32).toInt32).toUInt32 >>> ((4 : Int32) &&& 31).toUInt32).toInt32))] (fun t' k => XS.iloadN X0.here hx rfl (hb hby own_dN_61) rfl  k) ?_
          refine own_gs 63 [(.int (4 : Int32)), (.int ((((x.toUInt32 >>> ((8 : Int32) &&& 31).toUInt32).toInt32).toUInt32 >>> ((4 : Int32) &&& 31).toUInt32).toInt32))] (fun t' k => XS.iconst X0.here hx rfl (hb hby own_dN_62) k) ?_
          by_cases hc63 : ((((x.toUInt32 >>> ((8 : Int32) &&& 31).toUInt32).toInt32).toUInt32 >>> ((4 : Int32) &&& 31).toUInt32).toInt32) < (4 : Int32)
          · skip
            refine own_gs 73 [] (fun t' k => XS.icmpYes X0.here hx rfl (pc0 := 63) (pc' := 73) rfl (hb hby own_dN_63) rfl (tlt hc63).1 (by decide) (by decide) k) ?_
            refine own_gs 74 [(.int (19 : Int32))] (fun t' k => XS.iloadN X0.here hx rfl (hb hby own_dN_73) rfl  k) ?_
            refine own_gs 75 [(.int ((((x.toUInt32 >>> ((8 : Int32) &&& 31).toUInt32).toInt32).toUInt32 >>> ((4 : Int32) &&& 31).toUInt32).toInt32)), (.int (19 : Int32))] (fun t' k => XS.iloadN X0.here hx rfl (hb hby own_dN_74) rfl  k) ?_
            refine own_gs 76 [(.int (1 : Int32)), (.int ((((x.toUInt32 >>> ((8 : Int32) &&& 31).toUInt32).toInt32).toUInt32 >>> ((4 : Int32) &&& 31).toUInt32).toInt32)), (.int (19 : Int32))] (fun t' k => XS.iconst X0.here hx rfl (hb hby own_dN_75) k) ?_
            refine own_gs 77 [(.int ((((((x.toUInt32 >>> ((8 : Int32) &&& 31).toUInt32).toInt32).toUInt32 >>> ((4 : Int32) &&& 31).toUInt32).toInt32).toUInt32 >>> ((1 : Int32) &&& 31).toUInt32).toInt32)), (.int (19 : Int32))] (fun t' k => XS.iushr X0.here hx rfl (hb hby own_dN_76) rfl k) ?_
            refine own_gs 78 [(.int ((19 : Int32) - ((((((x.toUInt32 >>> ((8 : Int32) &&& 31).toUInt32).toInt32).toUInt32 >>> ((4 : Int32) &&& 31).toUInt32).toInt32).toUInt32 >>> ((1 : Int32) &&& 31).toUInt32).toInt32)))] (fun t' k => XS.isub X0.here hx rfl (hb hby own_dN_77) rfl k) ?_
            refine own_retI hF (Nat.zero_le _) X0 hx hlk hret (hb hby own_dN_78) ?_ (by decide) (by decide)
            exact ⟨congrArg (fun z => some (Value.int z)) ((show (own_nlz x) = ((19 : Int32) - ((((((x.toUInt32 >>> ((8 : Int32) &&& 31).toUInt32).toInt32).toUInt32 >>> ((4 : Int32) &&& 31).toUInt32).toInt32).toUInt32 >>> ((1 : Int32) &&& 31).toUInt32).toInt32)) from ((if_pos hc1).trans ((if_pos hc22).trans ((if_neg hc37).trans ((if_neg hc51).trans ((if_pos hc63).trans rfl)))))).trans (by rfl : ((19 : Int32) - ((((((x.toUInt32 >>> ((8 : Int32) &&& 31).toUInt32).toInt32).toUInt32 >>> ((4 : Int32) &&& 31).toUInt32).toInt32).toUInt32 >>> ((1 : Int32) &&& 31).toUInt32).toInt32)) = ((19 : Int32) - ((((((x.toUInt32 >>> ((8 : Int32) &&& 31).toUInt32).toInt32).toUInt32 >>> ((4 : Int32) &&& 31).toUInt32).toInt32).toUInt32 >>> ((1 : Int32) &&& 31).toUInt32).toInt32)))).symm, e0, rfl⟩
          · skip
            refine own_gs 66 [] (fun t' k => XS.icmpNo X0.here hx rfl (hb hby own_dN_63) rfl (flt hc63).1 k) ?_
            refine own_go (mkF m 69 #[iv ((((x.toUInt32 >>> ((8 : Int32) &&& 31).toUInt32).toInt32).toUInt32 >>> ((4 : Int32) &&& 31).toUInt32).toInt32), iv (17 : Int32)] []) (fun t' k => XS.iinc X0.here hx rfl (hb hby own_dN_66) rfl rfl k) ?_
            refine own_gs 70 [(.int ((((x.toUInt32 >>> ((8 : Int32) &&& 31).toUInt32).toInt32).toUInt32 >>> ((4 : Int32) &&& 31).toUInt32).toInt32))] (fun t' k => XS.iloadN X0.here hx rfl (hb hby own_dN_69) rfl  k) ?_
            refine own_gs 71 [(.int (2 : Int32)), (.int ((((x.toUInt32 >>> ((8 : Int32) &&& 31).toUInt32).toInt32).toUInt32 >>> ((4 : Int32) &&& 31).toUInt32).toInt32))] (fun t' k => XS.iconst X0.here hx rfl (hb hby own_dN_70) k) ?_
            refine own_gs 72 [(.int ((((((x.toUInt32 >>> ((8 : Int32) &&& 31).toUInt32).toInt32).toUInt32 >>> ((4 : Int32) &&& 31).toUInt32).toInt32).toUInt32 >>> ((2 : Int32) &&& 31).toUInt32).toInt32))] (fun t' k => XS.iushr X0.here hx rfl (hb hby own_dN_71) rfl k) ?_
            refine own_go (mkF m 73 #[iv ((((((x.toUInt32 >>> ((8 : Int32) &&& 31).toUInt32).toInt32).toUInt32 >>> ((4 : Int32) &&& 31).toUInt32).toInt32).toUInt32 >>> ((2 : Int32) &&& 31).toUInt32).toInt32), iv (17 : Int32)] []) (fun t' k => XS.istoreN X0.here hx rfl (hb hby own_dN_72) rfl rfl k) ?_
            refine own_gs 74 [(.int (17 : Int32))] (fun t' k => XS.iloadN X0.here hx rfl (hb hby own_dN_73) rfl  k) ?_
            refine own_gs 75 [(.int ((((((x.toUInt32 >>> ((8 : Int32) &&& 31).toUInt32).toInt32).toUInt32 >>> ((4 : Int32) &&& 31).toUInt32).toInt32).toUInt32 >>> ((2 : Int32) &&& 31).toUInt32).toInt32)), (.int (17 : Int32))] (fun t' k => XS.iloadN X0.here hx rfl (hb hby own_dN_74) rfl  k) ?_
            refine own_gs 76 [(.int (1 : Int32)), (.int ((((((x.toUInt32 >>> ((8 : Int32) &&& 31).toUInt32).toInt32).toUInt32 >>> ((4 : Int32) &&& 31).toUInt32).toInt32).toUInt32 >>> ((2 : Int32) &&& 31).toUInt32).toInt32)), (.int (17 : Int32))] (fun t' k => XS.iconst X0.here hx rfl (hb hby own_dN_75) k) ?_
            refine own_gs 77 [(.int ((((((((x.toUInt32 >>> ((8 : Int32) &&& 31).toUInt32).toInt32).toUInt32 >>> ((4 : Int32) &&& 31).toUInt32).toInt32).toUInt32 >>> ((2 : Int32) &&& 31).toUInt32).toInt32).toUInt32 >>> ((1 : Int32) &&& 31).toUInt32).toInt32)), (.int (17 : Int32))] (fun t' k => XS.iushr X0.here hx rfl (hb hby own_dN_76) rfl k) ?_
            refine own_gs 78 [(.int ((17 : Int32) - ((((((((x.toUInt32 >>> ((8 : Int32) &&& 31).toUInt32).toInt32).toUInt32 >>> ((4 : Int32) &&& 31).toUInt32).toInt32).toUInt32 >>> ((2 : Int32) &&& 31).toUInt32).toInt32).toUInt32 >>> ((1 : Int32) &&& 31).toUInt32).toInt32)))] (fun t' k => XS.isub X0.here hx rfl (hb hby own_dN_77) rfl k) ?_
            refine own_retI hF (Nat.zero_le _) X0 hx hlk hret (hb hby own_dN_78) ?_ (by decide) (by decide)
            exact ⟨congrArg (fun z => some (Value.int z)) ((show (own_nlz x) = ((17 : Int32) - ((((((((x.toUInt32 >>> ((8 : Int32) &&& 31).toUInt32).toInt32).toUInt32 >>> ((4 : Int32) &&& 31).toUInt32).toInt32).toUInt32 >>> ((2 : Int32) &&& 31).toUInt32).toInt32).toUInt32 >>> ((1 : Int32) &&& 31).toUInt32).toInt32)) from ((if_pos hc1).trans ((if_pos hc22).trans ((if_neg hc37).trans ((if_neg hc51).trans ((if_neg hc63).trans rfl)))))).trans (by rfl : ((17 : Int32) - ((((((((x.toUInt32 >>> ((8 : Int32) &&& 31).toUInt32).toInt32).toUInt32 >>> ((4 : Int32) &&& 31).toUInt32).toInt32).toUInt32 >>> ((2 : Int32) &&& 31).toUInt32).toInt32).toUInt32 >>> ((1 : Int32) &&& 31).toUInt32).toInt32)) = ((17 : Int32) - ((((((((x.toUInt32 >>> ((8 : Int32) &&& 31).toUInt32).toInt32).toUInt32 >>> ((4 : Int32) &&& 31).toUInt32).toInt32).toUInt32 >>> ((2 : Int32) &&& 31).toUInt32).toInt32).toUInt32 >>> ((1 : Int32) &&& 31).toUInt32).toInt32)))).symm, e0, rfl⟩
    · skip
      refine own_gs 25 [] (fun t' k => XS.icmpNo X0.here hx rfl (hb hby own_dN_22) rfl (flt hc22).1 k) ?_
      refine own_go (mkF m 28 #[iv x, iv (15 : Int32)] []) (fun t' k => XS.iinc X0.here hx rfl (hb hby own_dN_25) rfl rfl k) ?_
      refine own_gs 29 [(.int x)] (fun t' k => XS.iloadN X0.here hx rfl (hb hby own_dN_28) rfl  k) ?_
      refine own_gs 31 [(.int (16 : Int32)), (.int x)] (fun t' k => XS.bipush X0.here hx rfl (hb hby own_dN_29) k) ?_
      refine own_gs 32 [(.int ((x.toUInt32 >>> ((16 : Int32) &&& 31).toUInt32).toInt32))] (fun t' k => XS.iushr X0.here hx rfl (hb hby own_dN_31) rfl k) ?_
      refine own_go (mkF m 33 #[iv ((x.toUInt32 >>> ((16 : Int32) &&& 31).toUInt32).toInt32), iv (15 : Int32)] []) (fun t' k => XS.istoreN X0.here hx rfl (hb hby own_dN_32) rfl rfl k) ?_
      refine own_gs 34 [(.int ((x.toUInt32 >>> ((16 : Int32) &&& 31).toUInt32).toInt32))] (fun t' k => XS.iloadN X0.here hx rfl (hb hby own_dN_33) rfl  k) ?_
      refine own_gs 37 [(.int (256 : Int32)), (.int ((x.toUInt32 >>> ((16 : Int32) &&& 31).toUInt32).toInt32))] (fun t' k => XS.sipush X0.here hx rfl (hb hby own_dN_34) k) ?_
      by_cases hc37 : ((x.toUInt32 >>> ((16 : Int32) &&& 31).toUInt32).toInt32) < (256 : Int32)
      · skip
        refine own_gs 48 [] (fun t' k => XS.icmpYes X0.here hx rfl (pc0 := 37) (pc' := 48) rfl (hb hby own_dN_37) rfl (tlt hc37).1 (by decide) (by decide) k) ?_
        refine own_gs 49 [(.int ((x.toUInt32 >>> ((16 : Int32) &&& 31).toUInt32).toInt32))] (fun t' k => XS.iloadN X0.here hx rfl (hb hby own_dN_48) rfl  k) ?_
        refine own_gs 51 [(.int (16 : Int32)), (.int ((x.toUInt32 >>> ((16 : Int32) &&& 31).toUInt32).toInt32))] (fun t' k => XS.bipush X0.here hx rfl (hb hby own_dN_49) k) ?_
        by_cases hc51 : ((x.toUInt32 >>> ((16 : Int32) &&& 31).toUInt32).toInt32) < (16 : Int32)
        · skip
          refine own_gs 61 [] (fun t' k => XS.icmpYes X0.here hx rfl (pc0 := 51) (pc' := 61) rfl (hb hby own_dN_51) rfl (tlt hc51).1 (by decide) (by decide) k) ?_
          refine own_gs 62 [(.int ((x.toUInt32 >>> ((16 : Int32) &&& 31).toUInt32).toInt32))] (fun t' k => XS.iloadN X0.here hx rfl (hb hby own_dN_61) rfl  k) ?_
          refine own_gs 63 [(.int (4 : Int32)), (.int ((x.toUInt32 >>> ((16 : Int32) &&& 31).toUInt32).toInt32))] (fun t' k => XS.iconst X0.here hx rfl (hb hby own_dN_62) k) ?_
          by_cases hc63 : ((x.toUInt32 >>> ((16 : Int32) &&& 31).toUInt32).toInt32) < (4 : Int32)
          · skip
            refine own_gs 73 [] (fun t' k => XS.icmpYes X0.here hx rfl (pc0 := 63) (pc' := 73) rfl (hb hby own_dN_63) rfl (tlt hc63).1 (by decide) (by decide) k) ?_
            refine own_gs 74 [(.int (15 : Int32))] (fun t' k => XS.iloadN X0.here hx rfl (hb hby own_dN_73) rfl  k) ?_
            refine own_gs 75 [(.int ((x.toUInt32 >>> ((16 : Int32) &&& 31).toUInt32).toInt32)), (.int (15 : Int32))] (fun t' k => XS.iloadN X0.here hx rfl (hb hby own_dN_74) rfl  k) ?_
            refine own_gs 76 [(.int (1 : Int32)), (.int ((x.toUInt32 >>> ((16 : Int32) &&& 31).toUInt32).toInt32)), (.int (15 : Int32))] (fun t' k => XS.iconst X0.here hx rfl (hb hby own_dN_75) k) ?_
            refine own_gs 77 [(.int ((((x.toUInt32 >>> ((16 : Int32) &&& 31).toUInt32).toInt32).toUInt32 >>> ((1 : Int32) &&& 31).toUInt32).toInt32)), (.int (15 : Int32))] (fun t' k => XS.iushr X0.here hx rfl (hb hby own_dN_76) rfl k) ?_
            refine own_gs 78 [(.int ((15 : Int32) - ((((x.toUInt32 >>> ((16 : Int32) &&& 31).toUInt32).toInt32).toUInt32 >>> ((1 : Int32) &&& 31).toUInt32).toInt32)))] (fun t' k => XS.isub X0.here hx rfl (hb hby own_dN_77) rfl k) ?_
            refine own_retI hF (Nat.zero_le _) X0 hx hlk hret (hb hby own_dN_78) ?_ (by decide) (by decide)
            exact ⟨congrArg (fun z => some (Value.int z)) ((show (own_nlz x) = ((15 : Int32) - ((((x.toUInt32 >>> ((16 : Int32) &&& 31).toUInt32).toInt32).toUInt32 >>> ((1 : Int32) &&& 31).toUInt32).toInt32)) from ((if_pos hc1).trans ((if_neg hc22).trans ((if_pos hc37).trans ((if_pos hc51).trans ((if_pos hc63).trans rfl)))))).trans (by rfl : ((15 : Int32) - ((((x.toUInt32 >>> ((16 : Int32) &&& 31).toUInt32).toInt32).toUInt32 >>> ((1 : Int32) &&& 31).toUInt32).toInt32)) = ((15 : Int32) - ((((x.toUInt32 >>> ((16 : Int32) &&& 31).toUInt32).toInt32).toUInt32 >>> ((1 : Int32) &&& 31).toUInt32).toInt32)))).symm, e0, rfl⟩
          · skip
            refine own_gs 66 [] (fun t' k => XS.icmpNo X0.here hx rfl (hb hby own_dN_63) rfl (flt hc63).1 k) ?_
            refine own_go (mkF m 69 #[iv ((x.toUInt32 >>> ((16 : Int32) &&& 31).toUInt32).toInt32), iv (13 : Int32)] []) (fun t' k => XS.iinc X0.here hx rfl (hb hby own_dN_66) rfl rfl k) ?_
            refine own_gs 70 [(.int ((x.toUInt32 >>> ((16 : Int32) &&& 31).toUInt32).toInt32))] (fun t' k => XS.iloadN X0.here hx rfl (hb hby own_dN_69) rfl  k) ?_
            refine own_gs 71 [(.int (2 : Int32)), (.int ((x.toUInt32 >>> ((16 : Int32) &&& 31).toUInt32).toInt32))] (fun t' k => XS.iconst X0.here hx rfl (hb hby own_dN_70) k) ?_
            refine own_gs 72 [(.int ((((x.toUInt32 >>> ((16 : Int32) &&& 31).toUInt32).toInt32).toUInt32 >>> ((2 : Int32) &&& 31).toUInt32).toInt32))] (fun t' k => XS.iushr X0.here hx rfl (hb hby own_dN_71) rfl k) ?_
            refine own_go (mkF m 73 #[iv ((((x.toUInt32 >>> ((16 : Int32) &&& 31).toUInt32).toInt32).toUInt32 >>> ((2 : Int32) &&& 31).toUInt32).toInt32), iv (13 : Int32)] []) (fun t' k => XS.istoreN X0.here hx rfl (hb hby own_dN_72) rfl rfl k) ?_
            refine own_gs 74 [(.int (13 : Int32))] (fun t' k => XS.iloadN X0.here hx rfl (hb hby own_dN_73) rfl  k) ?_
            refine own_gs 75 [(.int ((((x.toUInt32 >>> ((16 : Int32) &&& 31).toUInt32).toInt32).toUInt32 >>> ((2 : Int32) &&& 31).toUInt32).toInt32)), (.int (13 : Int32))] (fun t' k => XS.iloadN X0.here hx rfl (hb hby own_dN_74) rfl  k) ?_
            refine own_gs 76 [(.int (1 : Int32)), (.int ((((x.toUInt32 >>> ((16 : Int32) &&& 31).toUInt32).toInt32).toUInt32 >>> ((2 : Int32) &&& 31).toUInt32).toInt32)), (.int (13 : Int32))] (fun t' k => XS.iconst X0.here hx rfl (hb hby own_dN_75) k) ?_
            refine own_gs 77 [(.int ((((((x.toUInt32 >>> ((16 : Int32) &&& 31).toUInt32).toInt32).toUInt32 >>> ((2 : Int32) &&& 31).toUInt32).toInt32).toUInt32 >>> ((1 : Int32) &&& 31).toUInt32).toInt32)), (.int (13 : Int32))] (fun t' k => XS.iushr X0.here hx rfl (hb hby own_dN_76) rfl k) ?_
            refine own_gs 78 [(.int ((13 : Int32) - ((((((x.toUInt32 >>> ((16 : Int32) &&& 31).toUInt32).toInt32).toUInt32 >>> ((2 : Int32) &&& 31).toUInt32).toInt32).toUInt32 >>> ((1 : Int32) &&& 31).toUInt32).toInt32)))] (fun t' k => XS.isub X0.here hx rfl (hb hby own_dN_77) rfl k) ?_
            refine own_retI hF (Nat.zero_le _) X0 hx hlk hret (hb hby own_dN_78) ?_ (by decide) (by decide)
            exact ⟨congrArg (fun z => some (Value.int z)) ((show (own_nlz x) = ((13 : Int32) - ((((((x.toUInt32 >>> ((16 : Int32) &&& 31).toUInt32).toInt32).toUInt32 >>> ((2 : Int32) &&& 31).toUInt32).toInt32).toUInt32 >>> ((1 : Int32) &&& 31).toUInt32).toInt32)) from ((if_pos hc1).trans ((if_neg hc22).trans ((if_pos hc37).trans ((if_pos hc51).trans ((if_neg hc63).trans rfl)))))).trans (by rfl : ((13 : Int32) - ((((((x.toUInt32 >>> ((16 : Int32) &&& 31).toUInt32).toInt32).toUInt32 >>> ((2 : Int32) &&& 31).toUInt32).toInt32).toUInt32 >>> ((1 : Int32) &&& 31).toUInt32).toInt32)) = ((13 : Int32) - ((((((x.toUInt32 >>> ((16 : Int32) &&& 31).toUInt32).toInt32).toUInt32 >>> ((2 : Int32) &&& 31).toUInt32).toInt32).toUInt32 >>> ((1 : Int32) &&& 31).toUInt32).toInt32)))).symm, e0, rfl⟩
        · skip
          refine own_gs 54 [] (fun t' k => XS.icmpNo X0.here hx rfl (hb hby own_dN_51) rfl (flt hc51).1 k) ?_
          refine own_go (mkF m 57 #[iv ((x.toUInt32 >>> ((16 : Int32) &&& 31).toUInt32).toInt32), iv (11 : Int32)] []) (fun t' k => XS.iinc X0.here hx rfl (hb hby own_dN_54) rfl rfl k) ?_
          refine own_gs 58 [(.int ((x.toUInt32 >>> ((16 : Int32) &&& 31).toUInt32).toInt32))] (fun t' k => XS.iloadN X0.here hx rfl (hb hby own_dN_57) rfl  k) ?_
          refine own_gs 59 [(.int (4 : Int32)), (.int ((x.toUInt32 >>> ((16 : Int32) &&& 31).toUInt32).toInt32))] (fun t' k => XS.iconst X0.here hx rfl (hb hby own_dN_58) k) ?_
          refine own_gs 60 [(.int ((((x.toUInt32 >>> ((16 : Int32) &&& 31).toUInt32).toInt32).toUInt32 >>> ((4 : Int32) &&& 31).toUInt32).toInt32))] (fun t' k => XS.iushr X0.here hx rfl (hb hby own_dN_59) rfl k) ?_
          refine own_go (mkF m 61 #[iv ((((x.toUInt32 >>> ((16 : Int32) &&& 31).toUInt32).toInt32).toUInt32 >>> ((4 : Int32) &&& 31).toUInt32).toInt32), iv (11 : Int32)] []) (fun t' k => XS.istoreN X0.here hx rfl (hb hby own_dN_60) rfl rfl k) ?_
          refine own_gs 62 [(.int ((((x.toUInt32 >>> ((16 : Int32) &&& 31).toUInt32).toInt32).toUInt32 >>> ((4 : Int32) &&& 31).toUInt32).toInt32))] (fun t' k => XS.iloadN X0.here hx rfl (hb hby own_dN_61) rfl  k) ?_
          refine own_gs 63 [(.int (4 : Int32)), (.int ((((x.toUInt32 >>> ((16 : Int32) &&& 31).toUInt32).toInt32).toUInt32 >>> ((4 : Int32) &&& 31).toUInt32).toInt32))] (fun t' k => XS.iconst X0.here hx rfl (hb hby own_dN_62) k) ?_
          by_cases hc63 : ((((x.toUInt32 >>> ((16 : Int32) &&& 31).toUInt32).toInt32).toUInt32 >>> ((4 : Int32) &&& 31).toUInt32).toInt32) < (4 : Int32)
          · skip
            refine own_gs 73 [] (fun t' k => XS.icmpYes X0.here hx rfl (pc0 := 63) (pc' := 73) rfl (hb hby own_dN_63) rfl (tlt hc63).1 (by decide) (by decide) k) ?_
            refine own_gs 74 [(.int (11 : Int32))] (fun t' k => XS.iloadN X0.here hx rfl (hb hby own_dN_73) rfl  k) ?_
            refine own_gs 75 [(.int ((((x.toUInt32 >>> ((16 : Int32) &&& 31).toUInt32).toInt32).toUInt32 >>> ((4 : Int32) &&& 31).toUInt32).toInt32)), (.int (11 : Int32))] (fun t' k => XS.iloadN X0.here hx rfl (hb hby own_dN_74) rfl  k) ?_
            refine own_gs 76 [(.int (1 : Int32)), (.int ((((x.toUInt32 >>> ((16 : Int32) &&& 31).toUInt32).toInt32).toUInt32 >>> ((4 : Int32) &&& 31).toUInt32).toInt32)), (.int (11 : Int32))] (fun t' k => XS.iconst X0.here hx rfl (hb hby own_dN_75) k) ?_
            refine own_gs 77 [(.int ((((((x.toUInt32 >>> ((16 : Int32) &&& 31).toUInt32).toInt32).toUInt32 >>> ((4 : Int32) &&& 31).toUInt32).toInt32).toUInt32 >>> ((1 : Int32) &&& 31).toUInt32).toInt32)), (.int (11 : Int32))] (fun t' k => XS.iushr X0.here hx rfl (hb hby own_dN_76) rfl k) ?_
            refine own_gs 78 [(.int ((11 : Int32) - ((((((x.toUInt32 >>> ((16 : Int32) &&& 31).toUInt32).toInt32).toUInt32 >>> ((4 : Int32) &&& 31).toUInt32).toInt32).toUInt32 >>> ((1 : Int32) &&& 31).toUInt32).toInt32)))] (fun t' k => XS.isub X0.here hx rfl (hb hby own_dN_77) rfl k) ?_
            refine own_retI hF (Nat.zero_le _) X0 hx hlk hret (hb hby own_dN_78) ?_ (by decide) (by decide)
            exact ⟨congrArg (fun z => some (Value.int z)) ((show (own_nlz x) = ((11 : Int32) - ((((((x.toUInt32 >>> ((16 : Int32) &&& 31).toUInt32).toInt32).toUInt32 >>> ((4 : Int32) &&& 31).toUInt32).toInt32).toUInt32 >>> ((1 : Int32) &&& 31).toUInt32).toInt32)) from ((if_pos hc1).trans ((if_neg hc22).trans ((if_pos hc37).trans ((if_neg hc51).trans ((if_pos hc63).trans rfl)))))).trans (by rfl : ((11 : Int32) - ((((((x.toUInt32 >>> ((16 : Int32) &&& 31).toUInt32).toInt32).toUInt32 >>> ((4 : Int32) &&& 31).toUInt32).toInt32).toUInt32 >>> ((1 : Int32) &&& 31).toUInt32).toInt32)) = ((11 : Int32) - ((((((x.toUInt32 >>> ((16 : Int32) &&& 31).toUInt32).toInt32).toUInt32 >>> ((4 : Int32) &&& 31).toUInt32).toInt32).toUInt32 >>> ((1 : Int32) &&& 31).toUInt32).toInt32)))).symm, e0, rfl⟩
          · skip
            refine own_gs 66 [] (fun t' k => XS.icmpNo X0.here hx rfl (hb hby own_dN_63) rfl (flt hc63).1 k) ?_
            refine own_go (mkF m 69 #[iv ((((x.toUInt32 >>> ((16 : Int32) &&& 31).toUInt32).toInt32).toUInt32 >>> ((4 : Int32) &&& 31).toUInt32).toInt32), iv (9 : Int32)] []) (fun t' k => XS.iinc X0.here hx rfl (hb hby own_dN_66) rfl rfl k) ?_
            refine own_gs 70 [(.int ((((x.toUInt32 >>> ((16 : Int32) &&& 31).toUInt32).toInt32).toUInt32 >>> ((4 : Int32) &&& 31).toUInt32).toInt32))] (fun t' k => XS.iloadN X0.here hx rfl (hb hby own_dN_69) rfl  k) ?_
            refine own_gs 71 [(.int (2 : Int32)), (.int ((((x.toUInt32 >>> ((16 : Int32) &&& 31).toUInt32).toInt32).toUInt32 >>> ((4 : Int32) &&& 31).toUInt32).toInt32))] (fun t' k => XS.iconst X0.here hx rfl (hb hby own_dN_70) k) ?_
            refine own_gs 72 [(.int ((((((x.toUInt32 >>> ((16 : Int32) &&& 31).toUInt32).toInt32).toUInt32 >>> ((4 : Int32) &&& 31).toUInt32).toInt32).toUInt32 >>> ((2 : Int32) &&& 31).toUInt32).toInt32))] (fun t' k => XS.iushr X0.here hx rfl (hb hby own_dN_71) rfl k) ?_
            refine own_go (mkF m 73 #[iv ((((((x.toUInt32 >>> ((16 : Int32) &&& 31).toUInt32).toInt32).toUInt32 >>> ((4 : Int32) &&& 31).toUInt32).toInt32).toUInt32 >>> ((2 : Int32) &&& 31).toUInt32).toInt32), iv (9 : Int32)] []) (fun t' k => XS.istoreN X0.here hx rfl (hb hby own_dN_72) rfl rfl k) ?_
            refine own_gs 74 [(.int (9 : Int32))] (fun t' k => XS.iloadN X0.here hx rfl (hb hby own_dN_73) rfl  k) ?_
            refine own_gs 75 [(.int ((((((x.toUInt32 >>> ((16 : Int32) &&& 31).toUInt32).toInt32).toUInt32 >>> ((4 : Int32) &&& 31).toUInt32).toInt32).toUInt32 >>> ((2 : Int32) &&& 31).toUInt32).toInt32)), (.int (9 : Int32))] (fun t' k => XS.iloadN X0.here hx rfl (hb hby own_dN_74) rfl  k) ?_
            refine own_gs 76 [(.int (1 : Int32)), (.int ((((((x.toUInt32 >>> ((16 : Int32) &&& 31).toUInt32).toInt32).toUInt32 >>> ((4 : Int32) &&& 31).toUInt32).toInt32).toUInt32 >>> ((2 : Int32) &&& 31).toUInt32).toInt32)), (.int (9 : Int32))] (fun t' k => XS.iconst X0.here hx rfl (hb hby own_dN_75) k) ?_
            refine own_gs 77 [(.int ((((((((x.toUInt32 >>> ((16 : Int32) &&& 31).toUInt32).toInt32).toUInt32 >>> ((4 : Int32) &&& 31).toUInt32).toInt32).toUInt32 >>> ((2 : Int32) &&& 31).toUInt32).toInt32).toUInt32 >>> ((1 : Int32) &&& 31).toUInt32).toInt32)), (.int (9 : Int32))] (fun t' k => XS.iushr X0.here hx rfl (hb hby own_dN_76) rfl k) ?_
            refine own_gs 78 [(.int ((9 : Int32) - ((((((((x.toUInt32 >>> ((16 : Int32) &&& 31).toUInt32).toInt32).toUInt32 >>> ((4 : Int32) &&& 31).toUInt32).toInt32).toUInt32 >>> ((2 : Int32) &&& 31).toUInt32).toInt32).toUInt32 >>> ((1 : Int32) &&& 31).toUInt32).toInt32)))] (fun t' k => XS.isub X0.here hx rfl (hb hby own_dN_77) rfl k) ?_
            refine own_retI hF (Nat.zero_le _) X0 hx hlk hret (hb hby own_dN_78) ?_ (by decide) (by decide)
            exact ⟨congrArg (fun z => some (Value.int z)) ((show (own_nlz x) = ((9 : Int32) - ((((((((x.toUInt32 >>> ((16 : Int32) &&& 31).toUInt32).toInt32).toUInt32 >>> ((4 : Int32) &&& 31).toUInt32).toInt32).toUInt32 >>> ((2 : Int32) &&& 31).toUInt32).toInt32).toUInt32 >>> ((1 : Int32) &&& 31).toUInt32).toInt32)) from ((if_pos hc1).trans ((if_neg hc22).trans ((if_pos hc37).trans ((if_neg hc51).trans ((if_neg hc63).trans rfl)))))).trans (by rfl : ((9 : Int32) - ((((((((x.toUInt32 >>> ((16 : Int32) &&& 31).toUInt32).toInt32).toUInt32 >>> ((4 : Int32) &&& 31).toUInt32).toInt32).toUInt32 >>> ((2 : Int32) &&& 31).toUInt32).toInt32).toUInt32 >>> ((1 : Int32) &&& 31).toUInt32).toInt32)) = ((9 : Int32) - ((((((((x.toUInt32 >>> ((16 : Int32) &&& 31).toUInt32).toInt32).toUInt32 >>> ((4 : Int32) &&& 31).toUInt32).toInt32).toUInt32 >>> ((2 : Int32) &&& 31).toUInt32).toInt32).toUInt32 >>> ((1 : Int32) &&& 31).toUInt32).toInt32)))).symm, e0, rfl⟩
      · skip
        refine own_gs 40 [] (fun t' k => XS.icmpNo X0.here hx rfl (hb hby own_dN_37) rfl (flt hc37).1 k) ?_
        refine own_go (mkF m 43 #[iv ((x.toUInt32 >>> ((16 : Int32) &&& 31).toUInt32).toInt32), iv (7 : Int32)] []) (fun t' k => XS.iinc X0.here hx rfl (hb hby own_dN_40) rfl rfl k) ?_
        refine own_gs 44 [(.int ((x.toUInt32 >>> ((16 : Int32) &&& 31).toUInt32).toInt32))] (fun t' k => XS.iloadN X0.here hx rfl (hb hby own_dN_43) rfl  k) ?_
        refine own_gs 46 [(.int (8 : Int32)), (.int ((x.toUInt32 >>> ((16 : Int32) &&& 31).toUInt32).toInt32))] (fun t' k => XS.bipush X0.here hx rfl (hb hby own_dN_44) k) ?_
        refine own_gs 47 [(.int ((((x.toUInt32 >>> ((16 : Int32) &&& 31).toUInt32).toInt32).toUInt32 >>> ((8 : Int32) &&& 31).toUInt32).toInt32))] (fun t' k => XS.iushr X0.here hx rfl (hb hby own_dN_46) rfl k) ?_
        refine own_go (mkF m 48 #[iv ((((x.toUInt32 >>> ((16 : Int32) &&& 31).toUInt32).toInt32).toUInt32 >>> ((8 : Int32) &&& 31).toUInt32).toInt32), iv (7 : Int32)] []) (fun t' k => XS.istoreN X0.here hx rfl (hb hby own_dN_47) rfl rfl k) ?_
        refine own_gs 49 [(.int ((((x.toUInt32 >>> ((16 : Int32) &&& 31).toUInt32).toInt32).toUInt32 >>> ((8 : Int32) &&& 31).toUInt32).toInt32))] (fun t' k => XS.iloadN X0.here hx rfl (hb hby own_dN_48) rfl  k) ?_
        refine own_gs 51 [(.int (16 : Int32)), (.int ((((x.toUInt32 >>> ((16 : Int32) &&& 31).toUInt32).toInt32).toUInt32 >>> ((8 : Int32) &&& 31).toUInt32).toInt32))] (fun t' k => XS.bipush X0.here hx rfl (hb hby own_dN_49) k) ?_
        by_cases hc51 : ((((x.toUInt32 >>> ((16 : Int32) &&& 31).toUInt32).toInt32).toUInt32 >>> ((8 : Int32) &&& 31).toUInt32).toInt32) < (16 : Int32)
        · skip
          refine own_gs 61 [] (fun t' k => XS.icmpYes X0.here hx rfl (pc0 := 51) (pc' := 61) rfl (hb hby own_dN_51) rfl (tlt hc51).1 (by decide) (by decide) k) ?_
          refine own_gs 62 [(.int ((((x.toUInt32 >>> ((16 : Int32) &&& 31).toUInt32).toInt32).toUInt32 >>> ((8 : Int32) &&& 31).toUInt32).toInt32))] (fun t' k => XS.iloadN X0.here hx rfl (hb hby own_dN_61) rfl  k) ?_
          refine own_gs 63 [(.int (4 : Int32)), (.int ((((x.toUInt32 >>> ((16 : Int32) &&& 31).toUInt32).toInt32).toUInt32 >>> ((8 : Int32) &&& 31).toUInt32).toInt32))] (fun t' k => XS.iconst X0.here hx rfl (hb hby own_dN_62) k) ?_
          by_cases hc63 : ((((x.toUInt32 >>> ((16 : Int32) &&& 31).toUInt32).toInt32).toUInt32 >>> ((8 : Int32) &&& 31).toUInt32).toInt32) < (4 : Int32)
          · skip
            refine own_gs 73 [] (fun t' k => XS.icmpYes X0.here hx rfl (pc0 := 63) (pc' := 73) rfl (hb hby own_dN_63) rfl (tlt hc63).1 (by decide) (by decide) k) ?_
            refine own_gs 74 [(.int (7 : Int32))] (fun t' k => XS.iloadN X0.here hx rfl (hb hby own_dN_73) rfl  k) ?_
            refine own_gs 75 [(.int ((((x.toUInt32 >>> ((16 : Int32) &&& 31).toUInt32).toInt32).toUInt32 >>> ((8 : Int32) &&& 31).toUInt32).toInt32)), (.int (7 : Int32))] (fun t' k => XS.iloadN X0.here hx rfl (hb hby own_dN_74) rfl  k) ?_
            refine own_gs 76 [(.int (1 : Int32)), (.int ((((x.toUInt32 >>> ((16 : Int32) &&& 31).toUInt32).toInt32).toUInt32 >>> ((8 : Int32) &&& 31).toUInt32).toInt32)), (.int (7 : Int32))] (fun t' k => XS.iconst X0.here hx rfl (hb hby own_dN_75) k) ?_
            refine own_gs 77 [(.int ((((((x.toUInt32 >>> ((16 : Int32) &&& 31).toUInt32).toInt32).toUInt32 >>> ((8 : Int32) &&& 31).toUInt32).toInt32).toUInt32 >>> ((1 : Int32) &&& 31).toUInt32).toInt32)), (.int (7 : Int32))] (fun t' k => XS.iushr X0.here hx rfl (hb hby own_dN_76) rfl k) ?_
            refine own_gs 78 [(.int ((7 : Int32) - ((((((x.toUInt32 >>> ((16 : Int32) &&& 31).toUInt32).toInt32).toUInt32 >>> ((8 : Int32) &&& 31).toUInt32).toInt32).toUInt32 >>> ((1 : Int32) &&& 31).toUInt32).toInt32)))] (fun t' k => XS.isub X0.here hx rfl (hb hby own_dN_77) rfl k) ?_
            refine own_retI hF (Nat.zero_le _) X0 hx hlk hret (hb hby own_dN_78) ?_ (by decide) (by decide)
            exact ⟨congrArg (fun z => some (Value.int z)) ((show (own_nlz x) = ((7 : Int32) - ((((((x.toUInt32 >>> ((16 : Int32) &&& 31).toUInt32).toInt32).toUInt32 >>> ((8 : Int32) &&& 31).toUInt32).toInt32).toUInt32 >>> ((1 : Int32) &&& 31).toUInt32).toInt32)) from ((if_pos hc1).trans ((if_neg hc22).trans ((if_neg hc37).trans ((if_pos hc51).trans ((if_pos hc63).trans rfl)))))).trans (by rfl : ((7 : Int32) - ((((((x.toUInt32 >>> ((16 : Int32) &&& 31).toUInt32).toInt32).toUInt32 >>> ((8 : Int32) &&& 31).toUInt32).toInt32).toUInt32 >>> ((1 : Int32) &&& 31).toUInt32).toInt32)) = ((7 : Int32) - ((((((x.toUInt32 >>> ((16 : Int32) &&& 31).toUInt32).toInt32).toUInt32 >>> ((8 : Int32) &&& 31).toUInt32).toInt32).toUInt32 >>> ((1 : Int32) &&& 31).toUInt32).toInt32)))).symm, e0, rfl⟩
          · skip
            refine own_gs 66 [] (fun t' k => XS.icmpNo X0.here hx rfl (hb hby own_dN_63) rfl (flt hc63).1 k) ?_
            refine own_go (mkF m 69 #[iv ((((x.toUInt32 >>> ((16 : Int32) &&& 31).toUInt32).toInt32).toUInt32 >>> ((8 : Int32) &&& 31).toUInt32).toInt32), iv (5 : Int32)] []) (fun t' k => XS.iinc X0.here hx rfl (hb hby own_dN_66) rfl rfl k) ?_
            refine own_gs 70 [(.int ((((x.toUInt32 >>> ((16 : Int32) &&& 31).toUInt32).toInt32).toUInt32 >>> ((8 : Int32) &&& 31).toUInt32).toInt32))] (fun t' k => XS.iloadN X0.here hx rfl (hb hby own_dN_69) rfl  k) ?_
            refine own_gs 71 [(.int (2 : Int32)), (.int ((((x.toUInt32 >>> ((16 : Int32) &&& 31).toUInt32).toInt32).toUInt32 >>> ((8 : Int32) &&& 31).toUInt32).toInt32))] (fun t' k => XS.iconst X0.here hx rfl (hb hby own_dN_70) k) ?_
            refine own_gs 72 [(.int ((((((x.toUInt32 >>> ((16 : Int32) &&& 31).toUInt32).toInt32).toUInt32 >>> ((8 : Int32) &&& 31).toUInt32).toInt32).toUInt32 >>> ((2 : Int32) &&& 31).toUInt32).toInt32))] (fun t' k => XS.iushr X0.here hx rfl (hb hby own_dN_71) rfl k) ?_
            refine own_go (mkF m 73 #[iv ((((((x.toUInt32 >>> ((16 : Int32) &&& 31).toUInt32).toInt32).toUInt32 >>> ((8 : Int32) &&& 31).toUInt32).toInt32).toUInt32 >>> ((2 : Int32) &&& 31).toUInt32).toInt32), iv (5 : Int32)] []) (fun t' k => XS.istoreN X0.here hx rfl (hb hby own_dN_72) rfl rfl k) ?_
            refine own_gs 74 [(.int (5 : Int32))] (fun t' k => XS.iloadN X0.here hx rfl (hb hby own_dN_73) rfl  k) ?_
            refine own_gs 75 [(.int ((((((x.toUInt32 >>> ((16 : Int32) &&& 31).toUInt32).toInt32).toUInt32 >>> ((8 : Int32) &&& 31).toUInt32).toInt32).toUInt32 >>> ((2 : Int32) &&& 31).toUInt32).toInt32)), (.int (5 : Int32))] (fun t' k => XS.iloadN X0.here hx rfl (hb hby own_dN_74) rfl  k) ?_
            refine own_gs 76 [(.int (1 : Int32)), (.int ((((((x.toUInt32 >>> ((16 : Int32) &&& 31).toUInt32).toInt32).toUInt32 >>> ((8 : Int32) &&& 31).toUInt32).toInt32).toUInt32 >>> ((2 : Int32) &&& 31).toUInt32).toInt32)), (.int (5 : Int32))] (fun t' k => XS.iconst X0.here hx rfl (hb hby own_dN_75) k) ?_
            refine own_gs 77 [(.int ((((((((x.toUInt32 >>> ((16 : Int32) &&& 31).toUInt32).toInt32).toUInt32 >>> ((8 : Int32) &&& 31).toUInt32).toInt32).toUInt32 >>> ((2 : Int32) &&& 31).toUInt32).toInt32).toUInt32 >>> ((1 : Int32) &&& 31).toUInt32).toInt32)), (.int (5 : Int32))] (fun t' k => XS.iushr X0.here hx rfl (hb hby own_dN_76) rfl k) ?_
            refine own_gs 78 [(.int ((5 : Int32) - ((((((((x.toUInt32 >>> ((16 : Int32) &&& 31).toUInt32).toInt32).toUInt32 >>> ((8 : Int32) &&& 31).toUInt32).toInt32).toUInt32 >>> ((2 : Int32) &&& 31).toUInt32).toInt32).toUInt32 >>> ((1 : Int32) &&& 31).toUInt32).toInt32)))] (fun t' k => XS.isub X0.here hx rfl (hb hby own_dN_77) rfl k) ?_
            refine own_retI hF (Nat.zero_le _) X0 hx hlk hret (hb hby own_dN_78) ?_ (by decide) (by decide)
            exact ⟨congrArg (fun z => some (Value.int z)) ((show (own_nlz x) = ((5 : Int32) - ((((((((x.toUInt32 >>> ((16 : Int32) &&& 31).toUInt32).toInt32).toUInt32 >>> ((8 : Int32) &&& 31).toUInt32).toInt32).toUInt32 >>> ((2 : Int32) &&& 31).toUInt32).toInt32).toUInt32 >>> ((1 : Int32) &&& 31).toUInt32).toInt32)) from ((if_pos hc1).trans ((if_neg hc22).trans ((if_neg hc37).trans ((if_pos hc51).trans ((if_neg hc63).trans rfl)))))).trans (by rfl : ((5 : Int32) - ((((((((x.toUInt32 >>> ((16 : Int32) &&& 31).toUInt32).toInt32).toUInt32 >>> ((8 : Int32) &&& 31).toUInt32).toInt32).toUInt32 >>> ((2 : Int32) &&& 31).toUInt32).toInt32).toUInt32 >>> ((1 : Int32) &&& 31).toUInt32).toInt32)) = ((5 : Int32) - ((((((((x.toUInt32 >>> ((16 : Int32) &&& 31).toUInt32).toInt32).toUInt32 >>> ((8 : Int32) &&& 31).toUInt32).toInt32).toUInt32 >>> ((2 : Int32) &&& 31).toUInt32).toInt32).toUInt32 >>> ((1 : Int32) &&& 31).toUInt32).toInt32)))).symm, e0, rfl⟩
        · skip
          refine own_gs 54 [] (fun t' k => XS.icmpNo X0.here hx rfl (hb hby own_dN_51) rfl (flt hc51).1 k) ?_
          refine own_go (mkF m 57 #[iv ((((x.toUInt32 >>> ((16 : Int32) &&& 31).toUInt32).toInt32).toUInt32 >>> ((8 : Int32) &&& 31).toUInt32).toInt32), iv (3 : Int32)] []) (fun t' k => XS.iinc X0.here hx rfl (hb hby own_dN_54) rfl rfl k) ?_
          refine own_gs 58 [(.int ((((x.toUInt32 >>> ((16 : Int32) &&& 31).toUInt32).toInt32).toUInt32 >>> ((8 : Int32) &&& 31).toUInt32).toInt32))] (fun t' k => XS.iloadN X0.here hx rfl (hb hby own_dN_57) rfl  k) ?_
          refine own_gs 59 [(.int (4 : Int32)), (.int ((((x.toUInt32 >>> ((16 : Int32) &&& 31).toUInt32).toInt32).toUInt32 >>> ((8 : Int32) &&& 31).toUInt32).toInt32))] (fun t' k => XS.iconst X0.here hx rfl (hb hby own_dN_58) k) ?_
          refine own_gs 60 [(.int ((((((x.toUInt32 >>> ((16 : Int32) &&& 31).toUInt32).toInt32).toUInt32 >>> ((8 : Int32) &&& 31).toUInt32).toInt32).toUInt32 >>> ((4 : Int32) &&& 31).toUInt32).toInt32))] (fun t' k => XS.iushr X0.here hx rfl (hb hby own_dN_59) rfl k) ?_
          refine own_go (mkF m 61 #[iv ((((((x.toUInt32 >>> ((16 : Int32) &&& 31).toUInt32).toInt32).toUInt32 >>> ((8 : Int32) &&& 31).toUInt32).toInt32).toUInt32 >>> ((4 : Int32) &&& 31).toUInt32).toInt32), iv (3 : Int32)] []) (fun t' k => XS.istoreN X0.here hx rfl (hb hby own_dN_60) rfl rfl k) ?_
          refine own_gs 62 [(.int ((((((x.toUInt32 >>> ((16 : Int32) &&& 31).toUInt32).toInt32).toUInt32 >>> ((8 : Int32) &&& 31).toUInt32).toInt32).toUInt32 >>> ((4 : Int32) &&& 31).toUInt32).toInt32))] (fun t' k => XS.iloadN X0.here hx rfl (hb hby own_dN_61) rfl  k) ?_
          refine own_gs 63 [(.int (4 : Int32)), (.int ((((((x.toUInt32 >>> ((16 : Int32) &&& 31).toUInt32).toInt32).toUInt32 >>> ((8 : Int32) &&& 31).toUInt32).toInt32).toUInt32 >>> ((4 : Int32) &&& 31).toUInt32).toInt32))] (fun t' k => XS.iconst X0.here hx rfl (hb hby own_dN_62) k) ?_
          by_cases hc63 : ((((((x.toUInt32 >>> ((16 : Int32) &&& 31).toUInt32).toInt32).toUInt32 >>> ((8 : Int32) &&& 31).toUInt32).toInt32).toUInt32 >>> ((4 : Int32) &&& 31).toUInt32).toInt32) < (4 : Int32)
          · skip
            refine own_gs 73 [] (fun t' k => XS.icmpYes X0.here hx rfl (pc0 := 63) (pc' := 73) rfl (hb hby own_dN_63) rfl (tlt hc63).1 (by decide) (by decide) k) ?_
            refine own_gs 74 [(.int (3 : Int32))] (fun t' k => XS.iloadN X0.here hx rfl (hb hby own_dN_73) rfl  k) ?_
            refine own_gs 75 [(.int ((((((x.toUInt32 >>> ((16 : Int32) &&& 31).toUInt32).toInt32).toUInt32 >>> ((8 : Int32) &&& 31).toUInt32).toInt32).toUInt32 >>> ((4 : Int32) &&& 31).toUInt32).toInt32)), (.int (3 : Int32))] (fun t' k => XS.iloadN X0.here hx rfl (hb hby own_dN_74) rfl  k) ?_
            refine own_gs 76 [(.int (1 : Int32)), (.int ((((((x.toUInt32 >>> ((16 : Int32) &&& 31).toUInt32).toInt32).toUInt32 >>> ((8 : Int32) &&& 31).toUInt32).toInt32).toUInt32 >>> ((4 : Int32) &&& 31).toUInt32).toInt32)), (.int (3 : Int32))] (fun t' k => XS.iconst X0.here hx rfl (hb hby own_dN_75) k) ?_
            refine own_gs 77 [(.int ((((((((x.toUInt32 >>> ((16 : Int32) &&& 31).toUInt32).toInt32).toUInt32 >>> ((8 : Int32) &&& 31).toUInt32).toInt32).toUInt32 >>> ((4 : Int32) &&& 31).toUInt32).toInt32).toUInt32 >>> ((1 : Int32) &&& 31).toUInt32).toInt32)), (.int (3 : Int32))] (fun t' k => XS.iushr X0.here hx rfl (hb hby own_dN_76) rfl k) ?_
            refine own_gs 78 [(.int ((3 : Int32) - ((((((((x.toUInt32 >>> ((16 : Int32) &&& 31).toUInt32).toInt32).toUInt32 >>> ((8 : Int32) &&& 31).toUInt32).toInt32).toUInt32 >>> ((4 : Int32) &&& 31).toUInt32).toInt32).toUInt32 >>> ((1 : Int32) &&& 31).toUInt32).toInt32)))] (fun t' k => XS.isub X0.here hx rfl (hb hby own_dN_77) rfl k) ?_
            refine own_retI hF (Nat.zero_le _) X0 hx hlk hret (hb hby own_dN_78) ?_ (by decide) (by decide)
            exact ⟨congrArg (fun z => some (Value.int z)) ((show (own_nlz x) = ((3 : Int32) - ((((((((x.toUInt32 >>> ((16 : Int32) &&& 31).toUInt32).toInt32).toUInt32 >>> ((8 : Int32) &&& 31).toUInt32).toInt32).toUInt32 >>> ((4 : Int32) &&& 31).toUInt32).toInt32).toUInt32 >>> ((1 : Int32) &&& 31).toUInt32).toInt32)) from ((if_pos hc1).trans ((if_neg hc22).trans ((if_neg hc37).trans ((if_neg hc51).trans ((if_pos hc63).trans rfl)))))).trans (by rfl : ((3 : Int32) - ((((((((x.toUInt32 >>> ((16 : Int32) &&& 31).toUInt32).toInt32).toUInt32 >>> ((8 : Int32) &&& 31).toUInt32).toInt32).toUInt32 >>> ((4 : Int32) &&& 31).toUInt32).toInt32).toUInt32 >>> ((1 : Int32) &&& 31).toUInt32).toInt32)) = ((3 : Int32) - ((((((((x.toUInt32 >>> ((16 : Int32) &&& 31).toUInt32).toInt32).toUInt32 >>> ((8 : Int32) &&& 31).toUInt32).toInt32).toUInt32 >>> ((4 : Int32) &&& 31).toUInt32).toInt32).toUInt32 >>> ((1 : Int32) &&& 31).toUInt32).toInt32)))).symm, e0, rfl⟩
          · skip
            refine own_gs 66 [] (fun t' k => XS.icmpNo X0.here hx rfl (hb hby own_dN_63) rfl (flt hc63).1 k) ?_
            refine own_go (mkF m 69 #[iv ((((((x.toUInt32 >>> ((16 : Int32) &&& 31).toUInt32).toInt32).toUInt32 >>> ((8 : Int32) &&& 31).toUInt32).toInt32).toUInt32 >>> ((4 : Int32) &&& 31).toUInt32).toInt32), iv (1 : Int32)] []) (fun t' k => XS.iinc X0.here hx rfl (hb hby own_dN_66) rfl rfl k) ?_
            refine own_gs 70 [(.int ((((((x.toUInt32 >>> ((16 : Int32) &&& 31).toUInt32).toInt32).toUInt32 >>> ((8 : Int32) &&& 31).toUInt32).toInt32).toUInt32 >>> ((4 : Int32) &&& 31).toUInt32).toInt32))] (fun t' k => XS.iloadN X0.here hx rfl (hb hby own_dN_69) rfl  k) ?_
            refine own_gs 71 [(.int (2 : Int32)), (.int ((((((x.toUInt32 >>> ((16 : Int32) &&& 31).toUInt32).toInt32).toUInt32 >>> ((8 : Int32) &&& 31).toUInt32).toInt32).toUInt32 >>> ((4 : Int32) &&& 31).toUInt32).toInt32))] (fun t' k => XS.iconst X0.here hx rfl (hb hby own_dN_70) k) ?_
            refine own_gs 72 [(.int ((((((((x.toUInt32 >>> ((16 : Int32) &&& 31).toUInt32).toInt32).toUInt32 >>> ((8 : Int32) &&& 31).toUInt32).toInt32).toUInt32 >>> ((4 : Int32) &&& 31).toUInt32).toInt32).toUInt32 >>> ((2 : Int32) &&& 31).toUInt32).toInt32))] (fun t' k => XS.iushr X0.here hx rfl (hb hby own_dN_71) rfl k) ?_
            refine own_go (mkF m 73 #[iv ((((((((x.toUInt32 >>> ((16 : Int32) &&& 31).toUInt32).toInt32).toUInt32 >>> ((8 : Int32) &&& 31).toUInt32).toInt32).toUInt32 >>> ((4 : Int32) &&& 31).toUInt32).toInt32).toUInt32 >>> ((2 : Int32) &&& 31).toUInt32).toInt32), iv (1 : Int32)] []) (fun t' k => XS.istoreN X0.here hx rfl (hb hby own_dN_72) rfl rfl k) ?_
            refine own_gs 74 [(.int (1 : Int32))] (fun t' k => XS.iloadN X0.here hx rfl (hb hby own_dN_73) rfl  k) ?_
            refine own_gs 75 [(.int ((((((((x.toUInt32 >>> ((16 : Int32) &&& 31).toUInt32).toInt32).toUInt32 >>> ((8 : Int32) &&& 31).toUInt32).toInt32).toUInt32 >>> ((4 : Int32) &&& 31).toUInt32).toInt32).toUInt32 >>> ((2 : Int32) &&& 31).toUInt32).toInt32)), (.int (1 : Int32))] (fun t' k => XS.iloadN X0.here hx rfl (hb hby own_dN_74) rfl  k) ?_
            refine own_gs 76 [(.int (1 : Int32)), (.int ((((((((x.toUInt32 >>> ((16 : Int32) &&& 31).toUInt32).toInt32).toUInt32 >>> ((8 : Int32) &&& 31).toUInt32).toInt32).toUInt32 >>> ((4 : Int32) &&& 31).toUInt32).toInt32).toUInt32 >>> ((2 : Int32) &&& 31).toUInt32).toInt32)), (.int (1 : Int32))] (fun t' k => XS.iconst X0.here hx rfl (hb hby own_dN_75) k) ?_
            refine own_gs 77 [(.int ((((((((((x.toUInt32 >>> ((16 : Int32) &&& 31).toUInt32).toInt32).toUInt32 >>> ((8 : Int32) &&& 31).toUInt32).toInt32).toUInt32 >>> ((4 : Int32) &&& 31).toUInt32).toInt32).toUInt32 >>> ((2 : Int32) &&& 31).toUInt32).toInt32).toUInt32 >>> ((1 : Int32) &&& 31).toUInt32).toInt32)), (.int (1 : Int32))] (fun t' k => XS.iushr X0.here hx rfl (hb hby own_dN_76) rfl k) ?_
            refine own_gs 78 [(.int ((1 : Int32) - ((((((((((x.toUInt32 >>> ((16 : Int32) &&& 31).toUInt32).toInt32).toUInt32 >>> ((8 : Int32) &&& 31).toUInt32).toInt32).toUInt32 >>> ((4 : Int32) &&& 31).toUInt32).toInt32).toUInt32 >>> ((2 : Int32) &&& 31).toUInt32).toInt32).toUInt32 >>> ((1 : Int32) &&& 31).toUInt32).toInt32)))] (fun t' k => XS.isub X0.here hx rfl (hb hby own_dN_77) rfl k) ?_
            refine own_retI hF (Nat.zero_le _) X0 hx hlk hret (hb hby own_dN_78) ?_ (by decide) (by decide)
            exact ⟨congrArg (fun z => some (Value.int z)) ((show (own_nlz x) = ((1 : Int32) - ((((((((((x.toUInt32 >>> ((16 : Int32) &&& 31).toUInt32).toInt32).toUInt32 >>> ((8 : Int32) &&& 31).toUInt32).toInt32).toUInt32 >>> ((4 : Int32) &&& 31).toUInt32).toInt32).toUInt32 >>> ((2 : Int32) &&& 31).toUInt32).toInt32).toUInt32 >>> ((1 : Int32) &&& 31).toUInt32).toInt32)) from ((if_pos hc1).trans ((if_neg hc22).trans ((if_neg hc37).trans ((if_neg hc51).trans ((if_neg hc63).trans rfl)))))).trans (by rfl : ((1 : Int32) - ((((((((((x.toUInt32 >>> ((16 : Int32) &&& 31).toUInt32).toInt32).toUInt32 >>> ((8 : Int32) &&& 31).toUInt32).toInt32).toUInt32 >>> ((4 : Int32) &&& 31).toUInt32).toInt32).toUInt32 >>> ((2 : Int32) &&& 31).toUInt32).toInt32).toUInt32 >>> ((1 : Int32) &&& 31).toUInt32).toInt32)) = ((1 : Int32) - ((((((((((x.toUInt32 >>> ((16 : Int32) &&& 31).toUInt32).toInt32).toUInt32 >>> ((8 : Int32) &&& 31).toUInt32).toInt32).toUInt32 >>> ((4 : Int32) &&& 31).toUInt32).toInt32).toUInt32 >>> ((2 : Int32) &&& 31).toUInt32).toInt32).toUInt32 >>> ((1 : Int32) &&& 31).toUInt32).toInt32)))).symm, e0, rfl⟩
  · skip
    refine own_gs 4 [] (fun t' k => XS.ifNo X0.here hx rfl (hb hby own_dN_1) rfl ((if0 _ _).trans (flt hc1).2.2.1) k) ?_
    refine own_gs 5 [(.int x)] (fun t' k => XS.iloadN X0.here hx rfl (hb hby own_dN_4) rfl  k) ?_
    by_cases hc5 : x = (0 : Int32)
    · skip
      refine own_gs 8 [] (fun t' k => XS.ifNo X0.here hx rfl (hb hby own_dN_5) rfl ((if0 _ _).trans (teq hc5).2) k) ?_
      refine own_gs 10 [(.int (32 : Int32))] (fun t' k => XS.bipush X0.here hx rfl (hb hby own_dN_8) k) ?_
      refine own_gs 14 [(.int (32 : Int32))] (fun t' k => XS.goto X0.here hx rfl (pc0 := 10) (pc' := 14) rfl (hb hby own_dN_10) (by decide) (by decide) k) ?_
      refine own_retI hF (Nat.zero_le _) X0 hx hlk hret (hb hby own_dN_14) ?_ (by decide) (by decide)
      exact ⟨congrArg (fun z => some (Value.int z)) ((show (own_nlz x) = (32 : Int32) from ((if_neg hc1).trans ((if_pos hc5).trans rfl))).trans (by rfl : (32 : Int32) = (32 : Int32))).symm, e0, rfl⟩
    · skip
      refine own_gs 13 [] (fun t' k => XS.ifYes X0.here hx rfl (pc0 := 5) (pc' := 13) rfl (hb hby own_dN_5) rfl ((if0 _ _).trans (feq hc5).2) (by decide) (by decide) k) ?_
      refine own_gs 14 [(.int (0 : Int32))] (fun t' k => XS.iconst X0.here hx rfl (hb hby own_dN_13) k) ?_
      refine own_retI hF (Nat.zero_le _) X0 hx hlk hret (hb hby own_dN_14) ?_ (by decide) (by decide)
      exact ⟨congrArg (fun z => some (Value.int z)) ((show (own_nlz x) = (0 : Int32) from ((if_neg hc1).trans ((if_neg hc5).trans rfl))).trans (by rfl : (0 : Int32) = (0 : Int32))).symm, e0, rfl⟩

def own_nlzL (x : Int64) : Int32 := (if (((x.toUInt64 >>> ((32 : Int32) &&& 0x3f).toInt64.toUInt64).toInt64).toInt32) = (0 : Int32) then ((32 : Int32) + (own_nlz (x.toInt32))) else (own_nlz (((x.toUInt64 >>> ((32 : Int32) &&& 0x3f).toInt64.toUInt64).toInt64).toInt32)))
theorem own_dNL_0 : decode jdk_35_method_48_code 0 = .ok (.lload_n 0, 1) := by decide +kernel
theorem own_dNL_1 : decode jdk_35_method_48_code 1 = .ok (.bipush 32, 2) := by decide +kernel
theorem own_dNL_3 : decode jdk_35_method_48_code 3 = .ok (.lushr, 1) := by decide +kernel
theorem own_dNL_4 : decode jdk_35_method_48_code 4 = .ok (.l2i, 1) := by decide +kernel
theorem own_dNL_5 : decode jdk_35_method_48_code 5 = .ok (.istore_n 2, 1) := by decide +kernel
theorem own_dNL_6 : decode jdk_35_method_48_code 6 = .ok (.iload_n 2, 1) := by decide +kernel
theorem own_dNL_7 : decode jdk_35_method_48_code 7 = .ok (.ifCond .ne 14, 3) := by decide +kernel
theorem own_dNL_10 : decode jdk_35_method_48_code 10 = .ok (.bipush 32, 2) := by decide +kernel
theorem own_dNL_12 : decode jdk_35_method_48_code 12 = .ok (.lload_n 0, 1) := by decide +kernel
theorem own_dNL_13 : decode jdk_35_method_48_code 13 = .ok (.l2i, 1) := by decide +kernel
theorem own_dNL_14 : decode jdk_35_method_48_code 14 = .ok (.invokestatic 308, 3) := by decide +kernel
theorem own_dNL_17 : decode jdk_35_method_48_code 17 = .ok (.iadd, 1) := by decide +kernel
theorem own_dNL_18 : decode jdk_35_method_48_code 18 = .ok (.goto 7, 3) := by decide +kernel
theorem own_dNL_21 : decode jdk_35_method_48_code 21 = .ok (.iload_n 2, 1) := by decide +kernel
theorem own_dNL_22 : decode jdk_35_method_48_code 22 = .ok (.invokestatic 308, 3) := by decide +kernel
theorem own_dNL_25 : decode jdk_35_method_48_code 25 = .ok (.ireturn, 1) := by decide +kernel
theorem own_pn_own_rmNL : plainFor (⟨"java/lang/Long", "numberOfLeadingZeros", "(J)I"⟩ : MethodName) = true := plainFor_of_name (show plainName "java/lang/Long" = true by first | (simp [plainName, overriddenIn]; done) | decide +kernel)
set_option maxRecDepth 65536 in
set_option maxHeartbeats 40000000 in
theorem own_rmNL (l : Launch) (Z : State) (a0 : Array Value) (hw : ∀ d ∈ tables_1, d.before a0 Z = true) (ws : List Jvm.Cond) (h0 : Heap) (x : Int64)  :
    own_C l Z (⟨"java/lang/Long", "numberOfLeadingZeros", "(J)I"⟩ : MethodName) jdk_35_method_48_code 3 (some .int) ws ({ frames := 1, cells := 0, slots := 0, locals := 14 } : Room) #[(.long x)] h0 (own_P (.int (own_nlzL x)) h0) := by
  refine own_met own_pn_own_rmNL #[jv x, .second, .unset] (fun m => by first | (simp [entryFrame, mkF, argsToLocals, Value.category]; done) | rfl) ?_
  intro p e s m below meth c s₁ Fi hx hby hml hown hret hlk hZ hnm hF X0 e0
  refine own_gs 1 [(.long x)] (fun t' k => XS.lloadN X0.here hx rfl (hb hby own_dNL_0) rfl  k) ?_
  refine own_gs 3 [(.int (32 : Int32)), (.long x)] (fun t' k => XS.bipush X0.here hx rfl (hb hby own_dNL_1) k) ?_
  refine own_gs 4 [(.long ((x.toUInt64 >>> ((32 : Int32) &&& 0x3f).toInt64.toUInt64).toInt64))] (fun t' k => XS.lushr X0.here hx rfl (hb hby own_dNL_3) rfl k) ?_
  refine own_gs 5 [(.int (((x.toUInt64 >>> ((32 : Int32) &&& 0x3f).toInt64.toUInt64).toInt64).toInt32))] (fun t' k => XS.l2i X0.here hx rfl (hb hby own_dNL_4) rfl k) ?_
  refine own_go (mkF m 6 #[jv x, .second, iv (((x.toUInt64 >>> ((32 : Int32) &&& 0x3f).toInt64.toUInt64).toInt64).toInt32)] []) (fun t' k => XS.istoreN X0.here hx rfl (hb hby own_dNL_5) rfl rfl k) ?_
  refine own_gs 7 [(.int (((x.toUInt64 >>> ((32 : Int32) &&& 0x3f).toInt64.toUInt64).toInt64).toInt32))] (fun t' k => XS.iloadN X0.here hx rfl (hb hby own_dNL_6) rfl  k) ?_
  by_cases hc7 : (((x.toUInt64 >>> ((32 : Int32) &&& 0x3f).toInt64.toUInt64).toInt64).toInt32) = (0 : Int32)
  · skip
    refine own_gs 10 [] (fun t' k => XS.ifNo X0.here hx rfl (hb hby own_dNL_7) rfl ((if0 _ _).trans (teq hc7).2) k) ?_
    refine own_gs 12 [(.int (32 : Int32))] (fun t' k => XS.bipush X0.here hx rfl (hb hby own_dNL_10) k) ?_
    refine own_gs 13 [(.long x), (.int (32 : Int32))] (fun t' k => XS.lloadN X0.here hx rfl (hb hby own_dNL_12) rfl  k) ?_
    refine own_gs 14 [(.int (x.toInt32)), (.int (32 : Int32))] (fun t' k => XS.l2i X0.here hx rfl (hb hby own_dNL_13) rfl k) ?_
    refine own_callP X0 hx hZ (y := (⟨"java/lang/Integer", "numberOfLeadingZeros", "(I)I"⟩ : MethodName)) (fr := 0) (lo := 0) (r := (.int (own_nlz (x.toInt32)))) hown (hw _ (List.mem_of_getElem? (i := 20) rfl)) (hw _ (List.mem_of_getElem? (i := 21) rfl)) (hw _ (List.mem_of_getElem? (i := 22) rfl)) (hw _ (List.mem_of_getElem? (i := 23) rfl)) (by decide) e0 [(.int (x.toInt32))] [(.int (32 : Int32))] (own_rmN l Z a0 hw [] h0 (x.toInt32)) 1 (by decide) (by decide) (Nat.le_of_eq rfl) (by decide) (by decide) (by rw [hml]; rfl) (lenOf own_pd0 rfl) rfl (hb hby own_dNL_14) ?_
    intro T1 X1 e1
    refine own_gs 18 [(.int ((32 : Int32) + (own_nlz (x.toInt32))))] (fun t' k => XS.iadd X1.here hx rfl (hb hby own_dNL_17) rfl k) ?_
    refine own_gs 25 [(.int ((32 : Int32) + (own_nlz (x.toInt32))))] (fun t' k => XS.goto X1.here hx rfl (pc0 := 18) (pc' := 25) rfl (hb hby own_dNL_18) (by decide) (by decide) k) ?_
    refine own_retI hF (Nat.zero_le _) X1 hx hlk hret (hb hby own_dNL_25) ?_ (by decide) (by decide)
    exact ⟨congrArg (fun z => some (Value.int z)) ((show (own_nlzL x) = ((32 : Int32) + (own_nlz (x.toInt32))) from ((if_pos hc7).trans rfl)).trans (by rfl : ((32 : Int32) + (own_nlz (x.toInt32))) = ((32 : Int32) + (own_nlz (x.toInt32))))).symm, e1, rfl⟩
  · skip
    refine own_gs 21 [] (fun t' k => XS.ifYes X0.here hx rfl (pc0 := 7) (pc' := 21) rfl (hb hby own_dNL_7) rfl ((if0 _ _).trans (feq hc7).2) (by decide) (by decide) k) ?_
    refine own_gs 22 [(.int (((x.toUInt64 >>> ((32 : Int32) &&& 0x3f).toInt64.toUInt64).toInt64).toInt32))] (fun t' k => XS.iloadN X0.here hx rfl (hb hby own_dNL_21) rfl  k) ?_
    refine own_callP X0 hx hZ (y := (⟨"java/lang/Integer", "numberOfLeadingZeros", "(I)I"⟩ : MethodName)) (fr := 0) (lo := 0) (r := (.int (own_nlz (((x.toUInt64 >>> ((32 : Int32) &&& 0x3f).toInt64.toUInt64).toInt64).toInt32)))) hown (hw _ (List.mem_of_getElem? (i := 20) rfl)) (hw _ (List.mem_of_getElem? (i := 21) rfl)) (hw _ (List.mem_of_getElem? (i := 22) rfl)) (hw _ (List.mem_of_getElem? (i := 23) rfl)) (by decide) e0 [(.int (((x.toUInt64 >>> ((32 : Int32) &&& 0x3f).toInt64.toUInt64).toInt64).toInt32))] [] (own_rmN l Z a0 hw [] h0 (((x.toUInt64 >>> ((32 : Int32) &&& 0x3f).toInt64.toUInt64).toInt64).toInt32)) 0 (by decide) (by decide) (Nat.le_of_eq rfl) (by decide) (by decide) (by rw [hml]; rfl) (lenOf own_pd0 rfl) rfl (hb hby own_dNL_22) ?_
    intro T2 X2 e2
    refine own_retI hF (Nat.zero_le _) X2 hx hlk hret (hb hby own_dNL_25) ?_ (by decide) (by decide)
    exact ⟨congrArg (fun z => some (Value.int z)) ((show (own_nlzL x) = (own_nlz (((x.toUInt64 >>> ((32 : Int32) &&& 0x3f).toInt64.toUInt64).toInt64).toInt32)) from ((if_neg hc7).trans rfl)).trans (by rfl : (own_nlz (((x.toUInt64 >>> ((32 : Int32) &&& 0x3f).toInt64.toUInt64).toInt64).toInt32)) = (own_nlz (((x.toUInt64 >>> ((32 : Int32) &&& 0x3f).toInt64.toUInt64).toInt64).toInt32)))).symm, e2, rfl⟩

def own_maxI (x : Int32) (y : Int32) : Int32 := (if x < y then y else x)
theorem own_dXI_0 : decode jdk_29_method_65_code 0 = .ok (.iload_n 0, 1) := by decide +kernel
theorem own_dXI_1 : decode jdk_29_method_65_code 1 = .ok (.iload_n 1, 1) := by decide +kernel
theorem own_dXI_2 : decode jdk_29_method_65_code 2 = .ok (.if_icmp .lt 7, 3) := by decide +kernel
theorem own_dXI_5 : decode jdk_29_method_65_code 5 = .ok (.iload_n 0, 1) := by decide +kernel
theorem own_dXI_6 : decode jdk_29_method_65_code 6 = .ok (.goto 4, 3) := by decide +kernel
theorem own_dXI_9 : decode jdk_29_method_65_code 9 = .ok (.iload_n 1, 1) := by decide +kernel
theorem own_dXI_10 : decode jdk_29_method_65_code 10 = .ok (.ireturn, 1) := by decide +kernel
theorem own_pn_own_rmXI : plainFor (⟨"java/lang/Math", "max", "(II)I"⟩ : MethodName) = true := by first | decide +kernel | exact Jvm.Free.JP.mathPlain rfl (by decide +kernel)
set_option maxRecDepth 65536 in
set_option maxHeartbeats 40000000 in
theorem own_rmXI (l : Launch) (Z : State) (a0 : Array Value) (hw : ∀ d ∈ tables_1, d.before a0 Z = true) (ws : List Jvm.Cond) (h0 : Heap) (x y : Int32)  :
    own_C l Z (⟨"java/lang/Math", "max", "(II)I"⟩ : MethodName) jdk_29_method_65_code 2 (some .int) ws ({ frames := 0, cells := 0, slots := 0, locals := 0 } : Room) #[(.int x), (.int y)] h0 (own_P (.int (own_maxI x y)) h0) := by
  refine own_met own_pn_own_rmXI #[iv x, iv y] (fun m => by first | (simp [entryFrame, mkF, argsToLocals, Value.category]; done) | rfl) ?_
  intro p e s m below meth c s₁ Fi hx hby hml hown hret hlk hZ hnm hF X0 e0
  refine own_gs 1 [(.int x)] (fun t' k => XS.iloadN X0.here hx rfl (hb hby own_dXI_0) rfl  k) ?_
  refine own_gs 2 [(.int y), (.int x)] (fun t' k => XS.iloadN X0.here hx rfl (hb hby own_dXI_1) rfl  k) ?_
  by_cases hc2 : x < y
  · skip
    refine own_gs 9 [] (fun t' k => XS.icmpYes X0.here hx rfl (pc0 := 2) (pc' := 9) rfl (hb hby own_dXI_2) rfl (tlt hc2).1 (by decide) (by decide) k) ?_
    refine own_gs 10 [(.int y)] (fun t' k => XS.iloadN X0.here hx rfl (hb hby own_dXI_9) rfl  k) ?_
    refine own_retI hF (Nat.zero_le _) X0 hx hlk hret (hb hby own_dXI_10) ?_ (by decide) (by decide)
    exact ⟨congrArg (fun z => some (Value.int z)) ((show (own_maxI x y) = y from ((if_pos hc2).trans rfl)).trans (by rfl : y = y)).symm, e0, rfl⟩
  · skip
    refine own_gs 5 [] (fun t' k => XS.icmpNo X0.here hx rfl (hb hby own_dXI_2) rfl (flt hc2).1 k) ?_
    refine own_gs 6 [(.int x)] (fun t' k => XS.iloadN X0.here hx rfl (hb hby own_dXI_5) rfl  k) ?_
    refine own_gs 10 [(.int x)] (fun t' k => XS.goto X0.here hx rfl (pc0 := 6) (pc' := 10) rfl (hb hby own_dXI_6) (by decide) (by decide) k) ?_
    refine own_retI hF (Nat.zero_le _) X0 hx hlk hret (hb hby own_dXI_10) ?_ (by decide) (by decide)
    exact ⟨congrArg (fun z => some (Value.int z)) ((show (own_maxI x y) = x from ((if_neg hc2).trans rfl)).trans (by rfl : x = x)).symm, e0, rfl⟩

def own_minI (x : Int32) (y : Int32) : Int32 := (if y < x then y else x)
theorem own_dMI_0 : decode jdk_29_method_69_code 0 = .ok (.iload_n 0, 1) := by decide +kernel
theorem own_dMI_1 : decode jdk_29_method_69_code 1 = .ok (.iload_n 1, 1) := by decide +kernel
theorem own_dMI_2 : decode jdk_29_method_69_code 2 = .ok (.if_icmp .gt 7, 3) := by decide +kernel
theorem own_dMI_5 : decode jdk_29_method_69_code 5 = .ok (.iload_n 0, 1) := by decide +kernel
theorem own_dMI_6 : decode jdk_29_method_69_code 6 = .ok (.goto 4, 3) := by decide +kernel
theorem own_dMI_9 : decode jdk_29_method_69_code 9 = .ok (.iload_n 1, 1) := by decide +kernel
theorem own_dMI_10 : decode jdk_29_method_69_code 10 = .ok (.ireturn, 1) := by decide +kernel
theorem own_pn_own_rmMI : plainFor (⟨"java/lang/Math", "min", "(II)I"⟩ : MethodName) = true := by first | decide +kernel | exact Jvm.Free.JP.mathPlain rfl (by decide +kernel)
set_option maxRecDepth 65536 in
set_option maxHeartbeats 40000000 in
theorem own_rmMI (l : Launch) (Z : State) (a0 : Array Value) (hw : ∀ d ∈ tables_1, d.before a0 Z = true) (ws : List Jvm.Cond) (h0 : Heap) (x y : Int32)  :
    own_C l Z (⟨"java/lang/Math", "min", "(II)I"⟩ : MethodName) jdk_29_method_69_code 2 (some .int) ws ({ frames := 0, cells := 0, slots := 0, locals := 0 } : Room) #[(.int x), (.int y)] h0 (own_P (.int (own_minI x y)) h0) := by
  refine own_met own_pn_own_rmMI #[iv x, iv y] (fun m => by first | (simp [entryFrame, mkF, argsToLocals, Value.category]; done) | rfl) ?_
  intro p e s m below meth c s₁ Fi hx hby hml hown hret hlk hZ hnm hF X0 e0
  refine own_gs 1 [(.int x)] (fun t' k => XS.iloadN X0.here hx rfl (hb hby own_dMI_0) rfl  k) ?_
  refine own_gs 2 [(.int y), (.int x)] (fun t' k => XS.iloadN X0.here hx rfl (hb hby own_dMI_1) rfl  k) ?_
  by_cases hc2 : y < x
  · skip
    refine own_gs 9 [] (fun t' k => XS.icmpYes X0.here hx rfl (pc0 := 2) (pc' := 9) rfl (hb hby own_dMI_2) rfl (tlt hc2).2.2.1 (by decide) (by decide) k) ?_
    refine own_gs 10 [(.int y)] (fun t' k => XS.iloadN X0.here hx rfl (hb hby own_dMI_9) rfl  k) ?_
    refine own_retI hF (Nat.zero_le _) X0 hx hlk hret (hb hby own_dMI_10) ?_ (by decide) (by decide)
    exact ⟨congrArg (fun z => some (Value.int z)) ((show (own_minI x y) = y from ((if_pos hc2).trans rfl)).trans (by rfl : y = y)).symm, e0, rfl⟩
  · skip
    refine own_gs 5 [] (fun t' k => XS.icmpNo X0.here hx rfl (hb hby own_dMI_2) rfl (flt hc2).2.2.1 k) ?_
    refine own_gs 6 [(.int x)] (fun t' k => XS.iloadN X0.here hx rfl (hb hby own_dMI_5) rfl  k) ?_
    refine own_gs 10 [(.int x)] (fun t' k => XS.goto X0.here hx rfl (pc0 := 6) (pc' := 10) rfl (hb hby own_dMI_6) (by decide) (by decide) k) ?_
    refine own_retI hF (Nat.zero_le _) X0 hx hlk hret (hb hby own_dMI_10) ?_ (by decide) (by decide)
    exact ⟨congrArg (fun z => some (Value.int z)) ((show (own_minI x y) = x from ((if_neg hc2).trans rfl)).trans (by rfl : x = x)).symm, e0, rfl⟩

def own_maxJ (x : Int64) (y : Int64) : Int64 := (if x < y then y else x)
theorem own_dXJ_0 : decode jdk_29_method_66_code 0 = .ok (.lload_n 0, 1) := by decide +kernel
theorem own_dXJ_1 : decode jdk_29_method_66_code 1 = .ok (.lload_n 2, 1) := by decide +kernel
theorem own_dXJ_2 : decode jdk_29_method_66_code 2 = .ok (.lcmp, 1) := by decide +kernel
theorem own_dXJ_3 : decode jdk_29_method_66_code 3 = .ok (.ifCond .lt 7, 3) := by decide +kernel
theorem own_dXJ_6 : decode jdk_29_method_66_code 6 = .ok (.lload_n 0, 1) := by decide +kernel
theorem own_dXJ_7 : decode jdk_29_method_66_code 7 = .ok (.goto 4, 3) := by decide +kernel
theorem own_dXJ_10 : decode jdk_29_method_66_code 10 = .ok (.lload_n 2, 1) := by decide +kernel
theorem own_dXJ_11 : decode jdk_29_method_66_code 11 = .ok (.lreturn, 1) := by decide +kernel
theorem own_pn_own_rmXJ : plainFor (⟨"java/lang/Math", "max", "(JJ)J"⟩ : MethodName) = true := by first | decide +kernel | exact Jvm.Free.JP.mathPlain rfl (by decide +kernel)
set_option maxRecDepth 65536 in
set_option maxHeartbeats 40000000 in
theorem own_rmXJ (l : Launch) (Z : State) (a0 : Array Value) (hw : ∀ d ∈ tables_1, d.before a0 Z = true) (ws : List Jvm.Cond) (h0 : Heap) (x y : Int64)  :
    own_C l Z (⟨"java/lang/Math", "max", "(JJ)J"⟩ : MethodName) jdk_29_method_66_code 4 (some .long) ws ({ frames := 0, cells := 0, slots := 0, locals := 0 } : Room) #[(.long x), (.long y)] h0 (own_P (.long (own_maxJ x y)) h0) := by
  refine own_met own_pn_own_rmXJ #[jv x, .second, jv y, .second] (fun m => by first | (simp [entryFrame, mkF, argsToLocals, Value.category]; done) | rfl) ?_
  intro p e s m below meth c s₁ Fi hx hby hml hown hret hlk hZ hnm hF X0 e0
  refine own_gs 1 [(.long x)] (fun t' k => XS.lloadN X0.here hx rfl (hb hby own_dXJ_0) rfl  k) ?_
  refine own_gs 2 [(.long y), (.long x)] (fun t' k => XS.lloadN X0.here hx rfl (hb hby own_dXJ_1) rfl  k) ?_
  refine own_gs 3 [(.int (lcmpW x y))] (fun t' k => XS.lcmp X0.here hx rfl (hb hby own_dXJ_2) rfl k) ?_
  by_cases hc3 : x < y
  · skip
    refine own_gs 10 [] (fun t' k => XS.ifYes X0.here hx rfl (pc0 := 3) (pc' := 10) rfl (hb hby own_dXJ_3) rfl ((if0 _ _).trans (tlt ((lw_lt x y).mpr hc3)).1) (by decide) (by decide) k) ?_
    refine own_gs 11 [(.long y)] (fun t' k => XS.lloadN X0.here hx rfl (hb hby own_dXJ_10) rfl  k) ?_
    refine own_retJ hF (Nat.zero_le _) X0 hx hlk hret (hb hby own_dXJ_11) ?_ (by decide) (by decide)
    exact ⟨congrArg (fun z => some (Value.long z)) ((show (own_maxJ x y) = y from ((if_pos hc3).trans rfl)).trans (by rfl : y = y)).symm, e0, rfl⟩
  · skip
    refine own_gs 6 [] (fun t' k => XS.ifNo X0.here hx rfl (hb hby own_dXJ_3) rfl ((if0 _ _).trans (flt (fun q' => hc3 ((lw_lt x y).mp q'))).1) k) ?_
    refine own_gs 7 [(.long x)] (fun t' k => XS.lloadN X0.here hx rfl (hb hby own_dXJ_6) rfl  k) ?_
    refine own_gs 11 [(.long x)] (fun t' k => XS.goto X0.here hx rfl (pc0 := 7) (pc' := 11) rfl (hb hby own_dXJ_7) (by decide) (by decide) k) ?_
    refine own_retJ hF (Nat.zero_le _) X0 hx hlk hret (hb hby own_dXJ_11) ?_ (by decide) (by decide)
    exact ⟨congrArg (fun z => some (Value.long z)) ((show (own_maxJ x y) = x from ((if_neg hc3).trans rfl)).trans (by rfl : x = x)).symm, e0, rfl⟩

def own_minJ (x : Int64) (y : Int64) : Int64 := (if y < x then y else x)
theorem own_dMJ_0 : decode jdk_29_method_70_code 0 = .ok (.lload_n 0, 1) := by decide +kernel
theorem own_dMJ_1 : decode jdk_29_method_70_code 1 = .ok (.lload_n 2, 1) := by decide +kernel
theorem own_dMJ_2 : decode jdk_29_method_70_code 2 = .ok (.lcmp, 1) := by decide +kernel
theorem own_dMJ_3 : decode jdk_29_method_70_code 3 = .ok (.ifCond .gt 7, 3) := by decide +kernel
theorem own_dMJ_6 : decode jdk_29_method_70_code 6 = .ok (.lload_n 0, 1) := by decide +kernel
theorem own_dMJ_7 : decode jdk_29_method_70_code 7 = .ok (.goto 4, 3) := by decide +kernel
theorem own_dMJ_10 : decode jdk_29_method_70_code 10 = .ok (.lload_n 2, 1) := by decide +kernel
theorem own_dMJ_11 : decode jdk_29_method_70_code 11 = .ok (.lreturn, 1) := by decide +kernel
theorem own_pn_own_rmMJ : plainFor (⟨"java/lang/Math", "min", "(JJ)J"⟩ : MethodName) = true := by first | decide +kernel | exact Jvm.Free.JP.mathPlain rfl (by decide +kernel)
set_option maxRecDepth 65536 in
set_option maxHeartbeats 40000000 in
theorem own_rmMJ (l : Launch) (Z : State) (a0 : Array Value) (hw : ∀ d ∈ tables_1, d.before a0 Z = true) (ws : List Jvm.Cond) (h0 : Heap) (x y : Int64)  :
    own_C l Z (⟨"java/lang/Math", "min", "(JJ)J"⟩ : MethodName) jdk_29_method_70_code 4 (some .long) ws ({ frames := 0, cells := 0, slots := 0, locals := 0 } : Room) #[(.long x), (.long y)] h0 (own_P (.long (own_minJ x y)) h0) := by
  refine own_met own_pn_own_rmMJ #[jv x, .second, jv y, .second] (fun m => by first | (simp [entryFrame, mkF, argsToLocals, Value.category]; done) | rfl) ?_
  intro p e s m below meth c s₁ Fi hx hby hml hown hret hlk hZ hnm hF X0 e0
  refine own_gs 1 [(.long x)] (fun t' k => XS.lloadN X0.here hx rfl (hb hby own_dMJ_0) rfl  k) ?_
  refine own_gs 2 [(.long y), (.long x)] (fun t' k => XS.lloadN X0.here hx rfl (hb hby own_dMJ_1) rfl  k) ?_
  refine own_gs 3 [(.int (lcmpW x y))] (fun t' k => XS.lcmp X0.here hx rfl (hb hby own_dMJ_2) rfl k) ?_
  by_cases hc3 : y < x
  · skip
    refine own_gs 10 [] (fun t' k => XS.ifYes X0.here hx rfl (pc0 := 3) (pc' := 10) rfl (hb hby own_dMJ_3) rfl ((if0 _ _).trans (tlt ((lw_gt x y).mpr hc3)).2.2.1) (by decide) (by decide) k) ?_
    refine own_gs 11 [(.long y)] (fun t' k => XS.lloadN X0.here hx rfl (hb hby own_dMJ_10) rfl  k) ?_
    refine own_retJ hF (Nat.zero_le _) X0 hx hlk hret (hb hby own_dMJ_11) ?_ (by decide) (by decide)
    exact ⟨congrArg (fun z => some (Value.long z)) ((show (own_minJ x y) = y from ((if_pos hc3).trans rfl)).trans (by rfl : y = y)).symm, e0, rfl⟩
  · skip
    refine own_gs 6 [] (fun t' k => XS.ifNo X0.here hx rfl (hb hby own_dMJ_3) rfl ((if0 _ _).trans (flt (fun q' => hc3 ((lw_gt x y).mp q'))).2.2.1) k) ?_
    refine own_gs 7 [(.long x)] (fun t' k => XS.lloadN X0.here hx rfl (hb hby own_dMJ_6) rfl  k) ?_
    refine own_gs 11 [(.long x)] (fun t' k => XS.goto X0.here hx rfl (pc0 := 7) (pc' := 11) rfl (hb hby own_dMJ_7) (by decide) (by decide) k) ?_
    refine own_retJ hF (Nat.zero_le _) X0 hx hlk hret (hb hby own_dMJ_11) ?_ (by decide) (by decide)
    exact ⟨congrArg (fun z => some (Value.long z)) ((show (own_minJ x y) = x from ((if_neg hc3).trans rfl)).trans (by rfl : x = x)).symm, e0, rfl⟩

def own_spread (x : Int64) : Int64 := ((x ^^^ ((x.toUInt64 >>> ((32 : Int32) &&& 0x3f).toInt64.toUInt64).toInt64)) * (-7046029254386353131 : Int64))
theorem own_dSp_0 : decode prog_113_method_7_code 0 = .ok (.lload_n 0, 1) := by decide +kernel
theorem own_dSp_1 : decode prog_113_method_7_code 1 = .ok (.lload_n 0, 1) := by decide +kernel
theorem own_dSp_2 : decode prog_113_method_7_code 2 = .ok (.bipush 32, 2) := by decide +kernel
theorem own_dSp_4 : decode prog_113_method_7_code 4 = .ok (.lushr, 1) := by decide +kernel
theorem own_dSp_5 : decode prog_113_method_7_code 5 = .ok (.lxor, 1) := by decide +kernel
theorem own_dSp_6 : decode prog_113_method_7_code 6 = .ok (.ldc2_w 70, 3) := by decide +kernel
theorem own_dSp_9 : decode prog_113_method_7_code 9 = .ok (.lmul, 1) := by decide +kernel
theorem own_dSp_10 : decode prog_113_method_7_code 10 = .ok (.lreturn, 1) := by decide +kernel
theorem own_pn_own_rmSp : plainFor (⟨"com/example/quotient/quotient/LongTable", "spread", "(J)J"⟩ : MethodName) = true := plainFor_of_name (show plainName "com/example/quotient/quotient/LongTable" = true by first | (simp [plainName, overriddenIn]; done) | decide +kernel)
set_option maxRecDepth 65536 in
set_option maxHeartbeats 40000000 in
theorem own_rmSp (l : Launch) (Z : State) (a0 : Array Value) (hw : ∀ d ∈ tables_1, d.before a0 Z = true) (ws : List Jvm.Cond) (h0 : Heap) (x : Int64)  :
    own_C l Z (⟨"com/example/quotient/quotient/LongTable", "spread", "(J)J"⟩ : MethodName) prog_113_method_7_code 2 (some .long) ws ({ frames := 0, cells := 0, slots := 0, locals := 0 } : Room) #[(.long x)] h0 (own_P (.long (own_spread x)) h0) := by
  refine own_met own_pn_own_rmSp #[jv x, .second] (fun m => by first | (simp [entryFrame, mkF, argsToLocals, Value.category]; done) | rfl) ?_
  intro p e s m below meth c s₁ Fi hx hby hml hown hret hlk hZ hnm hF X0 e0
  refine own_gs 1 [(.long x)] (fun t' k => XS.lloadN X0.here hx rfl (hb hby own_dSp_0) rfl  k) ?_
  refine own_gs 2 [(.long x), (.long x)] (fun t' k => XS.lloadN X0.here hx rfl (hb hby own_dSp_1) rfl  k) ?_
  refine own_gs 4 [(.int (32 : Int32)), (.long x), (.long x)] (fun t' k => XS.bipush X0.here hx rfl (hb hby own_dSp_2) k) ?_
  refine own_gs 5 [(.long ((x.toUInt64 >>> ((32 : Int32) &&& 0x3f).toInt64.toUInt64).toInt64)), (.long x)] (fun t' k => XS.lushr X0.here hx rfl (hb hby own_dSp_4) rfl k) ?_
  refine own_gs 6 [(.long (x ^^^ ((x.toUInt64 >>> ((32 : Int32) &&& 0x3f).toInt64.toUInt64).toInt64)))] (fun t' k => XS.lxor X0.here hx rfl (hb hby own_dSp_5) rfl k) ?_
  refine own_gs 9 [(.long (-7046029254386353131 : Int64)), (.long (x ^^^ ((x.toUInt64 >>> ((32 : Int32) &&& 0x3f).toInt64.toUInt64).toInt64)))] (fun t' k => X0.ldc2Long hx hown (mvT hZ (hw _ (List.mem_of_getElem? (i := 100) rfl))) (g := (mkF m 6 #[jv x, .second] [(.long (x ^^^ ((x.toUInt64 >>> ((32 : Int32) &&& 0x3f).toInt64.toUInt64).toInt64)))])) rfl (hb hby own_dSp_6) _ k) ?_
  refine own_gs 10 [(.long ((x ^^^ ((x.toUInt64 >>> ((32 : Int32) &&& 0x3f).toInt64.toUInt64).toInt64)) * (-7046029254386353131 : Int64)))] (fun t' k => XS.lmul X0.here hx rfl (hb hby own_dSp_9) rfl k) ?_
  refine own_retJ hF (Nat.zero_le _) X0 hx hlk hret (hb hby own_dSp_10) ?_ (by decide) (by decide)
  exact ⟨congrArg (fun z => some (Value.long z)) ((show (own_spread x) = ((x ^^^ ((x.toUInt64 >>> ((32 : Int32) &&& 0x3f).toInt64.toUInt64).toInt64)) * (-7046029254386353131 : Int64)) from rfl).trans (by rfl : ((x ^^^ ((x.toUInt64 >>> ((32 : Int32) &&& 0x3f).toInt64.toUInt64).toInt64)) * (-7046029254386353131 : Int64)) = ((x ^^^ ((x.toUInt64 >>> ((32 : Int32) &&& 0x3f).toInt64.toUInt64).toInt64)) * (-7046029254386353131 : Int64)))).symm, e0, rfl⟩

def own_restf (x : Int64) (y : Int32) : Int32 := ((own_maxJ (0 : Int64) (x - (y.toInt64))).toInt32)
theorem own_dR_0 : decode prog_85_method_7_code 0 = .ok (.lconst 0, 1) := by decide +kernel
theorem own_dR_1 : decode prog_85_method_7_code 1 = .ok (.lload_n 0, 1) := by decide +kernel
theorem own_dR_2 : decode prog_85_method_7_code 2 = .ok (.iload_n 2, 1) := by decide +kernel
theorem own_dR_3 : decode prog_85_method_7_code 3 = .ok (.i2l, 1) := by decide +kernel
theorem own_dR_4 : decode prog_85_method_7_code 4 = .ok (.lsub, 1) := by decide +kernel
theorem own_dR_5 : decode prog_85_method_7_code 5 = .ok (.invokestatic 70, 3) := by decide +kernel
theorem own_dR_8 : decode prog_85_method_7_code 8 = .ok (.l2i, 1) := by decide +kernel
theorem own_dR_9 : decode prog_85_method_7_code 9 = .ok (.ireturn, 1) := by decide +kernel
theorem own_pn_own_rmR : plainFor (⟨"com/example/quotient/quotient/IntArray", "restLength", "(JI)I"⟩ : MethodName) = true := plainFor_of_name (show plainName "com/example/quotient/quotient/IntArray" = true by first | (simp [plainName, overriddenIn]; done) | decide +kernel)
set_option maxRecDepth 65536 in
set_option maxHeartbeats 40000000 in
theorem own_rmR (l : Launch) (Z : State) (a0 : Array Value) (hw : ∀ d ∈ tables_1, d.before a0 Z = true) (ws : List Jvm.Cond) (h0 : Heap) (x : Int64) (y : Int32)  :
    own_C l Z (⟨"com/example/quotient/quotient/IntArray", "restLength", "(JI)I"⟩ : MethodName) prog_85_method_7_code 3 (some .int) ws ({ frames := 1, cells := 0, slots := 0, locals := 15 } : Room) #[(.long x), (.int y)] h0 (own_P (.int (own_restf x y)) h0) := by
  refine own_met own_pn_own_rmR #[jv x, .second, iv y] (fun m => by first | (simp [entryFrame, mkF, argsToLocals, Value.category]; done) | rfl) ?_
  intro p e s m below meth c s₁ Fi hx hby hml hown hret hlk hZ hnm hF X0 e0
  refine own_gs 1 [(.long (0 : Int64))] (fun t' k => XS.lconst X0.here hx rfl (hb hby own_dR_0) k) ?_
  refine own_gs 2 [(.long x), (.long (0 : Int64))] (fun t' k => XS.lloadN X0.here hx rfl (hb hby own_dR_1) rfl  k) ?_
  refine own_gs 3 [(.int y), (.long x), (.long (0 : Int64))] (fun t' k => XS.iloadN X0.here hx rfl (hb hby own_dR_2) rfl  k) ?_
  refine own_gs 4 [(.long (y.toInt64)), (.long x), (.long (0 : Int64))] (fun t' k => XS.i2l X0.here hx rfl (hb hby own_dR_3) rfl k) ?_
  refine own_gs 5 [(.long (x - (y.toInt64))), (.long (0 : Int64))] (fun t' k => XS.lsub X0.here hx rfl (hb hby own_dR_4) rfl k) ?_
  refine own_callP X0 hx hZ (y := (⟨"java/lang/Math", "max", "(JJ)J"⟩ : MethodName)) (fr := 0) (lo := 0) (r := (.long (own_maxJ (0 : Int64) (x - (y.toInt64))))) hown (hw _ (List.mem_of_getElem? (i := 64) rfl)) (hw _ (List.mem_of_getElem? (i := 65) rfl)) (hw _ (List.mem_of_getElem? (i := 26) rfl)) (hw _ (List.mem_of_getElem? (i := 66) rfl)) (by decide) e0 [(.long (0 : Int64)), (.long (x - (y.toInt64)))] [] (own_rmXJ l Z a0 hw [] h0 (0 : Int64) (x - (y.toInt64))) 0 (by decide) (by decide) (Nat.le_of_eq rfl) (by decide) (by decide) (by rw [hml]; rfl) (lenOf own_pd1 rfl) rfl (hb hby own_dR_5) ?_
  intro T1 X1 e1
  refine own_gs 9 [(.int ((own_maxJ (0 : Int64) (x - (y.toInt64))).toInt32))] (fun t' k => XS.l2i X1.here hx rfl (hb hby own_dR_8) rfl k) ?_
  refine own_retI hF (Nat.zero_le _) X1 hx hlk hret (hb hby own_dR_9) ?_ (by decide) (by decide)
  exact ⟨congrArg (fun z => some (Value.int z)) ((show (own_restf x y) = ((own_maxJ (0 : Int64) (x - (y.toInt64))).toInt32) from rfl).trans (by rfl : ((own_maxJ (0 : Int64) (x - (y.toInt64))).toInt32) = ((own_maxJ (0 : Int64) (x - (y.toInt64))).toInt32))).symm, e1, rfl⟩

theorem own_dF_0 : decode prog_85_method_6_code 0 = .ok (.lload_n 0, 1) := by decide +kernel
theorem own_dF_1 : decode prog_85_method_6_code 1 = .ok (.ldc2_w 53, 3) := by decide +kernel
theorem own_dF_4 : decode prog_85_method_6_code 4 = .ok (.lcmp, 1) := by decide +kernel
theorem own_dF_5 : decode prog_85_method_6_code 5 = .ok (.ifCond .le 18, 3) := by decide +kernel
theorem own_dF_23 : decode prog_85_method_6_code 23 = .ok (.lload_n 0, 1) := by decide +kernel
theorem own_dF_24 : decode prog_85_method_6_code 24 = .ok (.iload_n 2, 1) := by decide +kernel
theorem own_dF_25 : decode prog_85_method_6_code 25 = .ok (.i2l, 1) := by decide +kernel
theorem own_dF_26 : decode prog_85_method_6_code 26 = .ok (.invokestatic 64, 3) := by decide +kernel
theorem own_dF_29 : decode prog_85_method_6_code 29 = .ok (.l2i, 1) := by decide +kernel
theorem own_dF_30 : decode prog_85_method_6_code 30 = .ok (.ireturn, 1) := by decide +kernel
theorem own_pn_own_rmF : plainFor (⟨"com/example/quotient/quotient/IntArray", "firstLength", "(JILjava/lang/String;)I"⟩ : MethodName) = true := plainFor_of_name (show plainName "com/example/quotient/quotient/IntArray" = true by first | (simp [plainName, overriddenIn]; done) | decide +kernel)
set_option maxRecDepth 65536 in
set_option maxHeartbeats 40000000 in
theorem own_rmF (l : Launch) (Z : State) (a0 : Array Value) (hw : ∀ d ∈ tables_1, d.before a0 Z = true) (ws : List Jvm.Cond) (h0 : Heap) (x : Int64) (y : Int32) (a : Addr) (hx1 : ¬ (2147483648 : Int64) < x)  :
    own_C l Z (⟨"com/example/quotient/quotient/IntArray", "firstLength", "(JILjava/lang/String;)I"⟩ : MethodName) prog_85_method_6_code 4 (some .int) ws ({ frames := 1, cells := 0, slots := 0, locals := 15 } : Room) #[(.long x), (.int y), (.ref a)] h0 (own_P (.int (own_minJ x y.toInt64).toInt32) h0) := by
  refine own_met own_pn_own_rmF #[jv x, .second, iv y, rv a] (fun m => by first | (simp [entryFrame, mkF, argsToLocals, Value.category]; done) | rfl) ?_
  intro p e s m below meth c s₁ Fi hx hby hml hown hret hlk hZ hnm hF X0 e0
  refine own_gs 1 [(.long x)] (fun t' k => XS.lloadN X0.here hx rfl (hb hby own_dF_0) rfl  k) ?_
  refine own_gs 4 [(.long (2147483648 : Int64)), (.long x)] (fun t' k => X0.ldc2Long hx hown (mvT hZ (hw _ (List.mem_of_getElem? (i := 56) rfl))) (g := (mkF m 1 #[jv x, .second, iv y, rv a] [(.long x)])) rfl (hb hby own_dF_1) _ k) ?_
  refine own_gs 5 [(.int (lcmpW x (2147483648 : Int64)))] (fun t' k => XS.lcmp X0.here hx rfl (hb hby own_dF_4) rfl k) ?_
  refine own_gs 23 [] (fun t' k => XS.ifYes X0.here hx rfl (pc0 := 5) (pc' := 23) rfl (hb hby own_dF_5) rfl ((if0 _ _).trans (flt (fun q' => hx1 ((lw_gt x (2147483648 : Int64)).mp q'))).2.2.2) (by decide) (by decide) k) ?_
  refine own_gs 24 [(.long x)] (fun t' k => XS.lloadN X0.here hx rfl (hb hby own_dF_23) rfl  k) ?_
  refine own_gs 25 [(.int y), (.long x)] (fun t' k => XS.iloadN X0.here hx rfl (hb hby own_dF_24) rfl  k) ?_
  refine own_gs 26 [(.long (y.toInt64)), (.long x)] (fun t' k => XS.i2l X0.here hx rfl (hb hby own_dF_25) rfl k) ?_
  refine own_callP X0 hx hZ (y := (⟨"java/lang/Math", "min", "(JJ)J"⟩ : MethodName)) (fr := 0) (lo := 0) (r := (.long (own_minJ x (y.toInt64)))) hown (hw _ (List.mem_of_getElem? (i := 57) rfl)) (hw _ (List.mem_of_getElem? (i := 58) rfl)) (hw _ (List.mem_of_getElem? (i := 26) rfl)) (hw _ (List.mem_of_getElem? (i := 59) rfl)) (by decide) e0 [(.long x), (.long (y.toInt64))] [] (own_rmMJ l Z a0 hw [] h0 x (y.toInt64)) 0 (by decide) (by decide) (Nat.le_of_eq rfl) (by decide) (by decide) (by rw [hml]; rfl) (lenOf own_pd1 rfl) rfl (hb hby own_dF_26) ?_
  intro T1 X1 e1
  refine own_gs 30 [(.int ((own_minJ x (y.toInt64)).toInt32))] (fun t' k => XS.l2i X1.here hx rfl (hb hby own_dF_29) rfl k) ?_
  refine own_retI hF (Nat.zero_le _) X1 hx hlk hret (hb hby own_dF_30) ?_ (by decide) (by decide)
  exact ⟨rfl, e1, rfl⟩

theorem own_sh (y z : Int32) (k : Nat) (h : z.toBitVec = y.toBitVec >>> k) (hk : 0 < k) (hk2 : k < 32) : z.toInt = (if 0 ≤ y.toInt then y.toInt else y.toInt + 4294967296) / 2 ^ k := by
  have e1 : z.toBitVec.toNat = y.toBitVec.toNat / 2 ^ k := by rw [h, BitVec.toNat_ushiftRight, Nat.shiftRight_eq_div_pow]
  have b := y.toBitVec.isLt
  have hp : 2 ≤ 2 ^ k := by
    have := Nat.pow_le_pow_right (n := 2) (by omega) hk; simpa using this
  have e2 : y.toBitVec.toNat / 2 ^ k < 2 ^ 31 := by
    apply Nat.div_lt_of_lt_mul
    have := Nat.mul_le_mul_right (2 ^ 31) hp
    omega
  have e3 : z.toInt = ((y.toBitVec.toNat / 2 ^ k : Nat) : Int) := by
    rw [← Int32.toInt_toBitVec, BitVec.toInt_eq_toNat_of_lt (by omega), e1]
  have e4 : (if 0 ≤ y.toInt then y.toInt else y.toInt + 4294967296) = (y.toBitVec.toNat : Int) := by
    rw [← Int32.toInt_toBitVec, BitVec.toInt_eq_toNat_cond]
    split <;> split <;> omega
  rw [e3, e4, Int.natCast_ediv]; congr 1
theorem own_sh1 (y : Int32) : ((y.toUInt32 >>> ((1 : Int32) &&& 31).toUInt32).toInt32).toInt = (if 0 ≤ y.toInt then y.toInt else y.toInt + 4294967296) / 2 := own_sh y _ 1 rfl (by omega) (by omega)
theorem own_sh2 (y : Int32) : ((y.toUInt32 >>> ((2 : Int32) &&& 31).toUInt32).toInt32).toInt = (if 0 ≤ y.toInt then y.toInt else y.toInt + 4294967296) / 4 := own_sh y _ 2 rfl (by omega) (by omega)
theorem own_sh4 (y : Int32) : ((y.toUInt32 >>> ((4 : Int32) &&& 31).toUInt32).toInt32).toInt = (if 0 ≤ y.toInt then y.toInt else y.toInt + 4294967296) / 16 := own_sh y _ 4 rfl (by omega) (by omega)
theorem own_sh8 (y : Int32) : ((y.toUInt32 >>> ((8 : Int32) &&& 31).toUInt32).toInt32).toInt = (if 0 ≤ y.toInt then y.toInt else y.toInt + 4294967296) / 256 := own_sh y _ 8 rfl (by omega) (by omega)
theorem own_sh16 (y : Int32) : ((y.toUInt32 >>> ((16 : Int32) &&& 31).toUInt32).toInt32).toInt = (if 0 ≤ y.toInt then y.toInt else y.toInt + 4294967296) / 65536 := own_sh y _ 16 rfl (by omega) (by omega)
theorem own_leaf {n z : Int32} {N : Int} (hn : n.toInt = N) (h1 : 1 ≤ N) (h2 : N ≤ 31) (hz : 0 ≤ z.toInt) (hz2 : z.toInt ≤ 1) : (n - z).toInt = N - z.toInt := by
  rw [Int32.toInt_sub, hn, Int.bmod_eq_of_le (by omega) (by omega)]
set_option maxHeartbeats 4000000 in
theorem own_nlz_b (x : Int32) : 0 ≤ (own_nlz x).toInt ∧ (own_nlz x).toInt ≤ 32 ∧ (16 ≤ x.toInt ∨ x.toInt < 0 → (own_nlz x).toInt ≤ 27) := by
  have a1 := x.toInt_lt; have a2 := x.le_toInt
  have l0 : (0 : Int32).toInt = 0 := rfl
  have l4 : (4 : Int32).toInt = 4 := rfl
  have l16 : (16 : Int32).toInt = 16 := rfl
  have l256 : (256 : Int32).toInt = 256 := rfl
  have l64k : (65536 : Int32).toInt = 65536 := rfl
  have l32 : (32 : Int32).toInt = 32 := rfl
  unfold own_nlz
  simp only [Int32.lt_iff_toInt_lt, l0, l4, l16, l256, l64k, own_sh2, own_sh4, own_sh8, own_sh16]
  repeat' split
  all_goals first
    | (rename_i hz; subst hz; rw [l32, l0]; omega)
    | (rw [l0]; omega)
    | (rw [own_leaf rfl (by decide) (by decide) (by simp only [own_sh1, own_sh2, own_sh4, own_sh8, own_sh16]; omega) (by simp only [own_sh1, own_sh2, own_sh4, own_sh8, own_sh16]; omega)]; simp only [own_sh1, own_sh2, own_sh4, own_sh8, own_sh16, show (31 : Int32).toInt = 31 from rfl, show (29 : Int32).toInt = 29 from rfl, show (27 : Int32).toInt = 27 from rfl, show (25 : Int32).toInt = 25 from rfl, show (23 : Int32).toInt = 23 from rfl, show (21 : Int32).toInt = 21 from rfl, show (19 : Int32).toInt = 19 from rfl, show (17 : Int32).toInt = 17 from rfl, show (15 : Int32).toInt = 15 from rfl, show (13 : Int32).toInt = 13 from rfl, show (11 : Int32).toInt = 11 from rfl, show (9 : Int32).toInt = 9 from rfl, show (7 : Int32).toInt = 7 from rfl, show (5 : Int32).toInt = 5 from rfl, show (3 : Int32).toInt = 3 from rfl, show (1 : Int32).toInt = 1 from rfl]; omega)

theorem own_and63 {o : Int32} {O : Nat} (h : o.toInt = O) (hO : O < 64) : (o &&& 0x3f).toInt64 = Int64.ofNat O := by
  have : o = Int32.ofNat O := by
    apply Int32.toInt_inj.mp; rw [h, Int32.toInt_ofNat_of_lt (by omega)]
  subst this
  have : ∀ k : Fin 64, (Int32.ofNat k.1 &&& 0x3f).toInt64 = Int64.ofNat k.1 := by decide
  exact this ⟨O, hO⟩
theorem own_shrB (x : Int64) {o : Int32} {O : Nat} (h : o.toInt = O) (hO : O < 64) : ((x.toUInt64 >>> (o &&& 0x3f).toInt64.toUInt64).toInt64).toBitVec = x.toBitVec >>> O := by
  rw [own_and63 h hO]
  show (x.toUInt64 >>> (Int64.ofNat O).toUInt64).toBitVec = _
  rw [UInt64.toBitVec_shiftRight]
  have : ∀ k : Fin 64, ((Int64.ofNat k.1).toUInt64.toBitVec % 64) = BitVec.ofNat 64 k.1 := by decide
  rw [this ⟨O, hO⟩]
  show x.toBitVec >>> (BitVec.ofNat 64 O).toNat = _
  rw [BitVec.toNat_ofNat, Nat.mod_eq_of_lt (by omega)]
theorem own_nlzL_b (q : Int64) (h : q.toInt < 0 ∨ 16 ≤ q.toInt) : 0 ≤ (own_nlzL q).toInt ∧ (own_nlzL q).toInt ≤ 59 := by
  unfold own_nlzL
  by_cases hc : (((q.toUInt64 >>> ((32 : Int32) &&& 0x3f).toInt64.toUInt64).toInt64).toInt32) = (0 : Int32)
  · rw [if_pos hc]
    have e : (((q.toUInt64 >>> ((32 : Int32) &&& 0x3f).toInt64.toUInt64).toInt64).toInt32).toBitVec.toNat = q.toBitVec.toNat / 2 ^ 32 := by
      show (BitVec.signExtend 32 ((q.toUInt64 >>> ((32 : Int32) &&& 0x3f).toInt64.toUInt64).toInt64).toBitVec).toNat = _
      have b := q.toBitVec.isLt
      rw [own_shrB _ (show (32 : Int32).toInt = ((32 : Nat) : Int) from rfl) (by omega), BitVec.signExtend_eq_setWidth_of_le _ (by omega), BitVec.toNat_setWidth, BitVec.toNat_ushiftRight, Nat.shiftRight_eq_div_pow, Nat.mod_eq_of_lt (by omega)]
    rw [hc, show (0 : Int32).toBitVec.toNat = 0 from rfl] at e
    have b : q.toBitVec.toNat < 2 ^ 32 := by omega
    have e1 : q.toInt = (q.toBitVec.toNat : Int) := by rw [← Int64.toInt_toBitVec, BitVec.toInt_eq_toNat_of_lt (by omega)]
    have e2 : q.toInt32.toInt = q.toInt.bmod (2 ^ 32) := Int64.toInt_toInt32 q
    have e3 : 16 ≤ q.toInt32.toInt ∨ q.toInt32.toInt < 0 := by
      rw [e2, Int.bmod_def]; omega
    have := own_nlz_b q.toInt32
    have e4 := this.2.2 e3
    rw [Int32.toInt_add, show (32 : Int32).toInt = 32 from rfl, Int.bmod_eq_of_le (by omega) (by omega)]; omega
  · rw [if_neg hc]
    have := own_nlz_b (((q.toUInt64 >>> ((32 : Int32) &&& 0x3f).toInt64.toUInt64).toInt64).toInt32)
    omega
def own_mb (x : Int64) : Int32 := own_minI (30 : Int32) (own_maxI (1 : Int32) ((63 : Int32) - own_nlzL (x / (16 : Int64))))
def own_sb (x : Int64) : Int32 := own_minI (10 : Int32) (own_mb x)
/-- the budget and the table's bits -/
def own_R (cap mb sb : Int32) (B : Nat) : Prop := sb.toInt = B ∧ ((cap = 1 ∧ mb = 1 ∧ sb = 1 ∧ B = 1) ∨ (cap = 2 ∧ mb = 2 ∧ sb = 2 ∧ B = 2) ∨ (cap = 4 ∧ mb = 3 ∧ sb = 3 ∧ B = 3) ∨ (cap = 8 ∧ 4 ≤ B ∧ B ≤ 10))
theorem own_qI (x : Int64) : (x / (16 : Int64)).toInt = x.toInt.tdiv 16 := by
  have a1 := x.toInt_lt; have a2 := x.le_toInt
  rw [Int64.toInt_div, show (16 : Int64).toInt = 16 from rfl]
  have : -9223372036854775808 ≤ x.toInt.tdiv 16 ∧ x.toInt.tdiv 16 ≤ 9223372036854775807 := by
    rcases Int.le_total 0 x.toInt with h | h
    · rw [Int.tdiv_eq_ediv_of_nonneg h]; omega
    · have : x.toInt.tdiv 16 = -((-x.toInt).tdiv 16) := by rw [Int.neg_tdiv, Int.neg_neg]
      rw [this, Int.tdiv_eq_ediv_of_nonneg (by omega)]; omega
  rw [Int.bmod_eq_of_le (by omega) (by omega)]
theorem own_big (x : Int64) (h : (x / (16 : Int64)).toInt < 0 ∨ 16 ≤ (x / (16 : Int64)).toInt) : ∃ B : Nat, (own_sb x).toInt = B ∧ 4 ≤ B ∧ B ≤ 10 := by
  have q := own_nlzL_b _ h
  have e : ((63 : Int32) - own_nlzL (x / (16 : Int64))).toInt = 63 - (own_nlzL (x / (16 : Int64))).toInt := by
    rw [Int32.toInt_sub, show (63 : Int32).toInt = 63 from rfl, Int.bmod_eq_of_le (by omega) (by omega)]
  have l1 : (1 : Int32).toInt = 1 := rfl
  have l30 : (30 : Int32).toInt = 30 := rfl
  have l10 : (10 : Int32).toInt = 10 := rfl
  have m : (own_mb x).toInt = if 30 ≤ 63 - (own_nlzL (x / (16 : Int64))).toInt then 30 else 63 - (own_nlzL (x / (16 : Int64))).toInt := by
    unfold own_mb own_minI own_maxI
    simp only [Int32.lt_iff_toInt_lt, e, l1, l30]
    repeat' split
    all_goals first
      | omega
      | (rw [l30]; omega)
      | (rw [l1]; omega)
      | (rw [e]; omega)
      | (simp only [Int32.lt_iff_toInt_lt, e, l1, l30] at *; omega)
  refine ⟨(own_sb x).toInt.toNat, ?_⟩
  have s : (own_sb x).toInt = if (own_mb x).toInt < 10 then (own_mb x).toInt else 10 := by
    unfold own_sb own_minI
    simp only [Int32.lt_iff_toInt_lt, l10]
    split
    · rfl
    · exact l10
  rw [s, m]
  split <;> split <;> omega
set_option maxRecDepth 65536 in
theorem own_small (x : Int64) (h : 0 ≤ (x / (16 : Int64)).toInt) (h2 : (x / (16 : Int64)).toInt < 16) : own_mb x = (if (x / (16 : Int64)).toInt < 4 then 1 else if (x / (16 : Int64)).toInt < 8 then 2 else 3) ∧ own_sb x = own_mb x := by
  obtain ⟨k, hk, e1, e2⟩ : ∃ k : Nat, k < 16 ∧ x / (16 : Int64) = Int64.ofNat k ∧ (x / (16 : Int64)).toInt = (k : Int) := by
    refine ⟨(x / (16 : Int64)).toInt.toNat, by omega, ?_, by omega⟩
    apply Int64.toInt_inj.mp; rw [Int64.toInt_ofNat_of_lt (by omega)]; omega
  have d : ∀ k : Fin 16, own_minI (30 : Int32) (own_maxI (1 : Int32) ((63 : Int32) - own_nlzL (Int64.ofNat k.1))) = (if (k.1 : Int) < 4 then 1 else if (k.1 : Int) < 8 then 2 else 3) := by decide +kernel
  have d' : ∀ k : Nat, k < 16 → own_minI (30 : Int32) (own_maxI (1 : Int32) ((63 : Int32) - own_nlzL (Int64.ofNat k))) = (if (k : Int) < 4 then 1 else if (k : Int) < 8 then 2 else 3) := fun k hk => d ⟨k, hk⟩
  have m : own_mb x = (if (x / (16 : Int64)).toInt < 4 then 1 else if (x / (16 : Int64)).toInt < 8 then 2 else 3) := by
    rw [e2, ← d' k hk, ← e1]; unfold own_mb; exact Eq.refl _
  refine ⟨m, ?_⟩
  unfold own_sb
  rw [m]
  split
  · rfl
  · split <;> rfl
theorem own_rel (x : Int64) : ∃ B : Nat, own_R (own_capf x) (own_mb x) (own_sb x) B := by
  have a1 := x.toInt_lt; have a2 := x.le_toInt
  have qi := own_qI x
  have c1 : (-16 : Int64).toInt = -16 := rfl
  have c2 : (64 : Int64).toInt = 64 := rfl
  have c3 : (128 : Int64).toInt = 128 := rfl
  have c4 : (256 : Int64).toInt = 256 := rfl
  unfold own_R own_capf
  simp only [Int64.lt_iff_toInt_lt, c1, c2, c3, c4]
  have qq : (0 ≤ x.toInt → (x / (16 : Int64)).toInt = x.toInt / 16) ∧ (x.toInt < 0 → (x / (16 : Int64)).toInt = -((-x.toInt) / 16)) := by
    constructor
    · intro h; rw [qi, Int.tdiv_eq_ediv_of_nonneg h]
    · intro h
      have : x.toInt.tdiv 16 = -((-x.toInt).tdiv 16) := by rw [Int.neg_tdiv, Int.neg_neg]
      rw [qi, this, Int.tdiv_eq_ediv_of_nonneg (by omega)]
  by_cases h1 : -16 < x.toInt
  · rw [if_pos h1]
    by_cases h2 : x.toInt < 256
    · obtain ⟨m, sm⟩ := own_small x (by omega) (by omega)
      rw [sm, m]
      by_cases h3 : x.toInt < 64
      · rw [if_pos h3, if_pos (by omega)]; exact ⟨1, rfl, Or.inl ⟨rfl, rfl, rfl, rfl⟩⟩
      · rw [if_neg h3, if_neg (by omega)]
        by_cases h4 : x.toInt < 128
        · rw [if_pos h4, if_pos (by omega)]; exact ⟨2, rfl, Or.inr (Or.inl ⟨rfl, rfl, rfl, rfl⟩)⟩
        · rw [if_neg h4, if_neg (by omega), if_pos h2]; exact ⟨3, rfl, Or.inr (Or.inr (Or.inl ⟨rfl, rfl, rfl, rfl⟩))⟩
    · rw [if_neg (by omega), if_neg (by omega), if_neg h2]
      obtain ⟨B, b1, b2, b3⟩ := own_big x (by omega)
      exact ⟨B, b1, Or.inr (Or.inr (Or.inr ⟨rfl, b2, b3⟩))⟩
  · rw [if_neg h1]
    obtain ⟨B, b1, b2, b3⟩ := own_big x (by omega)
    exact ⟨B, b1, Or.inr (Or.inr (Or.inr ⟨rfl, b2, b3⟩))⟩
/-- the probing table: every kept key lies on its road from home, behind kept ones -/
def own_Inv (M : Nat) (Hm : Int64 → Nat) (f : Nat → Int64) (K : List Int64) : Prop :=
  (∀ s, s < M → f (2 * s + 1) ≠ 0 → f (2 * s) ∈ K) ∧
  (∀ k ∈ K, ∃ j, j < M ∧ f (2 * ((Hm k + j) % M) + 1) ≠ 0 ∧ f (2 * ((Hm k + j) % M)) = k ∧ ∀ i, i < j → f (2 * ((Hm k + i) % M) + 1) ≠ 0 ∧ f (2 * ((Hm k + i) % M)) ≠ k) ∧
  (∃ L : List Nat, L.length = K.length ∧ ∀ s, s < M → f (2 * s + 1) ≠ 0 → s ∈ L)
theorem own_pigeon : ∀ (M : Nat) (L : List Nat), L.length < M → ∃ s, s < M ∧ s ∉ L
  | 0, _, h => absurd h (by omega)
  | M + 1, L, h => by
    by_cases q : M ∈ L
    · have := List.length_erase_of_mem q
      have p : 0 < L.length := List.length_pos_of_mem q
      obtain ⟨s, s1, s2⟩ := own_pigeon M (L.erase M) (by omega)
      exact ⟨s, by omega, fun r => s2 ((List.mem_erase_of_ne (by omega)).mpr r)⟩
    · exact ⟨M, by omega, q⟩
theorem own_least {P : Nat → Prop} : ∀ (n : Nat), P n → ∃ j, j ≤ n ∧ P j ∧ ∀ i, i < j → ¬ P i := by
  intro n
  induction n using Nat.strongRecOn with
  | _ n ih =>
    intro h
    by_cases q : ∃ i, i < n ∧ P i
    · obtain ⟨i, i1, i2⟩ := q
      obtain ⟨j, j1, j2⟩ := ih i i1 i2
      exact ⟨j, by omega, j2⟩
    · exact ⟨n, Nat.le_refl _, h, fun i hi r => q ⟨i, hi, r⟩⟩
theorem own_inv0 (M : Nat) (Hm : Int64 → Nat) : own_Inv M Hm (fun _ => 0) [] := by
  refine ⟨fun s _ h => absurd rfl h, fun k hk => (by cases hk), [], rfl, fun s _ h => absurd rfl h⟩
theorem own_absent {M : Nat} {Hm : Int64 → Nat} {f : Nat → Int64} {K : List Int64} (I : own_Inv M Hm f K) {k : Int64} (hk : k ∉ K) (hl : K.length < M) :
    ∃ J, J < M ∧ f (2 * ((Hm k + J) % M) + 1) = 0 ∧ ∀ i, i < J → f (2 * ((Hm k + i) % M) + 1) ≠ 0 ∧ f (2 * ((Hm k + i) % M)) ≠ k := by
  obtain ⟨I1, I2, L, l1, l2⟩ := I
  obtain ⟨s, s1, s2⟩ := own_pigeon M L (by omega)
  have e0 : f (2 * s + 1) = 0 := Classical.byContradiction fun r => s2 (l2 s s1 r)
  have hm := Nat.mod_lt (Hm k) (show 0 < M by omega)
  have e1 : (Hm k + ((s + M - Hm k % M) % M)) % M = s := by
    rw [Nat.add_mod, Nat.mod_mod]
    by_cases q : Hm k % M ≤ s
    · rw [show s + M - Hm k % M = (s - Hm k % M) + M by omega, Nat.add_mod_right, Nat.mod_eq_of_lt (show s - Hm k % M < M by omega), show Hm k % M + (s - Hm k % M) = s by omega, Nat.mod_eq_of_lt s1]
    · rw [Nat.mod_eq_of_lt (show s + M - Hm k % M < M by omega), show Hm k % M + (s + M - Hm k % M) = s + M by omega, Nat.add_mod_right, Nat.mod_eq_of_lt s1]
  obtain ⟨J, j1, j2, j3⟩ := own_least (P := fun j => f (2 * ((Hm k + j) % M) + 1) = 0) _ (show _ by show f (2 * ((Hm k + ((s + M - Hm k % M) % M)) % M) + 1) = 0; rw [e1]; exact e0)
  refine ⟨J, Nat.lt_of_le_of_lt j1 (Nat.mod_lt _ (by omega)), j2, fun i hi => ⟨j3 i hi, fun r => hk ?_⟩⟩
  rw [← r]
  exact I1 _ (Nat.mod_lt _ (by omega)) (j3 i hi)
theorem own_insert {M : Nat} {Hm : Int64 → Nat} {f : Nat → Int64} {K : List Int64} (I : own_Inv M Hm f K) {k : Int64} {J S : Nat} {v : Int64} (hv : v ≠ 0) (hJ : J < M) (hS : S = (Hm k + J) % M) (h0 : f (2 * S + 1) = 0) (hn : ∀ i, i < J → f (2 * ((Hm k + i) % M) + 1) ≠ 0 ∧ f (2 * ((Hm k + i) % M)) ≠ k) :
    own_Inv M Hm (own_up (own_up f (2 * S) k) (2 * S + 1) v) (k :: K) := by
  obtain ⟨I1, I2, L, l1, l2⟩ := I
  have hM : 0 < M := by omega
  have same : ∀ s, s ≠ S → own_up (own_up f (2 * S) k) (2 * S + 1) v (2 * s + 1) = f (2 * s + 1) ∧ own_up (own_up f (2 * S) k) (2 * S + 1) v (2 * s) = f (2 * s) := by
    intro s hs
    unfold own_up
    exact ⟨by rw [if_neg (by omega), if_neg (by omega)], by rw [if_neg (by omega), if_neg (by omega)]⟩
  have here1 : own_up (own_up f (2 * S) k) (2 * S + 1) v (2 * S + 1) = v := if_pos rfl
  have here0 : own_up (own_up f (2 * S) k) (2 * S + 1) v (2 * S) = k := by
    unfold own_up; rw [if_neg (by omega), if_pos rfl]
  refine ⟨?_, ?_, S :: L, by simp [l1], ?_⟩
  · intro s hs h
    by_cases q : s = S
    · subst q; rw [here0]; exact List.mem_cons_self
    · rw [(same s q).1] at h; rw [(same s q).2]; exact List.mem_cons_of_mem _ (I1 s hs h)
  · intro k' hk'
    rcases List.mem_cons.mp hk' with rfl | hk'
    · refine ⟨J, hJ, by rw [← hS, here1]; exact hv, by rw [← hS, here0], fun i hi => ?_⟩
      have ne : (Hm k' + i) % M ≠ S := fun r => (hn i hi).1 (by rw [r]; exact h0)
      rw [(same _ ne).1, (same _ ne).2]; exact hn i hi
    · obtain ⟨j, j1, j2, j3, j4⟩ := I2 k' hk'
      have ne : (Hm k' + j) % M ≠ S := fun r => j2 (by rw [r]; exact h0)
      refine ⟨j, j1, by rw [(same _ ne).1]; exact j2, by rw [(same _ ne).2]; exact j3, fun i hi => ?_⟩
      have ne : (Hm k' + i) % M ≠ S := fun r => (j4 i hi).1 (by rw [r]; exact h0)
      rw [(same _ ne).1, (same _ ne).2]; exact j4 i hi
  · intro s hs h
    by_cases q : s = S
    · subst q; exact List.mem_cons_self
    · rw [(same s q).1] at h; exact List.mem_cons_of_mem _ (l2 s hs h)

theorem own_ofN {o : Int32} {O : Nat} (h : o.toInt = O) (hO : O < 64) : o = Int32.ofNat O := by
  apply Int32.toInt_inj.mp; rw [h, Int32.toInt_ofNat_of_lt (by omega)]
theorem own_len2 {sb : Int32} {B : Nat} (h : sb.toInt = B) (hB : B ≤ 10) : ((2 : Int64) <<< (sb &&& 0x3f).toInt64).toInt = ((2 * 2 ^ B : Nat) : Int) := by
  rw [own_ofN h (by omega)]
  have : ∀ k : Fin 11, ((2 : Int64) <<< (Int32.ofNat k.1 &&& 0x3f).toInt64).toInt = ((2 * 2 ^ k.1 : Nat) : Int) := by decide +kernel
  exact this ⟨B, by omega⟩
theorem own_step {sb s : Int32} {B S : Nat} (h : sb.toInt = B) (hB : B ≤ 10) (hs : s.toInt = S) (hS : S < 2 ^ B) : ((s + 1) &&& (((1 : Int32) <<< (sb &&& 31)) - 1)).toInt = (((S + 1) % 2 ^ B : Nat) : Int) := by
  have hp : 2 ^ B ≤ 2 ^ 10 := Nat.pow_le_pow_right (by omega) hB
  have hp1 : 0 < 2 ^ B := Nat.two_pow_pos B
  rw [own_ofN h (by omega)]
  have m : ∀ k : Fin 11, (((1 : Int32) <<< (Int32.ofNat k.1 &&& 31)) - 1).toBitVec.toNat = 2 ^ k.1 - 1 := by decide +kernel
  have e1 : (s + 1).toInt = ((S + 1 : Nat) : Int) := by
    rw [Int32.toInt_add, hs, show (1 : Int32).toInt = 1 from rfl, Int.bmod_eq_of_le (by omega) (by omega)]; omega
  have e2 : (s + 1).toBitVec.toNat = S + 1 := by
    have b := (s + 1).toBitVec.isLt
    rw [← Int32.toInt_toBitVec, BitVec.toInt_eq_toNat_cond] at e1
    split at e1 <;> omega
  have e3 : ((s + 1) &&& (((1 : Int32) <<< (Int32.ofNat B &&& 31)) - 1)).toBitVec.toNat = (S + 1) % 2 ^ B := by
    rw [Int32.toBitVec_and, BitVec.toNat_and, e2, m ⟨B, by omega⟩]
    exact Nat.and_two_pow_sub_one_eq_mod _ B
  have b2 := Nat.mod_lt (S + 1) hp1
  rw [← Int32.toInt_toBitVec, BitVec.toInt_eq_toNat_of_lt (by omega), e3]
theorem own_stepJ {sb s : Int32} {B H j : Nat} (h : sb.toInt = B) (hB : B ≤ 10) (hs : s.toInt = (((H + j) % 2 ^ B : Nat) : Int)) : ((s + 1) &&& (((1 : Int32) <<< (sb &&& 31)) - 1)).toInt = (((H + (j + 1)) % 2 ^ B : Nat) : Int) := by
  rw [own_step h hB hs (Nat.mod_lt _ (Nat.two_pow_pos B)), Nat.mod_add_mod]; rfl
theorem own_dbl {s : Int32} {S : Nat} (hs : s.toInt = S) (hS : S < 100000) : ((2 : Int32) * s).toInt = ((2 * S : Nat) : Int) := by
  rw [Int32.toInt_mul, hs, show (2 : Int32).toInt = 2 from rfl, Int.bmod_eq_of_le (by omega) (by omega)]; omega
theorem own_i1 {x : Int32} {X : Nat} (hx : x.toInt = X) (hX : X < 1000000) : (x + 1).toInt = ((X + 1 : Nat) : Int) := by
  rw [Int32.toInt_add, hx, show (1 : Int32).toInt = 1 from rfl, Int.bmod_eq_of_le (by omega) (by omega)]; omega
theorem own_firstN {x : Int64} {N : Nat} (hx : x.toInt = N) (h : N ≤ 2048) : (own_minJ x (2147483639 : Int32).toInt64).toInt32.toInt = N := by
  have e : (2147483639 : Int32).toInt64.toInt = 2147483639 := rfl
  have : own_minJ x (2147483639 : Int32).toInt64 = x := by
    unfold own_minJ; rw [if_neg (by rw [Int64.lt_iff_toInt_lt, e, hx]; omega)]
  rw [this, Int64.toInt_toInt32, hx, Int.bmod_eq_of_le (by omega) (by omega)]
theorem own_restN {x : Int64} {N : Nat} (hx : x.toInt = N) (h : N ≤ 2048) : own_restf x (2147483639 : Int32) = 0 := by
  have e : (2147483639 : Int32).toInt64.toInt = 2147483639 := rfl
  have e2 : (x - (2147483639 : Int32).toInt64).toInt = N - 2147483639 := by rw [Int64.toInt_sub, hx, e, Int.bmod_eq_of_le (by omega) (by omega)]
  unfold own_restf own_maxJ
  rw [if_neg (by rw [Int64.lt_iff_toInt_lt, e2, show (0 : Int64).toInt = 0 from rfl]; omega)]
  rfl
def own_home (B : Nat) (k : Int64) : Nat := (own_spread k).toBitVec.toNat / 2 ^ (64 - B)
theorem own_homeI {sb : Int32} {B : Nat} (h : sb.toInt = B) (h1 : 1 ≤ B) (hB : B ≤ 10) (k : Int64) : ((((own_spread k).toUInt64 >>> (((64 : Int32) - sb) &&& 0x3f).toInt64.toUInt64).toInt64).toInt32).toInt = ((own_home B k % 2 ^ B : Nat) : Int) := by
  have e0 : ((64 : Int32) - sb).toInt = ((64 - B : Nat) : Int) := by
    rw [Int32.toInt_sub, h, show (64 : Int32).toInt = 64 from rfl, Int.bmod_eq_of_le (by omega) (by omega)]; omega
  have hp : 2 ^ B ≤ 2 ^ 10 := Nat.pow_le_pow_right (by omega) hB
  have b := (own_spread k).toBitVec.isLt
  have e5 : own_home B k < 2 ^ B := by
    unfold own_home
    apply Nat.div_lt_of_lt_mul
    rw [← Nat.pow_add, show 64 - B + B = 64 by omega]; exact b
  have e : ((((own_spread k).toUInt64 >>> (((64 : Int32) - sb) &&& 0x3f).toInt64.toUInt64).toInt64).toInt32).toBitVec.toNat = own_home B k := by
    show (BitVec.signExtend 32 (((own_spread k).toUInt64 >>> (((64 : Int32) - sb) &&& 0x3f).toInt64.toUInt64).toInt64).toBitVec).toNat = _
    rw [own_shrB _ e0 (by omega), BitVec.signExtend_eq_setWidth_of_le _ (by omega), BitVec.toNat_setWidth, BitVec.toNat_ushiftRight, Nat.shiftRight_eq_div_pow]
    exact Nat.mod_eq_of_lt (Nat.lt_of_lt_of_le e5 (by omega))
  rw [← Int32.toInt_toBitVec, BitVec.toInt_eq_toNat_of_lt (by omega), e, Nat.mod_eq_of_lt e5]

theorem own_sn_LongArray_rest_first {Z : State} {a0 : Array Value} (hw : ∀ d ∈ tables_1, d.before a0 Z = true) : Jvm.RoadKit.slotOf Z "com/example/quotient/quotient/LongArray" "rest" "[J" ≠ Jvm.RoadKit.slotOf Z "com/example/quotient/quotient/LongArray" "first" "[J" := slot_ne (Or.inr (hw _ (List.mem_of_getElem? (i := 76) rfl))) (Or.inr (hw _ (List.mem_of_getElem? (i := 74) rfl))) (by decide) (t := (.array .long)) (t' := (.array .long)) (by decide) (by decide)
theorem own_sn_LongArray_longestPart_first {Z : State} {a0 : Array Value} (hw : ∀ d ∈ tables_1, d.before a0 Z = true) : Jvm.RoadKit.slotOf Z "com/example/quotient/quotient/LongArray" "longestPart" "I" ≠ Jvm.RoadKit.slotOf Z "com/example/quotient/quotient/LongArray" "first" "[J" := slot_ne (Or.inr (hw _ (List.mem_of_getElem? (i := 78) rfl))) (Or.inr (hw _ (List.mem_of_getElem? (i := 74) rfl))) (by decide) (t := .int) (t' := (.array .long)) (by decide) (by decide)
theorem own_sn_LongArray_first_rest {Z : State} {a0 : Array Value} (hw : ∀ d ∈ tables_1, d.before a0 Z = true) : Jvm.RoadKit.slotOf Z "com/example/quotient/quotient/LongArray" "first" "[J" ≠ Jvm.RoadKit.slotOf Z "com/example/quotient/quotient/LongArray" "rest" "[J" := slot_ne (Or.inr (hw _ (List.mem_of_getElem? (i := 74) rfl))) (Or.inr (hw _ (List.mem_of_getElem? (i := 76) rfl))) (by decide) (t := (.array .long)) (t' := (.array .long)) (by decide) (by decide)
theorem own_sn_LongArray_longestPart_rest {Z : State} {a0 : Array Value} (hw : ∀ d ∈ tables_1, d.before a0 Z = true) : Jvm.RoadKit.slotOf Z "com/example/quotient/quotient/LongArray" "longestPart" "I" ≠ Jvm.RoadKit.slotOf Z "com/example/quotient/quotient/LongArray" "rest" "[J" := slot_ne (Or.inr (hw _ (List.mem_of_getElem? (i := 78) rfl))) (Or.inr (hw _ (List.mem_of_getElem? (i := 76) rfl))) (by decide) (t := .int) (t' := (.array .long)) (by decide) (by decide)
theorem own_sn_LongArray_first_longestPart {Z : State} {a0 : Array Value} (hw : ∀ d ∈ tables_1, d.before a0 Z = true) : Jvm.RoadKit.slotOf Z "com/example/quotient/quotient/LongArray" "first" "[J" ≠ Jvm.RoadKit.slotOf Z "com/example/quotient/quotient/LongArray" "longestPart" "I" := slot_ne (Or.inr (hw _ (List.mem_of_getElem? (i := 74) rfl))) (Or.inr (hw _ (List.mem_of_getElem? (i := 78) rfl))) (by decide) (t := (.array .long)) (t' := .int) (by decide) (by decide)
theorem own_sn_LongArray_rest_longestPart {Z : State} {a0 : Array Value} (hw : ∀ d ∈ tables_1, d.before a0 Z = true) : Jvm.RoadKit.slotOf Z "com/example/quotient/quotient/LongArray" "rest" "[J" ≠ Jvm.RoadKit.slotOf Z "com/example/quotient/quotient/LongArray" "longestPart" "I" := slot_ne (Or.inr (hw _ (List.mem_of_getElem? (i := 76) rfl))) (Or.inr (hw _ (List.mem_of_getElem? (i := 78) rfl))) (by decide) (t := (.array .long)) (t' := .int) (by decide) (by decide)
theorem own_dLI_0 : decode prog_110_method_3_code 0 = .ok (.aload_n 0, 1) := by decide +kernel
theorem own_dLI_1 : decode prog_110_method_3_code 1 = .ok (.invokespecial 30, 3) := by decide +kernel
theorem own_dLI_4 : decode prog_110_method_3_code 4 = .ok (.aload_n 0, 1) := by decide +kernel
theorem own_dLI_5 : decode prog_110_method_3_code 5 = .ok (.aload_n 1, 1) := by decide +kernel
theorem own_dLI_6 : decode prog_110_method_3_code 6 = .ok (.putfield 35, 3) := by decide +kernel
theorem own_dLI_9 : decode prog_110_method_3_code 9 = .ok (.aload_n 0, 1) := by decide +kernel
theorem own_dLI_10 : decode prog_110_method_3_code 10 = .ok (.aload_n 2, 1) := by decide +kernel
theorem own_dLI_11 : decode prog_110_method_3_code 11 = .ok (.putfield 39, 3) := by decide +kernel
theorem own_dLI_14 : decode prog_110_method_3_code 14 = .ok (.aload_n 0, 1) := by decide +kernel
theorem own_dLI_15 : decode prog_110_method_3_code 15 = .ok (.iload_n 3, 1) := by decide +kernel
theorem own_dLI_16 : decode prog_110_method_3_code 16 = .ok (.putfield 42, 3) := by decide +kernel
theorem own_dLI_19 : decode prog_110_method_3_code 19 = .ok (.return_, 1) := by decide +kernel
theorem own_pn_own_rmLI : plainFor (⟨"com/example/quotient/quotient/LongArray", "<init>", "([J[JI)V"⟩ : MethodName) = true := plainFor_of_name (show plainName "com/example/quotient/quotient/LongArray" = true by first | (simp [plainName, overriddenIn]; done) | decide +kernel)
set_option maxRecDepth 65536 in
set_option maxHeartbeats 40000000 in
theorem own_rmLI (l : Launch) (Z : State) (a0 : Array Value) (hw : ∀ d ∈ tables_1, d.before a0 Z = true) (ws : List Jvm.Cond) (h0 : Heap) (n0 : Nat) (Z0 : n0 ≤ h0.size) (a b b2 : Addr) (g_a : n0 ≤ a) (u x : Int32) (E_a : Exa Z h0 a "com/example/quotient/quotient/LongArray") (F_a_first : Fld Z h0 a "com/example/quotient/quotient/LongArray" "first" "[J" .null) (F_a_rest : Fld Z h0 a "com/example/quotient/quotient/LongArray" "rest" "[J" .null) (F_a_longestPart : Fld Z h0 a "com/example/quotient/quotient/LongArray" "longestPart" "I" (.int u))  :
    own_C l Z (⟨"com/example/quotient/quotient/LongArray", "<init>", "([J[JI)V"⟩ : MethodName) prog_110_method_3_code 4 none ws ({ frames := 1, cells := 0, slots := 0, locals := 12 } : Room) #[(.ref a), (.ref b), (.ref b2), (.int x)] h0 (own_Q n0 (fun v h => v = none ∧ Keep h0 h [a] ∧ Exa Z h a "com/example/quotient/quotient/LongArray" ∧ Fld Z h a "com/example/quotient/quotient/LongArray" "first" "[J" (.ref b))) := by
  refine own_met own_pn_own_rmLI #[rv a, rv b, rv b2, iv x] (fun m => by first | (simp [entryFrame, mkF, argsToLocals, Value.category]; done) | rfl) ?_
  intro p e s m below meth c s₁ Fi hx hby hml hown hret hlk hZ hnm hF X0 e0
  replace X0 := own_S.of X0 (n0)
  have hn : n0 ≤ h0.size := Z0
  have hK := Keep.refl h0 [a]
  refine own_gs 1 [(.ref a)] (fun t' k => XS.aloadN X0.here hx rfl (hb hby own_dLI_0) rfl rfl  k) ?_
  refine X0.initO hx hZ hown (hw _ (List.mem_of_getElem? (i := 72) rfl)) (hw _ (List.mem_of_getElem? (i := 13) rfl)) (hw _ (List.mem_of_getElem? (i := 14) rfl)) e0 (by rw [hml]; rfl) (hb hby own_dLI_1) (by decide) 0 (Nat.le_of_eq rfl) (by decide) ?_
  intro T1 X1 e1
  refine own_gs 5 [(.ref a)] (fun t' k => XS.aloadN X1.here hx rfl (hb hby own_dLI_4) rfl rfl  k) ?_
  refine own_gs 6 [(.ref b), (.ref a)] (fun t' k => XS.aloadN X1.here hx rfl (hb hby own_dLI_5) rfl rfl  k) ?_
  refine X1.putF hx hZ hown (hw _ (List.mem_of_getElem? (i := 73) rfl)) e1 F_a_first E_a g_a (Or.inr ⟨(hw _ (List.mem_of_getElem? (i := 74) rfl)), rfl, hnm⟩) (hw _ (List.mem_of_getElem? (i := 68) rfl)) (ty := (.array .long)) (by decide) rfl rfl (hb hby own_dLI_6) ?_
  intro T2 h2 X2 e2 W2
  replace E_a := E_a.wr W2
  replace F_a_first := F_a_first.same W2
  replace F_a_rest := F_a_rest.other W2 (Or.inr (own_sn_LongArray_rest_first hw))
  replace F_a_longestPart := F_a_longestPart.other W2 (Or.inr (own_sn_LongArray_longestPart_first hw))
  replace hn := Nat.le_trans hn (Keep.of_wr W2).1
  replace hK := hK.wr W2 (Or.inl (List.mem_of_getElem? (i := 0) rfl))
  refine own_gs 10 [(.ref a)] (fun t' k => XS.aloadN X2.here hx rfl (hb hby own_dLI_9) rfl rfl  k) ?_
  refine own_gs 11 [(.ref b2), (.ref a)] (fun t' k => XS.aloadN X2.here hx rfl (hb hby own_dLI_10) rfl rfl  k) ?_
  refine X2.putF hx hZ hown (hw _ (List.mem_of_getElem? (i := 75) rfl)) e2 F_a_rest E_a g_a (Or.inr ⟨(hw _ (List.mem_of_getElem? (i := 76) rfl)), rfl, hnm⟩) (hw _ (List.mem_of_getElem? (i := 68) rfl)) (ty := (.array .long)) (by decide) rfl rfl (hb hby own_dLI_11) ?_
  intro T3 h3 X3 e3 W3
  replace E_a := E_a.wr W3
  replace F_a_first := F_a_first.other W3 (Or.inr (own_sn_LongArray_first_rest hw))
  replace F_a_rest := F_a_rest.same W3
  replace F_a_longestPart := F_a_longestPart.other W3 (Or.inr (own_sn_LongArray_longestPart_rest hw))
  replace hn := Nat.le_trans hn (Keep.of_wr W3).1
  replace hK := hK.wr W3 (Or.inl (List.mem_of_getElem? (i := 0) rfl))
  refine own_gs 15 [(.ref a)] (fun t' k => XS.aloadN X3.here hx rfl (hb hby own_dLI_14) rfl rfl  k) ?_
  refine own_gs 16 [(.int x), (.ref a)] (fun t' k => XS.iloadN X3.here hx rfl (hb hby own_dLI_15) rfl  k) ?_
  refine X3.putF hx hZ hown (hw _ (List.mem_of_getElem? (i := 77) rfl)) e3 F_a_longestPart E_a g_a (Or.inr ⟨(hw _ (List.mem_of_getElem? (i := 78) rfl)), rfl, hnm⟩) (hw _ (List.mem_of_getElem? (i := 68) rfl)) (ty := .int) (by decide) rfl rfl (hb hby own_dLI_16) ?_
  intro T4 h4 X4 e4 W4
  replace E_a := E_a.wr W4
  replace F_a_first := F_a_first.other W4 (Or.inr (own_sn_LongArray_first_longestPart hw))
  replace F_a_rest := F_a_rest.other W4 (Or.inr (own_sn_LongArray_rest_longestPart hw))
  replace F_a_longestPart := F_a_longestPart.same W4
  replace hn := Nat.le_trans hn (Keep.of_wr W4).1
  replace hK := hK.wr W4 (Or.inl (List.mem_of_getElem? (i := 0) rfl))
  refine X4.retV hF (Nat.zero_le _) hx hlk hret (hb hby own_dLI_19) ?_ (by decide) (by decide)
  rw [e4]
  exact ⟨rfl, hK, E_a, F_a_first⟩

theorem own_dO2_0 : decode prog_110_method_2_code 0 = .ok (.lload_n 0, 1) := by decide +kernel
theorem own_dO2_1 : decode prog_110_method_2_code 1 = .ok (.iload_n 2, 1) := by decide +kernel
theorem own_dO2_2 : decode prog_110_method_2_code 2 = .ok (.ldc 10, 2) := by decide +kernel
theorem own_dO2_4 : decode prog_110_method_2_code 4 = .ok (.invokestatic 12, 3) := by decide +kernel
theorem own_dO2_7 : decode prog_110_method_2_code 7 = .ok (.newarray .long, 2) := by decide +kernel
theorem own_dO2_9 : decode prog_110_method_2_code 9 = .ok (.astore_n 3, 1) := by decide +kernel
theorem own_dO2_10 : decode prog_110_method_2_code 10 = .ok (.lload_n 0, 1) := by decide +kernel
theorem own_dO2_11 : decode prog_110_method_2_code 11 = .ok (.iload_n 2, 1) := by decide +kernel
theorem own_dO2_12 : decode prog_110_method_2_code 12 = .ok (.invokestatic 16, 3) := by decide +kernel
theorem own_dO2_15 : decode prog_110_method_2_code 15 = .ok (.istore 4, 2) := by decide +kernel
theorem own_dO2_17 : decode prog_110_method_2_code 17 = .ok (.iload 4, 2) := by decide +kernel
theorem own_dO2_19 : decode prog_110_method_2_code 19 = .ok (.ifCond .ne 18, 3) := by decide +kernel
theorem own_dO2_22 : decode prog_110_method_2_code 22 = .ok (.new 5, 3) := by decide +kernel
theorem own_dO2_25 : decode prog_110_method_2_code 25 = .ok (.dup, 1) := by decide +kernel
theorem own_dO2_26 : decode prog_110_method_2_code 26 = .ok (.aload_n 3, 1) := by decide +kernel
theorem own_dO2_27 : decode prog_110_method_2_code 27 = .ok (.iconst 0, 1) := by decide +kernel
theorem own_dO2_28 : decode prog_110_method_2_code 28 = .ok (.newarray .long, 2) := by decide +kernel
theorem own_dO2_30 : decode prog_110_method_2_code 30 = .ok (.iload_n 2, 1) := by decide +kernel
theorem own_dO2_31 : decode prog_110_method_2_code 31 = .ok (.invokespecial 20, 3) := by decide +kernel
theorem own_dO2_34 : decode prog_110_method_2_code 34 = .ok (.goto 10, 3) := by decide +kernel
theorem own_dO2_44 : decode prog_110_method_2_code 44 = .ok (.areturn, 1) := by decide +kernel
theorem own_pn_own_rmO2 : plainFor (⟨"com/example/quotient/quotient/LongArray", "ofLength", "(JI)Lcom/example/quotient/quotient/LongArray;"⟩ : MethodName) = true := plainFor_of_name (show plainName "com/example/quotient/quotient/LongArray" = true by first | (simp [plainName, overriddenIn]; done) | decide +kernel)
set_option maxRecDepth 65536 in
set_option maxHeartbeats 40000000 in
theorem own_rmO2 (l : Launch) (Z : State) (a0 : Array Value) (hw : ∀ d ∈ tables_1, d.before a0 Z = true) (ws : List Jvm.Cond) (h0 : Heap) (n0 : Nat) (Z0 : n0 ≤ h0.size) (x : Int64) (y : Int32) (N : Nat) (hx1 : ¬ (2147483648 : Int64) < x) (hN : (own_minJ x y.toInt64).toInt32.toInt = N) (hN2 : N ≤ 2048) (hr : own_restf x y = 0)  :
    own_CW l Z (⟨"com/example/quotient/quotient/LongArray", "ofLength", "(JI)Lcom/example/quotient/quotient/LongArray;"⟩ : MethodName) prog_110_method_2_code 5 (some (.object "com/example/quotient/quotient/LongArray")) ws ({ frames := 2, cells := 5, slots := 2075, locals := 34 } : Room) #[(.long x), (.int y)] h0 (own_Q n0 (fun v h => ∃ a b, v = some (.ref a) ∧ h0.size ≤ b ∧ b < a ∧ Keep h0 h [] ∧ Exa Z h a "com/example/quotient/quotient/LongArray" ∧ Fld Z h a "com/example/quotient/quotient/LongArray" "first" "[J" (.ref b) ∧ own_L Z h b N (fun _ => 0))) := by
  refine own_metW own_pn_own_rmO2 #[jv x, .second, iv y, .unset, .unset] (fun m => by first | (simp [entryFrame, mkF, argsToLocals, Value.category]; done) | rfl) ?_
  intro p e s vm0 m below meth c s₁ Fi hx hby hml hown hret hlk hZ hnm hFW hS hk X0 e0
  replace X0 := own_S.of X0 (n0)
  have hn : n0 ≤ h0.size := Z0
  have hK := Keep.refl h0 []
  refine own_gs 1 [(.long x)] (fun t' k => XS.lloadN X0.here hx rfl (hb hby own_dO2_0) rfl  k) ?_
  refine own_gs 2 [(.int y), (.long x)] (fun t' k => XS.iloadN X0.here hx rfl (hb hby own_dO2_1) rfl  k) ?_
  refine X0.ldcS hx hZ hown (hw _ (List.mem_of_getElem? (i := 44) rfl)) (own_sat hw) e0 hS hk 20 (by decide) (by decide) (by decide) (by decide) (hb hby own_dO2_2) ?_
  clear hS hk hZ hown
  intro T1 h1 vm1 k1 t1 X1 e1 xt1 hS hk hZ hown
  replace hn := Nat.le_trans hn xt1.1
  replace hK := hK.ext xt1
  refine X1.callP hx hZ (y := (⟨"com/example/quotient/quotient/IntArray", "firstLength", "(JILjava/lang/String;)I"⟩ : MethodName)) (fr := 1) (lo := 15) (r := (.int ((own_minJ x y.toInt64).toInt32))) hown (hw _ (List.mem_of_getElem? (i := 52) rfl)) (hw _ (List.mem_of_getElem? (i := 53) rfl)) (hw _ (List.mem_of_getElem? (i := 54) rfl)) (hw _ (List.mem_of_getElem? (i := 55) rfl)) (by decide) e1 [(.long x), (.int y), (.ref t1)] [] (own_rmF l Z a0 hw [] h1 x y t1 hx1) 0 (by decide) (by decide) (Nat.le_of_eq rfl) (by decide) (by decide) (by rw [hml]; rfl) (lenOf own_pd2 rfl) rfl (hb hby own_dO2_4) ?_
  intro T2 X2 e2
  refine X2.newP hx hZ (hw _ (List.mem_of_getElem? (i := 60) rfl)) e2 N hN (hb hby own_dO2_7) 2048 hN2 (by decide) (by decide) (by decide) ?_
  intro T3 h3 b3 X3 e3 q3 xt3 A_b3
  have g_b3 : n0 ≤ b3 := by rw [q3]; exact hn
  have sz_b3 : h0.size ≤ b3 := by rw [q3]; exact hK.1
  replace hK := hK.ext xt3
  replace hn := Nat.le_trans hn xt3.1
  replace hk := Nat.le_trans hk xt3.1
  replace A_b3 : own_A Z h3 .long b3 (List.replicate N (.long (0 : Int64))) := A_b3
  refine own_go (mkF m 10 #[jv x, .second, iv y, rv b3, .unset] []) (fun t' k => XS.astoreN X3.here hx rfl (hb hby own_dO2_9) rfl rfl rfl k) ?_
  refine own_gs 11 [(.long x)] (fun t' k => XS.lloadN X3.here hx rfl (hb hby own_dO2_10) rfl  k) ?_
  refine own_gs 12 [(.int y), (.long x)] (fun t' k => XS.iloadN X3.here hx rfl (hb hby own_dO2_11) rfl  k) ?_
  refine X3.callP hx hZ (y := (⟨"com/example/quotient/quotient/IntArray", "restLength", "(JI)I"⟩ : MethodName)) (fr := 1) (lo := 15) (r := (.int (own_restf x y))) hown (hw _ (List.mem_of_getElem? (i := 61) rfl)) (hw _ (List.mem_of_getElem? (i := 62) rfl)) (hw _ (List.mem_of_getElem? (i := 54) rfl)) (hw _ (List.mem_of_getElem? (i := 63) rfl)) (by decide) e3 [(.long x), (.int y)] [] (own_rmR l Z a0 hw [] h3 x y) 0 (by decide) (by decide) (Nat.le_of_eq rfl) (by decide) (by decide) (by rw [hml]; rfl) (lenOf own_pd3 rfl) rfl (hb hby own_dO2_12) ?_
  intro T4 X4 e4
  refine own_go (mkF m 17 #[jv x, .second, iv y, rv b3, iv (own_restf x y)] []) (fun t' k => XS.istore X4.here hx rfl (hb hby own_dO2_15) rfl rfl k) ?_
  refine own_gs 19 [(.int (own_restf x y))] (fun t' k => XS.iload X4.here hx rfl (hb hby own_dO2_17) rfl  k) ?_
  refine own_gs 22 [] (fun t' k => XS.ifNo X4.here hx rfl (hb hby own_dO2_19) rfl ((if0 _ _).trans (teq hr).2) k) ?_
  refine X4.newO hx hZ hown (hw _ (List.mem_of_getElem? (i := 67) rfl)) (hw _ (List.mem_of_getElem? (i := 68) rfl)) (hw _ (List.mem_of_getElem? (i := 38) rfl)) e4 (hb hby own_dO2_22) (by decide) (by decide) ?_
  intro T5 h5 b5 X5 e5 q5 xt5 E_b5 D5
  have g_b5 : n0 ≤ b5 := by rw [q5]; exact hn
  have sz_b5 : h0.size ≤ b5 := by rw [q5]; exact hK.1
  replace hK := hK.ext xt5
  have lt_b3_b5 : b3 < b5 := by rw [q5]; exact A_b3.lt
  replace A_b3 := A_b3.ext xt5
  replace hn := Nat.le_trans hn xt5.1
  replace hk := Nat.le_trans hk xt5.1
  have F_b5_first : Fld Z h5 b5 "com/example/quotient/quotient/LongArray" "first" "[J" .null := D5 (Or.inr (hw _ (List.mem_of_getElem? (i := 74) rfl))) (ty := (.array .long)) (by decide)
  have F_b5_rest : Fld Z h5 b5 "com/example/quotient/quotient/LongArray" "rest" "[J" .null := D5 (Or.inr (hw _ (List.mem_of_getElem? (i := 76) rfl))) (ty := (.array .long)) (by decide)
  have F_b5_longestPart : Fld Z h5 b5 "com/example/quotient/quotient/LongArray" "longestPart" "I" (.int (0 : Int32)) := D5 (Or.inr (hw _ (List.mem_of_getElem? (i := 78) rfl))) (ty := .int) (by decide)
  refine own_gs 26 [(.ref b5), (.ref b5)] (fun t' k => XS.dup X5.here hx rfl (hb hby own_dO2_25) rfl rfl k) ?_
  refine own_gs 27 [(.ref b3), (.ref b5), (.ref b5)] (fun t' k => XS.aloadN X5.here hx rfl (hb hby own_dO2_26) rfl rfl  k) ?_
  refine own_gs 28 [(.int (0 : Int32)), (.ref b3), (.ref b5), (.ref b5)] (fun t' k => XS.iconst X5.here hx rfl (hb hby own_dO2_27) k) ?_
  refine X5.newP hx hZ (hw _ (List.mem_of_getElem? (i := 60) rfl)) e5 0 (by decide) (hb hby own_dO2_28) 0 (by decide) (by decide) (by decide) (by decide) ?_
  intro T6 h6 b6 X6 e6 q6 xt6 A_b6
  have g_b6 : n0 ≤ b6 := by rw [q6]; exact hn
  have sz_b6 : h0.size ≤ b6 := by rw [q6]; exact hK.1
  replace hK := hK.ext xt6
  have lt_b3_b6 : b3 < b6 := by rw [q6]; exact A_b3.lt
  have lt_b5_b6 : b5 < b6 := by rw [q6]; exact E_b5.lt
  replace A_b3 := A_b3.ext xt6
  replace E_b5 := E_b5.ext xt6
  replace F_b5_first := F_b5_first.ext xt6
  replace F_b5_rest := F_b5_rest.ext xt6
  replace F_b5_longestPart := F_b5_longestPart.ext xt6
  replace hn := Nat.le_trans hn xt6.1
  replace hk := Nat.le_trans hk xt6.1
  replace A_b6 : own_A Z h6 .long b6 [] := A_b6
  refine own_gs 31 [(.int y), (.ref b6), (.ref b3), (.ref b5), (.ref b5)] (fun t' k => XS.iloadN X6.here hx rfl (hb hby own_dO2_30) rfl  k) ?_
  refine X6.callI hx hZ (y := (⟨"com/example/quotient/quotient/LongArray", "<init>", "([J[JI)V"⟩ : MethodName)) rfl hown (hw _ (List.mem_of_getElem? (i := 69) rfl)) (hw _ (List.mem_of_getElem? (i := 70) rfl)) (hw _ (List.mem_of_getElem? (i := 38) rfl)) (hw _ (List.mem_of_getElem? (i := 71) rfl)) (by decide) e6 b5 [(.ref b3), (.ref b6), (.int y)] [(.ref b5)] (own_rmLI l Z a0 hw [] h6 n0 hn b5 b3 b6 g_b5 0 y E_b5 F_b5_first F_b5_rest F_b5_longestPart) 1 (by decide) (by decide) (Nat.le_of_eq rfl) (by decide) (by decide) (by rw [hml]; rfl) (lenOf own_pd4 rfl) rfl (hb hby own_dO2_31) ?_
  rintro T7 _ X7 ⟨rfl, K7, E_o, F_o⟩
  replace A_b3 := A_b3.keep K7 (ninS (Nat.ne_of_lt lt_b3_b5) nin0)
  replace A_b6 := A_b6.keep K7 (ninS (Ne.symm (Nat.ne_of_lt lt_b5_b6)) nin0)
  replace hn := Nat.le_trans hn K7.1
  replace hK := hK.trans K7 (allS (Or.inr sz_b5) all0)
  replace hk := Nat.le_trans hk K7.1
  show own_G p e below Fi T7 (mkF m 34 #[jv x, .second, iv y, rv b3, iv (own_restf x y)] [(.ref b5)])
  refine own_gs 44 [(.ref b5)] (fun t' k => XS.goto X7.here hx rfl (pc0 := 34) (pc' := 44) rfl (hb hby own_dO2_34) (by decide) (by decide) k) ?_
  refine X7.retA (hFW _ _ hS) (by first | exact hk | (rw [e7]; exact hk)) hx hlk hret rfl rfl (hb hby own_dO2_44) ?_ (by decide) (by decide)
  exact ⟨b5, b3, rfl, sz_b3, lt_b3_b5, hK, E_o, F_o, own_L.new A_b3⟩

theorem own_dO1_0 : decode prog_110_method_1_code 0 = .ok (.lload_n 0, 1) := by decide +kernel
theorem own_dO1_1 : decode prog_110_method_1_code 1 = .ok (.ldc 3, 2) := by decide +kernel
theorem own_dO1_3 : decode prog_110_method_1_code 3 = .ok (.invokestatic 4, 3) := by decide +kernel
theorem own_dO1_6 : decode prog_110_method_1_code 6 = .ok (.areturn, 1) := by decide +kernel
theorem own_pn_own_rmO1 : plainFor (⟨"com/example/quotient/quotient/LongArray", "ofLength", "(J)Lcom/example/quotient/quotient/LongArray;"⟩ : MethodName) = true := plainFor_of_name (show plainName "com/example/quotient/quotient/LongArray" = true by first | (simp [plainName, overriddenIn]; done) | decide +kernel)
set_option maxRecDepth 65536 in
set_option maxHeartbeats 40000000 in
theorem own_rmO1 (l : Launch) (Z : State) (a0 : Array Value) (hw : ∀ d ∈ tables_1, d.before a0 Z = true) (ws : List Jvm.Cond) (h0 : Heap) (n0 : Nat) (Z0 : n0 ≤ h0.size) (x : Int64) (N : Nat) (hx1 : ¬ (2147483648 : Int64) < x) (hN : x.toInt = N) (hN2 : N ≤ 2048)  :
    own_CW l Z (⟨"com/example/quotient/quotient/LongArray", "ofLength", "(J)Lcom/example/quotient/quotient/LongArray;"⟩ : MethodName) prog_110_method_1_code 2 (some (.object "com/example/quotient/quotient/LongArray")) ws ({ frames := 3, cells := 5, slots := 2075, locals := 50 } : Room) #[(.long x)] h0 (own_Q n0 (fun v h => ∃ a b, v = some (.ref a) ∧ h0.size ≤ b ∧ b < a ∧ Keep h0 h [] ∧ Exa Z h a "com/example/quotient/quotient/LongArray" ∧ Fld Z h a "com/example/quotient/quotient/LongArray" "first" "[J" (.ref b) ∧ own_L Z h b N (fun _ => 0))) := by
  refine own_metW own_pn_own_rmO1 #[jv x, .second] (fun m => by first | (simp [entryFrame, mkF, argsToLocals, Value.category]; done) | rfl) ?_
  intro p e s vm0 m below meth c s₁ Fi hx hby hml hown hret hlk hZ hnm hFW hS hk X0 e0
  replace X0 := own_S.of X0 (n0)
  have hn : n0 ≤ h0.size := Z0
  refine own_gs 1 [(.long x)] (fun t' k => XS.lloadN X0.here hx rfl (hb hby own_dO1_0) rfl  k) ?_
  refine own_gs 3 [(.int (2147483639 : Int32)), (.long x)] (fun t' k => X0.ldcInt hx hown (mvT hZ (hw _ (List.mem_of_getElem? (i := 40) rfl))) (g := (mkF m 1 #[jv x, .second] [(.long x)])) rfl (hb hby own_dO1_1) _ k) ?_
  refine X0.callSW hx hZ (y := (⟨"com/example/quotient/quotient/LongArray", "ofLength", "(JI)Lcom/example/quotient/quotient/LongArray;"⟩ : MethodName)) hown (hw _ (List.mem_of_getElem? (i := 41) rfl)) (hw _ (List.mem_of_getElem? (i := 42) rfl)) (hw _ (List.mem_of_getElem? (i := 38) rfl)) (hw _ (List.mem_of_getElem? (i := 43) rfl)) (by decide) e0 hS hk [(.long x), (.int (2147483639 : Int32))] [] (own_rmO2 l Z a0 hw [] h0 n0 hn x (2147483639 : Int32) N hx1 (own_firstN hN hN2) hN2 (own_restN hN hN2)) 0 (by decide) (by decide) (Nat.le_of_eq rfl) (by decide) (by decide) (by rw [hml]; rfl) (lenOf own_pd5 rfl) rfl (hb hby own_dO1_3) ?_
  clear hS hk hZ hown
  rintro T1 _ vm1 k1 X1 ⟨la, b, rfl, hbz, hbl, K1, E_o, F_o, A_b⟩ hS hk hZ hown
  show own_G p e below Fi T1 (mkF m 6 #[jv x, .second] [(.ref la)])
  refine X1.retA (hFW _ _ hS) (by first | exact hk | (rw [e1]; exact hk)) hx hlk hret rfl rfl (hb hby own_dO1_6) ?_ (by decide) (by decide)
  exact ⟨la, b, rfl, hbz, hbl, K1, E_o, F_o, A_b⟩

theorem own_sn_LongTable_slotBits_mostSlotBits {Z : State} {a0 : Array Value} (hw : ∀ d ∈ tables_1, d.before a0 Z = true) : Jvm.RoadKit.slotOf Z "com/example/quotient/quotient/LongTable" "slotBits" "I" ≠ Jvm.RoadKit.slotOf Z "com/example/quotient/quotient/LongTable" "mostSlotBits" "I" := slot_ne (Or.inl (hw _ (List.mem_of_getElem? (i := 34) rfl))) (Or.inr (hw _ (List.mem_of_getElem? (i := 32) rfl))) (by decide) (t := .int) (t' := .int) (by decide) (by decide)
theorem own_sn_LongTable_size_mostSlotBits {Z : State} {a0 : Array Value} (hw : ∀ d ∈ tables_1, d.before a0 Z = true) : Jvm.RoadKit.slotOf Z "com/example/quotient/quotient/LongTable" "size" "I" ≠ Jvm.RoadKit.slotOf Z "com/example/quotient/quotient/LongTable" "mostSlotBits" "I" := slot_ne (Or.inl (hw _ (List.mem_of_getElem? (i := 87) rfl))) (Or.inr (hw _ (List.mem_of_getElem? (i := 32) rfl))) (by decide) (t := .int) (t' := .int) (by decide) (by decide)
theorem own_sn_LongTable_slots_mostSlotBits {Z : State} {a0 : Array Value} (hw : ∀ d ∈ tables_1, d.before a0 Z = true) : Jvm.RoadKit.slotOf Z "com/example/quotient/quotient/LongTable" "slots" "Lcom/example/quotient/quotient/LongArray;" ≠ Jvm.RoadKit.slotOf Z "com/example/quotient/quotient/LongTable" "mostSlotBits" "I" := slot_ne (Or.inl (hw _ (List.mem_of_getElem? (i := 80) rfl))) (Or.inr (hw _ (List.mem_of_getElem? (i := 32) rfl))) (by decide) (t := (.object "com/example/quotient/quotient/LongArray")) (t' := .int) (by decide) (by decide)
theorem own_sn_LongTable_mostSlotBits_slotBits {Z : State} {a0 : Array Value} (hw : ∀ d ∈ tables_1, d.before a0 Z = true) : Jvm.RoadKit.slotOf Z "com/example/quotient/quotient/LongTable" "mostSlotBits" "I" ≠ Jvm.RoadKit.slotOf Z "com/example/quotient/quotient/LongTable" "slotBits" "I" := slot_ne (Or.inr (hw _ (List.mem_of_getElem? (i := 32) rfl))) (Or.inl (hw _ (List.mem_of_getElem? (i := 34) rfl))) (by decide) (t := .int) (t' := .int) (by decide) (by decide)
theorem own_sn_LongTable_size_slotBits {Z : State} {a0 : Array Value} (hw : ∀ d ∈ tables_1, d.before a0 Z = true) : Jvm.RoadKit.slotOf Z "com/example/quotient/quotient/LongTable" "size" "I" ≠ Jvm.RoadKit.slotOf Z "com/example/quotient/quotient/LongTable" "slotBits" "I" := slot_ne (Or.inl (hw _ (List.mem_of_getElem? (i := 87) rfl))) (Or.inl (hw _ (List.mem_of_getElem? (i := 34) rfl))) (by decide) (t := .int) (t' := .int) (by decide) (by decide)
theorem own_sn_LongTable_slots_slotBits {Z : State} {a0 : Array Value} (hw : ∀ d ∈ tables_1, d.before a0 Z = true) : Jvm.RoadKit.slotOf Z "com/example/quotient/quotient/LongTable" "slots" "Lcom/example/quotient/quotient/LongArray;" ≠ Jvm.RoadKit.slotOf Z "com/example/quotient/quotient/LongTable" "slotBits" "I" := slot_ne (Or.inl (hw _ (List.mem_of_getElem? (i := 80) rfl))) (Or.inl (hw _ (List.mem_of_getElem? (i := 34) rfl))) (by decide) (t := (.object "com/example/quotient/quotient/LongArray")) (t' := .int) (by decide) (by decide)
theorem own_sn_LongTable_mostSlotBits_slots {Z : State} {a0 : Array Value} (hw : ∀ d ∈ tables_1, d.before a0 Z = true) : Jvm.RoadKit.slotOf Z "com/example/quotient/quotient/LongTable" "mostSlotBits" "I" ≠ Jvm.RoadKit.slotOf Z "com/example/quotient/quotient/LongTable" "slots" "Lcom/example/quotient/quotient/LongArray;" := slot_ne (Or.inr (hw _ (List.mem_of_getElem? (i := 32) rfl))) (Or.inl (hw _ (List.mem_of_getElem? (i := 80) rfl))) (by decide) (t := .int) (t' := (.object "com/example/quotient/quotient/LongArray")) (by decide) (by decide)
theorem own_sn_LongTable_slotBits_slots {Z : State} {a0 : Array Value} (hw : ∀ d ∈ tables_1, d.before a0 Z = true) : Jvm.RoadKit.slotOf Z "com/example/quotient/quotient/LongTable" "slotBits" "I" ≠ Jvm.RoadKit.slotOf Z "com/example/quotient/quotient/LongTable" "slots" "Lcom/example/quotient/quotient/LongArray;" := slot_ne (Or.inl (hw _ (List.mem_of_getElem? (i := 34) rfl))) (Or.inl (hw _ (List.mem_of_getElem? (i := 80) rfl))) (by decide) (t := .int) (t' := (.object "com/example/quotient/quotient/LongArray")) (by decide) (by decide)
theorem own_sn_LongTable_size_slots {Z : State} {a0 : Array Value} (hw : ∀ d ∈ tables_1, d.before a0 Z = true) : Jvm.RoadKit.slotOf Z "com/example/quotient/quotient/LongTable" "size" "I" ≠ Jvm.RoadKit.slotOf Z "com/example/quotient/quotient/LongTable" "slots" "Lcom/example/quotient/quotient/LongArray;" := slot_ne (Or.inl (hw _ (List.mem_of_getElem? (i := 87) rfl))) (Or.inl (hw _ (List.mem_of_getElem? (i := 80) rfl))) (by decide) (t := .int) (t' := (.object "com/example/quotient/quotient/LongArray")) (by decide) (by decide)
theorem own_dTI_0 : decode prog_113_method_1_code 0 = .ok (.aload_n 0, 1) := by decide +kernel
theorem own_dTI_1 : decode prog_113_method_1_code 1 = .ok (.invokespecial 3, 3) := by decide +kernel
theorem own_dTI_4 : decode prog_113_method_1_code 4 = .ok (.aload_n 0, 1) := by decide +kernel
theorem own_dTI_5 : decode prog_113_method_1_code 5 = .ok (.bipush 30, 2) := by decide +kernel
theorem own_dTI_7 : decode prog_113_method_1_code 7 = .ok (.iconst 1, 1) := by decide +kernel
theorem own_dTI_8 : decode prog_113_method_1_code 8 = .ok (.bipush 63, 2) := by decide +kernel
theorem own_dTI_10 : decode prog_113_method_1_code 10 = .ok (.lload_n 1, 1) := by decide +kernel
theorem own_dTI_11 : decode prog_113_method_1_code 11 = .ok (.ldc2_w 11, 3) := by decide +kernel
theorem own_dTI_14 : decode prog_113_method_1_code 14 = .ok (.ldiv, 1) := by decide +kernel
theorem own_dTI_15 : decode prog_113_method_1_code 15 = .ok (.invokestatic 13, 3) := by decide +kernel
theorem own_dTI_18 : decode prog_113_method_1_code 18 = .ok (.isub, 1) := by decide +kernel
theorem own_dTI_19 : decode prog_113_method_1_code 19 = .ok (.invokestatic 17, 3) := by decide +kernel
theorem own_dTI_22 : decode prog_113_method_1_code 22 = .ok (.invokestatic 23, 3) := by decide +kernel
theorem own_dTI_25 : decode prog_113_method_1_code 25 = .ok (.putfield 26, 3) := by decide +kernel
theorem own_dTI_28 : decode prog_113_method_1_code 28 = .ok (.aload_n 0, 1) := by decide +kernel
theorem own_dTI_29 : decode prog_113_method_1_code 29 = .ok (.bipush 10, 2) := by decide +kernel
theorem own_dTI_31 : decode prog_113_method_1_code 31 = .ok (.aload_n 0, 1) := by decide +kernel
theorem own_dTI_32 : decode prog_113_method_1_code 32 = .ok (.getfield 26, 3) := by decide +kernel
theorem own_dTI_35 : decode prog_113_method_1_code 35 = .ok (.invokestatic 23, 3) := by decide +kernel
theorem own_dTI_38 : decode prog_113_method_1_code 38 = .ok (.putfield 30, 3) := by decide +kernel
theorem own_dTI_41 : decode prog_113_method_1_code 41 = .ok (.aload_n 0, 1) := by decide +kernel
theorem own_dTI_42 : decode prog_113_method_1_code 42 = .ok (.ldc2_w 33, 3) := by decide +kernel
theorem own_dTI_45 : decode prog_113_method_1_code 45 = .ok (.aload_n 0, 1) := by decide +kernel
theorem own_dTI_46 : decode prog_113_method_1_code 46 = .ok (.getfield 30, 3) := by decide +kernel
theorem own_dTI_49 : decode prog_113_method_1_code 49 = .ok (.lshl, 1) := by decide +kernel
theorem own_dTI_50 : decode prog_113_method_1_code 50 = .ok (.invokestatic 35, 3) := by decide +kernel
theorem own_dTI_53 : decode prog_113_method_1_code 53 = .ok (.putfield 41, 3) := by decide +kernel
theorem own_dTI_56 : decode prog_113_method_1_code 56 = .ok (.return_, 1) := by decide +kernel
theorem own_pn_own_rmTI : plainFor (⟨"com/example/quotient/quotient/LongTable", "<init>", "(J)V"⟩ : MethodName) = true := plainFor_of_name (show plainName "com/example/quotient/quotient/LongTable" = true by first | (simp [plainName, overriddenIn]; done) | decide +kernel)
set_option maxRecDepth 65536 in
set_option maxHeartbeats 40000000 in
theorem own_rmTI (l : Launch) (Z : State) (a0 : Array Value) (hw : ∀ d ∈ tables_1, d.before a0 Z = true) (ws : List Jvm.Cond) (h0 : Heap) (n0 : Nat) (Z0 : n0 ≤ h0.size) (a : Addr) (g_a : n0 ≤ a) (u1 u2 : Int32) (x : Int64) (N : Nat) (hx1 : ¬ (2147483648 : Int64) < ((2 : Int64) <<< (own_sb x &&& 0x3f).toInt64)) (hN : ((2 : Int64) <<< (own_sb x &&& 0x3f).toInt64).toInt = N) (hN2 : N ≤ 2048) (E_a : Exa Z h0 a "com/example/quotient/quotient/LongTable") (F_a_mostSlotBits : Fld Z h0 a "com/example/quotient/quotient/LongTable" "mostSlotBits" "I" (.int u1)) (F_a_slotBits : Fld Z h0 a "com/example/quotient/quotient/LongTable" "slotBits" "I" (.int u2)) (F_a_size : Fld Z h0 a "com/example/quotient/quotient/LongTable" "size" "I" (.int (0 : Int32))) (F_a_slots : Fld Z h0 a "com/example/quotient/quotient/LongTable" "slots" "Lcom/example/quotient/quotient/LongArray;" .null)  :
    own_CW l Z (⟨"com/example/quotient/quotient/LongTable", "<init>", "(J)V"⟩ : MethodName) prog_113_method_1_code 3 none ws ({ frames := 4, cells := 5, slots := 2075, locals := 66 } : Room) #[(.ref a), (.long x)] h0 (own_Q n0 (fun v h => ∃ la b, v = none ∧ a < b ∧ b < la ∧ n0 ≤ b ∧ n0 ≤ h.size ∧ Exa Z h a "com/example/quotient/quotient/LongTable" ∧ Fld Z h a "com/example/quotient/quotient/LongTable" "mostSlotBits" "I" (.int (own_mb x)) ∧ Fld Z h a "com/example/quotient/quotient/LongTable" "slotBits" "I" (.int (own_sb x)) ∧ Fld Z h a "com/example/quotient/quotient/LongTable" "size" "I" (.int 0) ∧ Fld Z h a "com/example/quotient/quotient/LongTable" "slots" "Lcom/example/quotient/quotient/LongArray;" (.ref la) ∧ Exa Z h la "com/example/quotient/quotient/LongArray" ∧ Fld Z h la "com/example/quotient/quotient/LongArray" "first" "[J" (.ref b) ∧ own_L Z h b N (fun _ => 0))) := by
  refine own_metW own_pn_own_rmTI #[rv a, jv x, .second] (fun m => by first | (simp [entryFrame, mkF, argsToLocals, Value.category]; done) | rfl) ?_
  intro p e s vm0 m below meth c s₁ Fi hx hby hml hown hret hlk hZ hnm hFW hS hk X0 e0
  replace X0 := own_S.of X0 (n0)
  have hn : n0 ≤ h0.size := Z0
  refine own_gs 1 [(.ref a)] (fun t' k => XS.aloadN X0.here hx rfl (hb hby own_dTI_0) rfl rfl  k) ?_
  refine X0.initO hx hZ hown (hw _ (List.mem_of_getElem? (i := 12) rfl)) (hw _ (List.mem_of_getElem? (i := 13) rfl)) (hw _ (List.mem_of_getElem? (i := 14) rfl)) e0 (by rw [hml]; rfl) (hb hby own_dTI_1) (by decide) 0 (Nat.le_of_eq rfl) (by decide) ?_
  intro T1 X1 e1
  refine own_gs 5 [(.ref a)] (fun t' k => XS.aloadN X1.here hx rfl (hb hby own_dTI_4) rfl rfl  k) ?_
  refine own_gs 7 [(.int (30 : Int32)), (.ref a)] (fun t' k => XS.bipush X1.here hx rfl (hb hby own_dTI_5) k) ?_
  refine own_gs 8 [(.int (1 : Int32)), (.int (30 : Int32)), (.ref a)] (fun t' k => XS.iconst X1.here hx rfl (hb hby own_dTI_7) k) ?_
  refine own_gs 10 [(.int (63 : Int32)), (.int (1 : Int32)), (.int (30 : Int32)), (.ref a)] (fun t' k => XS.bipush X1.here hx rfl (hb hby own_dTI_8) k) ?_
  refine own_gs 11 [(.long x), (.int (63 : Int32)), (.int (1 : Int32)), (.int (30 : Int32)), (.ref a)] (fun t' k => XS.lloadN X1.here hx rfl (hb hby own_dTI_10) rfl  k) ?_
  refine own_gs 14 [(.long (16 : Int64)), (.long x), (.int (63 : Int32)), (.int (1 : Int32)), (.int (30 : Int32)), (.ref a)] (fun t' k => X1.ldc2Long hx hown (mvT hZ (hw _ (List.mem_of_getElem? (i := 15) rfl))) (g := (mkF m 11 #[rv a, jv x, .second] [(.long x), (.int (63 : Int32)), (.int (1 : Int32)), (.int (30 : Int32)), (.ref a)])) rfl (hb hby own_dTI_11) _ k) ?_
  refine own_gs 15 [(.long (x / (16 : Int64))), (.int (63 : Int32)), (.int (1 : Int32)), (.int (30 : Int32)), (.ref a)] (fun t' k => XS.ldiv X1.here hx rfl (hb hby own_dTI_14) rfl (by decide) k) ?_
  refine X1.callP hx hZ (y := (⟨"java/lang/Long", "numberOfLeadingZeros", "(J)I"⟩ : MethodName)) (fr := 1) (lo := 14) (r := (.int (own_nlzL (x / (16 : Int64))))) hown (hw _ (List.mem_of_getElem? (i := 16) rfl)) (hw _ (List.mem_of_getElem? (i := 17) rfl)) (hw _ (List.mem_of_getElem? (i := 18) rfl)) (hw _ (List.mem_of_getElem? (i := 19) rfl)) (by decide) e1 [(.long (x / (16 : Int64)))] [(.int (63 : Int32)), (.int (1 : Int32)), (.int (30 : Int32)), (.ref a)] (own_rmNL l Z a0 hw [] h0 (x / (16 : Int64))) 4 (by decide) (by decide) (Nat.le_of_eq rfl) (by decide) (by decide) (by rw [hml]; rfl) (lenOf own_pd6 rfl) rfl (hb hby own_dTI_15) ?_
  intro T2 X2 e2
  refine own_gs 19 [(.int ((63 : Int32) - (own_nlzL (x / (16 : Int64))))), (.int (1 : Int32)), (.int (30 : Int32)), (.ref a)] (fun t' k => XS.isub X2.here hx rfl (hb hby own_dTI_18) rfl k) ?_
  refine X2.callP hx hZ (y := (⟨"java/lang/Math", "max", "(II)I"⟩ : MethodName)) (fr := 0) (lo := 0) (r := (.int (own_maxI (1 : Int32) ((63 : Int32) - (own_nlzL (x / (16 : Int64))))))) hown (hw _ (List.mem_of_getElem? (i := 24) rfl)) (hw _ (List.mem_of_getElem? (i := 25) rfl)) (hw _ (List.mem_of_getElem? (i := 26) rfl)) (hw _ (List.mem_of_getElem? (i := 27) rfl)) (by decide) e2 [(.int (1 : Int32)), (.int ((63 : Int32) - (own_nlzL (x / (16 : Int64)))))] [(.int (30 : Int32)), (.ref a)] (own_rmXI l Z a0 hw [] h0 (1 : Int32) ((63 : Int32) - (own_nlzL (x / (16 : Int64))))) 2 (by decide) (by decide) (Nat.le_of_eq rfl) (by decide) (by decide) (by rw [hml]; rfl) (lenOf own_pd7 rfl) rfl (hb hby own_dTI_19) ?_
  intro T3 X3 e3
  refine X3.callP hx hZ (y := (⟨"java/lang/Math", "min", "(II)I"⟩ : MethodName)) (fr := 0) (lo := 0) (r := (.int (own_minI (30 : Int32) (own_maxI (1 : Int32) ((63 : Int32) - (own_nlzL (x / (16 : Int64)))))))) hown (hw _ (List.mem_of_getElem? (i := 28) rfl)) (hw _ (List.mem_of_getElem? (i := 29) rfl)) (hw _ (List.mem_of_getElem? (i := 26) rfl)) (hw _ (List.mem_of_getElem? (i := 30) rfl)) (by decide) e3 [(.int (30 : Int32)), (.int (own_maxI (1 : Int32) ((63 : Int32) - (own_nlzL (x / (16 : Int64))))))] [(.ref a)] (own_rmMI l Z a0 hw [] h0 (30 : Int32) (own_maxI (1 : Int32) ((63 : Int32) - (own_nlzL (x / (16 : Int64)))))) 1 (by decide) (by decide) (Nat.le_of_eq rfl) (by decide) (by decide) (by rw [hml]; rfl) (lenOf own_pd7 rfl) rfl (hb hby own_dTI_22) ?_
  intro T4 X4 e4
  refine X4.putF hx hZ hown (hw _ (List.mem_of_getElem? (i := 31) rfl)) e4 F_a_mostSlotBits E_a g_a (Or.inr ⟨(hw _ (List.mem_of_getElem? (i := 32) rfl)), rfl, hnm⟩) (hw _ (List.mem_of_getElem? (i := 7) rfl)) (ty := .int) (by decide) rfl rfl (hb hby own_dTI_25) ?_
  intro T5 h5 X5 e5 W5
  replace E_a := E_a.wr W5
  replace F_a_mostSlotBits := F_a_mostSlotBits.same W5
  replace F_a_slotBits := F_a_slotBits.other W5 (Or.inr (own_sn_LongTable_slotBits_mostSlotBits hw))
  replace F_a_size := F_a_size.other W5 (Or.inr (own_sn_LongTable_size_mostSlotBits hw))
  replace F_a_slots := F_a_slots.other W5 (Or.inr (own_sn_LongTable_slots_mostSlotBits hw))
  replace hn := Nat.le_trans hn (Keep.of_wr W5).1
  replace hk := Nat.le_trans hk (Keep.of_wr W5).1
  refine own_gs 29 [(.ref a)] (fun t' k => XS.aloadN X5.here hx rfl (hb hby own_dTI_28) rfl rfl  k) ?_
  refine own_gs 31 [(.int (10 : Int32)), (.ref a)] (fun t' k => XS.bipush X5.here hx rfl (hb hby own_dTI_29) k) ?_
  refine own_gs 32 [(.ref a), (.int (10 : Int32)), (.ref a)] (fun t' k => XS.aloadN X5.here hx rfl (hb hby own_dTI_31) rfl rfl  k) ?_
  refine X5.getF hx hZ hown (hw _ (List.mem_of_getElem? (i := 31) rfl)) e5 F_a_mostSlotBits (hb hby own_dTI_32) ?_
  intro T6 X6 e6
  refine X6.callP hx hZ (y := (⟨"java/lang/Math", "min", "(II)I"⟩ : MethodName)) (fr := 0) (lo := 0) (r := (.int (own_minI (10 : Int32) (own_minI (30 : Int32) (own_maxI (1 : Int32) ((63 : Int32) - (own_nlzL (x / (16 : Int64))))))))) hown (hw _ (List.mem_of_getElem? (i := 28) rfl)) (hw _ (List.mem_of_getElem? (i := 29) rfl)) (hw _ (List.mem_of_getElem? (i := 26) rfl)) (hw _ (List.mem_of_getElem? (i := 30) rfl)) (by decide) e6 [(.int (10 : Int32)), (.int (own_minI (30 : Int32) (own_maxI (1 : Int32) ((63 : Int32) - (own_nlzL (x / (16 : Int64)))))))] [(.ref a)] (own_rmMI l Z a0 hw [] h5 (10 : Int32) (own_minI (30 : Int32) (own_maxI (1 : Int32) ((63 : Int32) - (own_nlzL (x / (16 : Int64))))))) 1 (by decide) (by decide) (Nat.le_of_eq rfl) (by decide) (by decide) (by rw [hml]; rfl) (lenOf own_pd7 rfl) rfl (hb hby own_dTI_35) ?_
  intro T7 X7 e7
  refine X7.putF hx hZ hown (hw _ (List.mem_of_getElem? (i := 33) rfl)) e7 F_a_slotBits E_a g_a (Or.inl (hw _ (List.mem_of_getElem? (i := 34) rfl))) (hw _ (List.mem_of_getElem? (i := 7) rfl)) (ty := .int) (by decide) rfl rfl (hb hby own_dTI_38) ?_
  intro T8 h8 X8 e8 W8
  replace E_a := E_a.wr W8
  replace F_a_mostSlotBits := F_a_mostSlotBits.other W8 (Or.inr (own_sn_LongTable_mostSlotBits_slotBits hw))
  replace F_a_slotBits := F_a_slotBits.same W8
  replace F_a_size := F_a_size.other W8 (Or.inr (own_sn_LongTable_size_slotBits hw))
  replace F_a_slots := F_a_slots.other W8 (Or.inr (own_sn_LongTable_slots_slotBits hw))
  replace hn := Nat.le_trans hn (Keep.of_wr W8).1
  replace hk := Nat.le_trans hk (Keep.of_wr W8).1
  refine own_gs 42 [(.ref a)] (fun t' k => XS.aloadN X8.here hx rfl (hb hby own_dTI_41) rfl rfl  k) ?_
  refine own_gs 45 [(.long (2 : Int64)), (.ref a)] (fun t' k => X8.ldc2Long hx hown (mvT hZ (hw _ (List.mem_of_getElem? (i := 35) rfl))) (g := (mkF m 42 #[rv a, jv x, .second] [(.ref a)])) rfl (hb hby own_dTI_42) _ k) ?_
  refine own_gs 46 [(.ref a), (.long (2 : Int64)), (.ref a)] (fun t' k => XS.aloadN X8.here hx rfl (hb hby own_dTI_45) rfl rfl  k) ?_
  refine X8.getF hx hZ hown (hw _ (List.mem_of_getElem? (i := 33) rfl)) e8 F_a_slotBits (hb hby own_dTI_46) ?_
  intro T9 X9 e9
  refine own_gs 50 [(.long ((2 : Int64) <<< ((own_minI (10 : Int32) (own_minI (30 : Int32) (own_maxI (1 : Int32) ((63 : Int32) - (own_nlzL (x / (16 : Int64))))))) &&& 0x3f).toInt64)), (.ref a)] (fun t' k => XS.lshl X9.here hx rfl (hb hby own_dTI_49) rfl k) ?_
  refine X9.callSW hx hZ (y := (⟨"com/example/quotient/quotient/LongArray", "ofLength", "(J)Lcom/example/quotient/quotient/LongArray;"⟩ : MethodName)) hown (hw _ (List.mem_of_getElem? (i := 36) rfl)) (hw _ (List.mem_of_getElem? (i := 37) rfl)) (hw _ (List.mem_of_getElem? (i := 38) rfl)) (hw _ (List.mem_of_getElem? (i := 39) rfl)) (by decide) e9 hS hk [(.long ((2 : Int64) <<< ((own_minI (10 : Int32) (own_minI (30 : Int32) (own_maxI (1 : Int32) ((63 : Int32) - (own_nlzL (x / (16 : Int64))))))) &&& 0x3f).toInt64))] [(.ref a)] (own_rmO1 l Z a0 hw [] h8 n0 hn ((2 : Int64) <<< ((own_minI (10 : Int32) (own_minI (30 : Int32) (own_maxI (1 : Int32) ((63 : Int32) - (own_nlzL (x / (16 : Int64))))))) &&& 0x3f).toInt64) N hx1 hN hN2) 1 (by decide) (by decide) (Nat.le_of_eq rfl) (by decide) (by decide) (by rw [hml]; rfl) (lenOf own_pd8 rfl) rfl (hb hby own_dTI_50) ?_
  clear hS hk hZ hown
  rintro T10 _ vm10 k10 X10 ⟨la, b, rfl, hbz, hbl, K10, E_la, F_la_first, A_b⟩ hS hk hZ hown
  have hab : a < b := Nat.lt_of_lt_of_le E_a.lt hbz
  have g_b : n0 ≤ b := Nat.le_trans hn hbz
  replace E_a := E_a.keep K10
  replace F_a_mostSlotBits := F_a_mostSlotBits.keep K10 nin0
  replace F_a_slotBits := F_a_slotBits.keep K10 nin0
  replace F_a_size := F_a_size.keep K10 nin0
  replace F_a_slots := F_a_slots.keep K10 nin0
  replace hn := Nat.le_trans hn K10.1
  show own_G p e below Fi T10 (mkF m 53 #[rv a, jv x, .second] [(.ref la), (.ref a)])
  refine X10.putF hx hZ hown (hw _ (List.mem_of_getElem? (i := 79) rfl)) rfl F_a_slots E_a g_a (Or.inl (hw _ (List.mem_of_getElem? (i := 80) rfl))) (hw _ (List.mem_of_getElem? (i := 7) rfl)) (ty := (.object "com/example/quotient/quotient/LongArray")) (by decide) rfl rfl (hb hby own_dTI_53) ?_
  intro T11 h11 X11 e11 W11
  replace E_a := E_a.wr W11
  replace F_a_mostSlotBits := F_a_mostSlotBits.other W11 (Or.inr (own_sn_LongTable_mostSlotBits_slots hw))
  replace F_a_slotBits := F_a_slotBits.other W11 (Or.inr (own_sn_LongTable_slotBits_slots hw))
  replace F_a_size := F_a_size.other W11 (Or.inr (own_sn_LongTable_size_slots hw))
  replace F_a_slots := F_a_slots.same W11
  replace E_la := E_la.wr W11
  replace F_la_first := F_la_first.other W11 (Or.inl (Nat.ne_of_gt (Nat.lt_trans hab hbl)))
  replace A_b := A_b.other W11 (Nat.ne_of_gt hab)
  replace hn := Nat.le_trans hn (Keep.of_wr W11).1
  replace hk := Nat.le_trans hk (Keep.of_wr W11).1
  refine X11.retV (hFW _ _ hS) (by first | exact hk | (rw [e11]; exact hk)) hx hlk hret (hb hby own_dTI_56) ?_ (by decide) (by decide)
  rw [e11]
  exact ⟨la, b, rfl, hab, hbl, g_b, hn, E_a, F_a_mostSlotBits, F_a_slotBits, F_a_size, F_a_slots, E_la, F_la_first, A_b⟩

def own_fullf (mb : Int32) (sb : Int32) (sz : Int32) : Int32 := (if sb = mb then (if (((1 : Int64) <<< (sb &&& 0x3f).toInt64) / (2 : Int64)) < ((sz + (1 : Int32)).toInt64) then (1 : Int32) else (0 : Int32)) else (0 : Int32))
theorem own_dFu_0 : decode prog_113_method_8_code 0 = .ok (.aload_n 0, 1) := by decide +kernel
theorem own_dFu_1 : decode prog_113_method_8_code 1 = .ok (.getfield 30, 3) := by decide +kernel
theorem own_dFu_4 : decode prog_113_method_8_code 4 = .ok (.aload_n 0, 1) := by decide +kernel
theorem own_dFu_5 : decode prog_113_method_8_code 5 = .ok (.getfield 26, 3) := by decide +kernel
theorem own_dFu_8 : decode prog_113_method_8_code 8 = .ok (.if_icmp .ne 28, 3) := by decide +kernel
theorem own_dFu_11 : decode prog_113_method_8_code 11 = .ok (.aload_n 0, 1) := by decide +kernel
theorem own_dFu_12 : decode prog_113_method_8_code 12 = .ok (.getfield 45, 3) := by decide +kernel
theorem own_dFu_15 : decode prog_113_method_8_code 15 = .ok (.iconst 1, 1) := by decide +kernel
theorem own_dFu_16 : decode prog_113_method_8_code 16 = .ok (.iadd, 1) := by decide +kernel
theorem own_dFu_17 : decode prog_113_method_8_code 17 = .ok (.i2l, 1) := by decide +kernel
theorem own_dFu_18 : decode prog_113_method_8_code 18 = .ok (.lconst 1, 1) := by decide +kernel
theorem own_dFu_19 : decode prog_113_method_8_code 19 = .ok (.aload_n 0, 1) := by decide +kernel
theorem own_dFu_20 : decode prog_113_method_8_code 20 = .ok (.getfield 30, 3) := by decide +kernel
theorem own_dFu_23 : decode prog_113_method_8_code 23 = .ok (.lshl, 1) := by decide +kernel
theorem own_dFu_24 : decode prog_113_method_8_code 24 = .ok (.ldc2_w 33, 3) := by decide +kernel
theorem own_dFu_27 : decode prog_113_method_8_code 27 = .ok (.ldiv, 1) := by decide +kernel
theorem own_dFu_28 : decode prog_113_method_8_code 28 = .ok (.lcmp, 1) := by decide +kernel
theorem own_dFu_29 : decode prog_113_method_8_code 29 = .ok (.ifCond .le 7, 3) := by decide +kernel
theorem own_dFu_32 : decode prog_113_method_8_code 32 = .ok (.iconst 1, 1) := by decide +kernel
theorem own_dFu_33 : decode prog_113_method_8_code 33 = .ok (.goto 4, 3) := by decide +kernel
theorem own_dFu_36 : decode prog_113_method_8_code 36 = .ok (.iconst 0, 1) := by decide +kernel
theorem own_dFu_37 : decode prog_113_method_8_code 37 = .ok (.ireturn, 1) := by decide +kernel
theorem own_pn_own_rmFu : plainFor (⟨"com/example/quotient/quotient/LongTable", "full", "()Z"⟩ : MethodName) = true := plainFor_of_name (show plainName "com/example/quotient/quotient/LongTable" = true by first | (simp [plainName, overriddenIn]; done) | decide +kernel)
set_option maxRecDepth 65536 in
set_option maxHeartbeats 40000000 in
theorem own_rmFu (l : Launch) (Z : State) (a0 : Array Value) (hw : ∀ d ∈ tables_1, d.before a0 Z = true) (ws : List Jvm.Cond) (h0 : Heap) (n0 : Nat) (Z0 : n0 ≤ h0.size) (a : Addr) (mb sb sz : Int32) (E_a : Exa Z h0 a "com/example/quotient/quotient/LongTable") (F_a_mostSlotBits : Fld Z h0 a "com/example/quotient/quotient/LongTable" "mostSlotBits" "I" (.int mb)) (F_a_slotBits : Fld Z h0 a "com/example/quotient/quotient/LongTable" "slotBits" "I" (.int sb)) (F_a_size : Fld Z h0 a "com/example/quotient/quotient/LongTable" "size" "I" (.int sz))  :
    own_C l Z (⟨"com/example/quotient/quotient/LongTable", "full", "()Z"⟩ : MethodName) prog_113_method_8_code 1 (some .boolean) ws ({ frames := 0, cells := 0, slots := 0, locals := 0 } : Room) #[(.ref a)] h0 (own_Q n0 (fun v h => v = some (.int (own_fullf mb sb sz)) ∧ h = h0)) := by
  refine own_met own_pn_own_rmFu #[rv a] (fun m => by first | (simp [entryFrame, mkF, argsToLocals, Value.category]; done) | rfl) ?_
  intro p e s m below meth c s₁ Fi hx hby hml hown hret hlk hZ hnm hF X0 e0
  replace X0 := own_S.of X0 (n0)
  have hn : n0 ≤ h0.size := Z0
  refine own_gs 1 [(.ref a)] (fun t' k => XS.aloadN X0.here hx rfl (hb hby own_dFu_0) rfl rfl  k) ?_
  refine X0.getF hx hZ hown (hw _ (List.mem_of_getElem? (i := 33) rfl)) e0 F_a_slotBits (hb hby own_dFu_1) ?_
  intro T1 X1 e1
  refine own_gs 5 [(.ref a), (.int sb)] (fun t' k => XS.aloadN X1.here hx rfl (hb hby own_dFu_4) rfl rfl  k) ?_
  refine X1.getF hx hZ hown (hw _ (List.mem_of_getElem? (i := 31) rfl)) e1 F_a_mostSlotBits (hb hby own_dFu_5) ?_
  intro T2 X2 e2
  by_cases hc8 : sb = mb
  · skip
    refine own_gs 11 [] (fun t' k => XS.icmpNo X2.here hx rfl (hb hby own_dFu_8) rfl (teq hc8).2 k) ?_
    refine own_gs 12 [(.ref a)] (fun t' k => XS.aloadN X2.here hx rfl (hb hby own_dFu_11) rfl rfl  k) ?_
    refine X2.getF hx hZ hown (hw _ (List.mem_of_getElem? (i := 86) rfl)) e2 F_a_size (hb hby own_dFu_12) ?_
    intro T3 X3 e3
    refine own_gs 16 [(.int (1 : Int32)), (.int sz)] (fun t' k => XS.iconst X3.here hx rfl (hb hby own_dFu_15) k) ?_
    refine own_gs 17 [(.int (sz + (1 : Int32)))] (fun t' k => XS.iadd X3.here hx rfl (hb hby own_dFu_16) rfl k) ?_
    refine own_gs 18 [(.long ((sz + (1 : Int32)).toInt64))] (fun t' k => XS.i2l X3.here hx rfl (hb hby own_dFu_17) rfl k) ?_
    refine own_gs 19 [(.long (1 : Int64)), (.long ((sz + (1 : Int32)).toInt64))] (fun t' k => XS.lconst X3.here hx rfl (hb hby own_dFu_18) k) ?_
    refine own_gs 20 [(.ref a), (.long (1 : Int64)), (.long ((sz + (1 : Int32)).toInt64))] (fun t' k => XS.aloadN X3.here hx rfl (hb hby own_dFu_19) rfl rfl  k) ?_
    refine X3.getF hx hZ hown (hw _ (List.mem_of_getElem? (i := 33) rfl)) e3 F_a_slotBits (hb hby own_dFu_20) ?_
    intro T4 X4 e4
    refine own_gs 24 [(.long ((1 : Int64) <<< (sb &&& 0x3f).toInt64)), (.long ((sz + (1 : Int32)).toInt64))] (fun t' k => XS.lshl X4.here hx rfl (hb hby own_dFu_23) rfl k) ?_
    refine own_gs 27 [(.long (2 : Int64)), (.long ((1 : Int64) <<< (sb &&& 0x3f).toInt64)), (.long ((sz + (1 : Int32)).toInt64))] (fun t' k => X4.ldc2Long hx hown (mvT hZ (hw _ (List.mem_of_getElem? (i := 35) rfl))) (g := (mkF m 24 #[rv a] [(.long ((1 : Int64) <<< (sb &&& 0x3f).toInt64)), (.long ((sz + (1 : Int32)).toInt64))])) rfl (hb hby own_dFu_24) _ k) ?_
    refine own_gs 28 [(.long (((1 : Int64) <<< (sb &&& 0x3f).toInt64) / (2 : Int64))), (.long ((sz + (1 : Int32)).toInt64))] (fun t' k => XS.ldiv X4.here hx rfl (hb hby own_dFu_27) rfl (by decide) k) ?_
    refine own_gs 29 [(.int (lcmpW ((sz + (1 : Int32)).toInt64) (((1 : Int64) <<< (sb &&& 0x3f).toInt64) / (2 : Int64))))] (fun t' k => XS.lcmp X4.here hx rfl (hb hby own_dFu_28) rfl k) ?_
    by_cases hc29 : (((1 : Int64) <<< (sb &&& 0x3f).toInt64) / (2 : Int64)) < ((sz + (1 : Int32)).toInt64)
    · skip
      refine own_gs 32 [] (fun t' k => XS.ifNo X4.here hx rfl (hb hby own_dFu_29) rfl ((if0 _ _).trans (tlt ((lw_gt ((sz + (1 : Int32)).toInt64) (((1 : Int64) <<< (sb &&& 0x3f).toInt64) / (2 : Int64))).mpr hc29)).2.2.2) k) ?_
      refine own_gs 33 [(.int (1 : Int32))] (fun t' k => XS.iconst X4.here hx rfl (hb hby own_dFu_32) k) ?_
      refine own_gs 37 [(.int (1 : Int32))] (fun t' k => XS.goto X4.here hx rfl (pc0 := 33) (pc' := 37) rfl (hb hby own_dFu_33) (by decide) (by decide) k) ?_
      refine X4.retZ hF (Nat.zero_le _) hx hlk hret (hb hby own_dFu_37) ?_ (by decide) (by decide)
      exact ⟨congrArg (fun z => some (Value.int z)) ((show (own_fullf mb sb sz) = (1 : Int32) from ((if_pos hc8).trans ((if_pos hc29).trans rfl))).trans (by decide : (1 : Int32) = ((1 : Int32) &&& 1))).symm, e4⟩
    · skip
      refine own_gs 36 [] (fun t' k => XS.ifYes X4.here hx rfl (pc0 := 29) (pc' := 36) rfl (hb hby own_dFu_29) rfl ((if0 _ _).trans (flt (fun q' => hc29 ((lw_gt ((sz + (1 : Int32)).toInt64) (((1 : Int64) <<< (sb &&& 0x3f).toInt64) / (2 : Int64))).mp q'))).2.2.2) (by decide) (by decide) k) ?_
      refine own_gs 37 [(.int (0 : Int32))] (fun t' k => XS.iconst X4.here hx rfl (hb hby own_dFu_36) k) ?_
      refine X4.retZ hF (Nat.zero_le _) hx hlk hret (hb hby own_dFu_37) ?_ (by decide) (by decide)
      exact ⟨congrArg (fun z => some (Value.int z)) ((show (own_fullf mb sb sz) = (0 : Int32) from ((if_pos hc8).trans ((if_neg hc29).trans rfl))).trans (by decide : (0 : Int32) = ((0 : Int32) &&& 1))).symm, e4⟩
  · skip
    refine own_gs 36 [] (fun t' k => XS.icmpYes X2.here hx rfl (pc0 := 8) (pc' := 36) rfl (hb hby own_dFu_8) rfl (feq hc8).2 (by decide) (by decide) k) ?_
    refine own_gs 37 [(.int (0 : Int32))] (fun t' k => XS.iconst X2.here hx rfl (hb hby own_dFu_36) k) ?_
    refine X2.retZ hF (Nat.zero_le _) hx hlk hret (hb hby own_dFu_37) ?_ (by decide) (by decide)
    exact ⟨congrArg (fun z => some (Value.int z)) ((show (own_fullf mb sb sz) = (0 : Int32) from ((if_neg hc8).trans rfl)).trans (by decide : (0 : Int32) = ((0 : Int32) &&& 1))).symm, e2⟩

theorem own_dG_0 : decode prog_110_method_5_code 0 = .ok (.aload_n 0, 1) := by decide +kernel
theorem own_dG_1 : decode prog_110_method_5_code 1 = .ok (.getfield 35, 3) := by decide +kernel
theorem own_dG_4 : decode prog_110_method_5_code 4 = .ok (.iload_n 1, 1) := by decide +kernel
theorem own_dG_5 : decode prog_110_method_5_code 5 = .ok (.laload, 1) := by decide +kernel
theorem own_dG_6 : decode prog_110_method_5_code 6 = .ok (.lreturn, 1) := by decide +kernel
theorem own_pn_own_rmG : plainFor (⟨"com/example/quotient/quotient/LongArray", "get", "(I)J"⟩ : MethodName) = true := plainFor_of_name (show plainName "com/example/quotient/quotient/LongArray" = true by first | (simp [plainName, overriddenIn]; done) | decide +kernel)
set_option maxRecDepth 65536 in
set_option maxHeartbeats 40000000 in
theorem own_rmG (l : Launch) (Z : State) (a0 : Array Value) (hw : ∀ d ∈ tables_1, d.before a0 Z = true) (ws : List Jvm.Cond) (h0 : Heap) (n0 : Nat) (Z0 : n0 ≤ h0.size) (a b : Addr) (hne : a ≠ b) (g_b : n0 ≤ b) (N : Nat) (f : Nat → Int64) (x : Int32) (v : Int64) (i : Nat) (hi : x.toInt = i) (hi2 : i < N) (A_b : own_L Z h0 b N f) (E_a : Exa Z h0 a "com/example/quotient/quotient/LongArray") (F_a_first : Fld Z h0 a "com/example/quotient/quotient/LongArray" "first" "[J" (.ref b))  :
    own_C l Z (⟨"com/example/quotient/quotient/LongArray", "get", "(I)J"⟩ : MethodName) prog_110_method_5_code 2 (some .long) ws ({ frames := 0, cells := 0, slots := 0, locals := 0 } : Room) #[(.ref a), (.int x)] h0 (own_Q n0 (fun v' h => v' = some (.long (f i)) ∧ h = h0)) := by
  refine own_met own_pn_own_rmG #[rv a, iv x] (fun m => by first | (simp [entryFrame, mkF, argsToLocals, Value.category]; done) | rfl) ?_
  intro p e s m below meth c s₁ Fi hx hby hml hown hret hlk hZ hnm hF X0 e0
  replace X0 := own_S.of X0 (n0)
  have hn : n0 ≤ h0.size := Z0
  refine own_gs 1 [(.ref a)] (fun t' k => XS.aloadN X0.here hx rfl (hb hby own_dG_0) rfl rfl  k) ?_
  refine X0.getF hx hZ hown (hw _ (List.mem_of_getElem? (i := 73) rfl)) e0 F_a_first (hb hby own_dG_1) ?_
  intro T1 X1 e1
  refine own_gs 5 [(.int x), (.ref b)] (fun t' k => XS.iloadN X1.here hx rfl (hb hby own_dG_4) rfl  k) ?_
  refine X1.ldJf hx hZ e1 A_b i hi hi2 (hb hby own_dG_5) ?_
  refine X1.retJ hF (Nat.zero_le _) hx hlk hret (hb hby own_dG_6) ?_ (by decide) (by decide)
  exact ⟨rfl, e1⟩

theorem own_dS_0 : decode prog_110_method_6_code 0 = .ok (.aload_n 0, 1) := by decide +kernel
theorem own_dS_1 : decode prog_110_method_6_code 1 = .ok (.getfield 35, 3) := by decide +kernel
theorem own_dS_4 : decode prog_110_method_6_code 4 = .ok (.iload_n 1, 1) := by decide +kernel
theorem own_dS_5 : decode prog_110_method_6_code 5 = .ok (.lload_n 2, 1) := by decide +kernel
theorem own_dS_6 : decode prog_110_method_6_code 6 = .ok (.lastore, 1) := by decide +kernel
theorem own_dS_7 : decode prog_110_method_6_code 7 = .ok (.return_, 1) := by decide +kernel
theorem own_pn_own_rmS : plainFor (⟨"com/example/quotient/quotient/LongArray", "set", "(IJ)V"⟩ : MethodName) = true := plainFor_of_name (show plainName "com/example/quotient/quotient/LongArray" = true by first | (simp [plainName, overriddenIn]; done) | decide +kernel)
set_option maxRecDepth 65536 in
set_option maxHeartbeats 40000000 in
theorem own_rmS (l : Launch) (Z : State) (a0 : Array Value) (hw : ∀ d ∈ tables_1, d.before a0 Z = true) (ws : List Jvm.Cond) (h0 : Heap) (n0 : Nat) (Z0 : n0 ≤ h0.size) (a b : Addr) (hne : a ≠ b) (g_b : n0 ≤ b) (N : Nat) (f : Nat → Int64) (x : Int32) (v : Int64) (i : Nat) (hi : x.toInt = i) (hi2 : i < N) (A_b : own_L Z h0 b N f) (E_a : Exa Z h0 a "com/example/quotient/quotient/LongArray") (F_a_first : Fld Z h0 a "com/example/quotient/quotient/LongArray" "first" "[J" (.ref b))  :
    own_C l Z (⟨"com/example/quotient/quotient/LongArray", "set", "(IJ)V"⟩ : MethodName) prog_110_method_6_code 4 none ws ({ frames := 0, cells := 0, slots := 0, locals := 0 } : Room) #[(.ref a), (.int x), (.long v)] h0 (own_Q n0 (fun v' h => v' = none ∧ Keep h0 h [b] ∧ own_L Z h b N (own_up f i v))) := by
  refine own_met own_pn_own_rmS #[rv a, iv x, jv v, .second] (fun m => by first | (simp [entryFrame, mkF, argsToLocals, Value.category]; done) | rfl) ?_
  intro p e s m below meth c s₁ Fi hx hby hml hown hret hlk hZ hnm hF X0 e0
  replace X0 := own_S.of X0 (n0)
  have hn : n0 ≤ h0.size := Z0
  have hK := Keep.refl h0 [b]
  refine own_gs 1 [(.ref a)] (fun t' k => XS.aloadN X0.here hx rfl (hb hby own_dS_0) rfl rfl  k) ?_
  refine X0.getF hx hZ hown (hw _ (List.mem_of_getElem? (i := 73) rfl)) e0 F_a_first (hb hby own_dS_1) ?_
  intro T1 X1 e1
  refine own_gs 5 [(.int x), (.ref b)] (fun t' k => XS.iloadN X1.here hx rfl (hb hby own_dS_4) rfl  k) ?_
  refine own_gs 6 [(.long v), (.int x), (.ref b)] (fun t' k => XS.lloadN X1.here hx rfl (hb hby own_dS_5) rfl  k) ?_
  refine X1.stJf hx hZ e1 A_b g_b i hi hi2 (hb hby own_dS_6) ?_
  intro T2 h2 X2 e2 W2 A2
  replace A_b := A2
  replace E_a := E_a.wr W2
  replace F_a_first := F_a_first.other W2 (Or.inl hne)
  replace hn := Nat.le_trans hn (Keep.of_wr W2).1
  replace hK := hK.wr W2 (Or.inl (List.mem_of_getElem? (i := 0) rfl))
  refine X2.retV hF (Nat.zero_le _) hx hlk hret (hb hby own_dS_7) ?_ (by decide) (by decide)
  rw [e2]
  exact ⟨rfl, hK, A_b⟩

theorem own_dP_0 : decode prog_113_method_6_code 0 = .ok (.iconst 1, 1) := by decide +kernel
theorem own_dP_1 : decode prog_113_method_6_code 1 = .ok (.aload_n 0, 1) := by decide +kernel
theorem own_dP_2 : decode prog_113_method_6_code 2 = .ok (.getfield 30, 3) := by decide +kernel
theorem own_dP_5 : decode prog_113_method_6_code 5 = .ok (.ishl, 1) := by decide +kernel
theorem own_dP_6 : decode prog_113_method_6_code 6 = .ok (.iconst 1, 1) := by decide +kernel
theorem own_dP_7 : decode prog_113_method_6_code 7 = .ok (.isub, 1) := by decide +kernel
theorem own_dP_8 : decode prog_113_method_6_code 8 = .ok (.istore_n 3, 1) := by decide +kernel
theorem own_dP_9 : decode prog_113_method_6_code 9 = .ok (.lload_n 1, 1) := by decide +kernel
theorem own_dP_10 : decode prog_113_method_6_code 10 = .ok (.invokestatic 66, 3) := by decide +kernel
theorem own_dP_13 : decode prog_113_method_6_code 13 = .ok (.bipush 64, 2) := by decide +kernel
theorem own_dP_15 : decode prog_113_method_6_code 15 = .ok (.aload_n 0, 1) := by decide +kernel
theorem own_dP_16 : decode prog_113_method_6_code 16 = .ok (.getfield 30, 3) := by decide +kernel
theorem own_dP_19 : decode prog_113_method_6_code 19 = .ok (.isub, 1) := by decide +kernel
theorem own_dP_20 : decode prog_113_method_6_code 20 = .ok (.lushr, 1) := by decide +kernel
theorem own_dP_21 : decode prog_113_method_6_code 21 = .ok (.l2i, 1) := by decide +kernel
theorem own_dP_22 : decode prog_113_method_6_code 22 = .ok (.istore 4, 2) := by decide +kernel
theorem own_dP_24 : decode prog_113_method_6_code 24 = .ok (.aload_n 0, 1) := by decide +kernel
theorem own_dP_25 : decode prog_113_method_6_code 25 = .ok (.getfield 41, 3) := by decide +kernel
theorem own_dP_28 : decode prog_113_method_6_code 28 = .ok (.iconst 2, 1) := by decide +kernel
theorem own_dP_29 : decode prog_113_method_6_code 29 = .ok (.iload 4, 2) := by decide +kernel
theorem own_dP_31 : decode prog_113_method_6_code 31 = .ok (.imul, 1) := by decide +kernel
theorem own_dP_32 : decode prog_113_method_6_code 32 = .ok (.iconst 1, 1) := by decide +kernel
theorem own_dP_33 : decode prog_113_method_6_code 33 = .ok (.iadd, 1) := by decide +kernel
theorem own_dP_34 : decode prog_113_method_6_code 34 = .ok (.invokevirtual 51, 3) := by decide +kernel
theorem own_dP_37 : decode prog_113_method_6_code 37 = .ok (.lconst 0, 1) := by decide +kernel
theorem own_dP_38 : decode prog_113_method_6_code 38 = .ok (.lcmp, 1) := by decide +kernel
theorem own_dP_39 : decode prog_113_method_6_code 39 = .ok (.ifCond .eq 30, 3) := by decide +kernel
theorem own_dP_42 : decode prog_113_method_6_code 42 = .ok (.aload_n 0, 1) := by decide +kernel
theorem own_dP_43 : decode prog_113_method_6_code 43 = .ok (.getfield 41, 3) := by decide +kernel
theorem own_dP_46 : decode prog_113_method_6_code 46 = .ok (.iconst 2, 1) := by decide +kernel
theorem own_dP_47 : decode prog_113_method_6_code 47 = .ok (.iload 4, 2) := by decide +kernel
theorem own_dP_49 : decode prog_113_method_6_code 49 = .ok (.imul, 1) := by decide +kernel
theorem own_dP_50 : decode prog_113_method_6_code 50 = .ok (.invokevirtual 51, 3) := by decide +kernel
theorem own_dP_53 : decode prog_113_method_6_code 53 = .ok (.lload_n 1, 1) := by decide +kernel
theorem own_dP_54 : decode prog_113_method_6_code 54 = .ok (.lcmp, 1) := by decide +kernel
theorem own_dP_55 : decode prog_113_method_6_code 55 = .ok (.ifCond .eq 14, 3) := by decide +kernel
theorem own_dP_58 : decode prog_113_method_6_code 58 = .ok (.iload 4, 2) := by decide +kernel
theorem own_dP_60 : decode prog_113_method_6_code 60 = .ok (.iconst 1, 1) := by decide +kernel
theorem own_dP_61 : decode prog_113_method_6_code 61 = .ok (.iadd, 1) := by decide +kernel
theorem own_dP_62 : decode prog_113_method_6_code 62 = .ok (.iload_n 3, 1) := by decide +kernel
theorem own_dP_63 : decode prog_113_method_6_code 63 = .ok (.iand, 1) := by decide +kernel
theorem own_dP_64 : decode prog_113_method_6_code 64 = .ok (.istore 4, 2) := by decide +kernel
theorem own_dP_66 : decode prog_113_method_6_code 66 = .ok (.goto (-42), 3) := by decide +kernel
theorem own_dP_69 : decode prog_113_method_6_code 69 = .ok (.iconst 2, 1) := by decide +kernel
theorem own_dP_70 : decode prog_113_method_6_code 70 = .ok (.iload 4, 2) := by decide +kernel
theorem own_dP_72 : decode prog_113_method_6_code 72 = .ok (.imul, 1) := by decide +kernel
theorem own_dP_73 : decode prog_113_method_6_code 73 = .ok (.ireturn, 1) := by decide +kernel
theorem own_pn_own_rmP : plainFor (⟨"com/example/quotient/quotient/LongTable", "positionOf", "(J)I"⟩ : MethodName) = true := plainFor_of_name (show plainName "com/example/quotient/quotient/LongTable" = true by first | (simp [plainName, overriddenIn]; done) | decide +kernel)
set_option maxRecDepth 65536 in
set_option maxHeartbeats 40000000 in
theorem own_rmP (l : Launch) (Z : State) (a0 : Array Value) (hw : ∀ d ∈ tables_1, d.before a0 Z = true) (ws : List Jvm.Cond) (h0 : Heap) (n0 : Nat) (Z0 : n0 ≤ h0.size) (a la b : Addr) (hla : a ≠ la) (hab : a ≠ b) (hlb : la ≠ b) (g_a : n0 ≤ a) (g_b : n0 ≤ b) (sb : Int32) (B : Nat) (hB : sb.toInt = B) (hB1 : 1 ≤ B) (hB2 : B ≤ 10) (key : Int64) (f : Nat → Int64) (J : Nat) (hns : ∀ i, i < J → f (2 * ((own_home B key + i) % 2 ^ B) + 1) ≠ 0 ∧ f (2 * ((own_home B key + i) % 2 ^ B)) ≠ key) (A_b : own_L Z h0 b (2 * 2 ^ B) f) (E_la : Exa Z h0 la "com/example/quotient/quotient/LongArray") (F_la_first : Fld Z h0 la "com/example/quotient/quotient/LongArray" "first" "[J" (.ref b)) (hst : f (2 * ((own_home B key + J) % 2 ^ B) + 1) = 0 ∨ f (2 * ((own_home B key + J) % 2 ^ B)) = key) (E_a : Exa Z h0 a "com/example/quotient/quotient/LongTable") (F_a_slotBits : Fld Z h0 a "com/example/quotient/quotient/LongTable" "slotBits" "I" (.int sb)) (F_a_slots : Fld Z h0 a "com/example/quotient/quotient/LongTable" "slots" "Lcom/example/quotient/quotient/LongArray;" (.ref la))  :
    own_C l Z (⟨"com/example/quotient/quotient/LongTable", "positionOf", "(J)I"⟩ : MethodName) prog_113_method_6_code 5 (some .int) ws ({ frames := 1, cells := 0, slots := 0, locals := 15 } : Room) #[(.ref a), (.long key)] h0 (own_Q n0 (fun v h => ∃ r : Int32, v = some (.int r) ∧ r.toInt = ((2 * ((own_home B key + J) % 2 ^ B) : Nat) : Int) ∧ h = h0)) := by
  refine own_met own_pn_own_rmP #[rv a, jv key, .second, .unset, .unset] (fun m => by first | (simp [entryFrame, mkF, argsToLocals, Value.category]; done) | rfl) ?_
  intro p e s m below meth c s₁ Fi hx hby hml hown hret hlk hZ hnm hF X0 e0
  replace X0 := own_S.of X0 (n0)
  have hn : n0 ≤ h0.size := Z0
  have hP : 2 ^ B ≤ 2 ^ 10 := Nat.pow_le_pow_right (by omega) hB2
  refine own_gs 1 [(.int (1 : Int32))] (fun t' k => XS.iconst X0.here hx rfl (hb hby own_dP_0) k) ?_
  refine own_gs 2 [(.ref a), (.int (1 : Int32))] (fun t' k => XS.aloadN X0.here hx rfl (hb hby own_dP_1) rfl rfl  k) ?_
  refine X0.getF hx hZ hown (hw _ (List.mem_of_getElem? (i := 33) rfl)) e0 F_a_slotBits (hb hby own_dP_2) ?_
  intro T1 X1 e1
  refine own_gs 6 [(.int ((1 : Int32) <<< (sb &&& 31)))] (fun t' k => XS.ishl X1.here hx rfl (hb hby own_dP_5) rfl k) ?_
  refine own_gs 7 [(.int (1 : Int32)), (.int ((1 : Int32) <<< (sb &&& 31)))] (fun t' k => XS.iconst X1.here hx rfl (hb hby own_dP_6) k) ?_
  refine own_gs 8 [(.int (((1 : Int32) <<< (sb &&& 31)) - (1 : Int32)))] (fun t' k => XS.isub X1.here hx rfl (hb hby own_dP_7) rfl k) ?_
  refine own_go (mkF m 9 #[rv a, jv key, .second, iv (((1 : Int32) <<< (sb &&& 31)) - (1 : Int32)), .unset] []) (fun t' k => XS.istoreN X1.here hx rfl (hb hby own_dP_8) rfl rfl k) ?_
  refine own_gs 10 [(.long key)] (fun t' k => XS.lloadN X1.here hx rfl (hb hby own_dP_9) rfl  k) ?_
  refine X1.callP hx hZ (y := (⟨"com/example/quotient/quotient/LongTable", "spread", "(J)J"⟩ : MethodName)) (fr := 0) (lo := 0) (r := (.long (own_spread key))) hown (hw _ (List.mem_of_getElem? (i := 97) rfl)) (hw _ (List.mem_of_getElem? (i := 98) rfl)) (hw _ (List.mem_of_getElem? (i := 8) rfl)) (hw _ (List.mem_of_getElem? (i := 99) rfl)) (by decide) e1 [(.long key)] [] (own_rmSp l Z a0 hw [] h0 key) 0 (by decide) (by decide) (Nat.le_of_eq rfl) (by decide) (by decide) (by rw [hml]; rfl) (lenOf own_pd9 rfl) rfl (hb hby own_dP_10) ?_
  intro T2 X2 e2
  refine own_gs 15 [(.int (64 : Int32)), (.long (own_spread key))] (fun t' k => XS.bipush X2.here hx rfl (hb hby own_dP_13) k) ?_
  refine own_gs 16 [(.ref a), (.int (64 : Int32)), (.long (own_spread key))] (fun t' k => XS.aloadN X2.here hx rfl (hb hby own_dP_15) rfl rfl  k) ?_
  refine X2.getF hx hZ hown (hw _ (List.mem_of_getElem? (i := 33) rfl)) e2 F_a_slotBits (hb hby own_dP_16) ?_
  intro T3 X3 e3
  refine own_gs 20 [(.int ((64 : Int32) - sb)), (.long (own_spread key))] (fun t' k => XS.isub X3.here hx rfl (hb hby own_dP_19) rfl k) ?_
  refine own_gs 21 [(.long (((own_spread key).toUInt64 >>> (((64 : Int32) - sb) &&& 0x3f).toInt64.toUInt64).toInt64))] (fun t' k => XS.lushr X3.here hx rfl (hb hby own_dP_20) rfl k) ?_
  refine own_gs 22 [(.int ((((own_spread key).toUInt64 >>> (((64 : Int32) - sb) &&& 0x3f).toInt64.toUInt64).toInt64).toInt32))] (fun t' k => XS.l2i X3.here hx rfl (hb hby own_dP_21) rfl k) ?_
  refine own_go (mkF m 24 #[rv a, jv key, .second, iv (((1 : Int32) <<< (sb &&& 31)) - (1 : Int32)), iv ((((own_spread key).toUInt64 >>> (((64 : Int32) - sb) &&& 0x3f).toInt64.toUInt64).toInt64).toInt32)] []) (fun t' k => XS.istore X3.here hx rfl (hb hby own_dP_22) rfl rfl k) ?_
  have LP : ∀ (k : Nat) (TLLP : State) (hLLP : Heap) (sl : Int32) (j : Nat) (XLLP : own_S p l e ({ frames := 1, cells := 0, slots := 0, locals := 15 } : Room) s m #[(.ref a), (.long key)] below meth c n0 TLLP 0 0) (eLLP : TLLP.heap = hLLP) (hn : n0 ≤ hLLP.size) (E_a : Exa Z hLLP a "com/example/quotient/quotient/LongTable") (F_a_slotBits : Fld Z hLLP a "com/example/quotient/quotient/LongTable" "slotBits" "I" (.int sb)) (F_a_slots : Fld Z hLLP a "com/example/quotient/quotient/LongTable" "slots" "Lcom/example/quotient/quotient/LongArray;" (.ref la)) (A_b : own_L Z hLLP b (2 * 2 ^ B) f) (E_la : Exa Z hLLP la "com/example/quotient/quotient/LongArray") (F_la_first : Fld Z hLLP la "com/example/quotient/quotient/LongArray" "first" "[J" (.ref b)) (hs : sl.toInt = ((((own_home B key + j) % 2 ^ B) : Nat) : Int)) (hj : j ≤ J) (eqH : hLLP = h0) (hk : J - j = k), own_G p e below Fi TLLP (mkF m 24 #[rv a, jv key, .second, iv (((1 : Int32) <<< (sb &&& 31)) - (1 : Int32)), iv sl] []) := by
    intro k
    induction k using Nat.strongRecOn with
    | _ k ihLP =>
      intro TLLP hLLP sl j XLLP eLLP hn E_a F_a_slotBits F_a_slots A_b E_la F_la_first hs hj eqH hk
      refine own_gs 25 [(.ref a)] (fun t' k => XS.aloadN XLLP.here hx rfl (hb hby own_dP_24) rfl rfl  k) ?_
      have hlt := Nat.mod_lt (own_home B key + j) (Nat.two_pow_pos B)
      by_cases hjJ : j = J
      · skip
        rw [← hjJ] at hst
        refine XLLP.getF hx hZ hown (hw _ (List.mem_of_getElem? (i := 79) rfl)) eLLP F_a_slots (hb hby own_dP_25) ?_
        intro T4 X4 e4
        refine own_gs 29 [(.int (2 : Int32)), (.ref la)] (fun t' k => XS.iconst X4.here hx rfl (hb hby own_dP_28) k) ?_
        refine own_gs 31 [(.int sl), (.int (2 : Int32)), (.ref la)] (fun t' k => XS.iload X4.here hx rfl (hb hby own_dP_29) rfl  k) ?_
        refine own_gs 32 [(.int ((2 : Int32) * sl)), (.ref la)] (fun t' k => XS.imul X4.here hx rfl (hb hby own_dP_31) rfl k) ?_
        refine own_gs 33 [(.int (1 : Int32)), (.int ((2 : Int32) * sl)), (.ref la)] (fun t' k => XS.iconst X4.here hx rfl (hb hby own_dP_32) k) ?_
        refine own_gs 34 [(.int (((2 : Int32) * sl) + (1 : Int32))), (.ref la)] (fun t' k => XS.iadd X4.here hx rfl (hb hby own_dP_33) rfl k) ?_
        refine X4.callV hx hZ (y := (⟨"com/example/quotient/quotient/LongArray", "get", "(I)J"⟩ : MethodName)) (C := "com/example/quotient/quotient/LongArray") hown (hw _ (List.mem_of_getElem? (i := 101) rfl)) (hw _ (List.mem_of_getElem? (i := 102) rfl)) (hw _ (List.mem_of_getElem? (i := 104) rfl)) (hw _ (List.mem_of_getElem? (i := 103) rfl)) (hw _ (List.mem_of_getElem? (i := 38) rfl)) (hw _ (List.mem_of_getElem? (i := 105) rfl)) (by decide) e4 E_la [(.int (((2 : Int32) * sl) + (1 : Int32)))] [] (own_rmG l Z a0 hw [] hLLP n0 hn la b hlb g_b (2 * 2 ^ B) f (((2 : Int32) * sl) + (1 : Int32)) 0 (2 * ((own_home B key + j) % 2 ^ B) + 1) (own_i1 (own_dbl hs (by omega)) (by omega)) (by omega) A_b E_la F_la_first) 0 (by decide) (by decide) (Nat.le_of_eq rfl) (by decide) (by decide) (by rw [hml]; rfl) (lenOf own_pd10 rfl) rfl (hb hby own_dP_34) ?_
        rintro T5 _ X5 ⟨rfl, e5⟩
        show own_G p e below Fi T5 (mkF m 37 #[rv a, jv key, .second, iv (((1 : Int32) <<< (sb &&& 31)) - (1 : Int32)), iv sl] [(.long (f (2 * ((own_home B key + j) % 2 ^ B) + 1)))])
        refine own_gs 38 [(.long (0 : Int64)), (.long (f (2 * ((own_home B key + j) % 2 ^ B) + 1)))] (fun t' k => XS.lconst X5.here hx rfl (hb hby own_dP_37) k) ?_
        refine own_gs 39 [(.int (lcmpW (f (2 * ((own_home B key + j) % 2 ^ B) + 1)) (0 : Int64)))] (fun t' k => XS.lcmp X5.here hx rfl (hb hby own_dP_38) rfl k) ?_
        by_cases hc39 : (f (2 * ((own_home B key + j) % 2 ^ B) + 1)) = (0 : Int64)
        · skip
          refine own_gs 69 [] (fun t' k => XS.ifYes X5.here hx rfl (pc0 := 39) (pc' := 69) rfl (hb hby own_dP_39) rfl ((if0 _ _).trans (teq ((lw_eq (f (2 * ((own_home B key + j) % 2 ^ B) + 1)) (0 : Int64)).mpr hc39)).1) (by decide) (by decide) k) ?_
          refine own_gs 70 [(.int (2 : Int32))] (fun t' k => XS.iconst X5.here hx rfl (hb hby own_dP_69) k) ?_
          refine own_gs 72 [(.int sl), (.int (2 : Int32))] (fun t' k => XS.iload X5.here hx rfl (hb hby own_dP_70) rfl  k) ?_
          refine own_gs 73 [(.int ((2 : Int32) * sl))] (fun t' k => XS.imul X5.here hx rfl (hb hby own_dP_72) rfl k) ?_
          refine X5.retI hF (Nat.zero_le _) hx hlk hret (hb hby own_dP_73) ?_ (by decide) (by decide)
          subst hjJ
          exact ⟨_, rfl, own_dbl hs (by omega), (e5.trans eqH)⟩
        · skip
          refine own_gs 42 [] (fun t' k => XS.ifNo X5.here hx rfl (hb hby own_dP_39) rfl ((if0 _ _).trans (feq (fun q' => hc39 ((lw_eq (f (2 * ((own_home B key + j) % 2 ^ B) + 1)) (0 : Int64)).mp q'))).1) k) ?_
          refine own_gs 43 [(.ref a)] (fun t' k => XS.aloadN X5.here hx rfl (hb hby own_dP_42) rfl rfl  k) ?_
          refine X5.getF hx hZ hown (hw _ (List.mem_of_getElem? (i := 79) rfl)) e5 F_a_slots (hb hby own_dP_43) ?_
          intro T6 X6 e6
          refine own_gs 47 [(.int (2 : Int32)), (.ref la)] (fun t' k => XS.iconst X6.here hx rfl (hb hby own_dP_46) k) ?_
          refine own_gs 49 [(.int sl), (.int (2 : Int32)), (.ref la)] (fun t' k => XS.iload X6.here hx rfl (hb hby own_dP_47) rfl  k) ?_
          refine own_gs 50 [(.int ((2 : Int32) * sl)), (.ref la)] (fun t' k => XS.imul X6.here hx rfl (hb hby own_dP_49) rfl k) ?_
          refine X6.callV hx hZ (y := (⟨"com/example/quotient/quotient/LongArray", "get", "(I)J"⟩ : MethodName)) (C := "com/example/quotient/quotient/LongArray") hown (hw _ (List.mem_of_getElem? (i := 101) rfl)) (hw _ (List.mem_of_getElem? (i := 102) rfl)) (hw _ (List.mem_of_getElem? (i := 104) rfl)) (hw _ (List.mem_of_getElem? (i := 103) rfl)) (hw _ (List.mem_of_getElem? (i := 38) rfl)) (hw _ (List.mem_of_getElem? (i := 105) rfl)) (by decide) e6 E_la [(.int ((2 : Int32) * sl))] [] (own_rmG l Z a0 hw [] hLLP n0 hn la b hlb g_b (2 * 2 ^ B) f ((2 : Int32) * sl) 0 (2 * ((own_home B key + j) % 2 ^ B)) (own_dbl hs (by omega)) (by omega) A_b E_la F_la_first) 0 (by decide) (by decide) (Nat.le_of_eq rfl) (by decide) (by decide) (by rw [hml]; rfl) (lenOf own_pd10 rfl) rfl (hb hby own_dP_50) ?_
          rintro T7 _ X7 ⟨rfl, e7⟩
          show own_G p e below Fi T7 (mkF m 53 #[rv a, jv key, .second, iv (((1 : Int32) <<< (sb &&& 31)) - (1 : Int32)), iv sl] [(.long (f (2 * ((own_home B key + j) % 2 ^ B))))])
          refine own_gs 54 [(.long key), (.long (f (2 * ((own_home B key + j) % 2 ^ B))))] (fun t' k => XS.lloadN X7.here hx rfl (hb hby own_dP_53) rfl  k) ?_
          refine own_gs 55 [(.int (lcmpW (f (2 * ((own_home B key + j) % 2 ^ B))) key))] (fun t' k => XS.lcmp X7.here hx rfl (hb hby own_dP_54) rfl k) ?_
          refine own_gs 69 [] (fun t' k => XS.ifYes X7.here hx rfl (pc0 := 55) (pc' := 69) rfl (hb hby own_dP_55) rfl ((if0 _ _).trans (teq ((lw_eq (f (2 * ((own_home B key + j) % 2 ^ B))) key).mpr (hst.resolve_left hc39))).1) (by decide) (by decide) k) ?_
          refine own_gs 70 [(.int (2 : Int32))] (fun t' k => XS.iconst X7.here hx rfl (hb hby own_dP_69) k) ?_
          refine own_gs 72 [(.int sl), (.int (2 : Int32))] (fun t' k => XS.iload X7.here hx rfl (hb hby own_dP_70) rfl  k) ?_
          refine own_gs 73 [(.int ((2 : Int32) * sl))] (fun t' k => XS.imul X7.here hx rfl (hb hby own_dP_72) rfl k) ?_
          refine X7.retI hF (Nat.zero_le _) hx hlk hret (hb hby own_dP_73) ?_ (by decide) (by decide)
          subst hjJ
          exact ⟨_, rfl, own_dbl hs (by omega), (e7.trans eqH)⟩
      · skip
        have hn1 := hns j (by omega)
        refine XLLP.getF hx hZ hown (hw _ (List.mem_of_getElem? (i := 79) rfl)) eLLP F_a_slots (hb hby own_dP_25) ?_
        intro T8 X8 e8
        refine own_gs 29 [(.int (2 : Int32)), (.ref la)] (fun t' k => XS.iconst X8.here hx rfl (hb hby own_dP_28) k) ?_
        refine own_gs 31 [(.int sl), (.int (2 : Int32)), (.ref la)] (fun t' k => XS.iload X8.here hx rfl (hb hby own_dP_29) rfl  k) ?_
        refine own_gs 32 [(.int ((2 : Int32) * sl)), (.ref la)] (fun t' k => XS.imul X8.here hx rfl (hb hby own_dP_31) rfl k) ?_
        refine own_gs 33 [(.int (1 : Int32)), (.int ((2 : Int32) * sl)), (.ref la)] (fun t' k => XS.iconst X8.here hx rfl (hb hby own_dP_32) k) ?_
        refine own_gs 34 [(.int (((2 : Int32) * sl) + (1 : Int32))), (.ref la)] (fun t' k => XS.iadd X8.here hx rfl (hb hby own_dP_33) rfl k) ?_
        refine X8.callV hx hZ (y := (⟨"com/example/quotient/quotient/LongArray", "get", "(I)J"⟩ : MethodName)) (C := "com/example/quotient/quotient/LongArray") hown (hw _ (List.mem_of_getElem? (i := 101) rfl)) (hw _ (List.mem_of_getElem? (i := 102) rfl)) (hw _ (List.mem_of_getElem? (i := 104) rfl)) (hw _ (List.mem_of_getElem? (i := 103) rfl)) (hw _ (List.mem_of_getElem? (i := 38) rfl)) (hw _ (List.mem_of_getElem? (i := 105) rfl)) (by decide) e8 E_la [(.int (((2 : Int32) * sl) + (1 : Int32)))] [] (own_rmG l Z a0 hw [] hLLP n0 hn la b hlb g_b (2 * 2 ^ B) f (((2 : Int32) * sl) + (1 : Int32)) 0 (2 * ((own_home B key + j) % 2 ^ B) + 1) (own_i1 (own_dbl hs (by omega)) (by omega)) (by omega) A_b E_la F_la_first) 0 (by decide) (by decide) (Nat.le_of_eq rfl) (by decide) (by decide) (by rw [hml]; rfl) (lenOf own_pd10 rfl) rfl (hb hby own_dP_34) ?_
        rintro T9 _ X9 ⟨rfl, e9⟩
        show own_G p e below Fi T9 (mkF m 37 #[rv a, jv key, .second, iv (((1 : Int32) <<< (sb &&& 31)) - (1 : Int32)), iv sl] [(.long (f (2 * ((own_home B key + j) % 2 ^ B) + 1)))])
        refine own_gs 38 [(.long (0 : Int64)), (.long (f (2 * ((own_home B key + j) % 2 ^ B) + 1)))] (fun t' k => XS.lconst X9.here hx rfl (hb hby own_dP_37) k) ?_
        refine own_gs 39 [(.int (lcmpW (f (2 * ((own_home B key + j) % 2 ^ B) + 1)) (0 : Int64)))] (fun t' k => XS.lcmp X9.here hx rfl (hb hby own_dP_38) rfl k) ?_
        refine own_gs 42 [] (fun t' k => XS.ifNo X9.here hx rfl (hb hby own_dP_39) rfl ((if0 _ _).trans (feq (fun q' => hn1.1 ((lw_eq (f (2 * ((own_home B key + j) % 2 ^ B) + 1)) (0 : Int64)).mp q'))).1) k) ?_
        refine own_gs 43 [(.ref a)] (fun t' k => XS.aloadN X9.here hx rfl (hb hby own_dP_42) rfl rfl  k) ?_
        refine X9.getF hx hZ hown (hw _ (List.mem_of_getElem? (i := 79) rfl)) e9 F_a_slots (hb hby own_dP_43) ?_
        intro T10 X10 e10
        refine own_gs 47 [(.int (2 : Int32)), (.ref la)] (fun t' k => XS.iconst X10.here hx rfl (hb hby own_dP_46) k) ?_
        refine own_gs 49 [(.int sl), (.int (2 : Int32)), (.ref la)] (fun t' k => XS.iload X10.here hx rfl (hb hby own_dP_47) rfl  k) ?_
        refine own_gs 50 [(.int ((2 : Int32) * sl)), (.ref la)] (fun t' k => XS.imul X10.here hx rfl (hb hby own_dP_49) rfl k) ?_
        refine X10.callV hx hZ (y := (⟨"com/example/quotient/quotient/LongArray", "get", "(I)J"⟩ : MethodName)) (C := "com/example/quotient/quotient/LongArray") hown (hw _ (List.mem_of_getElem? (i := 101) rfl)) (hw _ (List.mem_of_getElem? (i := 102) rfl)) (hw _ (List.mem_of_getElem? (i := 104) rfl)) (hw _ (List.mem_of_getElem? (i := 103) rfl)) (hw _ (List.mem_of_getElem? (i := 38) rfl)) (hw _ (List.mem_of_getElem? (i := 105) rfl)) (by decide) e10 E_la [(.int ((2 : Int32) * sl))] [] (own_rmG l Z a0 hw [] hLLP n0 hn la b hlb g_b (2 * 2 ^ B) f ((2 : Int32) * sl) 0 (2 * ((own_home B key + j) % 2 ^ B)) (own_dbl hs (by omega)) (by omega) A_b E_la F_la_first) 0 (by decide) (by decide) (Nat.le_of_eq rfl) (by decide) (by decide) (by rw [hml]; rfl) (lenOf own_pd10 rfl) rfl (hb hby own_dP_50) ?_
        rintro T11 _ X11 ⟨rfl, e11⟩
        show own_G p e below Fi T11 (mkF m 53 #[rv a, jv key, .second, iv (((1 : Int32) <<< (sb &&& 31)) - (1 : Int32)), iv sl] [(.long (f (2 * ((own_home B key + j) % 2 ^ B))))])
        refine own_gs 54 [(.long key), (.long (f (2 * ((own_home B key + j) % 2 ^ B))))] (fun t' k => XS.lloadN X11.here hx rfl (hb hby own_dP_53) rfl  k) ?_
        refine own_gs 55 [(.int (lcmpW (f (2 * ((own_home B key + j) % 2 ^ B))) key))] (fun t' k => XS.lcmp X11.here hx rfl (hb hby own_dP_54) rfl k) ?_
        refine own_gs 58 [] (fun t' k => XS.ifNo X11.here hx rfl (hb hby own_dP_55) rfl ((if0 _ _).trans (feq (fun q' => hn1.2 ((lw_eq (f (2 * ((own_home B key + j) % 2 ^ B))) key).mp q'))).1) k) ?_
        refine own_gs 60 [(.int sl)] (fun t' k => XS.iload X11.here hx rfl (hb hby own_dP_58) rfl  k) ?_
        refine own_gs 61 [(.int (1 : Int32)), (.int sl)] (fun t' k => XS.iconst X11.here hx rfl (hb hby own_dP_60) k) ?_
        refine own_gs 62 [(.int (sl + (1 : Int32)))] (fun t' k => XS.iadd X11.here hx rfl (hb hby own_dP_61) rfl k) ?_
        refine own_gs 63 [(.int (((1 : Int32) <<< (sb &&& 31)) - (1 : Int32))), (.int (sl + (1 : Int32)))] (fun t' k => XS.iloadN X11.here hx rfl (hb hby own_dP_62) rfl  k) ?_
        refine own_gs 64 [(.int ((sl + (1 : Int32)) &&& (((1 : Int32) <<< (sb &&& 31)) - (1 : Int32))))] (fun t' k => XS.iand X11.here hx rfl (hb hby own_dP_63) rfl k) ?_
        refine own_go (mkF m 66 #[rv a, jv key, .second, iv (((1 : Int32) <<< (sb &&& 31)) - (1 : Int32)), iv ((sl + (1 : Int32)) &&& (((1 : Int32) <<< (sb &&& 31)) - (1 : Int32)))] []) (fun t' k => XS.istore X11.here hx rfl (hb hby own_dP_64) rfl rfl k) ?_
        refine own_gs 24 [] (fun t' k => XS.goto X11.here hx rfl (pc0 := 66) (pc' := 24) rfl (hb hby own_dP_66) (by decide) (by decide) k) ?_
        exact ihLP _ (by omega) T11 hLLP (((sl + (1 : Int32)) &&& (((1 : Int32) <<< (sb &&& 31)) - (1 : Int32)))) (j + 1) (X11.more (by decide) (by decide)) e11 hn E_a F_a_slotBits F_a_slots A_b E_la F_la_first (own_stepJ hB hB2 hs) (by omega) eqH rfl
  exact LP _ T3 h0 (((((own_spread key).toUInt64 >>> (((64 : Int32) - sb) &&& 0x3f).toInt64.toUInt64).toInt64).toInt32)) 0 (X3.more (by decide) (by decide)) e3 hn E_a F_a_slotBits F_a_slots A_b E_la F_la_first (own_homeI hB hB1 hB2 key) (Nat.zero_le _) rfl rfl

theorem own_dPu_0 : decode prog_113_method_4_code 0 = .ok (.aload_n 0, 1) := by decide +kernel
theorem own_dPu_1 : decode prog_113_method_4_code 1 = .ok (.lload_n 1, 1) := by decide +kernel
theorem own_dPu_2 : decode prog_113_method_4_code 2 = .ok (.invokevirtual 48, 3) := by decide +kernel
theorem own_dPu_5 : decode prog_113_method_4_code 5 = .ok (.istore 5, 2) := by decide +kernel
theorem own_dPu_7 : decode prog_113_method_4_code 7 = .ok (.aload_n 0, 1) := by decide +kernel
theorem own_dPu_8 : decode prog_113_method_4_code 8 = .ok (.getfield 41, 3) := by decide +kernel
theorem own_dPu_11 : decode prog_113_method_4_code 11 = .ok (.iload 5, 2) := by decide +kernel
theorem own_dPu_13 : decode prog_113_method_4_code 13 = .ok (.iconst 1, 1) := by decide +kernel
theorem own_dPu_14 : decode prog_113_method_4_code 14 = .ok (.iadd, 1) := by decide +kernel
theorem own_dPu_15 : decode prog_113_method_4_code 15 = .ok (.invokevirtual 51, 3) := by decide +kernel
theorem own_dPu_18 : decode prog_113_method_4_code 18 = .ok (.lstore 6, 2) := by decide +kernel
theorem own_dPu_20 : decode prog_113_method_4_code 20 = .ok (.lload 6, 2) := by decide +kernel
theorem own_dPu_22 : decode prog_113_method_4_code 22 = .ok (.lconst 0, 1) := by decide +kernel
theorem own_dPu_23 : decode prog_113_method_4_code 23 = .ok (.lcmp, 1) := by decide +kernel
theorem own_dPu_24 : decode prog_113_method_4_code 24 = .ok (.ifCond .eq 6, 3) := by decide +kernel
theorem own_dPu_27 : decode prog_113_method_4_code 27 = .ok (.lload 6, 2) := by decide +kernel
theorem own_dPu_29 : decode prog_113_method_4_code 29 = .ok (.lreturn, 1) := by decide +kernel
theorem own_pn_own_rmPF : plainFor (⟨"com/example/quotient/quotient/LongTable", "putIfAbsent", "(JJ)J"⟩ : MethodName) = true := plainFor_of_name (show plainName "com/example/quotient/quotient/LongTable" = true by first | (simp [plainName, overriddenIn]; done) | decide +kernel)
set_option maxRecDepth 65536 in
set_option maxHeartbeats 40000000 in
theorem own_rmPF (l : Launch) (Z : State) (a0 : Array Value) (hw : ∀ d ∈ tables_1, d.before a0 Z = true) (ws : List Jvm.Cond) (h0 : Heap) (n0 : Nat) (Z0 : n0 ≤ h0.size) (a la b : Addr) (hla : a ≠ la) (hab : a ≠ b) (hlb : la ≠ b) (g_a : n0 ≤ a) (g_b : n0 ≤ b) (sb : Int32) (B : Nat) (hB : sb.toInt = B) (hB1 : 1 ≤ B) (hB2 : B ≤ 10) (key : Int64) (f : Nat → Int64) (J : Nat) (hns : ∀ i, i < J → f (2 * ((own_home B key + i) % 2 ^ B) + 1) ≠ 0 ∧ f (2 * ((own_home B key + i) % 2 ^ B)) ≠ key) (A_b : own_L Z h0 b (2 * 2 ^ B) f) (E_la : Exa Z h0 la "com/example/quotient/quotient/LongArray") (F_la_first : Fld Z h0 la "com/example/quotient/quotient/LongArray" "first" "[J" (.ref b)) (hocc : f (2 * ((own_home B key + J) % 2 ^ B) + 1) ≠ 0) (hkey : f (2 * ((own_home B key + J) % 2 ^ B)) = key) (v : Int64) (mb sz : Int32) (E_a : Exa Z h0 a "com/example/quotient/quotient/LongTable") (F_a_mostSlotBits : Fld Z h0 a "com/example/quotient/quotient/LongTable" "mostSlotBits" "I" (.int mb)) (F_a_slotBits : Fld Z h0 a "com/example/quotient/quotient/LongTable" "slotBits" "I" (.int sb)) (F_a_size : Fld Z h0 a "com/example/quotient/quotient/LongTable" "size" "I" (.int sz)) (F_a_slots : Fld Z h0 a "com/example/quotient/quotient/LongTable" "slots" "Lcom/example/quotient/quotient/LongArray;" (.ref la))  :
    own_C l Z (⟨"com/example/quotient/quotient/LongTable", "putIfAbsent", "(JJ)J"⟩ : MethodName) prog_113_method_4_code 8 (some .long) ws ({ frames := 2, cells := 0, slots := 0, locals := 31 } : Room) #[(.ref a), (.long key), (.long v)] h0 (own_Q n0 (fun v' h => (∃ z, v' = some (.long z)) ∧ h = h0)) := by
  refine own_met own_pn_own_rmPF #[rv a, jv key, .second, jv v, .second, .unset, .unset, .unset] (fun m => by first | (simp [entryFrame, mkF, argsToLocals, Value.category]; done) | rfl) ?_
  intro p e s m below meth c s₁ Fi hx hby hml hown hret hlk hZ hnm hF X0 e0
  replace X0 := own_S.of X0 (n0)
  have hn : n0 ≤ h0.size := Z0
  have hP : 2 ^ B ≤ 2 ^ 10 := Nat.pow_le_pow_right (by omega) hB2
  refine own_gs 1 [(.ref a)] (fun t' k => XS.aloadN X0.here hx rfl (hb hby own_dPu_0) rfl rfl  k) ?_
  refine own_gs 2 [(.long key), (.ref a)] (fun t' k => XS.lloadN X0.here hx rfl (hb hby own_dPu_1) rfl  k) ?_
  refine X0.callR hx hZ (y := (⟨"com/example/quotient/quotient/LongTable", "positionOf", "(J)I"⟩ : MethodName)) hown (hw _ (List.mem_of_getElem? (i := 93) rfl)) (hw _ (List.mem_of_getElem? (i := 7) rfl)) (hw _ (List.mem_of_getElem? (i := 95) rfl)) (hw _ (List.mem_of_getElem? (i := 94) rfl)) (hw _ (List.mem_of_getElem? (i := 8) rfl)) (hw _ (List.mem_of_getElem? (i := 96) rfl)) (by decide) e0 E_a [(.long key)] [] (own_rmP l Z a0 hw [] h0 n0 hn a la b hla hab hlb g_a g_b sb B hB hB1 hB2 key f J hns A_b E_la F_la_first (Or.inr hkey) E_a F_a_slotBits F_a_slots) 0 (by decide) (by decide) (Nat.le_of_eq rfl) (by decide) (by decide) (by rw [hml]; rfl) (lenOf own_pd6 rfl) rfl (hb hby own_dPu_2) ?_
  rintro T1 _ X1 ⟨r, rfl, hr, e1⟩
  have hlt := Nat.mod_lt (own_home B key + J) (Nat.two_pow_pos B)
  show own_G p e below Fi T1 (mkF m 5 #[rv a, jv key, .second, jv v, .second, .unset, .unset, .unset] [(.int r)])
  refine own_go (mkF m 7 #[rv a, jv key, .second, jv v, .second, iv r, .unset, .unset] []) (fun t' k => XS.istore X1.here hx rfl (hb hby own_dPu_5) rfl rfl k) ?_
  refine own_gs 8 [(.ref a)] (fun t' k => XS.aloadN X1.here hx rfl (hb hby own_dPu_7) rfl rfl  k) ?_
  refine X1.getF hx hZ hown (hw _ (List.mem_of_getElem? (i := 79) rfl)) e1 F_a_slots (hb hby own_dPu_8) ?_
  intro T2 X2 e2
  refine own_gs 13 [(.int r), (.ref la)] (fun t' k => XS.iload X2.here hx rfl (hb hby own_dPu_11) rfl  k) ?_
  refine own_gs 14 [(.int (1 : Int32)), (.int r), (.ref la)] (fun t' k => XS.iconst X2.here hx rfl (hb hby own_dPu_13) k) ?_
  refine own_gs 15 [(.int (r + (1 : Int32))), (.ref la)] (fun t' k => XS.iadd X2.here hx rfl (hb hby own_dPu_14) rfl k) ?_
  refine X2.callV hx hZ (y := (⟨"com/example/quotient/quotient/LongArray", "get", "(I)J"⟩ : MethodName)) (C := "com/example/quotient/quotient/LongArray") hown (hw _ (List.mem_of_getElem? (i := 101) rfl)) (hw _ (List.mem_of_getElem? (i := 102) rfl)) (hw _ (List.mem_of_getElem? (i := 104) rfl)) (hw _ (List.mem_of_getElem? (i := 103) rfl)) (hw _ (List.mem_of_getElem? (i := 38) rfl)) (hw _ (List.mem_of_getElem? (i := 105) rfl)) (by decide) e2 E_la [(.int (r + (1 : Int32)))] [] (own_rmG l Z a0 hw [] h0 n0 hn la b hlb g_b (2 * 2 ^ B) f (r + (1 : Int32)) 0 (2 * ((own_home B key + J) % 2 ^ B) + 1) (own_i1 hr (by omega)) (by omega) A_b E_la F_la_first) 0 (by decide) (by decide) (Nat.le_of_eq rfl) (by decide) (by decide) (by rw [hml]; rfl) (lenOf own_pd10 rfl) rfl (hb hby own_dPu_15) ?_
  rintro T3 _ X3 ⟨rfl, e3⟩
  show own_G p e below Fi T3 (mkF m 18 #[rv a, jv key, .second, jv v, .second, iv r, .unset, .unset] [(.long (f (2 * ((own_home B key + J) % 2 ^ B) + 1)))])
  refine own_go (mkF m 20 #[rv a, jv key, .second, jv v, .second, iv r, jv (f (2 * ((own_home B key + J) % 2 ^ B) + 1)), .second] []) (fun t' k => XS.lstore X3.here hx rfl (hb hby own_dPu_18) rfl rfl k) ?_
  refine own_gs 22 [(.long (f (2 * ((own_home B key + J) % 2 ^ B) + 1)))] (fun t' k => XS.lload X3.here hx rfl (hb hby own_dPu_20) rfl  k) ?_
  refine own_gs 23 [(.long (0 : Int64)), (.long (f (2 * ((own_home B key + J) % 2 ^ B) + 1)))] (fun t' k => XS.lconst X3.here hx rfl (hb hby own_dPu_22) k) ?_
  refine own_gs 24 [(.int (lcmpW (f (2 * ((own_home B key + J) % 2 ^ B) + 1)) (0 : Int64)))] (fun t' k => XS.lcmp X3.here hx rfl (hb hby own_dPu_23) rfl k) ?_
  refine own_gs 27 [] (fun t' k => XS.ifNo X3.here hx rfl (hb hby own_dPu_24) rfl ((if0 _ _).trans (feq (fun q' => hocc ((lw_eq (f (2 * ((own_home B key + J) % 2 ^ B) + 1)) (0 : Int64)).mp q'))).1) k) ?_
  refine own_gs 29 [(.long (f (2 * ((own_home B key + J) % 2 ^ B) + 1)))] (fun t' k => XS.lload X3.here hx rfl (hb hby own_dPu_27) rfl  k) ?_
  refine X3.retJ hF (Nat.zero_le _) hx hlk hret (hb hby own_dPu_29) ?_ (by decide) (by decide)
  exact ⟨⟨_, rfl⟩, e3⟩

theorem own_sn_LongTable_mostSlotBits_size {Z : State} {a0 : Array Value} (hw : ∀ d ∈ tables_1, d.before a0 Z = true) : Jvm.RoadKit.slotOf Z "com/example/quotient/quotient/LongTable" "mostSlotBits" "I" ≠ Jvm.RoadKit.slotOf Z "com/example/quotient/quotient/LongTable" "size" "I" := slot_ne (Or.inr (hw _ (List.mem_of_getElem? (i := 32) rfl))) (Or.inl (hw _ (List.mem_of_getElem? (i := 87) rfl))) (by decide) (t := .int) (t' := .int) (by decide) (by decide)
theorem own_sn_LongTable_slotBits_size {Z : State} {a0 : Array Value} (hw : ∀ d ∈ tables_1, d.before a0 Z = true) : Jvm.RoadKit.slotOf Z "com/example/quotient/quotient/LongTable" "slotBits" "I" ≠ Jvm.RoadKit.slotOf Z "com/example/quotient/quotient/LongTable" "size" "I" := slot_ne (Or.inl (hw _ (List.mem_of_getElem? (i := 34) rfl))) (Or.inl (hw _ (List.mem_of_getElem? (i := 87) rfl))) (by decide) (t := .int) (t' := .int) (by decide) (by decide)
theorem own_sn_LongTable_slots_size {Z : State} {a0 : Array Value} (hw : ∀ d ∈ tables_1, d.before a0 Z = true) : Jvm.RoadKit.slotOf Z "com/example/quotient/quotient/LongTable" "slots" "Lcom/example/quotient/quotient/LongArray;" ≠ Jvm.RoadKit.slotOf Z "com/example/quotient/quotient/LongTable" "size" "I" := slot_ne (Or.inl (hw _ (List.mem_of_getElem? (i := 80) rfl))) (Or.inl (hw _ (List.mem_of_getElem? (i := 87) rfl))) (by decide) (t := (.object "com/example/quotient/quotient/LongArray")) (t' := .int) (by decide) (by decide)
theorem own_dPu_30 : decode prog_113_method_4_code 30 = .ok (.aload_n 0, 1) := by decide +kernel
theorem own_dPu_31 : decode prog_113_method_4_code 31 = .ok (.getfield 45, 3) := by decide +kernel
theorem own_dPu_34 : decode prog_113_method_4_code 34 = .ok (.iconst 1, 1) := by decide +kernel
theorem own_dPu_35 : decode prog_113_method_4_code 35 = .ok (.iadd, 1) := by decide +kernel
theorem own_dPu_36 : decode prog_113_method_4_code 36 = .ok (.i2l, 1) := by decide +kernel
theorem own_dPu_37 : decode prog_113_method_4_code 37 = .ok (.lconst 1, 1) := by decide +kernel
theorem own_dPu_38 : decode prog_113_method_4_code 38 = .ok (.aload_n 0, 1) := by decide +kernel
theorem own_dPu_39 : decode prog_113_method_4_code 39 = .ok (.getfield 30, 3) := by decide +kernel
theorem own_dPu_42 : decode prog_113_method_4_code 42 = .ok (.lshl, 1) := by decide +kernel
theorem own_dPu_43 : decode prog_113_method_4_code 43 = .ok (.ldc2_w 33, 3) := by decide +kernel
theorem own_dPu_46 : decode prog_113_method_4_code 46 = .ok (.ldiv, 1) := by decide +kernel
theorem own_dPu_47 : decode prog_113_method_4_code 47 = .ok (.lcmp, 1) := by decide +kernel
theorem own_dPu_48 : decode prog_113_method_4_code 48 = .ok (.ifCond .le 14, 3) := by decide +kernel
theorem own_dPu_62 : decode prog_113_method_4_code 62 = .ok (.aload_n 0, 1) := by decide +kernel
theorem own_dPu_63 : decode prog_113_method_4_code 63 = .ok (.getfield 41, 3) := by decide +kernel
theorem own_dPu_66 : decode prog_113_method_4_code 66 = .ok (.iload 5, 2) := by decide +kernel
theorem own_dPu_68 : decode prog_113_method_4_code 68 = .ok (.lload_n 1, 1) := by decide +kernel
theorem own_dPu_69 : decode prog_113_method_4_code 69 = .ok (.invokevirtual 58, 3) := by decide +kernel
theorem own_dPu_72 : decode prog_113_method_4_code 72 = .ok (.aload_n 0, 1) := by decide +kernel
theorem own_dPu_73 : decode prog_113_method_4_code 73 = .ok (.getfield 41, 3) := by decide +kernel
theorem own_dPu_76 : decode prog_113_method_4_code 76 = .ok (.iload 5, 2) := by decide +kernel
theorem own_dPu_78 : decode prog_113_method_4_code 78 = .ok (.iconst 1, 1) := by decide +kernel
theorem own_dPu_79 : decode prog_113_method_4_code 79 = .ok (.iadd, 1) := by decide +kernel
theorem own_dPu_80 : decode prog_113_method_4_code 80 = .ok (.lload_n 3, 1) := by decide +kernel
theorem own_dPu_81 : decode prog_113_method_4_code 81 = .ok (.invokevirtual 58, 3) := by decide +kernel
theorem own_dPu_84 : decode prog_113_method_4_code 84 = .ok (.aload_n 0, 1) := by decide +kernel
theorem own_dPu_85 : decode prog_113_method_4_code 85 = .ok (.dup, 1) := by decide +kernel
theorem own_dPu_86 : decode prog_113_method_4_code 86 = .ok (.getfield 45, 3) := by decide +kernel
theorem own_dPu_89 : decode prog_113_method_4_code 89 = .ok (.iconst 1, 1) := by decide +kernel
theorem own_dPu_90 : decode prog_113_method_4_code 90 = .ok (.iadd, 1) := by decide +kernel
theorem own_dPu_91 : decode prog_113_method_4_code 91 = .ok (.putfield 45, 3) := by decide +kernel
theorem own_dPu_94 : decode prog_113_method_4_code 94 = .ok (.lconst 0, 1) := by decide +kernel
theorem own_dPu_95 : decode prog_113_method_4_code 95 = .ok (.lreturn, 1) := by decide +kernel
theorem own_pn_own_rmPE : plainFor (⟨"com/example/quotient/quotient/LongTable", "putIfAbsent", "(JJ)J"⟩ : MethodName) = true := plainFor_of_name (show plainName "com/example/quotient/quotient/LongTable" = true by first | (simp [plainName, overriddenIn]; done) | decide +kernel)
set_option maxRecDepth 65536 in
set_option maxHeartbeats 40000000 in
theorem own_rmPE (l : Launch) (Z : State) (a0 : Array Value) (hw : ∀ d ∈ tables_1, d.before a0 Z = true) (ws : List Jvm.Cond) (h0 : Heap) (n0 : Nat) (Z0 : n0 ≤ h0.size) (a la b : Addr) (hla : a ≠ la) (hab : a ≠ b) (hlb : la ≠ b) (g_a : n0 ≤ a) (g_b : n0 ≤ b) (sb : Int32) (B : Nat) (hB : sb.toInt = B) (hB1 : 1 ≤ B) (hB2 : B ≤ 10) (key : Int64) (f : Nat → Int64) (J : Nat) (hns : ∀ i, i < J → f (2 * ((own_home B key + i) % 2 ^ B) + 1) ≠ 0 ∧ f (2 * ((own_home B key + i) % 2 ^ B)) ≠ key) (A_b : own_L Z h0 b (2 * 2 ^ B) f) (E_la : Exa Z h0 la "com/example/quotient/quotient/LongArray") (F_la_first : Fld Z h0 la "com/example/quotient/quotient/LongArray" "first" "[J" (.ref b)) (h0f : f (2 * ((own_home B key + J) % 2 ^ B) + 1) = 0) (v : Int64) (mb sz : Int32) (hng : ¬ (((1 : Int64) <<< (sb &&& 0x3f).toInt64) / (2 : Int64)) < (sz + (1 : Int32)).toInt64) (E_a : Exa Z h0 a "com/example/quotient/quotient/LongTable") (F_a_mostSlotBits : Fld Z h0 a "com/example/quotient/quotient/LongTable" "mostSlotBits" "I" (.int mb)) (F_a_slotBits : Fld Z h0 a "com/example/quotient/quotient/LongTable" "slotBits" "I" (.int sb)) (F_a_size : Fld Z h0 a "com/example/quotient/quotient/LongTable" "size" "I" (.int sz)) (F_a_slots : Fld Z h0 a "com/example/quotient/quotient/LongTable" "slots" "Lcom/example/quotient/quotient/LongArray;" (.ref la))  :
    own_C l Z (⟨"com/example/quotient/quotient/LongTable", "putIfAbsent", "(JJ)J"⟩ : MethodName) prog_113_method_4_code 8 (some .long) ws ({ frames := 2, cells := 0, slots := 0, locals := 31 } : Room) #[(.ref a), (.long key), (.long v)] h0 (own_Q n0 (fun v' h => (∃ z, v' = some (.long z)) ∧ Keep h0 h [a, b] ∧ Exa Z h a "com/example/quotient/quotient/LongTable" ∧ Fld Z h a "com/example/quotient/quotient/LongTable" "mostSlotBits" "I" (.int mb) ∧ Fld Z h a "com/example/quotient/quotient/LongTable" "slotBits" "I" (.int sb) ∧ Fld Z h a "com/example/quotient/quotient/LongTable" "size" "I" (.int (sz + (1 : Int32))) ∧ Fld Z h a "com/example/quotient/quotient/LongTable" "slots" "Lcom/example/quotient/quotient/LongArray;" (.ref la) ∧ own_L Z h b (2 * 2 ^ B) (own_up (own_up f (2 * ((own_home B key + J) % 2 ^ B)) key) (2 * ((own_home B key + J) % 2 ^ B) + 1) v))) := by
  refine own_met own_pn_own_rmPE #[rv a, jv key, .second, jv v, .second, .unset, .unset, .unset] (fun m => by first | (simp [entryFrame, mkF, argsToLocals, Value.category]; done) | rfl) ?_
  intro p e s m below meth c s₁ Fi hx hby hml hown hret hlk hZ hnm hF X0 e0
  replace X0 := own_S.of X0 (n0)
  have hn : n0 ≤ h0.size := Z0
  have hK := Keep.refl h0 [a, b]
  have hP : 2 ^ B ≤ 2 ^ 10 := Nat.pow_le_pow_right (by omega) hB2
  refine own_gs 1 [(.ref a)] (fun t' k => XS.aloadN X0.here hx rfl (hb hby own_dPu_0) rfl rfl  k) ?_
  refine own_gs 2 [(.long key), (.ref a)] (fun t' k => XS.lloadN X0.here hx rfl (hb hby own_dPu_1) rfl  k) ?_
  refine X0.callR hx hZ (y := (⟨"com/example/quotient/quotient/LongTable", "positionOf", "(J)I"⟩ : MethodName)) hown (hw _ (List.mem_of_getElem? (i := 93) rfl)) (hw _ (List.mem_of_getElem? (i := 7) rfl)) (hw _ (List.mem_of_getElem? (i := 95) rfl)) (hw _ (List.mem_of_getElem? (i := 94) rfl)) (hw _ (List.mem_of_getElem? (i := 8) rfl)) (hw _ (List.mem_of_getElem? (i := 96) rfl)) (by decide) e0 E_a [(.long key)] [] (own_rmP l Z a0 hw [] h0 n0 hn a la b hla hab hlb g_a g_b sb B hB hB1 hB2 key f J hns A_b E_la F_la_first (Or.inl h0f) E_a F_a_slotBits F_a_slots) 0 (by decide) (by decide) (Nat.le_of_eq rfl) (by decide) (by decide) (by rw [hml]; rfl) (lenOf own_pd6 rfl) rfl (hb hby own_dPu_2) ?_
  rintro T1 _ X1 ⟨r, rfl, hr, e1⟩
  have hlt := Nat.mod_lt (own_home B key + J) (Nat.two_pow_pos B)
  show own_G p e below Fi T1 (mkF m 5 #[rv a, jv key, .second, jv v, .second, .unset, .unset, .unset] [(.int r)])
  refine own_go (mkF m 7 #[rv a, jv key, .second, jv v, .second, iv r, .unset, .unset] []) (fun t' k => XS.istore X1.here hx rfl (hb hby own_dPu_5) rfl rfl k) ?_
  refine own_gs 8 [(.ref a)] (fun t' k => XS.aloadN X1.here hx rfl (hb hby own_dPu_7) rfl rfl  k) ?_
  refine X1.getF hx hZ hown (hw _ (List.mem_of_getElem? (i := 79) rfl)) e1 F_a_slots (hb hby own_dPu_8) ?_
  intro T2 X2 e2
  refine own_gs 13 [(.int r), (.ref la)] (fun t' k => XS.iload X2.here hx rfl (hb hby own_dPu_11) rfl  k) ?_
  refine own_gs 14 [(.int (1 : Int32)), (.int r), (.ref la)] (fun t' k => XS.iconst X2.here hx rfl (hb hby own_dPu_13) k) ?_
  refine own_gs 15 [(.int (r + (1 : Int32))), (.ref la)] (fun t' k => XS.iadd X2.here hx rfl (hb hby own_dPu_14) rfl k) ?_
  refine X2.callV hx hZ (y := (⟨"com/example/quotient/quotient/LongArray", "get", "(I)J"⟩ : MethodName)) (C := "com/example/quotient/quotient/LongArray") hown (hw _ (List.mem_of_getElem? (i := 101) rfl)) (hw _ (List.mem_of_getElem? (i := 102) rfl)) (hw _ (List.mem_of_getElem? (i := 104) rfl)) (hw _ (List.mem_of_getElem? (i := 103) rfl)) (hw _ (List.mem_of_getElem? (i := 38) rfl)) (hw _ (List.mem_of_getElem? (i := 105) rfl)) (by decide) e2 E_la [(.int (r + (1 : Int32)))] [] (own_rmG l Z a0 hw [] h0 n0 hn la b hlb g_b (2 * 2 ^ B) f (r + (1 : Int32)) 0 (2 * ((own_home B key + J) % 2 ^ B) + 1) (own_i1 hr (by omega)) (by omega) A_b E_la F_la_first) 0 (by decide) (by decide) (Nat.le_of_eq rfl) (by decide) (by decide) (by rw [hml]; rfl) (lenOf own_pd10 rfl) rfl (hb hby own_dPu_15) ?_
  rintro T3 _ X3 ⟨rfl, e3⟩
  show own_G p e below Fi T3 (mkF m 18 #[rv a, jv key, .second, jv v, .second, iv r, .unset, .unset] [(.long (f (2 * ((own_home B key + J) % 2 ^ B) + 1)))])
  refine own_go (mkF m 20 #[rv a, jv key, .second, jv v, .second, iv r, jv (f (2 * ((own_home B key + J) % 2 ^ B) + 1)), .second] []) (fun t' k => XS.lstore X3.here hx rfl (hb hby own_dPu_18) rfl rfl k) ?_
  refine own_gs 22 [(.long (f (2 * ((own_home B key + J) % 2 ^ B) + 1)))] (fun t' k => XS.lload X3.here hx rfl (hb hby own_dPu_20) rfl  k) ?_
  refine own_gs 23 [(.long (0 : Int64)), (.long (f (2 * ((own_home B key + J) % 2 ^ B) + 1)))] (fun t' k => XS.lconst X3.here hx rfl (hb hby own_dPu_22) k) ?_
  refine own_gs 24 [(.int (lcmpW (f (2 * ((own_home B key + J) % 2 ^ B) + 1)) (0 : Int64)))] (fun t' k => XS.lcmp X3.here hx rfl (hb hby own_dPu_23) rfl k) ?_
  refine own_gs 30 [] (fun t' k => XS.ifYes X3.here hx rfl (pc0 := 24) (pc' := 30) rfl (hb hby own_dPu_24) rfl ((if0 _ _).trans (teq ((lw_eq (f (2 * ((own_home B key + J) % 2 ^ B) + 1)) (0 : Int64)).mpr h0f)).1) (by decide) (by decide) k) ?_
  refine own_gs 31 [(.ref a)] (fun t' k => XS.aloadN X3.here hx rfl (hb hby own_dPu_30) rfl rfl  k) ?_
  refine X3.getF hx hZ hown (hw _ (List.mem_of_getElem? (i := 86) rfl)) e3 F_a_size (hb hby own_dPu_31) ?_
  intro T4 X4 e4
  refine own_gs 35 [(.int (1 : Int32)), (.int sz)] (fun t' k => XS.iconst X4.here hx rfl (hb hby own_dPu_34) k) ?_
  refine own_gs 36 [(.int (sz + (1 : Int32)))] (fun t' k => XS.iadd X4.here hx rfl (hb hby own_dPu_35) rfl k) ?_
  refine own_gs 37 [(.long ((sz + (1 : Int32)).toInt64))] (fun t' k => XS.i2l X4.here hx rfl (hb hby own_dPu_36) rfl k) ?_
  refine own_gs 38 [(.long (1 : Int64)), (.long ((sz + (1 : Int32)).toInt64))] (fun t' k => XS.lconst X4.here hx rfl (hb hby own_dPu_37) k) ?_
  refine own_gs 39 [(.ref a), (.long (1 : Int64)), (.long ((sz + (1 : Int32)).toInt64))] (fun t' k => XS.aloadN X4.here hx rfl (hb hby own_dPu_38) rfl rfl  k) ?_
  refine X4.getF hx hZ hown (hw _ (List.mem_of_getElem? (i := 33) rfl)) e4 F_a_slotBits (hb hby own_dPu_39) ?_
  intro T5 X5 e5
  refine own_gs 43 [(.long ((1 : Int64) <<< (sb &&& 0x3f).toInt64)), (.long ((sz + (1 : Int32)).toInt64))] (fun t' k => XS.lshl X5.here hx rfl (hb hby own_dPu_42) rfl k) ?_
  refine own_gs 46 [(.long (2 : Int64)), (.long ((1 : Int64) <<< (sb &&& 0x3f).toInt64)), (.long ((sz + (1 : Int32)).toInt64))] (fun t' k => X5.ldc2Long hx hown (mvT hZ (hw _ (List.mem_of_getElem? (i := 35) rfl))) (g := (mkF m 43 #[rv a, jv key, .second, jv v, .second, iv r, jv (f (2 * ((own_home B key + J) % 2 ^ B) + 1)), .second] [(.long ((1 : Int64) <<< (sb &&& 0x3f).toInt64)), (.long ((sz + (1 : Int32)).toInt64))])) rfl (hb hby own_dPu_43) _ k) ?_
  refine own_gs 47 [(.long (((1 : Int64) <<< (sb &&& 0x3f).toInt64) / (2 : Int64))), (.long ((sz + (1 : Int32)).toInt64))] (fun t' k => XS.ldiv X5.here hx rfl (hb hby own_dPu_46) rfl (by decide) k) ?_
  refine own_gs 48 [(.int (lcmpW ((sz + (1 : Int32)).toInt64) (((1 : Int64) <<< (sb &&& 0x3f).toInt64) / (2 : Int64))))] (fun t' k => XS.lcmp X5.here hx rfl (hb hby own_dPu_47) rfl k) ?_
  refine own_gs 62 [] (fun t' k => XS.ifYes X5.here hx rfl (pc0 := 48) (pc' := 62) rfl (hb hby own_dPu_48) rfl ((if0 _ _).trans (flt (fun q' => hng ((lw_gt ((sz + (1 : Int32)).toInt64) (((1 : Int64) <<< (sb &&& 0x3f).toInt64) / (2 : Int64))).mp q'))).2.2.2) (by decide) (by decide) k) ?_
  refine own_gs 63 [(.ref a)] (fun t' k => XS.aloadN X5.here hx rfl (hb hby own_dPu_62) rfl rfl  k) ?_
  refine X5.getF hx hZ hown (hw _ (List.mem_of_getElem? (i := 79) rfl)) e5 F_a_slots (hb hby own_dPu_63) ?_
  intro T6 X6 e6
  refine own_gs 68 [(.int r), (.ref la)] (fun t' k => XS.iload X6.here hx rfl (hb hby own_dPu_66) rfl  k) ?_
  refine own_gs 69 [(.long key), (.int r), (.ref la)] (fun t' k => XS.lloadN X6.here hx rfl (hb hby own_dPu_68) rfl  k) ?_
  refine X6.callV hx hZ (y := (⟨"com/example/quotient/quotient/LongArray", "set", "(IJ)V"⟩ : MethodName)) (C := "com/example/quotient/quotient/LongArray") hown (hw _ (List.mem_of_getElem? (i := 106) rfl)) (hw _ (List.mem_of_getElem? (i := 107) rfl)) (hw _ (List.mem_of_getElem? (i := 109) rfl)) (hw _ (List.mem_of_getElem? (i := 108) rfl)) (hw _ (List.mem_of_getElem? (i := 38) rfl)) (hw _ (List.mem_of_getElem? (i := 110) rfl)) (by decide) e6 E_la [(.int r), (.long key)] [] (own_rmS l Z a0 hw [] h0 n0 hn la b hlb g_b (2 * 2 ^ B) f r key (2 * ((own_home B key + J) % 2 ^ B)) hr (by omega) A_b E_la F_la_first) 0 (by decide) (by decide) (Nat.le_of_eq rfl) (by decide) (by decide) (by rw [hml]; rfl) (lenOf own_pd11 rfl) rfl (hb hby own_dPu_69) ?_
  rintro T7 _ X7 ⟨rfl, K7, A7⟩
  replace A_b := A7
  replace E_a := E_a.keep K7
  replace F_a_mostSlotBits := F_a_mostSlotBits.keep K7 (ninS hab nin0)
  replace F_a_slotBits := F_a_slotBits.keep K7 (ninS hab nin0)
  replace F_a_size := F_a_size.keep K7 (ninS hab nin0)
  replace F_a_slots := F_a_slots.keep K7 (ninS hab nin0)
  replace E_la := E_la.keep K7
  replace F_la_first := F_la_first.keep K7 (ninS hlb nin0)
  replace hn := Nat.le_trans hn K7.1
  replace hK := hK.trans K7 (allS (Or.inl (List.mem_of_getElem? (i := 1) rfl)) all0)
  show own_G p e below Fi T7 (mkF m 72 #[rv a, jv key, .second, jv v, .second, iv r, jv (f (2 * ((own_home B key + J) % 2 ^ B) + 1)), .second] [])
  refine own_gs 73 [(.ref a)] (fun t' k => XS.aloadN X7.here hx rfl (hb hby own_dPu_72) rfl rfl  k) ?_
  refine X7.getF hx hZ hown (hw _ (List.mem_of_getElem? (i := 79) rfl)) rfl F_a_slots (hb hby own_dPu_73) ?_
  intro T8 X8 e8
  refine own_gs 78 [(.int r), (.ref la)] (fun t' k => XS.iload X8.here hx rfl (hb hby own_dPu_76) rfl  k) ?_
  refine own_gs 79 [(.int (1 : Int32)), (.int r), (.ref la)] (fun t' k => XS.iconst X8.here hx rfl (hb hby own_dPu_78) k) ?_
  refine own_gs 80 [(.int (r + (1 : Int32))), (.ref la)] (fun t' k => XS.iadd X8.here hx rfl (hb hby own_dPu_79) rfl k) ?_
  refine own_gs 81 [(.long v), (.int (r + (1 : Int32))), (.ref la)] (fun t' k => XS.lloadN X8.here hx rfl (hb hby own_dPu_80) rfl  k) ?_
  refine X8.callV hx hZ (y := (⟨"com/example/quotient/quotient/LongArray", "set", "(IJ)V"⟩ : MethodName)) (C := "com/example/quotient/quotient/LongArray") hown (hw _ (List.mem_of_getElem? (i := 106) rfl)) (hw _ (List.mem_of_getElem? (i := 107) rfl)) (hw _ (List.mem_of_getElem? (i := 109) rfl)) (hw _ (List.mem_of_getElem? (i := 108) rfl)) (hw _ (List.mem_of_getElem? (i := 38) rfl)) (hw _ (List.mem_of_getElem? (i := 110) rfl)) (by decide) e8 E_la [(.int (r + (1 : Int32))), (.long v)] [] (own_rmS l Z a0 hw [] T7.heap n0 hn la b hlb g_b (2 * 2 ^ B) (own_up f (2 * ((own_home B key + J) % 2 ^ B)) key) (r + (1 : Int32)) v (2 * ((own_home B key + J) % 2 ^ B) + 1) (own_i1 hr (by omega)) (by omega) A_b E_la F_la_first) 0 (by decide) (by decide) (Nat.le_of_eq rfl) (by decide) (by decide) (by rw [hml]; rfl) (lenOf own_pd11 rfl) rfl (hb hby own_dPu_81) ?_
  rintro T9 _ X9 ⟨rfl, K9, A9⟩
  replace A_b := A9
  replace E_a := E_a.keep K9
  replace F_a_mostSlotBits := F_a_mostSlotBits.keep K9 (ninS hab nin0)
  replace F_a_slotBits := F_a_slotBits.keep K9 (ninS hab nin0)
  replace F_a_size := F_a_size.keep K9 (ninS hab nin0)
  replace F_a_slots := F_a_slots.keep K9 (ninS hab nin0)
  replace E_la := E_la.keep K9
  replace F_la_first := F_la_first.keep K9 (ninS hlb nin0)
  replace hn := Nat.le_trans hn K9.1
  replace hK := hK.trans K9 (allS (Or.inl (List.mem_of_getElem? (i := 1) rfl)) all0)
  show own_G p e below Fi T9 (mkF m 84 #[rv a, jv key, .second, jv v, .second, iv r, jv (f (2 * ((own_home B key + J) % 2 ^ B) + 1)), .second] [])
  refine own_gs 85 [(.ref a)] (fun t' k => XS.aloadN X9.here hx rfl (hb hby own_dPu_84) rfl rfl  k) ?_
  refine own_gs 86 [(.ref a), (.ref a)] (fun t' k => XS.dup X9.here hx rfl (hb hby own_dPu_85) rfl rfl k) ?_
  refine X9.getF hx hZ hown (hw _ (List.mem_of_getElem? (i := 86) rfl)) rfl F_a_size (hb hby own_dPu_86) ?_
  intro T10 X10 e10
  refine own_gs 90 [(.int (1 : Int32)), (.int sz), (.ref a)] (fun t' k => XS.iconst X10.here hx rfl (hb hby own_dPu_89) k) ?_
  refine own_gs 91 [(.int (sz + (1 : Int32))), (.ref a)] (fun t' k => XS.iadd X10.here hx rfl (hb hby own_dPu_90) rfl k) ?_
  refine X10.putF hx hZ hown (hw _ (List.mem_of_getElem? (i := 86) rfl)) e10 F_a_size E_a g_a (Or.inl (hw _ (List.mem_of_getElem? (i := 87) rfl))) (hw _ (List.mem_of_getElem? (i := 7) rfl)) (ty := .int) (by decide) rfl rfl (hb hby own_dPu_91) ?_
  intro T11 h11 X11 e11 W11
  replace E_a := E_a.wr W11
  replace F_a_mostSlotBits := F_a_mostSlotBits.other W11 (Or.inr (own_sn_LongTable_mostSlotBits_size hw))
  replace F_a_slotBits := F_a_slotBits.other W11 (Or.inr (own_sn_LongTable_slotBits_size hw))
  replace F_a_size := F_a_size.same W11
  replace F_a_slots := F_a_slots.other W11 (Or.inr (own_sn_LongTable_slots_size hw))
  replace E_la := E_la.wr W11
  replace F_la_first := F_la_first.other W11 (Or.inl (Ne.symm hla))
  replace A_b := A_b.other W11 (Ne.symm hab)
  replace hn := Nat.le_trans hn (Keep.of_wr W11).1
  replace hK := hK.wr W11 (Or.inl (List.mem_of_getElem? (i := 0) rfl))
  refine own_gs 95 [(.long (0 : Int64))] (fun t' k => XS.lconst X11.here hx rfl (hb hby own_dPu_94) k) ?_
  refine X11.retJ hF (Nat.zero_le _) hx hlk hret (hb hby own_dPu_95) ?_ (by decide) (by decide)
  rw [e11]
  exact ⟨⟨_, rfl⟩, hK, E_a, F_a_mostSlotBits, F_a_slotBits, F_a_size, F_a_slots, A_b⟩


theorem own_RB {cap mb sb : Int32} {B : Nat} (h : own_R cap mb sb B) : 1 ≤ B ∧ B ≤ 10 := by
  rcases h.2 with ⟨-, -, -, q⟩ | ⟨-, -, -, q⟩ | ⟨-, -, -, q⟩ | ⟨-, q, r⟩ <;> omega
theorem own_Rcap {cap mb sb : Int32} {B : Nat} (h : own_R cap mb sb B) : (0 : Int32) < cap := by
  rcases h.2 with ⟨q, -⟩ | ⟨q, -⟩ | ⟨q, -⟩ | ⟨q, -⟩ <;> (rw [q]; decide)
theorem own_fullR {cap mb sb d : Int32} {B n : Nat} (h : own_R cap mb sb B) (hd : d.toInt = n) (hn : n ≤ 4) : own_fullf mb sb d = if d < cap then 0 else 1 := by
  obtain ⟨hB, h⟩ := h
  rw [own_ofN hd (by omega)]
  rcases h with ⟨q1, q2, q3, -⟩ | ⟨q1, q2, q3, -⟩ | ⟨q1, q2, q3, -⟩ | ⟨q1, q2, q3⟩
  · rw [q1, q2, q3]
    have : ∀ k : Fin 5, own_fullf 1 1 (Int32.ofNat k.1) = if Int32.ofNat k.1 < 1 then 0 else 1 := by decide +kernel
    exact this ⟨n, by omega⟩
  · rw [q1, q2, q3]
    have : ∀ k : Fin 5, own_fullf 2 2 (Int32.ofNat k.1) = if Int32.ofNat k.1 < 2 then 0 else 1 := by decide +kernel
    exact this ⟨n, by omega⟩
  · rw [q1, q2, q3]
    have : ∀ k : Fin 5, own_fullf 3 3 (Int32.ofNat k.1) = if Int32.ofNat k.1 < 4 then 0 else 1 := by decide +kernel
    exact this ⟨n, by omega⟩
  · rw [q1, own_ofN hB (by omega)]
    have z : ∀ k : Fin 5, Int32.ofNat k.1 < 8 := by decide +kernel
    rw [if_pos (z ⟨n, by omega⟩)]
    by_cases e : mb = Int32.ofNat B
    · rw [e]
      have : ∀ (b : Fin 11) (k : Fin 5), 4 ≤ b.1 → own_fullf (Int32.ofNat b.1) (Int32.ofNat b.1) (Int32.ofNat k.1) = 0 := by decide +kernel
      exact this ⟨B, by omega⟩ ⟨n, by omega⟩ q2
    · unfold own_fullf; first | rw [if_neg (fun r => e r)] | rw [if_neg (fun r => e r.symm)]
theorem own_ngR {cap mb sb d : Int32} {B n : Nat} (h : own_R cap mb sb B) (hd : d.toInt = n) (hn : n ≤ 3) (hlt : d < cap) : ¬ (((1 : Int64) <<< (sb &&& 0x3f).toInt64) / (2 : Int64)) < (d + (1 : Int32)).toInt64 := by
  obtain ⟨hB, h⟩ := h
  rw [own_ofN hd (by omega)] at hlt ⊢
  rcases h with ⟨q1, q2, q3, -⟩ | ⟨q1, q2, q3, -⟩ | ⟨q1, q2, q3, -⟩ | ⟨q1, q2, q3⟩
  · rw [q1] at hlt; rw [q3]
    have : ∀ k : Fin 4, Int32.ofNat k.1 < 1 → ¬ (((1 : Int64) <<< ((1 : Int32) &&& 0x3f).toInt64) / (2 : Int64)) < (Int32.ofNat k.1 + (1 : Int32)).toInt64 := by decide +kernel
    exact this ⟨n, by omega⟩ hlt
  · rw [q1] at hlt; rw [q3]
    have : ∀ k : Fin 4, Int32.ofNat k.1 < 2 → ¬ (((1 : Int64) <<< ((2 : Int32) &&& 0x3f).toInt64) / (2 : Int64)) < (Int32.ofNat k.1 + (1 : Int32)).toInt64 := by decide +kernel
    exact this ⟨n, by omega⟩ hlt
  · rw [q1] at hlt; rw [q3]
    have : ∀ k : Fin 4, Int32.ofNat k.1 < 4 → ¬ (((1 : Int64) <<< ((3 : Int32) &&& 0x3f).toInt64) / (2 : Int64)) < (Int32.ofNat k.1 + (1 : Int32)).toInt64 := by decide +kernel
    exact this ⟨n, by omega⟩ hlt
  · rw [own_ofN hB (by omega)]
    have : ∀ (b : Fin 11) (k : Fin 4), 4 ≤ b.1 → ¬ (((1 : Int64) <<< (Int32.ofNat b.1 &&& 0x3f).toInt64) / (2 : Int64)) < (Int32.ofNat k.1 + (1 : Int32)).toInt64 := by decide +kernel
    exact this ⟨B, by omega⟩ ⟨n, by omega⟩ q2
theorem own_KM {cap mb sb d : Int32} {B n : Nat} (h : own_R cap mb sb B) (hd : d.toInt = n) (hn : n ≤ 3) (hlt : d < cap) : n < 2 ^ B := by
  rw [Int32.lt_iff_toInt_lt, hd] at hlt
  rcases h.2 with ⟨q1, q2, q3, q4⟩ | ⟨q1, q2, q3, q4⟩ | ⟨q1, q2, q3, q4⟩ | ⟨q1, q2, q3⟩
  · rw [q1, show (1 : Int32).toInt = 1 from rfl] at hlt; rw [q4]; omega
  · rw [q1, show (2 : Int32).toInt = 2 from rfl] at hlt; rw [q4]; omega
  · rw [q4]; omega
  · have := Nat.pow_le_pow_right (n := 2) (by omega) q2; omega
theorem own_memF {K : List Int64} {P : Int64 → Prop} {key : Int64} (h : ∀ k, k ∈ K ↔ P k) (hm : key ∈ K) : ∀ k, k ∈ K ↔ (P k ∨ k = key) := fun k => ⟨fun q => Or.inl ((h k).mp q), fun q => q.elim (h k).mpr (fun r => r ▸ hm)⟩
theorem own_memE {K : List Int64} {P : Int64 → Prop} {key : Int64} (h : ∀ k, k ∈ K ↔ P k) : ∀ k, k ∈ key :: K ↔ (P k ∨ k = key) := fun k => by rw [List.mem_cons, h k]; exact Or.comm
theorem own_lenOk {sb : Int32} {B : Nat} (h : sb.toInt = B) (hB : B ≤ 10) : ¬ (2147483648 : Int64) < ((2 : Int64) <<< (sb &&& 0x3f).toInt64) := by
  have := Nat.pow_le_pow_right (n := 2) (by omega) hB
  rw [Int64.lt_iff_toInt_lt, own_len2 h hB, show (2147483648 : Int64).toInt = 2147483648 from rfl]; omega
section OwnPop
variable {tb : Tables} [Ours tb] {e : Env} {below : List Frame} {T target : State} {m : MethodId} {c : Code} {g : JFrame}
theorem own_pop2 (h : At T m c below) (hx : tb.exec = Jvm.exec) (hg : g.method = m) {x : Int64} {rest : List Value} (hd : decode c.code g.pc = .ok (.pop2, 1)) (hs : g.stack = .long x :: rest)
    (hr : Steps tb e below (T.setTop { g with pc := g.pc + 1, stack := rest }) target) : Steps tb e below (T.setTop g) target := by
  subst hg
  jvm_step h [h.top, hx, hd, hs, Value.category]
  exact hr
end OwnPop

theorem own_pn_own_rm0 : plainFor x = true := plainFor_of_name (show plainName "com/example/quotient/quotient/LongTableFullPinLaw" = true by first | (simp [plainName, overriddenIn]; done) | decide +kernel)
set_option maxRecDepth 65536 in
set_option maxHeartbeats 40000000 in
theorem own_rm0 (l : Launch) (Z : State) (a0 : Array Value) (hw : ∀ d ∈ tables_1, d.before a0 Z = true) (ws : List Jvm.Cond) (h0 : Heap) (x0 key0 x2 x3 x4 : Int64) (x5 : Int32)  :
    own_CW l Z x code maxLocals ret ws room_1 #[(.long x0), (.long key0), (.long x2), (.long x3), (.long x4), (.int x5)] h0 (own_Q h0.size (fun v h => v = some (.int 1))) := by
  refine own_metW own_pn_own_rm0 #[jv x0, .second, jv key0, .second, jv x2, .second, jv x3, .second, jv x4, .second, iv x5, .unset, .unset, .unset, .unset, .unset, .unset, .unset, .unset, .unset, .unset, .unset, .unset] (fun m => by first | (simp [entryFrame, mkF, argsToLocals, Value.category, maxLocals]; done) | rfl) ?_
  intro p e s vm0 m below meth c s₁ Fi hx hby hml hown hret hlk hZ hnm hFW hS hk X0 e0
  replace hml : c.maxLocals = 23 := hml
  replace X0 := own_S.of X0 (h0.size)
  have hn : h0.size ≤ h0.size := Nat.le_refl _
  refine own_gs 1 [(.long x0)] (fun t' k => XS.lloadN X0.here hx rfl (hb hby at_0) rfl  k) ?_
  refine X0.callP hx hZ (y := (⟨"com/example/quotient/quotient/LongTableFullPinLaw", "capacity", "(J)I"⟩ : MethodName)) (fr := 0) (lo := 0) (r := (.int (own_capf x0))) hown (hw _ (List.mem_of_getElem? (i := 0) rfl)) (hw _ (List.mem_of_getElem? (i := 1) rfl)) (hw _ (List.mem_of_getElem? (i := 2) rfl)) (hw _ (List.mem_of_getElem? (i := 3) rfl)) (by decide) e0 [(.long x0)] [] (own_rmC l Z a0 hw [] h0 x0) 0 (by decide) (by decide) (Nat.le_of_eq rfl) (by decide) (by decide) (by rw [hml]; rfl) (lenOf own_pd6 rfl) rfl (hb hby at_1) ?_
  intro T1 X1 e1
  refine own_go (mkF m 6 #[jv x0, .second, jv key0, .second, jv x2, .second, jv x3, .second, jv x4, .second, iv x5, iv (own_capf x0), .unset, .unset, .unset, .unset, .unset, .unset, .unset, .unset, .unset, .unset, .unset] []) (fun t' k => XS.istore X1.here hx rfl (hb hby at_4) rfl rfl k) ?_
  obtain ⟨B, hR⟩ := own_rel x0
  have hB := hR.1
  obtain ⟨hB1, hB2⟩ := own_RB hR
  have hP : 2 ^ B ≤ 2 ^ 10 := Nat.pow_le_pow_right (by omega) hB2
  generalize own_capf x0 = cap at hR ⊢
  have hcap := own_Rcap hR
  refine own_gs 7 [(.long key0)] (fun t' k => XS.lloadN X1.here hx rfl (hb hby at_6) rfl  k) ?_
  refine own_go (mkF m 9 #[jv x0, .second, jv key0, .second, jv x2, .second, jv x3, .second, jv x4, .second, iv x5, iv cap, jv key0, .second, .unset, .unset, .unset, .unset, .unset, .unset, .unset, .unset, .unset] []) (fun t' k => XS.lstore X1.here hx rfl (hb hby at_7) rfl rfl k) ?_
  have JK1 : ∀ (key1 : Int64), (True) → own_G p e below Fi T1 (mkF m 23 #[jv x0, .second, jv key0, .second, jv x2, .second, jv x3, .second, jv x4, .second, iv x5, iv cap, jv key0, .second, .unset, .unset, .unset, .unset, .unset, .unset, .unset, .unset, .unset] [(.long key1)]) := by
    intro key1 hJK1
    refine own_go (mkF m 25 #[jv x0, .second, jv key0, .second, jv x2, .second, jv x3, .second, jv x4, .second, iv x5, iv cap, jv key0, .second, jv key1, .second, .unset, .unset, .unset, .unset, .unset, .unset, .unset] []) (fun t' k => XS.lstore X1.here hx rfl (hb hby at_23) rfl rfl k) ?_
    have JK2 : ∀ (key2 : Int64), (True) → own_G p e below Fi T1 (mkF m 39 #[jv x0, .second, jv key0, .second, jv x2, .second, jv x3, .second, jv x4, .second, iv x5, iv cap, jv key0, .second, jv key1, .second, .unset, .unset, .unset, .unset, .unset, .unset, .unset] [(.long key2)]) := by
      intro key2 hJK2
      refine own_go (mkF m 41 #[jv x0, .second, jv key0, .second, jv x2, .second, jv x3, .second, jv x4, .second, iv x5, iv cap, jv key0, .second, jv key1, .second, jv key2, .second, .unset, .unset, .unset, .unset, .unset] []) (fun t' k => XS.lstore X1.here hx rfl (hb hby at_39) rfl rfl k) ?_
      have JK3 : ∀ (key3 : Int64), (True) → own_G p e below Fi T1 (mkF m 55 #[jv x0, .second, jv key0, .second, jv x2, .second, jv x3, .second, jv x4, .second, iv x5, iv cap, jv key0, .second, jv key1, .second, jv key2, .second, .unset, .unset, .unset, .unset, .unset] [(.long key3)]) := by
        intro key3 hJK3
        refine own_go (mkF m 57 #[jv x0, .second, jv key0, .second, jv x2, .second, jv x3, .second, jv x4, .second, iv x5, iv cap, jv key0, .second, jv key1, .second, jv key2, .second, jv key3, .second, .unset, .unset, .unset] []) (fun t' k => XS.lstore X1.here hx rfl (hb hby at_55) rfl rfl k) ?_
        refine X1.newO hx hZ hown (hw _ (List.mem_of_getElem? (i := 6) rfl)) (hw _ (List.mem_of_getElem? (i := 7) rfl)) (hw _ (List.mem_of_getElem? (i := 8) rfl)) e1 (hb hby at_57) (by decide) (by decide) ?_
        intro T2 h2 b2 X2 e2 q2 xt2 E_b2 D2
        have g_b2 : h0.size ≤ b2 := by rw [q2]; exact hn
        replace hn := Nat.le_trans hn xt2.1
        replace hk := Nat.le_trans hk xt2.1
        have F_b2_mostSlotBits : Fld Z h2 b2 "com/example/quotient/quotient/LongTable" "mostSlotBits" "I" (.int (0 : Int32)) := D2 (Or.inr (hw _ (List.mem_of_getElem? (i := 32) rfl))) (ty := .int) (by decide)
        have F_b2_slotBits : Fld Z h2 b2 "com/example/quotient/quotient/LongTable" "slotBits" "I" (.int (0 : Int32)) := D2 (Or.inl (hw _ (List.mem_of_getElem? (i := 34) rfl))) (ty := .int) (by decide)
        have F_b2_slots : Fld Z h2 b2 "com/example/quotient/quotient/LongTable" "slots" "Lcom/example/quotient/quotient/LongArray;" .null := D2 (Or.inl (hw _ (List.mem_of_getElem? (i := 80) rfl))) (ty := (.object "com/example/quotient/quotient/LongArray")) (by decide)
        have F_b2_size : Fld Z h2 b2 "com/example/quotient/quotient/LongTable" "size" "I" (.int (0 : Int32)) := D2 (Or.inl (hw _ (List.mem_of_getElem? (i := 87) rfl))) (ty := .int) (by decide)
        refine own_gs 61 [(.ref b2), (.ref b2)] (fun t' k => XS.dup X2.here hx rfl (hb hby at_60) rfl rfl k) ?_
        refine own_gs 62 [(.long x0), (.ref b2), (.ref b2)] (fun t' k => XS.lloadN X2.here hx rfl (hb hby at_61) rfl  k) ?_
        refine X2.callIW hx hZ (y := (⟨"com/example/quotient/quotient/LongTable", "<init>", "(J)V"⟩ : MethodName)) rfl hown (hw _ (List.mem_of_getElem? (i := 9) rfl)) (hw _ (List.mem_of_getElem? (i := 10) rfl)) (hw _ (List.mem_of_getElem? (i := 8) rfl)) (hw _ (List.mem_of_getElem? (i := 11) rfl)) (by decide) e2 hS hk b2 [(.long x0)] [(.ref b2)] (own_rmTI l Z a0 hw [] h2 h0.size hn b2 g_b2 0 0 x0 (2 * 2 ^ B) (own_lenOk hB hB2) (own_len2 hB hB2) (by omega) E_b2 F_b2_mostSlotBits F_b2_slotBits F_b2_size F_b2_slots) 1 (by decide) (by decide) (Nat.le_of_eq rfl) (by decide) (by decide) (by rw [hml]; rfl) (lenOf own_pd12 rfl) rfl (hb hby at_62) ?_
        have g_t := g_b2
        clear hS hk hZ hown hn
        rintro T3 _ vm3 k3 X3 ⟨la, b, rfl, hab, hbl, g_b, hn, E_t, F_mb, F_sb, F_sz, F_sl, E_la, F_la, A_b⟩ hS hk hZ hown
        have hla : b2 ≠ la := Nat.ne_of_lt (Nat.lt_trans hab hbl)
        have hlb : la ≠ b := Nat.ne_of_gt hbl
        replace hab : b2 ≠ b := Nat.ne_of_lt hab
        have hI0 := own_inv0 (2 ^ B) (own_home B)
        have hd0 : (0 : Int32).toInt = ((([] : List Int64).length : Nat) : Int) := rfl
        have hKl0 : ([] : List Int64).length ≤ 0 := Nat.le_refl _
        have hmem0 : (0 : Int32) < cap → ∀ k, k ∈ ([] : List Int64) ↔ False := fun _ k => ⟨fun q => (by cases q), False.elim⟩
        show own_G p e below Fi T3 (mkF m 65 #[jv x0, .second, jv key0, .second, jv x2, .second, jv x3, .second, jv x4, .second, iv x5, iv cap, jv key0, .second, jv key1, .second, jv key2, .second, jv key3, .second, .unset, .unset, .unset] [(.ref b2)])
        refine own_go (mkF m 67 #[jv x0, .second, jv key0, .second, jv x2, .second, jv x3, .second, jv x4, .second, iv x5, iv cap, jv key0, .second, jv key1, .second, jv key2, .second, jv key3, .second, rv b2, .unset, .unset] []) (fun t' k => XS.astore X3.here hx rfl (hb hby at_65) rfl rfl rfl k) ?_
        refine own_gs 68 [(.int (0 : Int32))] (fun t' k => XS.iconst X3.here hx rfl (hb hby at_67) k) ?_
        refine own_go (mkF m 70 #[jv x0, .second, jv key0, .second, jv x2, .second, jv x3, .second, jv x4, .second, iv x5, iv cap, jv key0, .second, jv key1, .second, jv key2, .second, jv key3, .second, rv b2, iv (0 : Int32), .unset] []) (fun t' k => XS.istore X3.here hx rfl (hb hby at_68) rfl rfl k) ?_
        refine own_gs 72 [(.ref b2)] (fun t' k => XS.aload X3.here hx rfl (hb hby at_70) rfl rfl  k) ?_
        refine X3.callV hx hZ (y := (⟨"com/example/quotient/quotient/LongTable", "full", "()Z"⟩ : MethodName)) (C := "com/example/quotient/quotient/LongTable") hown (hw _ (List.mem_of_getElem? (i := 81) rfl)) (hw _ (List.mem_of_getElem? (i := 82) rfl)) (hw _ (List.mem_of_getElem? (i := 84) rfl)) (hw _ (List.mem_of_getElem? (i := 83) rfl)) (hw _ (List.mem_of_getElem? (i := 8) rfl)) (hw _ (List.mem_of_getElem? (i := 85) rfl)) (by decide) rfl E_t [] [] (own_rmFu l Z a0 hw [] T3.heap h0.size hn b2 (own_mb x0) (own_sb x0) (0 : Int32) E_t F_mb F_sb F_sz) 0 (by decide) (by decide) (Nat.le_of_eq rfl) (by decide) (by decide) (by rw [hml]; rfl) (lenOf own_pd13 rfl) rfl (hb hby at_72) ?_
        rintro T4 _ X4 ⟨rfl, e4⟩
        have hfu0 := own_fullR hR hd0 (Nat.le_trans hKl0 (by decide))
        show own_G p e below Fi T4 (mkF m 75 #[jv x0, .second, jv key0, .second, jv x2, .second, jv x3, .second, jv x4, .second, iv x5, iv cap, jv key0, .second, jv key1, .second, jv key2, .second, jv key3, .second, rv b2, iv (0 : Int32), .unset] [(.int (own_fullf (own_mb x0) (own_sb x0) (0 : Int32)))])
        refine own_gs 77 [(.int (0 : Int32)), (.int (own_fullf (own_mb x0) (own_sb x0) (0 : Int32)))] (fun t' k => XS.iload X4.here hx rfl (hb hby at_75) rfl  k) ?_
        refine own_gs 79 [(.int cap), (.int (0 : Int32)), (.int (own_fullf (own_mb x0) (own_sb x0) (0 : Int32)))] (fun t' k => XS.iload X4.here hx rfl (hb hby at_77) rfl  k) ?_
        refine own_gs 86 [(.int (own_fullf (own_mb x0) (own_sb x0) (0 : Int32)))] (fun t' k => XS.icmpYes X4.here hx rfl (pc0 := 79) (pc' := 86) rfl (hb hby at_79) rfl (tlt hcap).1 (by decide) (by decide) k) ?_
        refine own_gs 87 [(.int (0 : Int32)), (.int (own_fullf (own_mb x0) (own_sb x0) (0 : Int32)))] (fun t' k => XS.iconst X4.here hx rfl (hb hby at_86) k) ?_
        refine own_gs 90 [] (fun t' k => XS.icmpNo X4.here hx rfl (hb hby at_87) rfl (teq (hfu0.trans (if_pos hcap))).2 k) ?_
        refine own_gs 91 [(.int (1 : Int32))] (fun t' k => XS.iconst X4.here hx rfl (hb hby at_90) k) ?_
        refine own_gs 95 [(.int (1 : Int32))] (fun t' k => XS.goto X4.here hx rfl (pc0 := 91) (pc' := 95) rfl (hb hby at_91) (by decide) (by decide) k) ?_
        refine own_go (mkF m 97 #[jv x0, .second, jv key0, .second, jv x2, .second, jv x3, .second, jv x4, .second, iv x5, iv cap, jv key0, .second, jv key1, .second, jv key2, .second, jv key3, .second, rv b2, iv (0 : Int32), iv (1 : Int32)] []) (fun t' k => XS.istore X4.here hx rfl (hb hby at_95) rfl rfl k) ?_
        have L1 : ∀ (k : Nat) (TLL1 : State) (hLL1 : Heap) (d1 : Int32) (f1 : (Nat → Int64)) (K1 : (List Int64)) (XLL1 : own_S p l e room_1 (s.setVm vm3) m #[(.long x0), (.long key0), (.long x2), (.long x3), (.long x4), (.int x5)] below meth c h0.size TLL1 6 2079) (eLL1 : TLL1.heap = hLL1) (hn : h0.size ≤ hLL1.size) (E_t : Exa Z hLL1 b2 "com/example/quotient/quotient/LongTable") (F_mb : Fld Z hLL1 b2 "com/example/quotient/quotient/LongTable" "mostSlotBits" "I" (.int (own_mb x0))) (F_sb : Fld Z hLL1 b2 "com/example/quotient/quotient/LongTable" "slotBits" "I" (.int (own_sb x0))) (F_sz : Fld Z hLL1 b2 "com/example/quotient/quotient/LongTable" "size" "I" (.int d1)) (F_sl : Fld Z hLL1 b2 "com/example/quotient/quotient/LongTable" "slots" "Lcom/example/quotient/quotient/LongArray;" (.ref la)) (E_la : Exa Z hLL1 la "com/example/quotient/quotient/LongArray") (F_la : Fld Z hLL1 la "com/example/quotient/quotient/LongArray" "first" "[J" (.ref b)) (A_b : own_L Z hLL1 b (2 * 2 ^ B) f1) (hI1 : own_Inv (2 ^ B) (own_home B) f1 K1) (hd1 : d1.toInt = ((K1.length : Nat) : Int)) (hKl1 : K1.length ≤ 1) (hmem1 : d1 < cap → ∀ k, k ∈ K1 ↔ (k = key0)) (hkW1 : k3 ≤ hLL1.size) (hk : 0 = k), own_G p e below Fi TLL1 (mkF m 119 #[jv x0, .second, jv key0, .second, jv x2, .second, jv x3, .second, jv x4, .second, iv x5, iv cap, jv key0, .second, jv key1, .second, jv key2, .second, jv key3, .second, rv b2, iv d1, iv (1 : Int32)] []) := by
          intro k
          induction k using Nat.strongRecOn with
          | _ k ihL1 =>
            intro TLL1 hLL1 d1 f1 K1 XLL1 eLL1 hn E_t F_mb F_sb F_sz F_sl E_la F_la A_b hI1 hd1 hKl1 hmem1 hkW1 hk
            refine own_gs 121 [(.int (1 : Int32))] (fun t' k => XS.iload XLL1.here hx rfl (hb hby at_119) rfl  k) ?_
            replace hk := hkW1
            have L2 : ∀ (k : Nat) (TLL2 : State) (hLL2 : Heap) (d2 : Int32) (f2 : (Nat → Int64)) (K2 : (List Int64)) (XLL2 : own_S p l e room_1 (s.setVm vm3) m #[(.long x0), (.long key0), (.long x2), (.long x3), (.long x4), (.int x5)] below meth c h0.size TLL2 6 2079) (eLL2 : TLL2.heap = hLL2) (hn : h0.size ≤ hLL2.size) (E_t : Exa Z hLL2 b2 "com/example/quotient/quotient/LongTable") (F_mb : Fld Z hLL2 b2 "com/example/quotient/quotient/LongTable" "mostSlotBits" "I" (.int (own_mb x0))) (F_sb : Fld Z hLL2 b2 "com/example/quotient/quotient/LongTable" "slotBits" "I" (.int (own_sb x0))) (F_sz : Fld Z hLL2 b2 "com/example/quotient/quotient/LongTable" "size" "I" (.int d2)) (F_sl : Fld Z hLL2 b2 "com/example/quotient/quotient/LongTable" "slots" "Lcom/example/quotient/quotient/LongArray;" (.ref la)) (E_la : Exa Z hLL2 la "com/example/quotient/quotient/LongArray") (F_la : Fld Z hLL2 la "com/example/quotient/quotient/LongArray" "first" "[J" (.ref b)) (A_b : own_L Z hLL2 b (2 * 2 ^ B) f2) (hI2 : own_Inv (2 ^ B) (own_home B) f2 K2) (hd2 : d2.toInt = ((K2.length : Nat) : Int)) (hKl2 : K2.length ≤ 2) (hmem2 : d2 < cap → ∀ k, k ∈ K2 ↔ (k = key0 ∨ k = key1)) (hkW2 : k3 ≤ hLL2.size) (hk : 0 = k), own_G p e below Fi TLL2 (mkF m 181 #[jv x0, .second, jv key0, .second, jv x2, .second, jv x3, .second, jv x4, .second, iv x5, iv cap, jv key0, .second, jv key1, .second, jv key2, .second, jv key3, .second, rv b2, iv d2, iv (1 : Int32)] []) := by
              intro k
              induction k using Nat.strongRecOn with
              | _ k ihL2 =>
                intro TLL2 hLL2 d2 f2 K2 XLL2 eLL2 hn E_t F_mb F_sb F_sz F_sl E_la F_la A_b hI2 hd2 hKl2 hmem2 hkW2 hk
                refine own_gs 183 [(.int (1 : Int32))] (fun t' k => XS.iload XLL2.here hx rfl (hb hby at_181) rfl  k) ?_
                replace hk := hkW2
                have L3 : ∀ (k : Nat) (TLL3 : State) (hLL3 : Heap) (d3 : Int32) (f3 : (Nat → Int64)) (K3 : (List Int64)) (XLL3 : own_S p l e room_1 (s.setVm vm3) m #[(.long x0), (.long key0), (.long x2), (.long x3), (.long x4), (.int x5)] below meth c h0.size TLL3 6 2079) (eLL3 : TLL3.heap = hLL3) (hn : h0.size ≤ hLL3.size) (E_t : Exa Z hLL3 b2 "com/example/quotient/quotient/LongTable") (F_mb : Fld Z hLL3 b2 "com/example/quotient/quotient/LongTable" "mostSlotBits" "I" (.int (own_mb x0))) (F_sb : Fld Z hLL3 b2 "com/example/quotient/quotient/LongTable" "slotBits" "I" (.int (own_sb x0))) (F_sz : Fld Z hLL3 b2 "com/example/quotient/quotient/LongTable" "size" "I" (.int d3)) (F_sl : Fld Z hLL3 b2 "com/example/quotient/quotient/LongTable" "slots" "Lcom/example/quotient/quotient/LongArray;" (.ref la)) (E_la : Exa Z hLL3 la "com/example/quotient/quotient/LongArray") (F_la : Fld Z hLL3 la "com/example/quotient/quotient/LongArray" "first" "[J" (.ref b)) (A_b : own_L Z hLL3 b (2 * 2 ^ B) f3) (hI3 : own_Inv (2 ^ B) (own_home B) f3 K3) (hd3 : d3.toInt = ((K3.length : Nat) : Int)) (hKl3 : K3.length ≤ 3) (hmem3 : d3 < cap → ∀ k, k ∈ K3 ↔ ((k = key0 ∨ k = key1) ∨ k = key2)) (hkW3 : k3 ≤ hLL3.size) (hk : 0 = k), own_G p e below Fi TLL3 (mkF m 251 #[jv x0, .second, jv key0, .second, jv x2, .second, jv x3, .second, jv x4, .second, iv x5, iv cap, jv key0, .second, jv key1, .second, jv key2, .second, jv key3, .second, rv b2, iv d3, iv (1 : Int32)] []) := by
                  intro k
                  induction k using Nat.strongRecOn with
                  | _ k ihL3 =>
                    intro TLL3 hLL3 d3 f3 K3 XLL3 eLL3 hn E_t F_mb F_sb F_sz F_sl E_la F_la A_b hI3 hd3 hKl3 hmem3 hkW3 hk
                    refine own_gs 253 [(.int (1 : Int32))] (fun t' k => XS.iload XLL3.here hx rfl (hb hby at_251) rfl  k) ?_
                    replace hk := hkW3
                    have L4 : ∀ (k : Nat) (TLL4 : State) (hLL4 : Heap) (d4 : Int32) (f4 : (Nat → Int64)) (K4 : (List Int64)) (XLL4 : own_S p l e room_1 (s.setVm vm3) m #[(.long x0), (.long key0), (.long x2), (.long x3), (.long x4), (.int x5)] below meth c h0.size TLL4 6 2079) (eLL4 : TLL4.heap = hLL4) (hn : h0.size ≤ hLL4.size) (E_t : Exa Z hLL4 b2 "com/example/quotient/quotient/LongTable") (F_mb : Fld Z hLL4 b2 "com/example/quotient/quotient/LongTable" "mostSlotBits" "I" (.int (own_mb x0))) (F_sb : Fld Z hLL4 b2 "com/example/quotient/quotient/LongTable" "slotBits" "I" (.int (own_sb x0))) (F_sz : Fld Z hLL4 b2 "com/example/quotient/quotient/LongTable" "size" "I" (.int d4)) (F_sl : Fld Z hLL4 b2 "com/example/quotient/quotient/LongTable" "slots" "Lcom/example/quotient/quotient/LongArray;" (.ref la)) (E_la : Exa Z hLL4 la "com/example/quotient/quotient/LongArray") (F_la : Fld Z hLL4 la "com/example/quotient/quotient/LongArray" "first" "[J" (.ref b)) (A_b : own_L Z hLL4 b (2 * 2 ^ B) f4) (hI4 : own_Inv (2 ^ B) (own_home B) f4 K4) (hd4 : d4.toInt = ((K4.length : Nat) : Int)) (hKl4 : K4.length ≤ 4) (hkW4 : k3 ≤ hLL4.size) (hk : 0 = k), own_G p e below Fi TLL4 (mkF m 329 #[jv x0, .second, jv key0, .second, jv x2, .second, jv x3, .second, jv x4, .second, iv x5, iv cap, jv key0, .second, jv key1, .second, jv key2, .second, jv key3, .second, rv b2, iv d4, iv (1 : Int32)] []) := by
                      intro k
                      induction k using Nat.strongRecOn with
                      | _ k ihL4 =>
                        intro TLL4 hLL4 d4 f4 K4 XLL4 eLL4 hn E_t F_mb F_sb F_sz F_sl E_la F_la A_b hI4 hd4 hKl4 hkW4 hk
                        refine own_gs 331 [(.int (1 : Int32))] (fun t' k => XS.iload XLL4.here hx rfl (hb hby at_329) rfl  k) ?_
                        replace hk := hkW4
                        refine own_gs 334 [] (fun t' k => XS.ifNo XLL4.here hx rfl (hb hby at_331) rfl ((if0 _ _).trans (feq (by decide)).1) k) ?_
                        refine own_gs 336 [(.ref b2)] (fun t' k => XS.aload XLL4.here hx rfl (hb hby at_334) rfl rfl  k) ?_
                        refine XLL4.callV hx hZ (y := (⟨"com/example/quotient/quotient/LongTable", "full", "()Z"⟩ : MethodName)) (C := "com/example/quotient/quotient/LongTable") hown (hw _ (List.mem_of_getElem? (i := 81) rfl)) (hw _ (List.mem_of_getElem? (i := 82) rfl)) (hw _ (List.mem_of_getElem? (i := 84) rfl)) (hw _ (List.mem_of_getElem? (i := 83) rfl)) (hw _ (List.mem_of_getElem? (i := 8) rfl)) (hw _ (List.mem_of_getElem? (i := 85) rfl)) (by decide) eLL4 E_t [] [] (own_rmFu l Z a0 hw [] hLL4 h0.size hn b2 (own_mb x0) (own_sb x0) d4 E_t F_mb F_sb F_sz) 0 (by decide) (by decide) (Nat.le_of_eq rfl) (by decide) (by decide) (by rw [hml]; rfl) (lenOf own_pd13 rfl) rfl (hb hby at_336) ?_
                        rintro T5 _ X5 ⟨rfl, e5⟩
                        have hfu4 := own_fullR hR hd4 (Nat.le_trans hKl4 (by decide))
                        show own_G p e below Fi T5 (mkF m 339 #[jv x0, .second, jv key0, .second, jv x2, .second, jv x3, .second, jv x4, .second, iv x5, iv cap, jv key0, .second, jv key1, .second, jv key2, .second, jv key3, .second, rv b2, iv d4, iv (1 : Int32)] [(.int (own_fullf (own_mb x0) (own_sb x0) d4))])
                        refine own_gs 341 [(.int d4), (.int (own_fullf (own_mb x0) (own_sb x0) d4))] (fun t' k => XS.iload X5.here hx rfl (hb hby at_339) rfl  k) ?_
                        refine own_gs 343 [(.int cap), (.int d4), (.int (own_fullf (own_mb x0) (own_sb x0) d4))] (fun t' k => XS.iload X5.here hx rfl (hb hby at_341) rfl  k) ?_
                        by_cases hc343 : d4 < cap
                        · skip
                          refine own_gs 350 [(.int (own_fullf (own_mb x0) (own_sb x0) d4))] (fun t' k => XS.icmpYes X5.here hx rfl (pc0 := 343) (pc' := 350) rfl (hb hby at_343) rfl (tlt hc343).1 (by decide) (by decide) k) ?_
                          refine own_gs 351 [(.int (0 : Int32)), (.int (own_fullf (own_mb x0) (own_sb x0) d4))] (fun t' k => XS.iconst X5.here hx rfl (hb hby at_350) k) ?_
                          refine own_gs 354 [] (fun t' k => XS.icmpNo X5.here hx rfl (hb hby at_351) rfl (teq (hfu4.trans (if_pos hc343))).2 k) ?_
                          refine own_gs 355 [(.int (1 : Int32))] (fun t' k => XS.iconst X5.here hx rfl (hb hby at_354) k) ?_
                          refine own_gs 359 [(.int (1 : Int32))] (fun t' k => XS.goto X5.here hx rfl (pc0 := 355) (pc' := 359) rfl (hb hby at_355) (by decide) (by decide) k) ?_
                          refine own_gs 361 [] (fun t' k => XS.istore X5.here hx rfl (hb hby at_359) rfl rfl k) ?_
                          refine own_gs 363 [(.int (1 : Int32))] (fun t' k => XS.iload X5.here hx rfl (hb hby at_361) rfl  k) ?_
                          refine X5.retZ (hFW _ _ hS) (by first | exact hk | (rw [e5]; exact hk)) hx hlk hret (hb hby at_363) ?_ (by decide) (by decide)
                          exact rfl
                        · skip
                          refine own_gs 346 [(.int (own_fullf (own_mb x0) (own_sb x0) d4))] (fun t' k => XS.icmpNo X5.here hx rfl (hb hby at_343) rfl (flt hc343).1 k) ?_
                          refine own_gs 347 [(.int (1 : Int32)), (.int (own_fullf (own_mb x0) (own_sb x0) d4))] (fun t' k => XS.iconst X5.here hx rfl (hb hby at_346) k) ?_
                          refine own_gs 351 [(.int (1 : Int32)), (.int (own_fullf (own_mb x0) (own_sb x0) d4))] (fun t' k => XS.goto X5.here hx rfl (pc0 := 347) (pc' := 351) rfl (hb hby at_347) (by decide) (by decide) k) ?_
                          refine own_gs 354 [] (fun t' k => XS.icmpNo X5.here hx rfl (hb hby at_351) rfl (teq (hfu4.trans (if_neg hc343))).2 k) ?_
                          refine own_gs 355 [(.int (1 : Int32))] (fun t' k => XS.iconst X5.here hx rfl (hb hby at_354) k) ?_
                          refine own_gs 359 [(.int (1 : Int32))] (fun t' k => XS.goto X5.here hx rfl (pc0 := 355) (pc' := 359) rfl (hb hby at_355) (by decide) (by decide) k) ?_
                          refine own_gs 361 [] (fun t' k => XS.istore X5.here hx rfl (hb hby at_359) rfl rfl k) ?_
                          refine own_gs 363 [(.int (1 : Int32))] (fun t' k => XS.iload X5.here hx rfl (hb hby at_361) rfl  k) ?_
                          refine X5.retZ (hFW _ _ hS) (by first | exact hk | (rw [e5]; exact hk)) hx hlk hret (hb hby at_363) ?_ (by decide) (by decide)
                          exact rfl
                    refine own_gs 256 [] (fun t' k => XS.ifNo XLL3.here hx rfl (hb hby at_253) rfl ((if0 _ _).trans (feq (by decide)).1) k) ?_
                    refine own_gs 258 [(.ref b2)] (fun t' k => XS.aload XLL3.here hx rfl (hb hby at_256) rfl rfl  k) ?_
                    refine XLL3.callV hx hZ (y := (⟨"com/example/quotient/quotient/LongTable", "full", "()Z"⟩ : MethodName)) (C := "com/example/quotient/quotient/LongTable") hown (hw _ (List.mem_of_getElem? (i := 81) rfl)) (hw _ (List.mem_of_getElem? (i := 82) rfl)) (hw _ (List.mem_of_getElem? (i := 84) rfl)) (hw _ (List.mem_of_getElem? (i := 83) rfl)) (hw _ (List.mem_of_getElem? (i := 8) rfl)) (hw _ (List.mem_of_getElem? (i := 85) rfl)) (by decide) eLL3 E_t [] [] (own_rmFu l Z a0 hw [] hLL3 h0.size hn b2 (own_mb x0) (own_sb x0) d3 E_t F_mb F_sb F_sz) 0 (by decide) (by decide) (Nat.le_of_eq rfl) (by decide) (by decide) (by rw [hml]; rfl) (lenOf own_pd13 rfl) rfl (hb hby at_258) ?_
                    rintro T6 _ X6 ⟨rfl, e6⟩
                    have hfu3 := own_fullR hR hd3 (Nat.le_trans hKl3 (by decide))
                    show own_G p e below Fi T6 (mkF m 261 #[jv x0, .second, jv key0, .second, jv x2, .second, jv x3, .second, jv x4, .second, iv x5, iv cap, jv key0, .second, jv key1, .second, jv key2, .second, jv key3, .second, rv b2, iv d3, iv (1 : Int32)] [(.int (own_fullf (own_mb x0) (own_sb x0) d3))])
                    refine own_gs 263 [(.int d3), (.int (own_fullf (own_mb x0) (own_sb x0) d3))] (fun t' k => XS.iload X6.here hx rfl (hb hby at_261) rfl  k) ?_
                    refine own_gs 265 [(.int cap), (.int d3), (.int (own_fullf (own_mb x0) (own_sb x0) d3))] (fun t' k => XS.iload X6.here hx rfl (hb hby at_263) rfl  k) ?_
                    by_cases hc265 : d3 < cap
                    · skip
                      refine own_gs 272 [(.int (own_fullf (own_mb x0) (own_sb x0) d3))] (fun t' k => XS.icmpYes X6.here hx rfl (pc0 := 265) (pc' := 272) rfl (hb hby at_265) rfl (tlt hc265).1 (by decide) (by decide) k) ?_
                      refine own_gs 273 [(.int (0 : Int32)), (.int (own_fullf (own_mb x0) (own_sb x0) d3))] (fun t' k => XS.iconst X6.here hx rfl (hb hby at_272) k) ?_
                      refine own_gs 276 [] (fun t' k => XS.icmpNo X6.here hx rfl (hb hby at_273) rfl (teq (hfu3.trans (if_pos hc265))).2 k) ?_
                      refine own_gs 277 [(.int (1 : Int32))] (fun t' k => XS.iconst X6.here hx rfl (hb hby at_276) k) ?_
                      refine own_gs 281 [(.int (1 : Int32))] (fun t' k => XS.goto X6.here hx rfl (pc0 := 277) (pc' := 281) rfl (hb hby at_277) (by decide) (by decide) k) ?_
                      refine own_gs 283 [] (fun t' k => XS.istore X6.here hx rfl (hb hby at_281) rfl rfl k) ?_
                      refine own_gs 285 [(.int d3)] (fun t' k => XS.iload X6.here hx rfl (hb hby at_283) rfl  k) ?_
                      refine own_gs 287 [(.int cap), (.int d3)] (fun t' k => XS.iload X6.here hx rfl (hb hby at_285) rfl  k) ?_
                      refine own_gs 290 [] (fun t' k => XS.icmpNo X6.here hx rfl (hb hby at_287) rfl (tlt hc265).2.1 k) ?_
                      by_cases hm3 : key3 ∈ K3
                      · skip
                        obtain ⟨J3, hJ3, hocc3, hkey3, hns3⟩ := hI3.2.1 _ hm3
                        refine own_gs 292 [(.ref b2)] (fun t' k => XS.aload X6.here hx rfl (hb hby at_290) rfl rfl  k) ?_
                        refine own_gs 294 [(.long key3), (.ref b2)] (fun t' k => XS.lload X6.here hx rfl (hb hby at_292) rfl  k) ?_
                        refine own_gs 295 [(.long (1 : Int64)), (.long key3), (.ref b2)] (fun t' k => XS.lconst X6.here hx rfl (hb hby at_294) k) ?_
                        refine X6.callV hx hZ (y := (⟨"com/example/quotient/quotient/LongTable", "putIfAbsent", "(JJ)J"⟩ : MethodName)) (C := "com/example/quotient/quotient/LongTable") hown (hw _ (List.mem_of_getElem? (i := 88) rfl)) (hw _ (List.mem_of_getElem? (i := 89) rfl)) (hw _ (List.mem_of_getElem? (i := 91) rfl)) (hw _ (List.mem_of_getElem? (i := 90) rfl)) (hw _ (List.mem_of_getElem? (i := 8) rfl)) (hw _ (List.mem_of_getElem? (i := 92) rfl)) (by decide) e6 E_t [(.long key3), (.long (1 : Int64))] [] (own_rmPF l Z a0 hw [] hLL3 h0.size hn b2 la b hla hab hlb g_t g_b (own_sb x0) B hB hB1 hB2 key3 f3 J3 hns3 A_b E_la F_la hocc3 hkey3 1 (own_mb x0) d3 E_t F_mb F_sb F_sz F_sl) 0 (by decide) (by decide) (Nat.le_of_eq rfl) (by decide) (by decide) (by rw [hml]; rfl) (lenOf own_pd1 rfl) rfl (hb hby at_295) ?_
                        rintro T7 _ X7 ⟨⟨z7, rfl⟩, e7⟩
                        show own_G p e below Fi T7 (mkF m 298 #[jv x0, .second, jv key0, .second, jv x2, .second, jv x3, .second, jv x4, .second, iv x5, iv cap, jv key0, .second, jv key1, .second, jv key2, .second, jv key3, .second, rv b2, iv d3, iv (1 : Int32)] [(.long z7)])
                        refine own_gs 299 [] (fun t' k => own_pop2 X7.here hx rfl (hb hby at_298) rfl k) ?_
                        refine own_gs 301 [(.long key3)] (fun t' k => XS.lload X7.here hx rfl (hb hby at_299) rfl  k) ?_
                        refine own_gs 303 [(.long key0), (.long key3)] (fun t' k => XS.lload X7.here hx rfl (hb hby at_301) rfl  k) ?_
                        refine own_gs 304 [(.int (lcmpW key3 key0))] (fun t' k => XS.lcmp X7.here hx rfl (hb hby at_303) rfl k) ?_
                        by_cases hc304 : key3 = key0
                        · skip
                          refine own_gs 329 [] (fun t' k => XS.ifYes X7.here hx rfl (pc0 := 304) (pc' := 329) rfl (hb hby at_304) rfl ((if0 _ _).trans (teq ((lw_eq key3 key0).mpr hc304)).1) (by decide) (by decide) k) ?_
                          exact L4 _ T7 hLL3 (d3) f3 K3 (X7.more (by decide) (by decide)) e7 hn E_t F_mb F_sb F_sz F_sl E_la F_la A_b hI3 hd3 (Nat.le_succ_of_le hKl3) hk rfl
                        · skip
                          refine own_gs 307 [] (fun t' k => XS.ifNo X7.here hx rfl (hb hby at_304) rfl ((if0 _ _).trans (feq (fun q' => hc304 ((lw_eq key3 key0).mp q'))).1) k) ?_
                          refine own_gs 309 [(.long key3)] (fun t' k => XS.lload X7.here hx rfl (hb hby at_307) rfl  k) ?_
                          refine own_gs 311 [(.long key1), (.long key3)] (fun t' k => XS.lload X7.here hx rfl (hb hby at_309) rfl  k) ?_
                          refine own_gs 312 [(.int (lcmpW key3 key1))] (fun t' k => XS.lcmp X7.here hx rfl (hb hby at_311) rfl k) ?_
                          by_cases hc312 : key3 = key1
                          · skip
                            refine own_gs 329 [] (fun t' k => XS.ifYes X7.here hx rfl (pc0 := 312) (pc' := 329) rfl (hb hby at_312) rfl ((if0 _ _).trans (teq ((lw_eq key3 key1).mpr hc312)).1) (by decide) (by decide) k) ?_
                            exact L4 _ T7 hLL3 (d3) f3 K3 (X7.more (by decide) (by decide)) e7 hn E_t F_mb F_sb F_sz F_sl E_la F_la A_b hI3 hd3 (Nat.le_succ_of_le hKl3) hk rfl
                          · skip
                            refine own_gs 315 [] (fun t' k => XS.ifNo X7.here hx rfl (hb hby at_312) rfl ((if0 _ _).trans (feq (fun q' => hc312 ((lw_eq key3 key1).mp q'))).1) k) ?_
                            refine own_gs 317 [(.long key3)] (fun t' k => XS.lload X7.here hx rfl (hb hby at_315) rfl  k) ?_
                            refine own_gs 319 [(.long key2), (.long key3)] (fun t' k => XS.lload X7.here hx rfl (hb hby at_317) rfl  k) ?_
                            refine own_gs 320 [(.int (lcmpW key3 key2))] (fun t' k => XS.lcmp X7.here hx rfl (hb hby at_319) rfl k) ?_
                            refine own_gs 329 [] (fun t' k => XS.ifYes X7.here hx rfl (pc0 := 320) (pc' := 329) rfl (hb hby at_320) rfl ((if0 _ _).trans (teq ((lw_eq key3 key2).mpr (((hmem3 hc265 _).mp hm3).resolve_left (fun q => q.elim hc304 hc312)))).1) (by decide) (by decide) k) ?_
                            exact L4 _ T7 hLL3 (d3) f3 K3 (X7.more (by decide) (by decide)) e7 hn E_t F_mb F_sb F_sz F_sl E_la F_la A_b hI3 hd3 (Nat.le_succ_of_le hKl3) hk rfl
                      · skip
                        obtain ⟨J3, hJ3, h0f3, hns3⟩ := own_absent hI3 hm3 (own_KM hR hd3 (Nat.le_trans hKl3 (by decide)) hc265)
                        have hI3' := own_insert hI3 (v := 1) (by decide) hJ3 rfl h0f3 hns3
                        refine own_gs 292 [(.ref b2)] (fun t' k => XS.aload X6.here hx rfl (hb hby at_290) rfl rfl  k) ?_
                        refine own_gs 294 [(.long key3), (.ref b2)] (fun t' k => XS.lload X6.here hx rfl (hb hby at_292) rfl  k) ?_
                        refine own_gs 295 [(.long (1 : Int64)), (.long key3), (.ref b2)] (fun t' k => XS.lconst X6.here hx rfl (hb hby at_294) k) ?_
                        refine X6.callV hx hZ (y := (⟨"com/example/quotient/quotient/LongTable", "putIfAbsent", "(JJ)J"⟩ : MethodName)) (C := "com/example/quotient/quotient/LongTable") hown (hw _ (List.mem_of_getElem? (i := 88) rfl)) (hw _ (List.mem_of_getElem? (i := 89) rfl)) (hw _ (List.mem_of_getElem? (i := 91) rfl)) (hw _ (List.mem_of_getElem? (i := 90) rfl)) (hw _ (List.mem_of_getElem? (i := 8) rfl)) (hw _ (List.mem_of_getElem? (i := 92) rfl)) (by decide) e6 E_t [(.long key3), (.long (1 : Int64))] [] (own_rmPE l Z a0 hw [] hLL3 h0.size hn b2 la b hla hab hlb g_t g_b (own_sb x0) B hB hB1 hB2 key3 f3 J3 hns3 A_b E_la F_la h0f3 1 (own_mb x0) d3 (own_ngR hR hd3 (Nat.le_trans hKl3 (by decide)) hc265) E_t F_mb F_sb F_sz F_sl) 0 (by decide) (by decide) (Nat.le_of_eq rfl) (by decide) (by decide) (by rw [hml]; rfl) (lenOf own_pd1 rfl) rfl (hb hby at_295) ?_
                        clear F_mb F_sb F_sz F_sl
                        rintro T8 _ X8 ⟨⟨z8, rfl⟩, K8', E_t, F_mb, F_sb, F_sz, F_sl, A8⟩
                        replace A_b := A8
                        replace E_la := E_la.keep K8'
                        replace F_la := F_la.keep K8' (ninS (Ne.symm hla) (ninS hlb nin0))
                        replace hn := Nat.le_trans hn K8'.1
                        replace hk := Nat.le_trans hk K8'.1
                        show own_G p e below Fi T8 (mkF m 298 #[jv x0, .second, jv key0, .second, jv x2, .second, jv x3, .second, jv x4, .second, iv x5, iv cap, jv key0, .second, jv key1, .second, jv key2, .second, jv key3, .second, rv b2, iv d3, iv (1 : Int32)] [(.long z8)])
                        refine own_gs 299 [] (fun t' k => own_pop2 X8.here hx rfl (hb hby at_298) rfl k) ?_
                        refine own_gs 301 [(.long key3)] (fun t' k => XS.lload X8.here hx rfl (hb hby at_299) rfl  k) ?_
                        refine own_gs 303 [(.long key0), (.long key3)] (fun t' k => XS.lload X8.here hx rfl (hb hby at_301) rfl  k) ?_
                        refine own_gs 304 [(.int (lcmpW key3 key0))] (fun t' k => XS.lcmp X8.here hx rfl (hb hby at_303) rfl k) ?_
                        refine own_gs 307 [] (fun t' k => XS.ifNo X8.here hx rfl (hb hby at_304) rfl ((if0 _ _).trans (feq (fun q' => (fun q => hm3 ((hmem3 hc265 _).mpr (Or.inl (Or.inl q)))) ((lw_eq key3 key0).mp q'))).1) k) ?_
                        refine own_gs 309 [(.long key3)] (fun t' k => XS.lload X8.here hx rfl (hb hby at_307) rfl  k) ?_
                        refine own_gs 311 [(.long key1), (.long key3)] (fun t' k => XS.lload X8.here hx rfl (hb hby at_309) rfl  k) ?_
                        refine own_gs 312 [(.int (lcmpW key3 key1))] (fun t' k => XS.lcmp X8.here hx rfl (hb hby at_311) rfl k) ?_
                        refine own_gs 315 [] (fun t' k => XS.ifNo X8.here hx rfl (hb hby at_312) rfl ((if0 _ _).trans (feq (fun q' => (fun q => hm3 ((hmem3 hc265 _).mpr (Or.inl (Or.inr q)))) ((lw_eq key3 key1).mp q'))).1) k) ?_
                        refine own_gs 317 [(.long key3)] (fun t' k => XS.lload X8.here hx rfl (hb hby at_315) rfl  k) ?_
                        refine own_gs 319 [(.long key2), (.long key3)] (fun t' k => XS.lload X8.here hx rfl (hb hby at_317) rfl  k) ?_
                        refine own_gs 320 [(.int (lcmpW key3 key2))] (fun t' k => XS.lcmp X8.here hx rfl (hb hby at_319) rfl k) ?_
                        refine own_gs 323 [] (fun t' k => XS.ifNo X8.here hx rfl (hb hby at_320) rfl ((if0 _ _).trans (feq (fun q' => (fun q => hm3 ((hmem3 hc265 _).mpr (Or.inr q))) ((lw_eq key3 key2).mp q'))).1) k) ?_
                        refine own_gs 325 [(.int d3)] (fun t' k => XS.iload X8.here hx rfl (hb hby at_323) rfl  k) ?_
                        refine own_gs 326 [(.int (1 : Int32)), (.int d3)] (fun t' k => XS.iconst X8.here hx rfl (hb hby at_325) k) ?_
                        refine own_gs 327 [(.int (d3 + (1 : Int32)))] (fun t' k => XS.iadd X8.here hx rfl (hb hby at_326) rfl k) ?_
                        refine own_go (mkF m 329 #[jv x0, .second, jv key0, .second, jv x2, .second, jv x3, .second, jv x4, .second, iv x5, iv cap, jv key0, .second, jv key1, .second, jv key2, .second, jv key3, .second, rv b2, iv (d3 + (1 : Int32)), iv (1 : Int32)] []) (fun t' k => XS.istore X8.here hx rfl (hb hby at_327) rfl rfl k) ?_
                        exact L4 _ T8 T8.heap ((d3 + (1 : Int32))) (own_up (own_up f3 (2 * ((own_home B key3 + J3) % 2 ^ B)) key3) (2 * ((own_home B key3 + J3) % 2 ^ B) + 1) 1) (key3 :: K3) (X8.more (by decide) (by decide)) rfl hn E_t F_mb F_sb F_sz F_sl E_la F_la A_b hI3' (own_i1 hd3 (by omega)) (Nat.succ_le_succ hKl3) hk rfl
                    · skip
                      refine own_gs 268 [(.int (own_fullf (own_mb x0) (own_sb x0) d3))] (fun t' k => XS.icmpNo X6.here hx rfl (hb hby at_265) rfl (flt hc265).1 k) ?_
                      refine own_gs 269 [(.int (1 : Int32)), (.int (own_fullf (own_mb x0) (own_sb x0) d3))] (fun t' k => XS.iconst X6.here hx rfl (hb hby at_268) k) ?_
                      refine own_gs 273 [(.int (1 : Int32)), (.int (own_fullf (own_mb x0) (own_sb x0) d3))] (fun t' k => XS.goto X6.here hx rfl (pc0 := 269) (pc' := 273) rfl (hb hby at_269) (by decide) (by decide) k) ?_
                      refine own_gs 276 [] (fun t' k => XS.icmpNo X6.here hx rfl (hb hby at_273) rfl (teq (hfu3.trans (if_neg hc265))).2 k) ?_
                      refine own_gs 277 [(.int (1 : Int32))] (fun t' k => XS.iconst X6.here hx rfl (hb hby at_276) k) ?_
                      refine own_gs 281 [(.int (1 : Int32))] (fun t' k => XS.goto X6.here hx rfl (pc0 := 277) (pc' := 281) rfl (hb hby at_277) (by decide) (by decide) k) ?_
                      refine own_gs 283 [] (fun t' k => XS.istore X6.here hx rfl (hb hby at_281) rfl rfl k) ?_
                      refine own_gs 285 [(.int d3)] (fun t' k => XS.iload X6.here hx rfl (hb hby at_283) rfl  k) ?_
                      refine own_gs 287 [(.int cap), (.int d3)] (fun t' k => XS.iload X6.here hx rfl (hb hby at_285) rfl  k) ?_
                      refine own_gs 329 [] (fun t' k => XS.icmpYes X6.here hx rfl (pc0 := 287) (pc' := 329) rfl (hb hby at_287) rfl (flt hc265).2.1 (by decide) (by decide) k) ?_
                      exact L4 _ T6 hLL3 (d3) f3 K3 (X6.more (by decide) (by decide)) e6 hn E_t F_mb F_sb F_sz F_sl E_la F_la A_b hI3 hd3 (Nat.le_succ_of_le hKl3) hk rfl
                refine own_gs 186 [] (fun t' k => XS.ifNo XLL2.here hx rfl (hb hby at_183) rfl ((if0 _ _).trans (feq (by decide)).1) k) ?_
                refine own_gs 188 [(.ref b2)] (fun t' k => XS.aload XLL2.here hx rfl (hb hby at_186) rfl rfl  k) ?_
                refine XLL2.callV hx hZ (y := (⟨"com/example/quotient/quotient/LongTable", "full", "()Z"⟩ : MethodName)) (C := "com/example/quotient/quotient/LongTable") hown (hw _ (List.mem_of_getElem? (i := 81) rfl)) (hw _ (List.mem_of_getElem? (i := 82) rfl)) (hw _ (List.mem_of_getElem? (i := 84) rfl)) (hw _ (List.mem_of_getElem? (i := 83) rfl)) (hw _ (List.mem_of_getElem? (i := 8) rfl)) (hw _ (List.mem_of_getElem? (i := 85) rfl)) (by decide) eLL2 E_t [] [] (own_rmFu l Z a0 hw [] hLL2 h0.size hn b2 (own_mb x0) (own_sb x0) d2 E_t F_mb F_sb F_sz) 0 (by decide) (by decide) (Nat.le_of_eq rfl) (by decide) (by decide) (by rw [hml]; rfl) (lenOf own_pd13 rfl) rfl (hb hby at_188) ?_
                rintro T9 _ X9 ⟨rfl, e9⟩
                have hfu2 := own_fullR hR hd2 (Nat.le_trans hKl2 (by decide))
                show own_G p e below Fi T9 (mkF m 191 #[jv x0, .second, jv key0, .second, jv x2, .second, jv x3, .second, jv x4, .second, iv x5, iv cap, jv key0, .second, jv key1, .second, jv key2, .second, jv key3, .second, rv b2, iv d2, iv (1 : Int32)] [(.int (own_fullf (own_mb x0) (own_sb x0) d2))])
                refine own_gs 193 [(.int d2), (.int (own_fullf (own_mb x0) (own_sb x0) d2))] (fun t' k => XS.iload X9.here hx rfl (hb hby at_191) rfl  k) ?_
                refine own_gs 195 [(.int cap), (.int d2), (.int (own_fullf (own_mb x0) (own_sb x0) d2))] (fun t' k => XS.iload X9.here hx rfl (hb hby at_193) rfl  k) ?_
                by_cases hc195 : d2 < cap
                · skip
                  refine own_gs 202 [(.int (own_fullf (own_mb x0) (own_sb x0) d2))] (fun t' k => XS.icmpYes X9.here hx rfl (pc0 := 195) (pc' := 202) rfl (hb hby at_195) rfl (tlt hc195).1 (by decide) (by decide) k) ?_
                  refine own_gs 203 [(.int (0 : Int32)), (.int (own_fullf (own_mb x0) (own_sb x0) d2))] (fun t' k => XS.iconst X9.here hx rfl (hb hby at_202) k) ?_
                  refine own_gs 206 [] (fun t' k => XS.icmpNo X9.here hx rfl (hb hby at_203) rfl (teq (hfu2.trans (if_pos hc195))).2 k) ?_
                  refine own_gs 207 [(.int (1 : Int32))] (fun t' k => XS.iconst X9.here hx rfl (hb hby at_206) k) ?_
                  refine own_gs 211 [(.int (1 : Int32))] (fun t' k => XS.goto X9.here hx rfl (pc0 := 207) (pc' := 211) rfl (hb hby at_207) (by decide) (by decide) k) ?_
                  refine own_gs 213 [] (fun t' k => XS.istore X9.here hx rfl (hb hby at_211) rfl rfl k) ?_
                  refine own_gs 215 [(.int d2)] (fun t' k => XS.iload X9.here hx rfl (hb hby at_213) rfl  k) ?_
                  refine own_gs 217 [(.int cap), (.int d2)] (fun t' k => XS.iload X9.here hx rfl (hb hby at_215) rfl  k) ?_
                  refine own_gs 220 [] (fun t' k => XS.icmpNo X9.here hx rfl (hb hby at_217) rfl (tlt hc195).2.1 k) ?_
                  by_cases hm2 : key2 ∈ K2
                  · skip
                    obtain ⟨J2, hJ2, hocc2, hkey2, hns2⟩ := hI2.2.1 _ hm2
                    refine own_gs 222 [(.ref b2)] (fun t' k => XS.aload X9.here hx rfl (hb hby at_220) rfl rfl  k) ?_
                    refine own_gs 224 [(.long key2), (.ref b2)] (fun t' k => XS.lload X9.here hx rfl (hb hby at_222) rfl  k) ?_
                    refine own_gs 225 [(.long (1 : Int64)), (.long key2), (.ref b2)] (fun t' k => XS.lconst X9.here hx rfl (hb hby at_224) k) ?_
                    refine X9.callV hx hZ (y := (⟨"com/example/quotient/quotient/LongTable", "putIfAbsent", "(JJ)J"⟩ : MethodName)) (C := "com/example/quotient/quotient/LongTable") hown (hw _ (List.mem_of_getElem? (i := 88) rfl)) (hw _ (List.mem_of_getElem? (i := 89) rfl)) (hw _ (List.mem_of_getElem? (i := 91) rfl)) (hw _ (List.mem_of_getElem? (i := 90) rfl)) (hw _ (List.mem_of_getElem? (i := 8) rfl)) (hw _ (List.mem_of_getElem? (i := 92) rfl)) (by decide) e9 E_t [(.long key2), (.long (1 : Int64))] [] (own_rmPF l Z a0 hw [] hLL2 h0.size hn b2 la b hla hab hlb g_t g_b (own_sb x0) B hB hB1 hB2 key2 f2 J2 hns2 A_b E_la F_la hocc2 hkey2 1 (own_mb x0) d2 E_t F_mb F_sb F_sz F_sl) 0 (by decide) (by decide) (Nat.le_of_eq rfl) (by decide) (by decide) (by rw [hml]; rfl) (lenOf own_pd1 rfl) rfl (hb hby at_225) ?_
                    rintro T10 _ X10 ⟨⟨z10, rfl⟩, e10⟩
                    show own_G p e below Fi T10 (mkF m 228 #[jv x0, .second, jv key0, .second, jv x2, .second, jv x3, .second, jv x4, .second, iv x5, iv cap, jv key0, .second, jv key1, .second, jv key2, .second, jv key3, .second, rv b2, iv d2, iv (1 : Int32)] [(.long z10)])
                    refine own_gs 229 [] (fun t' k => own_pop2 X10.here hx rfl (hb hby at_228) rfl k) ?_
                    refine own_gs 231 [(.long key2)] (fun t' k => XS.lload X10.here hx rfl (hb hby at_229) rfl  k) ?_
                    refine own_gs 233 [(.long key0), (.long key2)] (fun t' k => XS.lload X10.here hx rfl (hb hby at_231) rfl  k) ?_
                    refine own_gs 234 [(.int (lcmpW key2 key0))] (fun t' k => XS.lcmp X10.here hx rfl (hb hby at_233) rfl k) ?_
                    by_cases hc234 : key2 = key0
                    · skip
                      refine own_gs 251 [] (fun t' k => XS.ifYes X10.here hx rfl (pc0 := 234) (pc' := 251) rfl (hb hby at_234) rfl ((if0 _ _).trans (teq ((lw_eq key2 key0).mpr hc234)).1) (by decide) (by decide) k) ?_
                      exact L3 _ T10 hLL2 (d2) f2 K2 (X10.more (by decide) (by decide)) e10 hn E_t F_mb F_sb F_sz F_sl E_la F_la A_b hI2 hd2 (Nat.le_succ_of_le hKl2) (fun _ => own_memF (hmem2 hc195) hm2) hk rfl
                    · skip
                      refine own_gs 237 [] (fun t' k => XS.ifNo X10.here hx rfl (hb hby at_234) rfl ((if0 _ _).trans (feq (fun q' => hc234 ((lw_eq key2 key0).mp q'))).1) k) ?_
                      refine own_gs 239 [(.long key2)] (fun t' k => XS.lload X10.here hx rfl (hb hby at_237) rfl  k) ?_
                      refine own_gs 241 [(.long key1), (.long key2)] (fun t' k => XS.lload X10.here hx rfl (hb hby at_239) rfl  k) ?_
                      refine own_gs 242 [(.int (lcmpW key2 key1))] (fun t' k => XS.lcmp X10.here hx rfl (hb hby at_241) rfl k) ?_
                      refine own_gs 251 [] (fun t' k => XS.ifYes X10.here hx rfl (pc0 := 242) (pc' := 251) rfl (hb hby at_242) rfl ((if0 _ _).trans (teq ((lw_eq key2 key1).mpr (((hmem2 hc195 _).mp hm2).resolve_left hc234))).1) (by decide) (by decide) k) ?_
                      exact L3 _ T10 hLL2 (d2) f2 K2 (X10.more (by decide) (by decide)) e10 hn E_t F_mb F_sb F_sz F_sl E_la F_la A_b hI2 hd2 (Nat.le_succ_of_le hKl2) (fun _ => own_memF (hmem2 hc195) hm2) hk rfl
                  · skip
                    obtain ⟨J2, hJ2, h0f2, hns2⟩ := own_absent hI2 hm2 (own_KM hR hd2 (Nat.le_trans hKl2 (by decide)) hc195)
                    have hI2' := own_insert hI2 (v := 1) (by decide) hJ2 rfl h0f2 hns2
                    refine own_gs 222 [(.ref b2)] (fun t' k => XS.aload X9.here hx rfl (hb hby at_220) rfl rfl  k) ?_
                    refine own_gs 224 [(.long key2), (.ref b2)] (fun t' k => XS.lload X9.here hx rfl (hb hby at_222) rfl  k) ?_
                    refine own_gs 225 [(.long (1 : Int64)), (.long key2), (.ref b2)] (fun t' k => XS.lconst X9.here hx rfl (hb hby at_224) k) ?_
                    refine X9.callV hx hZ (y := (⟨"com/example/quotient/quotient/LongTable", "putIfAbsent", "(JJ)J"⟩ : MethodName)) (C := "com/example/quotient/quotient/LongTable") hown (hw _ (List.mem_of_getElem? (i := 88) rfl)) (hw _ (List.mem_of_getElem? (i := 89) rfl)) (hw _ (List.mem_of_getElem? (i := 91) rfl)) (hw _ (List.mem_of_getElem? (i := 90) rfl)) (hw _ (List.mem_of_getElem? (i := 8) rfl)) (hw _ (List.mem_of_getElem? (i := 92) rfl)) (by decide) e9 E_t [(.long key2), (.long (1 : Int64))] [] (own_rmPE l Z a0 hw [] hLL2 h0.size hn b2 la b hla hab hlb g_t g_b (own_sb x0) B hB hB1 hB2 key2 f2 J2 hns2 A_b E_la F_la h0f2 1 (own_mb x0) d2 (own_ngR hR hd2 (Nat.le_trans hKl2 (by decide)) hc195) E_t F_mb F_sb F_sz F_sl) 0 (by decide) (by decide) (Nat.le_of_eq rfl) (by decide) (by decide) (by rw [hml]; rfl) (lenOf own_pd1 rfl) rfl (hb hby at_225) ?_
                    clear F_mb F_sb F_sz F_sl
                    rintro T11 _ X11 ⟨⟨z11, rfl⟩, K11', E_t, F_mb, F_sb, F_sz, F_sl, A11⟩
                    replace A_b := A11
                    replace E_la := E_la.keep K11'
                    replace F_la := F_la.keep K11' (ninS (Ne.symm hla) (ninS hlb nin0))
                    replace hn := Nat.le_trans hn K11'.1
                    replace hk := Nat.le_trans hk K11'.1
                    show own_G p e below Fi T11 (mkF m 228 #[jv x0, .second, jv key0, .second, jv x2, .second, jv x3, .second, jv x4, .second, iv x5, iv cap, jv key0, .second, jv key1, .second, jv key2, .second, jv key3, .second, rv b2, iv d2, iv (1 : Int32)] [(.long z11)])
                    refine own_gs 229 [] (fun t' k => own_pop2 X11.here hx rfl (hb hby at_228) rfl k) ?_
                    refine own_gs 231 [(.long key2)] (fun t' k => XS.lload X11.here hx rfl (hb hby at_229) rfl  k) ?_
                    refine own_gs 233 [(.long key0), (.long key2)] (fun t' k => XS.lload X11.here hx rfl (hb hby at_231) rfl  k) ?_
                    refine own_gs 234 [(.int (lcmpW key2 key0))] (fun t' k => XS.lcmp X11.here hx rfl (hb hby at_233) rfl k) ?_
                    refine own_gs 237 [] (fun t' k => XS.ifNo X11.here hx rfl (hb hby at_234) rfl ((if0 _ _).trans (feq (fun q' => (fun q => hm2 ((hmem2 hc195 _).mpr (Or.inl q))) ((lw_eq key2 key0).mp q'))).1) k) ?_
                    refine own_gs 239 [(.long key2)] (fun t' k => XS.lload X11.here hx rfl (hb hby at_237) rfl  k) ?_
                    refine own_gs 241 [(.long key1), (.long key2)] (fun t' k => XS.lload X11.here hx rfl (hb hby at_239) rfl  k) ?_
                    refine own_gs 242 [(.int (lcmpW key2 key1))] (fun t' k => XS.lcmp X11.here hx rfl (hb hby at_241) rfl k) ?_
                    refine own_gs 245 [] (fun t' k => XS.ifNo X11.here hx rfl (hb hby at_242) rfl ((if0 _ _).trans (feq (fun q' => (fun q => hm2 ((hmem2 hc195 _).mpr (Or.inr q))) ((lw_eq key2 key1).mp q'))).1) k) ?_
                    refine own_gs 247 [(.int d2)] (fun t' k => XS.iload X11.here hx rfl (hb hby at_245) rfl  k) ?_
                    refine own_gs 248 [(.int (1 : Int32)), (.int d2)] (fun t' k => XS.iconst X11.here hx rfl (hb hby at_247) k) ?_
                    refine own_gs 249 [(.int (d2 + (1 : Int32)))] (fun t' k => XS.iadd X11.here hx rfl (hb hby at_248) rfl k) ?_
                    refine own_go (mkF m 251 #[jv x0, .second, jv key0, .second, jv x2, .second, jv x3, .second, jv x4, .second, iv x5, iv cap, jv key0, .second, jv key1, .second, jv key2, .second, jv key3, .second, rv b2, iv (d2 + (1 : Int32)), iv (1 : Int32)] []) (fun t' k => XS.istore X11.here hx rfl (hb hby at_249) rfl rfl k) ?_
                    exact L3 _ T11 T11.heap ((d2 + (1 : Int32))) (own_up (own_up f2 (2 * ((own_home B key2 + J2) % 2 ^ B)) key2) (2 * ((own_home B key2 + J2) % 2 ^ B) + 1) 1) (key2 :: K2) (X11.more (by decide) (by decide)) rfl hn E_t F_mb F_sb F_sz F_sl E_la F_la A_b hI2' (own_i1 hd2 (by omega)) (Nat.succ_le_succ hKl2) (fun _ => own_memE (hmem2 hc195)) hk rfl
                · skip
                  refine own_gs 198 [(.int (own_fullf (own_mb x0) (own_sb x0) d2))] (fun t' k => XS.icmpNo X9.here hx rfl (hb hby at_195) rfl (flt hc195).1 k) ?_
                  refine own_gs 199 [(.int (1 : Int32)), (.int (own_fullf (own_mb x0) (own_sb x0) d2))] (fun t' k => XS.iconst X9.here hx rfl (hb hby at_198) k) ?_
                  refine own_gs 203 [(.int (1 : Int32)), (.int (own_fullf (own_mb x0) (own_sb x0) d2))] (fun t' k => XS.goto X9.here hx rfl (pc0 := 199) (pc' := 203) rfl (hb hby at_199) (by decide) (by decide) k) ?_
                  refine own_gs 206 [] (fun t' k => XS.icmpNo X9.here hx rfl (hb hby at_203) rfl (teq (hfu2.trans (if_neg hc195))).2 k) ?_
                  refine own_gs 207 [(.int (1 : Int32))] (fun t' k => XS.iconst X9.here hx rfl (hb hby at_206) k) ?_
                  refine own_gs 211 [(.int (1 : Int32))] (fun t' k => XS.goto X9.here hx rfl (pc0 := 207) (pc' := 211) rfl (hb hby at_207) (by decide) (by decide) k) ?_
                  refine own_gs 213 [] (fun t' k => XS.istore X9.here hx rfl (hb hby at_211) rfl rfl k) ?_
                  refine own_gs 215 [(.int d2)] (fun t' k => XS.iload X9.here hx rfl (hb hby at_213) rfl  k) ?_
                  refine own_gs 217 [(.int cap), (.int d2)] (fun t' k => XS.iload X9.here hx rfl (hb hby at_215) rfl  k) ?_
                  refine own_gs 251 [] (fun t' k => XS.icmpYes X9.here hx rfl (pc0 := 217) (pc' := 251) rfl (hb hby at_217) rfl (flt hc195).2.1 (by decide) (by decide) k) ?_
                  exact L3 _ T9 hLL2 (d2) f2 K2 (X9.more (by decide) (by decide)) e9 hn E_t F_mb F_sb F_sz F_sl E_la F_la A_b hI2 hd2 (Nat.le_succ_of_le hKl2) (fun q => absurd q hc195) hk rfl
            refine own_gs 124 [] (fun t' k => XS.ifNo XLL1.here hx rfl (hb hby at_121) rfl ((if0 _ _).trans (feq (by decide)).1) k) ?_
            refine own_gs 126 [(.ref b2)] (fun t' k => XS.aload XLL1.here hx rfl (hb hby at_124) rfl rfl  k) ?_
            refine XLL1.callV hx hZ (y := (⟨"com/example/quotient/quotient/LongTable", "full", "()Z"⟩ : MethodName)) (C := "com/example/quotient/quotient/LongTable") hown (hw _ (List.mem_of_getElem? (i := 81) rfl)) (hw _ (List.mem_of_getElem? (i := 82) rfl)) (hw _ (List.mem_of_getElem? (i := 84) rfl)) (hw _ (List.mem_of_getElem? (i := 83) rfl)) (hw _ (List.mem_of_getElem? (i := 8) rfl)) (hw _ (List.mem_of_getElem? (i := 85) rfl)) (by decide) eLL1 E_t [] [] (own_rmFu l Z a0 hw [] hLL1 h0.size hn b2 (own_mb x0) (own_sb x0) d1 E_t F_mb F_sb F_sz) 0 (by decide) (by decide) (Nat.le_of_eq rfl) (by decide) (by decide) (by rw [hml]; rfl) (lenOf own_pd13 rfl) rfl (hb hby at_126) ?_
            rintro T12 _ X12 ⟨rfl, e12⟩
            have hfu1 := own_fullR hR hd1 (Nat.le_trans hKl1 (by decide))
            show own_G p e below Fi T12 (mkF m 129 #[jv x0, .second, jv key0, .second, jv x2, .second, jv x3, .second, jv x4, .second, iv x5, iv cap, jv key0, .second, jv key1, .second, jv key2, .second, jv key3, .second, rv b2, iv d1, iv (1 : Int32)] [(.int (own_fullf (own_mb x0) (own_sb x0) d1))])
            refine own_gs 131 [(.int d1), (.int (own_fullf (own_mb x0) (own_sb x0) d1))] (fun t' k => XS.iload X12.here hx rfl (hb hby at_129) rfl  k) ?_
            refine own_gs 133 [(.int cap), (.int d1), (.int (own_fullf (own_mb x0) (own_sb x0) d1))] (fun t' k => XS.iload X12.here hx rfl (hb hby at_131) rfl  k) ?_
            by_cases hc133 : d1 < cap
            · skip
              refine own_gs 140 [(.int (own_fullf (own_mb x0) (own_sb x0) d1))] (fun t' k => XS.icmpYes X12.here hx rfl (pc0 := 133) (pc' := 140) rfl (hb hby at_133) rfl (tlt hc133).1 (by decide) (by decide) k) ?_
              refine own_gs 141 [(.int (0 : Int32)), (.int (own_fullf (own_mb x0) (own_sb x0) d1))] (fun t' k => XS.iconst X12.here hx rfl (hb hby at_140) k) ?_
              refine own_gs 144 [] (fun t' k => XS.icmpNo X12.here hx rfl (hb hby at_141) rfl (teq (hfu1.trans (if_pos hc133))).2 k) ?_
              refine own_gs 145 [(.int (1 : Int32))] (fun t' k => XS.iconst X12.here hx rfl (hb hby at_144) k) ?_
              refine own_gs 149 [(.int (1 : Int32))] (fun t' k => XS.goto X12.here hx rfl (pc0 := 145) (pc' := 149) rfl (hb hby at_145) (by decide) (by decide) k) ?_
              refine own_gs 151 [] (fun t' k => XS.istore X12.here hx rfl (hb hby at_149) rfl rfl k) ?_
              refine own_gs 153 [(.int d1)] (fun t' k => XS.iload X12.here hx rfl (hb hby at_151) rfl  k) ?_
              refine own_gs 155 [(.int cap), (.int d1)] (fun t' k => XS.iload X12.here hx rfl (hb hby at_153) rfl  k) ?_
              refine own_gs 158 [] (fun t' k => XS.icmpNo X12.here hx rfl (hb hby at_155) rfl (tlt hc133).2.1 k) ?_
              by_cases hm1 : key1 ∈ K1
              · skip
                obtain ⟨J1, hJ1, hocc1, hkey1, hns1⟩ := hI1.2.1 _ hm1
                refine own_gs 160 [(.ref b2)] (fun t' k => XS.aload X12.here hx rfl (hb hby at_158) rfl rfl  k) ?_
                refine own_gs 162 [(.long key1), (.ref b2)] (fun t' k => XS.lload X12.here hx rfl (hb hby at_160) rfl  k) ?_
                refine own_gs 163 [(.long (1 : Int64)), (.long key1), (.ref b2)] (fun t' k => XS.lconst X12.here hx rfl (hb hby at_162) k) ?_
                refine X12.callV hx hZ (y := (⟨"com/example/quotient/quotient/LongTable", "putIfAbsent", "(JJ)J"⟩ : MethodName)) (C := "com/example/quotient/quotient/LongTable") hown (hw _ (List.mem_of_getElem? (i := 88) rfl)) (hw _ (List.mem_of_getElem? (i := 89) rfl)) (hw _ (List.mem_of_getElem? (i := 91) rfl)) (hw _ (List.mem_of_getElem? (i := 90) rfl)) (hw _ (List.mem_of_getElem? (i := 8) rfl)) (hw _ (List.mem_of_getElem? (i := 92) rfl)) (by decide) e12 E_t [(.long key1), (.long (1 : Int64))] [] (own_rmPF l Z a0 hw [] hLL1 h0.size hn b2 la b hla hab hlb g_t g_b (own_sb x0) B hB hB1 hB2 key1 f1 J1 hns1 A_b E_la F_la hocc1 hkey1 1 (own_mb x0) d1 E_t F_mb F_sb F_sz F_sl) 0 (by decide) (by decide) (Nat.le_of_eq rfl) (by decide) (by decide) (by rw [hml]; rfl) (lenOf own_pd1 rfl) rfl (hb hby at_163) ?_
                rintro T13 _ X13 ⟨⟨z13, rfl⟩, e13⟩
                show own_G p e below Fi T13 (mkF m 166 #[jv x0, .second, jv key0, .second, jv x2, .second, jv x3, .second, jv x4, .second, iv x5, iv cap, jv key0, .second, jv key1, .second, jv key2, .second, jv key3, .second, rv b2, iv d1, iv (1 : Int32)] [(.long z13)])
                refine own_gs 167 [] (fun t' k => own_pop2 X13.here hx rfl (hb hby at_166) rfl k) ?_
                refine own_gs 169 [(.long key1)] (fun t' k => XS.lload X13.here hx rfl (hb hby at_167) rfl  k) ?_
                refine own_gs 171 [(.long key0), (.long key1)] (fun t' k => XS.lload X13.here hx rfl (hb hby at_169) rfl  k) ?_
                refine own_gs 172 [(.int (lcmpW key1 key0))] (fun t' k => XS.lcmp X13.here hx rfl (hb hby at_171) rfl k) ?_
                refine own_gs 181 [] (fun t' k => XS.ifYes X13.here hx rfl (pc0 := 172) (pc' := 181) rfl (hb hby at_172) rfl ((if0 _ _).trans (teq ((lw_eq key1 key0).mpr ((hmem1 hc133 _).mp hm1))).1) (by decide) (by decide) k) ?_
                exact L2 _ T13 hLL1 (d1) f1 K1 (X13.more (by decide) (by decide)) e13 hn E_t F_mb F_sb F_sz F_sl E_la F_la A_b hI1 hd1 (Nat.le_succ_of_le hKl1) (fun _ => own_memF (hmem1 hc133) hm1) hk rfl
              · skip
                obtain ⟨J1, hJ1, h0f1, hns1⟩ := own_absent hI1 hm1 (own_KM hR hd1 (Nat.le_trans hKl1 (by decide)) hc133)
                have hI1' := own_insert hI1 (v := 1) (by decide) hJ1 rfl h0f1 hns1
                refine own_gs 160 [(.ref b2)] (fun t' k => XS.aload X12.here hx rfl (hb hby at_158) rfl rfl  k) ?_
                refine own_gs 162 [(.long key1), (.ref b2)] (fun t' k => XS.lload X12.here hx rfl (hb hby at_160) rfl  k) ?_
                refine own_gs 163 [(.long (1 : Int64)), (.long key1), (.ref b2)] (fun t' k => XS.lconst X12.here hx rfl (hb hby at_162) k) ?_
                refine X12.callV hx hZ (y := (⟨"com/example/quotient/quotient/LongTable", "putIfAbsent", "(JJ)J"⟩ : MethodName)) (C := "com/example/quotient/quotient/LongTable") hown (hw _ (List.mem_of_getElem? (i := 88) rfl)) (hw _ (List.mem_of_getElem? (i := 89) rfl)) (hw _ (List.mem_of_getElem? (i := 91) rfl)) (hw _ (List.mem_of_getElem? (i := 90) rfl)) (hw _ (List.mem_of_getElem? (i := 8) rfl)) (hw _ (List.mem_of_getElem? (i := 92) rfl)) (by decide) e12 E_t [(.long key1), (.long (1 : Int64))] [] (own_rmPE l Z a0 hw [] hLL1 h0.size hn b2 la b hla hab hlb g_t g_b (own_sb x0) B hB hB1 hB2 key1 f1 J1 hns1 A_b E_la F_la h0f1 1 (own_mb x0) d1 (own_ngR hR hd1 (Nat.le_trans hKl1 (by decide)) hc133) E_t F_mb F_sb F_sz F_sl) 0 (by decide) (by decide) (Nat.le_of_eq rfl) (by decide) (by decide) (by rw [hml]; rfl) (lenOf own_pd1 rfl) rfl (hb hby at_163) ?_
                clear F_mb F_sb F_sz F_sl
                rintro T14 _ X14 ⟨⟨z14, rfl⟩, K14', E_t, F_mb, F_sb, F_sz, F_sl, A14⟩
                replace A_b := A14
                replace E_la := E_la.keep K14'
                replace F_la := F_la.keep K14' (ninS (Ne.symm hla) (ninS hlb nin0))
                replace hn := Nat.le_trans hn K14'.1
                replace hk := Nat.le_trans hk K14'.1
                show own_G p e below Fi T14 (mkF m 166 #[jv x0, .second, jv key0, .second, jv x2, .second, jv x3, .second, jv x4, .second, iv x5, iv cap, jv key0, .second, jv key1, .second, jv key2, .second, jv key3, .second, rv b2, iv d1, iv (1 : Int32)] [(.long z14)])
                refine own_gs 167 [] (fun t' k => own_pop2 X14.here hx rfl (hb hby at_166) rfl k) ?_
                refine own_gs 169 [(.long key1)] (fun t' k => XS.lload X14.here hx rfl (hb hby at_167) rfl  k) ?_
                refine own_gs 171 [(.long key0), (.long key1)] (fun t' k => XS.lload X14.here hx rfl (hb hby at_169) rfl  k) ?_
                refine own_gs 172 [(.int (lcmpW key1 key0))] (fun t' k => XS.lcmp X14.here hx rfl (hb hby at_171) rfl k) ?_
                refine own_gs 175 [] (fun t' k => XS.ifNo X14.here hx rfl (hb hby at_172) rfl ((if0 _ _).trans (feq (fun q' => (fun q => hm1 ((hmem1 hc133 _).mpr q)) ((lw_eq key1 key0).mp q'))).1) k) ?_
                refine own_gs 177 [(.int d1)] (fun t' k => XS.iload X14.here hx rfl (hb hby at_175) rfl  k) ?_
                refine own_gs 178 [(.int (1 : Int32)), (.int d1)] (fun t' k => XS.iconst X14.here hx rfl (hb hby at_177) k) ?_
                refine own_gs 179 [(.int (d1 + (1 : Int32)))] (fun t' k => XS.iadd X14.here hx rfl (hb hby at_178) rfl k) ?_
                refine own_go (mkF m 181 #[jv x0, .second, jv key0, .second, jv x2, .second, jv x3, .second, jv x4, .second, iv x5, iv cap, jv key0, .second, jv key1, .second, jv key2, .second, jv key3, .second, rv b2, iv (d1 + (1 : Int32)), iv (1 : Int32)] []) (fun t' k => XS.istore X14.here hx rfl (hb hby at_179) rfl rfl k) ?_
                exact L2 _ T14 T14.heap ((d1 + (1 : Int32))) (own_up (own_up f1 (2 * ((own_home B key1 + J1) % 2 ^ B)) key1) (2 * ((own_home B key1 + J1) % 2 ^ B) + 1) 1) (key1 :: K1) (X14.more (by decide) (by decide)) rfl hn E_t F_mb F_sb F_sz F_sl E_la F_la A_b hI1' (own_i1 hd1 (by omega)) (Nat.succ_le_succ hKl1) (fun _ => own_memE (hmem1 hc133)) hk rfl
            · skip
              refine own_gs 136 [(.int (own_fullf (own_mb x0) (own_sb x0) d1))] (fun t' k => XS.icmpNo X12.here hx rfl (hb hby at_133) rfl (flt hc133).1 k) ?_
              refine own_gs 137 [(.int (1 : Int32)), (.int (own_fullf (own_mb x0) (own_sb x0) d1))] (fun t' k => XS.iconst X12.here hx rfl (hb hby at_136) k) ?_
              refine own_gs 141 [(.int (1 : Int32)), (.int (own_fullf (own_mb x0) (own_sb x0) d1))] (fun t' k => XS.goto X12.here hx rfl (pc0 := 137) (pc' := 141) rfl (hb hby at_137) (by decide) (by decide) k) ?_
              refine own_gs 144 [] (fun t' k => XS.icmpNo X12.here hx rfl (hb hby at_141) rfl (teq (hfu1.trans (if_neg hc133))).2 k) ?_
              refine own_gs 145 [(.int (1 : Int32))] (fun t' k => XS.iconst X12.here hx rfl (hb hby at_144) k) ?_
              refine own_gs 149 [(.int (1 : Int32))] (fun t' k => XS.goto X12.here hx rfl (pc0 := 145) (pc' := 149) rfl (hb hby at_145) (by decide) (by decide) k) ?_
              refine own_gs 151 [] (fun t' k => XS.istore X12.here hx rfl (hb hby at_149) rfl rfl k) ?_
              refine own_gs 153 [(.int d1)] (fun t' k => XS.iload X12.here hx rfl (hb hby at_151) rfl  k) ?_
              refine own_gs 155 [(.int cap), (.int d1)] (fun t' k => XS.iload X12.here hx rfl (hb hby at_153) rfl  k) ?_
              refine own_gs 181 [] (fun t' k => XS.icmpYes X12.here hx rfl (pc0 := 155) (pc' := 181) rfl (hb hby at_155) rfl (flt hc133).2.1 (by decide) (by decide) k) ?_
              exact L2 _ T12 hLL1 (d1) f1 K1 (X12.more (by decide) (by decide)) e12 hn E_t F_mb F_sb F_sz F_sl E_la F_la A_b hI1 hd1 (Nat.le_succ_of_le hKl1) (fun q => absurd q hc133) hk rfl
        refine own_gs 99 [(.int (0 : Int32))] (fun t' k => XS.iload X4.here hx rfl (hb hby at_97) rfl  k) ?_
        refine own_gs 101 [(.int cap), (.int (0 : Int32))] (fun t' k => XS.iload X4.here hx rfl (hb hby at_99) rfl  k) ?_
        refine own_gs 104 [] (fun t' k => XS.icmpNo X4.here hx rfl (hb hby at_101) rfl (tlt hcap).2.1 k) ?_
        have hm0 : key0 ∉ ([] : List Int64) := List.not_mem_nil
        obtain ⟨J0, hJ0, h0f0, hns0⟩ := own_absent hI0 hm0 (own_KM hR hd0 (Nat.le_trans hKl0 (by decide)) hcap)
        have hI0' := own_insert hI0 (v := 1) (by decide) hJ0 rfl h0f0 hns0
        refine own_gs 106 [(.ref b2)] (fun t' k => XS.aload X4.here hx rfl (hb hby at_104) rfl rfl  k) ?_
        refine own_gs 108 [(.long key0), (.ref b2)] (fun t' k => XS.lload X4.here hx rfl (hb hby at_106) rfl  k) ?_
        refine own_gs 109 [(.long (1 : Int64)), (.long key0), (.ref b2)] (fun t' k => XS.lconst X4.here hx rfl (hb hby at_108) k) ?_
        refine X4.callV hx hZ (y := (⟨"com/example/quotient/quotient/LongTable", "putIfAbsent", "(JJ)J"⟩ : MethodName)) (C := "com/example/quotient/quotient/LongTable") hown (hw _ (List.mem_of_getElem? (i := 88) rfl)) (hw _ (List.mem_of_getElem? (i := 89) rfl)) (hw _ (List.mem_of_getElem? (i := 91) rfl)) (hw _ (List.mem_of_getElem? (i := 90) rfl)) (hw _ (List.mem_of_getElem? (i := 8) rfl)) (hw _ (List.mem_of_getElem? (i := 92) rfl)) (by decide) e4 E_t [(.long key0), (.long (1 : Int64))] [] (own_rmPE l Z a0 hw [] T3.heap h0.size hn b2 la b hla hab hlb g_t g_b (own_sb x0) B hB hB1 hB2 key0 (fun _ => 0) J0 hns0 A_b E_la F_la h0f0 1 (own_mb x0) (0 : Int32) (own_ngR hR hd0 (Nat.le_trans hKl0 (by decide)) hcap) E_t F_mb F_sb F_sz F_sl) 0 (by decide) (by decide) (Nat.le_of_eq rfl) (by decide) (by decide) (by rw [hml]; rfl) (lenOf own_pd1 rfl) rfl (hb hby at_109) ?_
        clear F_mb F_sb F_sz F_sl
        rintro T15 _ X15 ⟨⟨z15, rfl⟩, K15', E_t, F_mb, F_sb, F_sz, F_sl, A15⟩
        replace A_b := A15
        replace E_la := E_la.keep K15'
        replace F_la := F_la.keep K15' (ninS (Ne.symm hla) (ninS hlb nin0))
        replace hn := Nat.le_trans hn K15'.1
        replace hk := Nat.le_trans hk K15'.1
        replace F_sz : Fld Z T15.heap b2 "com/example/quotient/quotient/LongTable" "size" "I" (.int (1 : Int32)) := F_sz
        show own_G p e below Fi T15 (mkF m 112 #[jv x0, .second, jv key0, .second, jv x2, .second, jv x3, .second, jv x4, .second, iv x5, iv cap, jv key0, .second, jv key1, .second, jv key2, .second, jv key3, .second, rv b2, iv (0 : Int32), iv (1 : Int32)] [(.long z15)])
        refine own_gs 113 [] (fun t' k => own_pop2 X15.here hx rfl (hb hby at_112) rfl k) ?_
        refine own_gs 115 [(.int (0 : Int32))] (fun t' k => XS.iload X15.here hx rfl (hb hby at_113) rfl  k) ?_
        refine own_gs 116 [(.int (1 : Int32)), (.int (0 : Int32))] (fun t' k => XS.iconst X15.here hx rfl (hb hby at_115) k) ?_
        refine own_gs 117 [(.int (1 : Int32))] (fun t' k => XS.iadd X15.here hx rfl (hb hby at_116) rfl k) ?_
        refine own_go (mkF m 119 #[jv x0, .second, jv key0, .second, jv x2, .second, jv x3, .second, jv x4, .second, iv x5, iv cap, jv key0, .second, jv key1, .second, jv key2, .second, jv key3, .second, rv b2, iv (1 : Int32), iv (1 : Int32)] []) (fun t' k => XS.istore X15.here hx rfl (hb hby at_117) rfl rfl k) ?_
        exact L1 _ T15 T15.heap ((1 : Int32)) (own_up (own_up (fun _ => 0) (2 * ((own_home B key0 + J0) % 2 ^ B)) key0) (2 * ((own_home B key0 + J0) % 2 ^ B) + 1) 1) (key0 :: ([] : List Int64)) (X15.more (by decide) (by decide)) rfl hn E_t F_mb F_sb F_sz F_sl E_la F_la A_b hI0' rfl (Nat.succ_le_succ hKl0) (fun _ k => (own_memE (P := fun _ => False) (hmem0 hcap) k).trans ⟨fun q => q.elim False.elim id, Or.inr⟩) hk rfl
      refine own_gs 43 [(.int x5)] (fun t' k => XS.iload X1.here hx rfl (hb hby at_41) rfl  k) ?_
      refine own_gs 44 [(.int (4 : Int32)), (.int x5)] (fun t' k => XS.iconst X1.here hx rfl (hb hby at_43) k) ?_
      refine own_gs 45 [(.int (x5 &&& (4 : Int32)))] (fun t' k => XS.iand X1.here hx rfl (hb hby at_44) rfl k) ?_
      by_cases hc45 : (x5 &&& (4 : Int32)) = (0 : Int32)
      · skip
        refine own_gs 53 [] (fun t' k => XS.ifYes X1.here hx rfl (pc0 := 45) (pc' := 53) rfl (hb hby at_45) rfl ((if0 _ _).trans (teq hc45).1) (by decide) (by decide) k) ?_
        refine own_gs 55 [(.long x4)] (fun t' k => XS.lload X1.here hx rfl (hb hby at_53) rfl  k) ?_
        exact JK3 (x4) trivial
      · skip
        refine own_gs 48 [] (fun t' k => XS.ifNo X1.here hx rfl (hb hby at_45) rfl ((if0 _ _).trans (feq hc45).1) k) ?_
        refine own_gs 50 [(.long key0)] (fun t' k => XS.lload X1.here hx rfl (hb hby at_48) rfl  k) ?_
        refine own_gs 55 [(.long key0)] (fun t' k => XS.goto X1.here hx rfl (pc0 := 50) (pc' := 55) rfl (hb hby at_50) (by decide) (by decide) k) ?_
        exact JK3 (key0) trivial
    refine own_gs 27 [(.int x5)] (fun t' k => XS.iload X1.here hx rfl (hb hby at_25) rfl  k) ?_
    refine own_gs 28 [(.int (2 : Int32)), (.int x5)] (fun t' k => XS.iconst X1.here hx rfl (hb hby at_27) k) ?_
    refine own_gs 29 [(.int (x5 &&& (2 : Int32)))] (fun t' k => XS.iand X1.here hx rfl (hb hby at_28) rfl k) ?_
    by_cases hc29 : (x5 &&& (2 : Int32)) = (0 : Int32)
    · skip
      refine own_gs 37 [] (fun t' k => XS.ifYes X1.here hx rfl (pc0 := 29) (pc' := 37) rfl (hb hby at_29) rfl ((if0 _ _).trans (teq hc29).1) (by decide) (by decide) k) ?_
      refine own_gs 39 [(.long x3)] (fun t' k => XS.lload X1.here hx rfl (hb hby at_37) rfl  k) ?_
      exact JK2 (x3) trivial
    · skip
      refine own_gs 32 [] (fun t' k => XS.ifNo X1.here hx rfl (hb hby at_29) rfl ((if0 _ _).trans (feq hc29).1) k) ?_
      refine own_gs 34 [(.long key1)] (fun t' k => XS.lload X1.here hx rfl (hb hby at_32) rfl  k) ?_
      refine own_gs 39 [(.long key1)] (fun t' k => XS.goto X1.here hx rfl (pc0 := 34) (pc' := 39) rfl (hb hby at_34) (by decide) (by decide) k) ?_
      exact JK2 (key1) trivial
  refine own_gs 11 [(.int x5)] (fun t' k => XS.iload X1.here hx rfl (hb hby at_9) rfl  k) ?_
  refine own_gs 12 [(.int (1 : Int32)), (.int x5)] (fun t' k => XS.iconst X1.here hx rfl (hb hby at_11) k) ?_
  refine own_gs 13 [(.int (x5 &&& (1 : Int32)))] (fun t' k => XS.iand X1.here hx rfl (hb hby at_12) rfl k) ?_
  by_cases hc13 : (x5 &&& (1 : Int32)) = (0 : Int32)
  · skip
    refine own_gs 21 [] (fun t' k => XS.ifYes X1.here hx rfl (pc0 := 13) (pc' := 21) rfl (hb hby at_13) rfl ((if0 _ _).trans (teq hc13).1) (by decide) (by decide) k) ?_
    refine own_gs 23 [(.long x2)] (fun t' k => XS.lload X1.here hx rfl (hb hby at_21) rfl  k) ?_
    exact JK1 (x2) trivial
  · skip
    refine own_gs 16 [] (fun t' k => XS.ifNo X1.here hx rfl (hb hby at_13) rfl ((if0 _ _).trans (feq hc13).1) k) ?_
    refine own_gs 18 [(.long key0)] (fun t' k => XS.lload X1.here hx rfl (hb hby at_16) rfl  k) ?_
    refine own_gs 23 [(.long key0)] (fun t' k => XS.goto X1.here hx rfl (pc0 := 18) (pc' := 23) rfl (hb hby at_18) (by decide) (by decide) k) ?_
    exact JK1 (key0) trivial

set_option maxRecDepth 65536 in
set_option maxHeartbeats 40000000 in
theorem comes_1 {Post : Tables → Env → Array Value → State → Outcome → State → Prop} (hpost : ∀ tb e args s v u, (limb_1_1.after args s (.returned v) u = true ∧ limb_1_2.after args s (.returned v) u = true ∧ True) → ReturnedEndW s (.returned v) u (Jvm.fieldLocs frame_1_writes args s ++ Jvm.arrayLocs frame_1_arrays args s ++ Jvm.staticLocs frame_1_statics s) 24 5248 → Post tb e args s (.returned v) u) :
    ArmFor flags0 classFile x code maxLocals ret World_1 tables_1 room_1 Calls_1 rest_1 Pre_1 Post := by
  intro l hfl _ _ p e ha hc hk s m args below hf hA hF happ hP
  obtain ⟨hcalls, hrest, hpre⟩ := hP
  obtain ⟨-, -, -, hnamed, -, -, -, hat⟩ := (Spec.applies_iff hf).mp happ
  obtain ⟨hg, hn⟩ := and_e (Cond.before_iff.mp (show (Jvm.Cond.and given_1 narrow_1).before args s = true from hpre))
  obtain ⟨g1, g2⟩ := and_e hg
  obtain ⟨g3, g4⟩ := and_e g2
  obtain ⟨g5, g6⟩ := and_e g4
  obtain ⟨g7, g8⟩ := and_e g6
  obtain ⟨g9, g10⟩ := and_e g8
  obtain ⟨g11, g12⟩ := and_e g10
  obtain ⟨w0, w1, w2, w3, w4, w5, rfl⟩ : ∃ w0 w1 w2 w3 w4 w5 : Value, args = #[w0, w1, w2, w3, w4, w5] := by
    have hs : args.size = 6 := by simpa [Cond.value, given_1] using g1
    obtain ⟨L⟩ := args
    match L, hs with
    | [w0, w1, w2, w3, w4, w5], _ => exact ⟨w0, w1, w2, w3, w4, w5, rfl⟩
  have hw := fun d (hd : d ∈ tables_1) => atoms_spec (ws := Jvm.Cond.code x code maxLocals ret :: tables_1) hat d (List.mem_cons_of_mem _ hd)
  obtain ⟨i0, ei0⟩ := isL_v g3
  obtain rfl : w0 = (.long i0) := Option.some.inj ei0
  obtain ⟨i1, ei1⟩ := isL_v g5
  obtain rfl : w1 = (.long i1) := Option.some.inj ei1
  obtain ⟨i2, ei2⟩ := isL_v g7
  obtain rfl : w2 = (.long i2) := Option.some.inj ei2
  obtain ⟨i3, ei3⟩ := isL_v g9
  obtain rfl : w3 = (.long i3) := Option.some.inj ei3
  obtain ⟨i4, ei4⟩ := isL_v g11
  obtain rfl : w4 = (.long i4) := Option.some.inj ei4
  obtain ⟨i5, ei5⟩ := is_v g12
  obtain rfl : w5 = (.int i5) := Option.some.inj ei5
  obtain ⟨n, o, h1, h2, h3, _, L, rfl, ⟨N, rfl⟩, hq⟩ := own_rm0 l s _ hw tables_1 s.heap i0 i1 i2 i3 i4 i5  p e ha hc hk s m _ below hf ((Spec.applies_iff_loose hf).mp happ).1 ⟨rfl, State.Warmed39.refl s, rfl⟩ trivial
  refine ⟨n, _, h1, h2, h3, hpost _ _ _ _ _ _ ⟨Cond.after_iff.mpr rfl, Cond.after_iff.mpr (eq_i res_at (Term.int_eval (1)) rfl), trivial⟩ ⟨hq.1, hq.2.1, hq.2.2.1, (hq.2.2.2.sift fun y hy => Or.inr (N y hy)).mono (by decide) (by decide)⟩⟩
theorem main_1_1 : Claimed_1_1 := comes_1 fun _ _ _ _ _ _ h hF => ⟨h.1, hF⟩
theorem main_1_2 : Claimed_1_2 := comes_1 fun _ _ _ _ _ _ h hF => ⟨h.2.1, hF⟩
end Jvm.Pilot.@@N@@
namespace Jvm.Pilot.@@N@@
open Jvm Jvm.ClassFile Sem Op Lib Jvm.Free Jvm.Stand Jvm.Pilot.@@N@@.Jvm.D
/-! MADE BY PROGRAM (witnessworld.py) out of the Statement's table words and the real class files: 22 classes; the members and pool entries that the words name. The judged class is class 1, her method 2. -/
namespace start1
open Jvm.ClassFile
def u (s : String) : CpInfo := .utf8 (stringToUtf16 s)
/-- a pool by its gaps: so many unusable entries, then the entry; so many at the end -/
def gap : Nat → List CpInfo → List CpInfo
  | 0, r => r
  | n + 1, r => .unusable :: gap n r
def poolList (es : List (Nat × CpInfo)) (last : Nat) : List CpInfo := es.foldr (fun e r => gap e.1 (e.2 :: r)) (gap last [])
def pool (es : List (Nat × CpInfo)) (last : Nat) : Array CpInfo := ⟨poolList es last⟩
def fileOf (pool : Array CpInfo) (this : Nat) (attrs : Array Attribute := #[]) (ms : Array MethodInfo := #[]) (fl : Nat := 33) (sup : Nat := 0) (ifs : Array Nat := #[]) (fds : Array FieldInfo := #[]) : ClassFile where
  minorVersion := 0
  majorVersion := 65
  constantPool := pool
  accessFlags := fl
  thisClass := this
  superClass := sup
  interfaces := ifs
  fields := fds
  methods := ms
  attributes := attrs
def plain (name : String) (sup : Option ClassId) : Class where
  name := name
  kind := .ordinary
  loader := none
  accessFlags := 33
  super := sup
  interfaces := #[]
  cf := none
  fields := #[]
  methods := #[]
  instanceTypes := #[]
  staticTypes := #[]
  resolved := #[]
  callSites := []
  init := .initialized
  statics := none
  mirror := none

def pool0 : Array CpInfo := pool [(5, u "<init>"), (0, u "()V"), (1, .class_ 10), (1, u "java/lang/Object")] 113

def k0c0 : Code := { maxStack := 0, maxLocals := 1, code := object_method_1_code, exceptionTable := #[], attributes := #[] }
def k0m0 : Method := { name := "<init>", desc := "()V", sig := { parameters := [], returnType := none }, accessFlags := 1, code := some k0c0 }
/-- java/lang/Object -/
def k0 : Class := { plain "java/lang/Object" none with
  accessFlags := 33
  interfaces := #[]
  cf := some (fileOf pool0 8 #[] #[{ accessFlags := 1, nameIndex := 5, descriptorIndex := 6, attributes := #[] }] 33 0 #[] #[])
  fields := #[]
  methods := #[k0m0]
  instanceTypes := #[]
  staticTypes := #[]
  resolved := Array.replicate 124 none
  statics := none }

def pool1 : Array CpInfo := pool [(2, .class_ 4), (1, u "java/lang/Object"), (0, u "<init>"), (0, u "()V"), (0, .long 18446744073709551600), (1, .long 64), (1, .long 128), (1, .long 256), (1, .methodref 16 17), (0, .class_ 18), (0, .nameAndType 19 20), (0, u "com/example/quotient/quotient/LongTableFullPinLaw"), (0, u "capacity"), (0, u "(J)I"), (0, .class_ 22), (0, u "com/example/quotient/quotient/LongTable"), (0, .methodref 21 24), (0, .nameAndType 5 25), (0, u "(J)V"), (0, .methodref 21 27), (0, .nameAndType 28 29), (0, u "full"), (0, u "()Z"), (0, .methodref 21 31), (0, .nameAndType 32 33), (0, u "putIfAbsent"), (0, u "(JJ)J"), (3, u "law"), (0, u "(JJJJJI)Z")] 2

def k1m0 : Method := { name := "<init>", desc := "()V", sig := { parameters := [], returnType := none }, accessFlags := 2, code := none }
def k1c1 : Code := { maxStack := 4, maxLocals := 2, code := method_2_code, exceptionTable := #[], attributes := #[] }
def k1m1 : Method := { name := "capacity", desc := "(J)I", sig := { parameters := [.long], returnType := some .int }, accessFlags := 10, code := some k1c1 }
def k1c2 : Code := { maxStack := 5, maxLocals := 23, code := code, exceptionTable := #[], attributes := #[] }
def k1m2 : Method := { name := "law", desc := "(JJJJJI)Z", sig := { parameters := [.long, .long, .long, .long, .long, .int], returnType := some .boolean }, accessFlags := 9, code := some k1c2 }
/-- com/example/quotient/quotient/LongTableFullPinLaw -/
def k1 : Class := { plain "com/example/quotient/quotient/LongTableFullPinLaw" (some 0) with
  accessFlags := 49
  interfaces := #[]
  cf := some (fileOf pool1 16 #[] #[{ accessFlags := 2, nameIndex := 5, descriptorIndex := 6, attributes := #[] }, { accessFlags := 10, nameIndex := 19, descriptorIndex := 20, attributes := #[] }, { accessFlags := 9, nameIndex := 37, descriptorIndex := 38, attributes := #[] }] 49 2 #[] #[])
  fields := #[]
  methods := #[k1m0, k1m1, k1m2]
  instanceTypes := #[]
  staticTypes := #[]
  resolved := Array.replicate 41 none
  statics := none }

def pool2 : Array CpInfo := pool [(1, .class_ 2), (0, u "java/lang/Long"), (0, .methodref 4 5), (0, .class_ 6), (0, .nameAndType 7 8), (0, u "java/lang/Object"), (0, u "<init>"), (0, u "()V"), (0, .class_ 10), (0, u "com/example/quotient/quotient/LongTable"), (0, .long 16), (1, .methodref 1 14), (0, .nameAndType 15 16), (0, u "numberOfLeadingZeros"), (0, u "(J)I"), (0, .methodref 18 19), (0, .class_ 20), (0, .nameAndType 21 22), (0, u "java/lang/Math"), (0, u "max"), (0, u "(II)I"), (0, .methodref 18 24), (0, .nameAndType 25 22), (0, u "min"), (0, .fieldref 9 27), (0, .nameAndType 28 29), (0, u "mostSlotBits"), (0, u "I"), (0, .fieldref 9 31), (0, .nameAndType 32 29), (0, u "slotBits"), (0, .long 2), (1, .methodref 36 37), (0, .class_ 38), (0, .nameAndType 39 40), (0, u "com/example/quotient/quotient/LongArray"), (0, u "ofLength"), (0, u "(J)Lcom/example/quotient/quotient/LongArray;"), (0, .fieldref 9 42), (0, .nameAndType 43 44), (0, u "slots"), (0, u "Lcom/example/quotient/quotient/LongArray;"), (0, .fieldref 9 46), (0, .nameAndType 47 29), (0, u "size"), (0, .methodref 9 49), (0, .nameAndType 50 16), (0, u "positionOf"), (0, .methodref 36 52), (0, .nameAndType 53 54), (0, u "get"), (0, u "(I)J"), (3, .methodref 36 59), (0, .nameAndType 60 61), (0, u "set"), (0, u "(IJ)V"), (2, u "putIfAbsent"), (0, u "(JJ)J"), (0, .methodref 9 67), (0, .nameAndType 68 69), (0, u "spread"), (0, u "(J)J"), (0, .long 11400714819323198485), (2, .class_ 75), (1, u "com/example/quotient/quotient/LongTable$EntryAction"), (15, u "MOST_SLOT_BITS"), (2, u "FIRST_SLOT_BITS"), (1, u "SLOT_BYTES"), (1, u "(J)V"), (5, u "full"), (0, u "()Z")] 21

def k2c0 : Code := { maxStack := 8, maxLocals := 3, code := prog_113_method_1_code, exceptionTable := #[], attributes := #[] }
def k2m0 : Method := { name := "<init>", desc := "(J)V", sig := { parameters := [.long], returnType := none }, accessFlags := 0, code := some k2c0 }
def k2c1 : Code := { maxStack := 6, maxLocals := 8, code := prog_113_method_4_code, exceptionTable := #[], attributes := #[] }
def k2m1 : Method := { name := "putIfAbsent", desc := "(JJ)J", sig := { parameters := [.long, .long], returnType := some .long }, accessFlags := 0, code := some k2c1 }
def k2c2 : Code := { maxStack := 4, maxLocals := 5, code := prog_113_method_6_code, exceptionTable := #[], attributes := #[] }
def k2m2 : Method := { name := "positionOf", desc := "(J)I", sig := { parameters := [.long], returnType := some .int }, accessFlags := 2, code := some k2c2 }
def k2c3 : Code := { maxStack := 5, maxLocals := 2, code := prog_113_method_7_code, exceptionTable := #[], attributes := #[] }
def k2m3 : Method := { name := "spread", desc := "(J)J", sig := { parameters := [.long], returnType := some .long }, accessFlags := 10, code := some k2c3 }
def k2c4 : Code := { maxStack := 6, maxLocals := 1, code := prog_113_method_8_code, exceptionTable := #[], attributes := #[] }
def k2m4 : Method := { name := "full", desc := "()Z", sig := { parameters := [], returnType := some .boolean }, accessFlags := 0, code := some k2c4 }
/-- com/example/quotient/quotient/LongTable -/
def k2 : Class := { plain "com/example/quotient/quotient/LongTable" (some 0) with
  accessFlags := 48
  interfaces := #[]
  cf := some (fileOf pool2 9 #[.nestMembers #[73]] #[{ accessFlags := 0, nameIndex := 7, descriptorIndex := 98, attributes := #[] }, { accessFlags := 0, nameIndex := 64, descriptorIndex := 65, attributes := #[] }, { accessFlags := 2, nameIndex := 50, descriptorIndex := 16, attributes := #[] }, { accessFlags := 10, nameIndex := 68, descriptorIndex := 69, attributes := #[] }, { accessFlags := 0, nameIndex := 104, descriptorIndex := 105, attributes := #[] }] 48 4 #[] #[{ accessFlags := 26, nameIndex := 91, descriptorIndex := 29, attributes := #[] }, { accessFlags := 26, nameIndex := 94, descriptorIndex := 29, attributes := #[] }, { accessFlags := 26, nameIndex := 96, descriptorIndex := 29, attributes := #[] }, { accessFlags := 18, nameIndex := 28, descriptorIndex := 29, attributes := #[] }, { accessFlags := 2, nameIndex := 32, descriptorIndex := 29, attributes := #[] }, { accessFlags := 2, nameIndex := 43, descriptorIndex := 44, attributes := #[] }, { accessFlags := 2, nameIndex := 47, descriptorIndex := 29, attributes := #[] }])
  fields := #[{ name := "MOST_SLOT_BITS", type := .int, accessFlags := 26, slot := 0, constantValue := 0 }, { name := "FIRST_SLOT_BITS", type := .int, accessFlags := 26, slot := 1, constantValue := 0 }, { name := "SLOT_BYTES", type := .int, accessFlags := 26, slot := 2, constantValue := 0 }, { name := "mostSlotBits", type := .int, accessFlags := 18, slot := 0, constantValue := 0 }, { name := "slotBits", type := .int, accessFlags := 2, slot := 1, constantValue := 0 }, { name := "slots", type := (.object "com/example/quotient/quotient/LongArray"), accessFlags := 2, slot := 2, constantValue := 0 }, { name := "size", type := .int, accessFlags := 2, slot := 3, constantValue := 0 }]
  methods := #[k2m0, k2m1, k2m2, k2m3, k2m4]
  instanceTypes := #[.int, .int, (.object "com/example/quotient/quotient/LongArray"), .int]
  staticTypes := #[.int, .int, .int]
  resolved := Array.replicate 127 none
  statics := none }

def pool3 : Array CpInfo := pool [(1, .class_ 2), (0, u "java/io/Serializable"), (0, .class_ 4), (0, u "java/lang/Object")] 2

/-- java/io/Serializable -/
def k3 : Class := { plain "java/io/Serializable" (some 0) with
  accessFlags := 1537
  interfaces := #[]
  cf := some (fileOf pool3 1 #[] #[] 1537 3 #[] #[])
  fields := #[]
  methods := #[]
  instanceTypes := #[]
  staticTypes := #[]
  resolved := Array.replicate 7 none
  statics := none }

def pool4 : Array CpInfo := pool [(2, .class_ 4), (1, u "java/lang/Object"), (0, u "<init>"), (0, u "()V"), (1, .class_ 10), (1, u "java/lang/Number"), (2, .class_ 14), (0, u "java/io/Serializable"), (0, u "serialVersionUID"), (0, u "J")] 20

def k4m0 : Method := { name := "<init>", desc := "()V", sig := { parameters := [], returnType := none }, accessFlags := 1, code := none }
/-- java/lang/Number -/
def k4 : Class := { plain "java/lang/Number" (some 0) with
  accessFlags := 1057
  interfaces := #[3]
  cf := some (fileOf pool4 8 #[] #[{ accessFlags := 1, nameIndex := 5, descriptorIndex := 6, attributes := #[] }] 1057 2 #[13] #[{ accessFlags := 26, nameIndex := 15, descriptorIndex := 16, attributes := #[] }])
  fields := #[{ name := "serialVersionUID", type := .long, accessFlags := 26, slot := 0, constantValue := 0 }]
  methods := #[k4m0]
  instanceTypes := #[]
  staticTypes := #[.long]
  resolved := Array.replicate 37 none
  statics := none }

def pool5 : Array CpInfo := pool [(1, .class_ 2), (0, u "java/lang/Comparable"), (0, .class_ 4), (0, u "java/lang/Object")] 7

/-- java/lang/Comparable -/
def k5 : Class := { plain "java/lang/Comparable" (some 0) with
  accessFlags := 1537
  interfaces := #[]
  cf := some (fileOf pool5 1 #[] #[] 1537 3 #[] #[])
  fields := #[]
  methods := #[]
  instanceTypes := #[]
  staticTypes := #[]
  resolved := Array.replicate 12 none
  statics := none }

def pool6 : Array CpInfo := pool [(1, .class_ 2), (0, u "java/lang/constant/Constable"), (0, .class_ 4), (0, u "java/lang/Object")] 6

/-- java/lang/constant/Constable -/
def k6 : Class := { plain "java/lang/constant/Constable" (some 0) with
  accessFlags := 1537
  interfaces := #[]
  cf := some (fileOf pool6 1 #[] #[] 1537 3 #[] #[])
  fields := #[]
  methods := #[]
  instanceTypes := #[]
  staticTypes := #[]
  resolved := Array.replicate 11 none
  statics := none }

def pool7 : Array CpInfo := pool [(1, .class_ 2), (0, u "java/lang/constant/ConstantDesc"), (0, .class_ 4), (0, u "java/lang/Object")] 32

/-- java/lang/constant/ConstantDesc -/
def k7 : Class := { plain "java/lang/constant/ConstantDesc" (some 0) with
  accessFlags := 1537
  interfaces := #[]
  cf := some (fileOf pool7 1 #[] #[] 1537 3 #[] #[])
  fields := #[]
  methods := #[]
  instanceTypes := #[]
  staticTypes := #[]
  resolved := Array.replicate 37 none
  statics := none }

def pool8 : Array CpInfo := pool [(1, .class_ 2), (0, u "java/lang/Long"), (15, .class_ 20), (1, u "java/lang/Integer"), (79, u "numberOfLeadingZeros"), (0, u "(J)I"), (133, .class_ 237), (1, u "java/lang/Long$LongCache"), (33, .class_ 272), (0, u "java/lang/Number"), (2, u "value"), (0, u "J"), (31, .methodref 18 309), (0, .nameAndType 100 310), (0, u "(I)I"), (50, u "TYPE"), (0, u "Ljava/lang/Class;"), (0, .class_ 364), (0, u "java/lang/Comparable"), (0, .class_ 366), (0, u "java/lang/constant/Constable"), (0, .class_ 368), (0, u "java/lang/constant/ConstantDesc"), (0, u "MIN_VALUE"), (1, u "MAX_VALUE"), (4, u "SIZE"), (0, u "I"), (1, u "BYTES"), (1, u "serialVersionUID")] 142

def k8c0 : Code := { maxStack := 3, maxLocals := 3, code := jdk_35_method_48_code, exceptionTable := #[], attributes := #[] }
def k8m0 : Method := { name := "numberOfLeadingZeros", desc := "(J)I", sig := { parameters := [.long], returnType := some .int }, accessFlags := 9, code := some k8c0 }
/-- java/lang/Long -/
def k8 : Class := { plain "java/lang/Long" (some 4) with
  accessFlags := 49
  interfaces := #[5, 6, 7]
  cf := some (fileOf pool8 1 #[.nestMembers #[235]] #[{ accessFlags := 9, nameIndex := 100, descriptorIndex := 101, attributes := #[] }] 49 271 #[363, 365, 367] #[{ accessFlags := 25, nameIndex := 369, descriptorIndex := 276, attributes := #[] }, { accessFlags := 25, nameIndex := 371, descriptorIndex := 276, attributes := #[] }, { accessFlags := 25, nameIndex := 361, descriptorIndex := 362, attributes := #[] }, { accessFlags := 18, nameIndex := 275, descriptorIndex := 276, attributes := #[] }, { accessFlags := 25, nameIndex := 376, descriptorIndex := 377, attributes := #[] }, { accessFlags := 25, nameIndex := 379, descriptorIndex := 377, attributes := #[] }, { accessFlags := 26, nameIndex := 381, descriptorIndex := 276, attributes := #[] }])
  fields := #[{ name := "MIN_VALUE", type := .long, accessFlags := 25, slot := 0, constantValue := 0 }, { name := "MAX_VALUE", type := .long, accessFlags := 25, slot := 1, constantValue := 0 }, { name := "TYPE", type := (.object "java/lang/Class"), accessFlags := 25, slot := 2, constantValue := 0 }, { name := "value", type := .long, accessFlags := 18, slot := 0, constantValue := 0 }, { name := "SIZE", type := .int, accessFlags := 25, slot := 3, constantValue := 0 }, { name := "BYTES", type := .int, accessFlags := 25, slot := 4, constantValue := 0 }, { name := "serialVersionUID", type := .long, accessFlags := 26, slot := 5, constantValue := 0 }]
  methods := #[k8m0]
  instanceTypes := #[.long]
  staticTypes := #[.long, .long, (.object "java/lang/Class"), .int, .int, .long]
  resolved := Array.replicate 524 none
  statics := none }

def pool9 : Array CpInfo := pool [(1, .class_ 2), (0, u "java/lang/Integer"), (16, u "digits"), (0, u "[C"), (32, u "numberOfLeadingZeros"), (0, u "(I)I"), (30, u "DigitOnes"), (0, u "[B"), (2, u "DigitTens"), (99, .class_ 190), (0, u "java/lang/Integer$IntegerCache"), (3, u "I"), (8, .class_ 204), (0, u "java/lang/Number"), (2, u "value"), (56, .integer 65536), (37, u "TYPE"), (0, u "Ljava/lang/Class;"), (0, .class_ 305), (0, u "java/lang/Comparable"), (0, .class_ 307), (0, u "java/lang/constant/Constable"), (0, .class_ 309), (0, u "java/lang/constant/ConstantDesc"), (0, u "MIN_VALUE"), (1, u "MAX_VALUE"), (3, u "SIZE"), (1, u "BYTES"), (1, u "serialVersionUID"), (0, u "J")] 131

def k9c0 : Code := { maxStack := 3, maxLocals := 2, code := jdk_33_method_47_code, exceptionTable := #[], attributes := #[] }
def k9m0 : Method := { name := "numberOfLeadingZeros", desc := "(I)I", sig := { parameters := [.int], returnType := some .int }, accessFlags := 9, code := some k9c0 }
/-- java/lang/Integer -/
def k9 : Class := { plain "java/lang/Integer" (some 4) with
  accessFlags := 49
  interfaces := #[5, 6, 7]
  cf := some (fileOf pool9 1 #[.nestMembers #[189]] #[{ accessFlags := 9, nameIndex := 53, descriptorIndex := 54, attributes := #[] }] 49 203 #[304, 306, 308] #[{ accessFlags := 25, nameIndex := 310, descriptorIndex := 194, attributes := #[] }, { accessFlags := 25, nameIndex := 312, descriptorIndex := 194, attributes := #[] }, { accessFlags := 25, nameIndex := 302, descriptorIndex := 303, attributes := #[] }, { accessFlags := 24, nameIndex := 19, descriptorIndex := 20, attributes := #[] }, { accessFlags := 24, nameIndex := 89, descriptorIndex := 86, attributes := #[] }, { accessFlags := 24, nameIndex := 85, descriptorIndex := 86, attributes := #[] }, { accessFlags := 18, nameIndex := 207, descriptorIndex := 194, attributes := #[] }, { accessFlags := 25, nameIndex := 316, descriptorIndex := 194, attributes := #[] }, { accessFlags := 25, nameIndex := 318, descriptorIndex := 194, attributes := #[] }, { accessFlags := 26, nameIndex := 320, descriptorIndex := 321, attributes := #[] }])
  fields := #[{ name := "MIN_VALUE", type := .int, accessFlags := 25, slot := 0, constantValue := 0 }, { name := "MAX_VALUE", type := .int, accessFlags := 25, slot := 1, constantValue := 0 }, { name := "TYPE", type := (.object "java/lang/Class"), accessFlags := 25, slot := 2, constantValue := 0 }, { name := "digits", type := (.array .char), accessFlags := 24, slot := 3, constantValue := 0 }, { name := "DigitTens", type := (.array .byte), accessFlags := 24, slot := 4, constantValue := 0 }, { name := "DigitOnes", type := (.array .byte), accessFlags := 24, slot := 5, constantValue := 0 }, { name := "value", type := .int, accessFlags := 18, slot := 0, constantValue := 0 }, { name := "SIZE", type := .int, accessFlags := 25, slot := 6, constantValue := 0 }, { name := "BYTES", type := .int, accessFlags := 25, slot := 7, constantValue := 0 }, { name := "serialVersionUID", type := .long, accessFlags := 26, slot := 8, constantValue := 0 }]
  methods := #[k9m0]
  instanceTypes := #[.int]
  staticTypes := #[.int, .int, (.object "java/lang/Class"), (.array .char), (.array .byte), (.array .byte), .int, .int, .long]
  resolved := Array.replicate 453 none
  statics := none }

def pool10 : Array CpInfo := pool [(1, .class_ 2), (0, u "java/lang/Math"), (1, .class_ 6), (1, u "java/lang/Object"), (0, u "<init>"), (0, u "()V"), (89, .class_ 100), (1, u "java/lang/Math$RandomNumberGeneratorHolder"), (20, u "(JJ)J"), (50, u "negativeZeroFloatBits"), (0, u "J"), (2, u "negativeZeroDoubleBits"), (21, u "max"), (2, u "min"), (43, u "$assertionsDisabled"), (0, u "Z"), (88, u "(II)I"), (2, u "twoToTheDoubleScaleDown"), (0, u "D"), (4, u "twoToTheDoubleScaleUp"), (9, u "E"), (3, u "PI"), (2, u "TAU"), (2, u "DEGREES_TO_RADIANS"), (0, u "RADIANS_TO_DEGREES")] 94

def k10m0 : Method := { name := "<init>", desc := "()V", sig := { parameters := [], returnType := none }, accessFlags := 2, code := none }
def k10c1 : Code := { maxStack := 2, maxLocals := 2, code := jdk_29_method_65_code, exceptionTable := #[], attributes := #[] }
def k10m1 : Method := { name := "max", desc := "(II)I", sig := { parameters := [.int, .int], returnType := some .int }, accessFlags := 9, code := some k10c1 }
def k10c2 : Code := { maxStack := 4, maxLocals := 4, code := jdk_29_method_66_code, exceptionTable := #[], attributes := #[] }
def k10m2 : Method := { name := "max", desc := "(JJ)J", sig := { parameters := [.long, .long], returnType := some .long }, accessFlags := 9, code := some k10c2 }
def k10c3 : Code := { maxStack := 2, maxLocals := 2, code := jdk_29_method_69_code, exceptionTable := #[], attributes := #[] }
def k10m3 : Method := { name := "min", desc := "(II)I", sig := { parameters := [.int, .int], returnType := some .int }, accessFlags := 9, code := some k10c3 }
def k10c4 : Code := { maxStack := 4, maxLocals := 4, code := jdk_29_method_70_code, exceptionTable := #[], attributes := #[] }
def k10m4 : Method := { name := "min", desc := "(JJ)J", sig := { parameters := [.long, .long], returnType := some .long }, accessFlags := 9, code := some k10c4 }
/-- java/lang/Math -/
def k10 : Class := { plain "java/lang/Math" (some 0) with
  accessFlags := 49
  interfaces := #[]
  cf := some (fileOf pool10 1 #[.nestMembers #[98]] #[{ accessFlags := 2, nameIndex := 7, descriptorIndex := 8, attributes := #[] }, { accessFlags := 9, nameIndex := 198, descriptorIndex := 335, attributes := #[] }, { accessFlags := 9, nameIndex := 198, descriptorIndex := 121, attributes := #[] }, { accessFlags := 9, nameIndex := 201, descriptorIndex := 335, attributes := #[] }, { accessFlags := 9, nameIndex := 201, descriptorIndex := 121, attributes := #[] }] 49 4 #[] #[{ accessFlags := 25, nameIndex := 354, descriptorIndex := 339, attributes := #[] }, { accessFlags := 25, nameIndex := 358, descriptorIndex := 339, attributes := #[] }, { accessFlags := 25, nameIndex := 361, descriptorIndex := 339, attributes := #[] }, { accessFlags := 26, nameIndex := 364, descriptorIndex := 339, attributes := #[] }, { accessFlags := 26, nameIndex := 365, descriptorIndex := 339, attributes := #[] }, { accessFlags := 26, nameIndex := 172, descriptorIndex := 173, attributes := #[] }, { accessFlags := 26, nameIndex := 176, descriptorIndex := 173, attributes := #[] }, { accessFlags := 8, nameIndex := 344, descriptorIndex := 339, attributes := #[] }, { accessFlags := 8, nameIndex := 338, descriptorIndex := 339, attributes := #[] }, { accessFlags := 4120, nameIndex := 245, descriptorIndex := 246, attributes := #[] }])
  fields := #[{ name := "E", type := .double, accessFlags := 25, slot := 0, constantValue := 0 }, { name := "PI", type := .double, accessFlags := 25, slot := 1, constantValue := 0 }, { name := "TAU", type := .double, accessFlags := 25, slot := 2, constantValue := 0 }, { name := "DEGREES_TO_RADIANS", type := .double, accessFlags := 26, slot := 3, constantValue := 0 }, { name := "RADIANS_TO_DEGREES", type := .double, accessFlags := 26, slot := 4, constantValue := 0 }, { name := "negativeZeroFloatBits", type := .long, accessFlags := 26, slot := 5, constantValue := 0 }, { name := "negativeZeroDoubleBits", type := .long, accessFlags := 26, slot := 6, constantValue := 0 }, { name := "twoToTheDoubleScaleUp", type := .double, accessFlags := 8, slot := 7, constantValue := 0 }, { name := "twoToTheDoubleScaleDown", type := .double, accessFlags := 8, slot := 8, constantValue := 0 }, { name := "$assertionsDisabled", type := .boolean, accessFlags := 4120, slot := 9, constantValue := 0 }]
  methods := #[k10m0, k10m1, k10m2, k10m3, k10m4]
  instanceTypes := #[]
  staticTypes := #[.double, .double, .double, .double, .double, .long, .long, .double, .double, .boolean]
  resolved := Array.replicate 460 none
  statics := none }

def pool11 : Array CpInfo := pool [(1, .class_ 2), (0, u "com/example/quotient/quotient/IntArray"), (0, .integer 2147483639), (0, .methodref 5 6), (0, .class_ 7), (0, .nameAndType 8 9), (0, u "com/example/quotient/quotient/LongArray"), (0, u "ofLength"), (0, u "(JI)Lcom/example/quotient/quotient/LongArray;"), (0, .string 11), (0, u "longs"), (0, .methodref 1 13), (0, .nameAndType 14 15), (0, u "firstLength"), (0, u "(JILjava/lang/String;)I"), (0, .methodref 1 17), (0, .nameAndType 18 19), (0, u "restLength"), (0, u "(JI)I"), (0, .methodref 5 21), (0, .nameAndType 22 23), (0, u "<init>"), (0, u "([J[JI)V"), (1, .class_ 27), (1, u "com/example/quotient/quotient/LongArray$InParts"), (2, .methodref 31 32), (0, .class_ 33), (0, .nameAndType 22 34), (0, u "java/lang/Object"), (0, u "()V"), (0, .fieldref 5 36), (0, .nameAndType 37 38), (0, u "first"), (0, u "[J"), (0, .fieldref 5 40), (0, .nameAndType 41 38), (0, u "rest"), (0, .fieldref 5 43), (0, .nameAndType 44 45), (0, u "longestPart"), (0, u "I"), (21, u "get"), (0, u "(I)J"), (2, u "set"), (0, u "(IJ)V"), (6, .class_ 80), (0, u "com/example/quotient/quotient/LongArray$1"), (6, u "(J)Lcom/example/quotient/quotient/LongArray;")] 11

def k11c0 : Code := { maxStack := 3, maxLocals := 2, code := prog_110_method_1_code, exceptionTable := #[], attributes := #[] }
def k11m0 : Method := { name := "ofLength", desc := "(J)Lcom/example/quotient/quotient/LongArray;", sig := { parameters := [.long], returnType := some (.object "com/example/quotient/quotient/LongArray") }, accessFlags := 8, code := some k11c0 }
def k11c1 : Code := { maxStack := 5, maxLocals := 5, code := prog_110_method_2_code, exceptionTable := #[], attributes := #[] }
def k11m1 : Method := { name := "ofLength", desc := "(JI)Lcom/example/quotient/quotient/LongArray;", sig := { parameters := [.long, .int], returnType := some (.object "com/example/quotient/quotient/LongArray") }, accessFlags := 8, code := some k11c1 }
def k11c2 : Code := { maxStack := 2, maxLocals := 4, code := prog_110_method_3_code, exceptionTable := #[], attributes := #[] }
def k11m2 : Method := { name := "<init>", desc := "([J[JI)V", sig := { parameters := [(.array .long), (.array .long), .int], returnType := none }, accessFlags := 2, code := some k11c2 }
def k11c3 : Code := { maxStack := 2, maxLocals := 2, code := prog_110_method_5_code, exceptionTable := #[], attributes := #[] }
def k11m3 : Method := { name := "get", desc := "(I)J", sig := { parameters := [.int], returnType := some .long }, accessFlags := 0, code := some k11c3 }
def k11c4 : Code := { maxStack := 4, maxLocals := 4, code := prog_110_method_6_code, exceptionTable := #[], attributes := #[] }
def k11m4 : Method := { name := "set", desc := "(IJ)V", sig := { parameters := [.int, .long], returnType := none }, accessFlags := 0, code := some k11c4 }
/-- com/example/quotient/quotient/LongArray -/
def k11 : Class := { plain "com/example/quotient/quotient/LongArray" (some 0) with
  accessFlags := 32
  interfaces := #[]
  cf := some (fileOf pool11 5 #[.nestMembers #[25, 79]] #[{ accessFlags := 8, nameIndex := 8, descriptorIndex := 87, attributes := #[] }, { accessFlags := 8, nameIndex := 8, descriptorIndex := 9, attributes := #[] }, { accessFlags := 2, nameIndex := 22, descriptorIndex := 23, attributes := #[] }, { accessFlags := 0, nameIndex := 67, descriptorIndex := 68, attributes := #[] }, { accessFlags := 0, nameIndex := 71, descriptorIndex := 72, attributes := #[] }] 32 31 #[] #[{ accessFlags := 16, nameIndex := 37, descriptorIndex := 38, attributes := #[] }, { accessFlags := 16, nameIndex := 41, descriptorIndex := 38, attributes := #[] }, { accessFlags := 18, nameIndex := 44, descriptorIndex := 45, attributes := #[] }])
  fields := #[{ name := "first", type := (.array .long), accessFlags := 16, slot := 0, constantValue := 0 }, { name := "rest", type := (.array .long), accessFlags := 16, slot := 1, constantValue := 0 }, { name := "longestPart", type := .int, accessFlags := 18, slot := 2, constantValue := 0 }]
  methods := #[k11m0, k11m1, k11m2, k11m3, k11m4]
  instanceTypes := #[(.array .long), (.array .long), .int]
  staticTypes := #[]
  resolved := Array.replicate 99 none
  statics := none }

def pool12 : Array CpInfo := pool [(2, .class_ 4), (1, u "java/lang/CharSequence"), (42, .class_ 48), (0, u "java/lang/CharSequence$1CodePointIterator"), (10, .class_ 60), (0, u "java/lang/CharSequence$1CharIterator"), (5, .class_ 67), (0, u "java/lang/Object")] 63

/-- java/lang/CharSequence -/
def k12 : Class := { plain "java/lang/CharSequence" (some 0) with
  accessFlags := 1537
  interfaces := #[]
  cf := some (fileOf pool12 2 #[.nestMembers #[47, 59]] #[] 1537 66 #[] #[])
  fields := #[]
  methods := #[]
  instanceTypes := #[]
  staticTypes := #[]
  resolved := Array.replicate 131 none
  statics := none }

def pool13 : Array CpInfo := pool [(2, .class_ 4), (1, u "java/lang/Object"), (0, u "<init>"), (0, u "()V"), (3, .class_ 12), (1, u "java/lang/String"), (0, u "value"), (0, u "[B"), (2, u "coder"), (0, u "B"), (2, u "hash"), (0, u "I"), (2, u "hashIsZero"), (0, u "Z"), (13, u "COMPACT_STRINGS"), (534, .class_ 576), (0, u "java/lang/CharSequence"), (22, u "CASE_INSENSITIVE_ORDER"), (0, u "Ljava/util/Comparator;"), (500, u "serialPersistentFields"), (0, u "[Ljava/io/ObjectStreamField;"), (0, .class_ 1104), (0, u "java/lang/String$CaseInsensitiveComparator"), (1, .class_ 1107), (0, u "java/io/Serializable"), (0, .class_ 1109), (0, u "java/lang/Comparable"), (0, .class_ 1111), (0, u "java/lang/constant/Constable"), (0, .class_ 1113), (0, u "java/lang/constant/ConstantDesc"), (2, u "serialVersionUID"), (0, u "J"), (3, u "REPL"), (0, u "C"), (2, u "LATIN1"), (1, u "UTF16")] 323

def k13m0 : Method := { name := "<init>", desc := "()V", sig := { parameters := [], returnType := none }, accessFlags := 1, code := none }
/-- java/lang/String -/
def k13 : Class := { plain "java/lang/String" (some 0) with
  accessFlags := 49
  interfaces := #[3, 5, 12, 6, 7]
  cf := some (fileOf pool13 10 #[.nestMembers #[1103]] #[{ accessFlags := 1, nameIndex := 5, descriptorIndex := 6, attributes := #[] }] 49 2 #[1106, 1108, 575, 1110, 1112] #[{ accessFlags := 18, nameIndex := 13, descriptorIndex := 14, attributes := #[] }, { accessFlags := 18, nameIndex := 17, descriptorIndex := 18, attributes := #[] }, { accessFlags := 2, nameIndex := 21, descriptorIndex := 22, attributes := #[] }, { accessFlags := 2, nameIndex := 25, descriptorIndex := 26, attributes := #[] }, { accessFlags := 26, nameIndex := 1116, descriptorIndex := 1117, attributes := #[] }, { accessFlags := 24, nameIndex := 40, descriptorIndex := 26, attributes := #[] }, { accessFlags := 26, nameIndex := 1101, descriptorIndex := 1102, attributes := #[] }, { accessFlags := 26, nameIndex := 1121, descriptorIndex := 1122, attributes := #[] }, { accessFlags := 25, nameIndex := 599, descriptorIndex := 600, attributes := #[] }, { accessFlags := 24, nameIndex := 1125, descriptorIndex := 18, attributes := #[] }, { accessFlags := 24, nameIndex := 1127, descriptorIndex := 18, attributes := #[] }])
  fields := #[{ name := "value", type := (.array .byte), accessFlags := 18, slot := 0, constantValue := 0 }, { name := "coder", type := .byte, accessFlags := 18, slot := 1, constantValue := 0 }, { name := "hash", type := .int, accessFlags := 2, slot := 2, constantValue := 0 }, { name := "hashIsZero", type := .boolean, accessFlags := 2, slot := 3, constantValue := 0 }, { name := "serialVersionUID", type := .long, accessFlags := 26, slot := 0, constantValue := 0 }, { name := "COMPACT_STRINGS", type := .boolean, accessFlags := 24, slot := 1, constantValue := 0 }, { name := "serialPersistentFields", type := (.array (.object "java/io/ObjectStreamField")), accessFlags := 26, slot := 2, constantValue := 0 }, { name := "REPL", type := .char, accessFlags := 26, slot := 3, constantValue := 0 }, { name := "CASE_INSENSITIVE_ORDER", type := (.object "java/util/Comparator"), accessFlags := 25, slot := 4, constantValue := 0 }, { name := "LATIN1", type := .byte, accessFlags := 24, slot := 5, constantValue := 0 }, { name := "UTF16", type := .byte, accessFlags := 24, slot := 6, constantValue := 0 }]
  methods := #[k13m0]
  instanceTypes := #[(.array .byte), .byte, .int, .boolean]
  staticTypes := #[.long, .boolean, (.array (.object "java/io/ObjectStreamField")), .char, (.object "java/util/Comparator"), .byte, .byte]
  resolved := Array.replicate 1451 none
  statics := none }

def pool14 : Array CpInfo := pool [(3, .class_ 4), (0, u "com/example/quotient/quotient/IntArray"), (9, u "firstLength"), (0, u "(JILjava/lang/String;)I"), (2, u "restLength"), (0, u "(JI)I"), (5, .class_ 27), (1, u "com/example/quotient/quotient/IntArray$InParts"), (3, .class_ 33), (1, u "java/lang/Object"), (3, u "first"), (0, u "[I"), (2, u "rest"), (2, u "longestPart"), (0, u "I"), (7, .long 2147483648), (10, .methodref 65 66), (0, .class_ 67), (0, .nameAndType 68 69), (0, u "java/lang/Math"), (0, u "min"), (0, u "(JJ)J"), (0, .methodref 65 71), (0, .nameAndType 72 69), (0, u "max"), (51, .class_ 125), (0, u "com/example/quotient/quotient/IntArray$1"), (10, u "LONGEST_JAVA_ARRAY"), (1, u "MAX_LENGTH"), (0, u "J")] 42

def k14c0 : Code := { maxStack := 5, maxLocals := 4, code := prog_85_method_6_code, exceptionTable := #[], attributes := #[] }
def k14m0 : Method := { name := "firstLength", desc := "(JILjava/lang/String;)I", sig := { parameters := [.long, .int, (.object "java/lang/String")], returnType := some .int }, accessFlags := 8, code := some k14c0 }
def k14c1 : Code := { maxStack := 6, maxLocals := 3, code := prog_85_method_7_code, exceptionTable := #[], attributes := #[] }
def k14m1 : Method := { name := "restLength", desc := "(JI)I", sig := { parameters := [.long, .int], returnType := some .int }, accessFlags := 8, code := some k14c1 }
/-- com/example/quotient/quotient/IntArray -/
def k14 : Class := { plain "com/example/quotient/quotient/IntArray" (some 0) with
  accessFlags := 32
  interfaces := #[]
  cf := some (fileOf pool14 3 #[.nestMembers #[25, 124]] #[{ accessFlags := 8, nameIndex := 14, descriptorIndex := 15, attributes := #[] }, { accessFlags := 8, nameIndex := 18, descriptorIndex := 19, attributes := #[] }] 32 31 #[] #[{ accessFlags := 24, nameIndex := 136, descriptorIndex := 45, attributes := #[] }, { accessFlags := 24, nameIndex := 138, descriptorIndex := 139, attributes := #[] }, { accessFlags := 16, nameIndex := 37, descriptorIndex := 38, attributes := #[] }, { accessFlags := 16, nameIndex := 41, descriptorIndex := 38, attributes := #[] }, { accessFlags := 18, nameIndex := 44, descriptorIndex := 45, attributes := #[] }])
  fields := #[{ name := "LONGEST_JAVA_ARRAY", type := .int, accessFlags := 24, slot := 0, constantValue := 0 }, { name := "MAX_LENGTH", type := .long, accessFlags := 24, slot := 1, constantValue := 0 }, { name := "first", type := (.array .int), accessFlags := 16, slot := 0, constantValue := 0 }, { name := "rest", type := (.array .int), accessFlags := 16, slot := 1, constantValue := 0 }, { name := "longestPart", type := .int, accessFlags := 18, slot := 2, constantValue := 0 }]
  methods := #[k14m0, k14m1]
  instanceTypes := #[(.array .int), (.array .int), .int]
  staticTypes := #[.int, .long]
  resolved := Array.replicate 182 none
  statics := none }

def pool15 : Array CpInfo := pool [(1, u "java/lang/Cloneable"), (0, .class_ 1), (0, u "java/lang/Object"), (0, .class_ 3)] 3

/-- java/lang/Cloneable -/
def k15 : Class := { plain "java/lang/Cloneable" (some 0) with
  accessFlags := 1537
  interfaces := #[]
  cf := some (fileOf pool15 2 #[] #[] 1537 4 #[] #[])
  fields := #[]
  methods := #[]
  instanceTypes := #[]
  staticTypes := #[]
  resolved := Array.replicate 8 none
  statics := none }

/-- the primitive byte -/
def k16 : Class := { plain "byte" none with kind := .primitive 'B', accessFlags := 0x411 }
/-- [B -/
def k17 : Class := { plain "[B" (some 0) with kind := .array 16 .byte, interfaces := #[15, 3], accessFlags := 1041 }

/-- the primitive int -/
def k18 : Class := { plain "int" none with kind := .primitive 'I', accessFlags := 0x411 }
/-- [I -/
def k19 : Class := { plain "[I" (some 0) with kind := .array 18 .int, interfaces := #[15, 3], accessFlags := 1041 }

/-- the primitive long -/
def k20 : Class := { plain "long" none with kind := .primitive 'J', accessFlags := 0x411 }
/-- [J -/
def k21 : Class := { plain "[J" (some 0) with kind := .array 20 .long, interfaces := #[15, 3], accessFlags := 1041 }

def heap : Heap := #[]
def classes : Array Class := #[k0, k1, k2, k3, k4, k5, k6, k7, k8, k9, k10, k11, k12, k13, k14, k15, k16, k17, k18, k19, k20, k21]
def interned : List (Array UInt16 × Addr) := []
def slotsUsed : Nat := 0
def theMethod : MethodId := ⟨1, 2⟩
def args0 : Array Value := #[.long 200, .long 3, .long 5, .long 7, .long 9, .int 0]
def aboutOver (below : List Frame) : State where
  vm := { classes := classes, interned := interned.toArray }
  heap := heap
  slotsUsed := slotsUsed
  threads := #[{ frames := .invoking theMethod args0 :: below }]
def below0 : List Frame := [.native { method := ⟨0, 0⟩, args := #[] }]
def about1 : State := aboutOver below0
def p0 : Program := .bare "" "" ""
def e0 : Env := launch0.env 0 0 0
theorem w_frames : about1.frames = Frame.invoking theMethod args0 :: below0 := rfl
set_option maxRecDepth 65536 in
theorem w_args : argsFit about1.vm theMethod args0 = true := by decide +kernel
set_option maxRecDepth 65536 in
theorem w_heap : heapFits about1 = true := by decide +kernel
set_option maxRecDepth 65536 in
theorem w_runnable : about1.curStatus? = some .runnable := by decide +kernel
set_option maxRecDepth 65536 in
theorem w_alone : about1.alone = true := by decide +kernel
set_option maxRecDepth 65536 in
theorem w_named : about1.methodNamed? x = some theMethod := by decide +kernel
set_option maxRecDepth 65536 in
theorem w_hears : about1.hears theMethod below0 = true := by decide +kernel
set_option maxRecDepth 65536 in
theorem w_ripe : about1.ripe theMethod args0 below0 = true := by decide +kernel
theorem w_running : about1.status = .running := rfl
set_option maxRecDepth 65536 in
theorem w_room : about1.hasRoom e0.platform room_1 = true :=
  launch0.hasRoom_least _ room_1 (by decide +kernel) (by decide +kernel) (by decide +kernel) (by decide +kernel) (by decide +kernel) (by decide +kernel)
theorem allAtoms_all (ts : List Jvm.Cond) (a : Array Jvm.Value) (st : Jvm.State) : (allAtoms ts).before a st = ts.all (fun c => c.before a st) := by
  induction ts with
  | nil => rfl
  | cons c t ih =>
    show (Jvm.Cond.and c (allAtoms t)).before a st = _
    rw [Jvm.Cond.before_and, ih, List.all_cons]
def words1 : List Jvm.Cond := Jvm.Cond.code x code maxLocals ret :: tables_1
/-- a 'code' word, met by the world's own term for the bytes: nothing is compared byte by byte -/
theorem code_word {y : MethodName} {bytes : ByteArray} {mx : Nat} {rt : Option FieldType} {a : Array Value} {s : State} {m : MethodId} {meth : Method} {c : Code} (h1 : s.methodNamed? y = some m) (h2 : s.vm.method? m = some meth) (h3 : meth.code = some c) (h4 : c.code = bytes)
    (h5 : (c.maxLocals == mx && c.exceptionTable.isEmpty && decide (c.maxStack ≤ mostOperands) && decide (meth.sig.returnType = rt) && !meth.locks && decide (parseMethodDescriptor y.desc = some meth.sig)) = true) : (Jvm.Cond.code y bytes mx rt).before a s = true := by
  simp only [Bool.and_eq_true, beq_iff_eq, Bool.not_eq_true', decide_eq_true_eq] at h5
  obtain ⟨⟨⟨⟨⟨g1, g2⟩, g3⟩, g4⟩, g5⟩, g6⟩ := h5
  simp [Cond.before, Cond.holds, Cond.value, h1, h2, h3, h4, g1, g2, g3, g4, g5, g6]
def isCode : Jvm.Cond → Bool
  | .code _ _ _ _ => true
  | _ => false
theorem all_split {L : List Jvm.Cond} {P : Jvm.Cond → Bool} (h1 : L.all (fun c => isCode c || P c) = true) (h2 : ∀ c ∈ L.filter isCode, P c = true) : L.all P = true := by
  refine List.all_eq_true.mpr fun c hc => ?_
  have h := List.all_eq_true.mp h1 c hc
  rcases Bool.eq_false_or_eq_true (isCode c) with hi | hi
  · exact h2 c (List.mem_filter.mpr ⟨hc, hi⟩)
  · simpa [hi] using h
set_option maxRecDepth 65536 in
theorem w_c0 : (Jvm.Cond.code x code maxLocals ret).before args0 about1 = true := code_word (m := ⟨1, 2⟩) (meth := k1m2) (c := k1c2) (by decide +kernel) rfl rfl rfl (by decide +kernel)
set_option maxRecDepth 65536 in
theorem w_c1 : (Jvm.Cond.code ({ cls := "com/example/quotient/quotient/LongTableFullPinLaw", name := "capacity", desc := "(J)I" } : Jvm.MethodName) method_2_code (2 : Nat) (Option.some Jvm.ClassFile.FieldType.int)).before args0 about1 = true := code_word (m := ⟨1, 1⟩) (meth := k1m1) (c := k1c1) (by decide +kernel) rfl rfl rfl (by decide +kernel)
set_option maxRecDepth 65536 in
theorem w_c2 : (Jvm.Cond.code ({ cls := "com/example/quotient/quotient/LongTable", name := "<init>", desc := "(J)V" } : Jvm.MethodName) prog_113_method_1_code (3 : Nat) (Option.none : Option Jvm.ClassFile.FieldType)).before args0 about1 = true := code_word (m := ⟨2, 0⟩) (meth := k2m0) (c := k2c0) (by decide +kernel) rfl rfl rfl (by decide +kernel)
set_option maxRecDepth 65536 in
theorem w_c3 : (Jvm.Cond.code ({ cls := "java/lang/Object", name := "<init>", desc := "()V" } : Jvm.MethodName) object_method_1_code (1 : Nat) (Option.none : Option Jvm.ClassFile.FieldType)).before args0 about1 = true := code_word (m := ⟨0, 0⟩) (meth := k0m0) (c := k0c0) (by decide +kernel) rfl rfl rfl (by decide +kernel)
set_option maxRecDepth 65536 in
theorem w_c4 : (Jvm.Cond.code ({ cls := "java/lang/Long", name := "numberOfLeadingZeros", desc := "(J)I" } : Jvm.MethodName) jdk_35_method_48_code (3 : Nat) (Option.some Jvm.ClassFile.FieldType.int)).before args0 about1 = true := code_word (m := ⟨8, 0⟩) (meth := k8m0) (c := k8c0) (by decide +kernel) rfl rfl rfl (by decide +kernel)
set_option maxRecDepth 65536 in
theorem w_c5 : (Jvm.Cond.code ({ cls := "java/lang/Integer", name := "numberOfLeadingZeros", desc := "(I)I" } : Jvm.MethodName) jdk_33_method_47_code (2 : Nat) (Option.some Jvm.ClassFile.FieldType.int)).before args0 about1 = true := code_word (m := ⟨9, 0⟩) (meth := k9m0) (c := k9c0) (by decide +kernel) rfl rfl rfl (by decide +kernel)
set_option maxRecDepth 65536 in
theorem w_c6 : (Jvm.Cond.code ({ cls := "java/lang/Math", name := "max", desc := "(II)I" } : Jvm.MethodName) jdk_29_method_65_code (2 : Nat) (Option.some Jvm.ClassFile.FieldType.int)).before args0 about1 = true := code_word (m := ⟨10, 1⟩) (meth := k10m1) (c := k10c1) (by decide +kernel) rfl rfl rfl (by decide +kernel)
set_option maxRecDepth 65536 in
theorem w_c7 : (Jvm.Cond.code ({ cls := "java/lang/Math", name := "min", desc := "(II)I" } : Jvm.MethodName) jdk_29_method_69_code (2 : Nat) (Option.some Jvm.ClassFile.FieldType.int)).before args0 about1 = true := code_word (m := ⟨10, 3⟩) (meth := k10m3) (c := k10c3) (by decide +kernel) rfl rfl rfl (by decide +kernel)
set_option maxRecDepth 65536 in
theorem w_c8 : (Jvm.Cond.code ({ cls := "com/example/quotient/quotient/LongArray", name := "ofLength", desc := "(J)Lcom/example/quotient/quotient/LongArray;" } : Jvm.MethodName) prog_110_method_1_code (2 : Nat) (Option.some (Jvm.ClassFile.FieldType.object "com/example/quotient/quotient/LongArray"))).before args0 about1 = true := code_word (m := ⟨11, 0⟩) (meth := k11m0) (c := k11c0) (by decide +kernel) rfl rfl rfl (by decide +kernel)
set_option maxRecDepth 65536 in
theorem w_c9 : (Jvm.Cond.code ({ cls := "com/example/quotient/quotient/LongArray", name := "ofLength", desc := "(JI)Lcom/example/quotient/quotient/LongArray;" } : Jvm.MethodName) prog_110_method_2_code (5 : Nat) (Option.some (Jvm.ClassFile.FieldType.object "com/example/quotient/quotient/LongArray"))).before args0 about1 = true := code_word (m := ⟨11, 1⟩) (meth := k11m1) (c := k11c1) (by decide +kernel) rfl rfl rfl (by decide +kernel)
set_option maxRecDepth 65536 in
theorem w_c10 : (Jvm.Cond.code ({ cls := "com/example/quotient/quotient/IntArray", name := "firstLength", desc := "(JILjava/lang/String;)I" } : Jvm.MethodName) prog_85_method_6_code (4 : Nat) (Option.some Jvm.ClassFile.FieldType.int)).before args0 about1 = true := code_word (m := ⟨14, 0⟩) (meth := k14m0) (c := k14c0) (by decide +kernel) rfl rfl rfl (by decide +kernel)
set_option maxRecDepth 65536 in
theorem w_c11 : (Jvm.Cond.code ({ cls := "java/lang/Math", name := "min", desc := "(JJ)J" } : Jvm.MethodName) jdk_29_method_70_code (4 : Nat) (Option.some Jvm.ClassFile.FieldType.long)).before args0 about1 = true := code_word (m := ⟨10, 4⟩) (meth := k10m4) (c := k10c4) (by decide +kernel) rfl rfl rfl (by decide +kernel)
set_option maxRecDepth 65536 in
theorem w_c12 : (Jvm.Cond.code ({ cls := "com/example/quotient/quotient/IntArray", name := "restLength", desc := "(JI)I" } : Jvm.MethodName) prog_85_method_7_code (3 : Nat) (Option.some Jvm.ClassFile.FieldType.int)).before args0 about1 = true := code_word (m := ⟨14, 1⟩) (meth := k14m1) (c := k14c1) (by decide +kernel) rfl rfl rfl (by decide +kernel)
set_option maxRecDepth 65536 in
theorem w_c13 : (Jvm.Cond.code ({ cls := "java/lang/Math", name := "max", desc := "(JJ)J" } : Jvm.MethodName) jdk_29_method_66_code (4 : Nat) (Option.some Jvm.ClassFile.FieldType.long)).before args0 about1 = true := code_word (m := ⟨10, 2⟩) (meth := k10m2) (c := k10c2) (by decide +kernel) rfl rfl rfl (by decide +kernel)
set_option maxRecDepth 65536 in
theorem w_c14 : (Jvm.Cond.code ({ cls := "com/example/quotient/quotient/LongArray", name := "<init>", desc := "([J[JI)V" } : Jvm.MethodName) prog_110_method_3_code (4 : Nat) (Option.none : Option Jvm.ClassFile.FieldType)).before args0 about1 = true := code_word (m := ⟨11, 2⟩) (meth := k11m2) (c := k11c2) (by decide +kernel) rfl rfl rfl (by decide +kernel)
set_option maxRecDepth 65536 in
theorem w_c15 : (Jvm.Cond.code ({ cls := "com/example/quotient/quotient/LongTable", name := "full", desc := "()Z" } : Jvm.MethodName) prog_113_method_8_code (1 : Nat) (Option.some Jvm.ClassFile.FieldType.boolean)).before args0 about1 = true := code_word (m := ⟨2, 4⟩) (meth := k2m4) (c := k2c4) (by decide +kernel) rfl rfl rfl (by decide +kernel)
set_option maxRecDepth 65536 in
theorem w_c16 : (Jvm.Cond.code ({ cls := "com/example/quotient/quotient/LongTable", name := "putIfAbsent", desc := "(JJ)J" } : Jvm.MethodName) prog_113_method_4_code (8 : Nat) (Option.some Jvm.ClassFile.FieldType.long)).before args0 about1 = true := code_word (m := ⟨2, 1⟩) (meth := k2m1) (c := k2c1) (by decide +kernel) rfl rfl rfl (by decide +kernel)
set_option maxRecDepth 65536 in
theorem w_c17 : (Jvm.Cond.code ({ cls := "com/example/quotient/quotient/LongTable", name := "positionOf", desc := "(J)I" } : Jvm.MethodName) prog_113_method_6_code (5 : Nat) (Option.some Jvm.ClassFile.FieldType.int)).before args0 about1 = true := code_word (m := ⟨2, 2⟩) (meth := k2m2) (c := k2c2) (by decide +kernel) rfl rfl rfl (by decide +kernel)
set_option maxRecDepth 65536 in
theorem w_c18 : (Jvm.Cond.code ({ cls := "com/example/quotient/quotient/LongTable", name := "spread", desc := "(J)J" } : Jvm.MethodName) prog_113_method_7_code (2 : Nat) (Option.some Jvm.ClassFile.FieldType.long)).before args0 about1 = true := code_word (m := ⟨2, 3⟩) (meth := k2m3) (c := k2c3) (by decide +kernel) rfl rfl rfl (by decide +kernel)
set_option maxRecDepth 65536 in
theorem w_c19 : (Jvm.Cond.code ({ cls := "com/example/quotient/quotient/LongArray", name := "get", desc := "(I)J" } : Jvm.MethodName) prog_110_method_5_code (2 : Nat) (Option.some Jvm.ClassFile.FieldType.long)).before args0 about1 = true := code_word (m := ⟨11, 3⟩) (meth := k11m3) (c := k11c3) (by decide +kernel) rfl rfl rfl (by decide +kernel)
set_option maxRecDepth 65536 in
theorem w_c20 : (Jvm.Cond.code ({ cls := "com/example/quotient/quotient/LongArray", name := "set", desc := "(IJ)V" } : Jvm.MethodName) prog_110_method_6_code (4 : Nat) (Option.none : Option Jvm.ClassFile.FieldType)).before args0 about1 = true := code_word (m := ⟨11, 4⟩) (meth := k11m4) (c := k11c4) (by decide +kernel) rfl rfl rfl (by decide +kernel)
def codes1 : List Jvm.Cond := [Jvm.Cond.code x code maxLocals ret, Jvm.Cond.code ({ cls := "com/example/quotient/quotient/LongTableFullPinLaw", name := "capacity", desc := "(J)I" } : Jvm.MethodName) method_2_code (2 : Nat) (Option.some Jvm.ClassFile.FieldType.int), Jvm.Cond.code ({ cls := "com/example/quotient/quotient/LongTable", name := "<init>", desc := "(J)V" } : Jvm.MethodName) prog_113_method_1_code (3 : Nat) (Option.none : Option Jvm.ClassFile.FieldType), Jvm.Cond.code ({ cls := "java/lang/Object", name := "<init>", desc := "()V" } : Jvm.MethodName) object_method_1_code (1 : Nat) (Option.none : Option Jvm.ClassFile.FieldType), Jvm.Cond.code ({ cls := "java/lang/Long", name := "numberOfLeadingZeros", desc := "(J)I" } : Jvm.MethodName) jdk_35_method_48_code (3 : Nat) (Option.some Jvm.ClassFile.FieldType.int), Jvm.Cond.code ({ cls := "java/lang/Integer", name := "numberOfLeadingZeros", desc := "(I)I" } : Jvm.MethodName) jdk_33_method_47_code (2 : Nat) (Option.some Jvm.ClassFile.FieldType.int), Jvm.Cond.code ({ cls := "java/lang/Math", name := "max", desc := "(II)I" } : Jvm.MethodName) jdk_29_method_65_code (2 : Nat) (Option.some Jvm.ClassFile.FieldType.int), Jvm.Cond.code ({ cls := "java/lang/Math", name := "min", desc := "(II)I" } : Jvm.MethodName) jdk_29_method_69_code (2 : Nat) (Option.some Jvm.ClassFile.FieldType.int), Jvm.Cond.code ({ cls := "com/example/quotient/quotient/LongArray", name := "ofLength", desc := "(J)Lcom/example/quotient/quotient/LongArray;" } : Jvm.MethodName) prog_110_method_1_code (2 : Nat) (Option.some (Jvm.ClassFile.FieldType.object "com/example/quotient/quotient/LongArray")), Jvm.Cond.code ({ cls := "com/example/quotient/quotient/LongArray", name := "ofLength", desc := "(JI)Lcom/example/quotient/quotient/LongArray;" } : Jvm.MethodName) prog_110_method_2_code (5 : Nat) (Option.some (Jvm.ClassFile.FieldType.object "com/example/quotient/quotient/LongArray")), Jvm.Cond.code ({ cls := "com/example/quotient/quotient/IntArray", name := "firstLength", desc := "(JILjava/lang/String;)I" } : Jvm.MethodName) prog_85_method_6_code (4 : Nat) (Option.some Jvm.ClassFile.FieldType.int), Jvm.Cond.code ({ cls := "java/lang/Math", name := "min", desc := "(JJ)J" } : Jvm.MethodName) jdk_29_method_70_code (4 : Nat) (Option.some Jvm.ClassFile.FieldType.long), Jvm.Cond.code ({ cls := "com/example/quotient/quotient/IntArray", name := "restLength", desc := "(JI)I" } : Jvm.MethodName) prog_85_method_7_code (3 : Nat) (Option.some Jvm.ClassFile.FieldType.int), Jvm.Cond.code ({ cls := "java/lang/Math", name := "max", desc := "(JJ)J" } : Jvm.MethodName) jdk_29_method_66_code (4 : Nat) (Option.some Jvm.ClassFile.FieldType.long), Jvm.Cond.code ({ cls := "com/example/quotient/quotient/LongArray", name := "<init>", desc := "([J[JI)V" } : Jvm.MethodName) prog_110_method_3_code (4 : Nat) (Option.none : Option Jvm.ClassFile.FieldType), Jvm.Cond.code ({ cls := "com/example/quotient/quotient/LongTable", name := "full", desc := "()Z" } : Jvm.MethodName) prog_113_method_8_code (1 : Nat) (Option.some Jvm.ClassFile.FieldType.boolean), Jvm.Cond.code ({ cls := "com/example/quotient/quotient/LongTable", name := "putIfAbsent", desc := "(JJ)J" } : Jvm.MethodName) prog_113_method_4_code (8 : Nat) (Option.some Jvm.ClassFile.FieldType.long), Jvm.Cond.code ({ cls := "com/example/quotient/quotient/LongTable", name := "positionOf", desc := "(J)I" } : Jvm.MethodName) prog_113_method_6_code (5 : Nat) (Option.some Jvm.ClassFile.FieldType.int), Jvm.Cond.code ({ cls := "com/example/quotient/quotient/LongTable", name := "spread", desc := "(J)J" } : Jvm.MethodName) prog_113_method_7_code (2 : Nat) (Option.some Jvm.ClassFile.FieldType.long), Jvm.Cond.code ({ cls := "com/example/quotient/quotient/LongArray", name := "get", desc := "(I)J" } : Jvm.MethodName) prog_110_method_5_code (2 : Nat) (Option.some Jvm.ClassFile.FieldType.long), Jvm.Cond.code ({ cls := "com/example/quotient/quotient/LongArray", name := "set", desc := "(IJ)V" } : Jvm.MethodName) prog_110_method_6_code (4 : Nat) (Option.none : Option Jvm.ClassFile.FieldType)]
set_option maxRecDepth 65536 in
theorem codes_eq : words1.filter isCode = codes1 := rfl
theorem w_codes : ∀ c ∈ words1.filter isCode, c.before args0 about1 = true := by
  rw [codes_eq]
  intro c hc
  simp only [codes1, List.mem_cons, List.not_mem_nil, or_false] at hc
  rcases hc with rfl | rfl | rfl | rfl | rfl | rfl | rfl | rfl | rfl | rfl | rfl | rfl | rfl | rfl | rfl | rfl | rfl | rfl | rfl | rfl | rfl
  · exact w_c0
  · exact w_c1
  · exact w_c2
  · exact w_c3
  · exact w_c4
  · exact w_c5
  · exact w_c6
  · exact w_c7
  · exact w_c8
  · exact w_c9
  · exact w_c10
  · exact w_c11
  · exact w_c12
  · exact w_c13
  · exact w_c14
  · exact w_c15
  · exact w_c16
  · exact w_c17
  · exact w_c18
  · exact w_c19
  · exact w_c20
set_option maxRecDepth 65536 in
theorem w_t1 : (words1.take 24).all (fun c => isCode c || c.before args0 about1) = true := by decide +kernel
set_option maxRecDepth 65536 in
theorem w_t2 : ((words1.drop 24).take 24).all (fun c => isCode c || c.before args0 about1) = true := by decide +kernel
set_option maxRecDepth 65536 in
theorem w_t3 : (((words1.drop 24).drop 24).take 24).all (fun c => isCode c || c.before args0 about1) = true := by decide +kernel
set_option maxRecDepth 65536 in
theorem w_t4 : ((((words1.drop 24).drop 24).drop 24).take 24).all (fun c => isCode c || c.before args0 about1) = true := by decide +kernel
set_option maxRecDepth 65536 in
theorem w_t5 : ((((words1.drop 24).drop 24).drop 24).drop 24).all (fun c => isCode c || c.before args0 about1) = true := by decide +kernel
theorem w_tables : (allAtoms (Jvm.Cond.code x code maxLocals ret :: tables_1)).before args0 about1 = true := by
  rw [allAtoms_all]
  show words1.all (fun c => c.before args0 about1) = true
  refine all_split ?_ w_codes
  rw [← List.take_append_drop 24 words1, List.all_append, w_t1, ← List.take_append_drop 24 (words1.drop 24), List.all_append, w_t2, ← List.take_append_drop 24 ((words1.drop 24).drop 24), List.all_append, w_t3, ← List.take_append_drop 24 (((words1.drop 24).drop 24).drop 24), List.all_append, w_t4, w_t5]
  rfl
set_option maxRecDepth 65536 in
theorem w_case : (Jvm.Cond.and given_1 narrow_1).before args0 about1 = true := by decide +kernel
theorem w_applies : (headSpec (Jvm.Cond.code x code maxLocals ret :: tables_1) room_1).applies x e0.platform about1 = true :=
  (Spec.applies_iff w_frames).mpr ⟨w_running, w_runnable, w_alone, w_named, w_hears, w_ripe, w_room, w_tables⟩
theorem atStart : AtStart classFile x code maxLocals ret World_1 tables_1 room_1 Calls_1 rest_1 Pre_1 launch0 p0 e0 about1 theMethod args0 below0 :=
  ⟨lists_1, trivial, launch0.admits_env _ _ _, launch0.least_env, fairChoices_fair.cas, fairChoices_fair.clock, w_frames, w_args, w_heap, w_applies, trivial, trivial, w_case⟩
end start1
theorem witness_1 : WitnessClaimed_1 := ⟨start1.p0, start1.e0, start1.about1, start1.theMethod, start1.args0, start1.below0, start1.atStart⟩
end Jvm.Pilot.@@N@@
