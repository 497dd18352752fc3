import JvmDerived
import JvmDerived.Pilot.@@N@@Statement
import JvmDerived.Pilot.@@N@@Code
set_option linter.unusedVariables false
set_option linter.unusedSimpArgs false
@@BLOCK:NumsL.lean.txt@@
namespace Jvm.Pilot.@@N@@
open Jvm Jvm.ClassFile Sem Op Lib Jvm.Free Jvm.Stand Jvm.LawKit Jvm.RoadKit Bundle Jvm.Pilot.@@N@@.Jvm.D
/-- a long's slot, written short -/
abbrev jv (x : Int64) : Slot := .val (.long x)
section OwnKit
variable {p : Program} {l : Launch} {e : Env} {R : Room} {s : State} {m : MethodId} {args : Array Value} {below : List Frame} {meth : Method} {c : Code} {T T' : State} {locs : List Loc} {cells slots : Nat} {Q : Option Value → Heap → List Loc → Prop} {kc ks : Nat} {g : JFrame} {Z : State} {a0 : Array Value} {h : Heap}
/-- what is left to do, from the state T with the top frame g: the run comes to the invocation's end, returns, and the end is as Q says -/
def own_G (p : Program) (e : Env) (below : List Frame) (s : State) (Q : Option Value → Heap → List Loc → Prop) (kc ks : Nat) (T : State) (g : JFrame) : Prop :=
  ∃ t o, Steps p.tables e below (T.setTop g) t ∧ t.status = .running ∧ Ended t below o ∧ ∃ v L, o = .returned v ∧ Q v t.heap L ∧ FrameEnd s o t L kc ks
theorem own_go (g' : JFrame) (k : ∀ t, Steps p.tables e below (T'.setTop g') t → Steps p.tables e below (T.setTop g) t) (h : own_G p e below s Q kc ks T' g') : own_G p e below s Q kc ks T g := by
  obtain ⟨t, o, h1, h2⟩ := h
  exact ⟨t, o, k t h1, h2⟩
/-- a step that leaves the locals alone -/
theorem own_gs {pc : Nat} {Ls : Array Slot} {S : List Value} (pc' : Nat) (S' : List Value) (k : ∀ t, Steps p.tables e below (T.setTop (mkF m pc' Ls S')) t → Steps p.tables e below (T.setTop (mkF m pc Ls S)) t) (h : own_G p e below s Q kc ks T (mkF m pc' Ls S')) : own_G p e below s Q kc ks T (mkF m pc Ls S) := own_go _ k h
theorem own_out (X : Stand p l e R s m args below meth c T locs cells slots) (hlk : meth.locks = false) {v : Option Value} (hv : meth.sig.returnType = none → v = none)
    (st : ∀ fs, (∀ (f : JFrame) (acts : List Action), f.method = m → f.locked = none → f.entered = [] → (doReturn e (T.setTop f) acts v).1 = T.setFrames fs) → Steps p.tables e below (T.setTop g) (T.setFrames fs))
    (hQ : Q v T.heap locs) (h1 : cells ≤ kc) (h2 : slots ≤ ks) : own_G p e below s Q kc ks T g := by
  obtain ⟨fs, hr, hrun, hended, hW, hsame⟩ := X.leave (v := v) hv hlk
  exact ⟨_, _, st fs hr, hrun, hended, v, locs, rfl, hQ, ⟨_, rfl⟩, hW, hsame.mono h1 h2⟩
theorem own_retI (X : Stand p l e R s m args below meth c T locs cells slots) (hx : p.tables.exec = Jvm.exec) (hlk : meth.locks = false) (hret : meth.sig.returnType = some .int) {pc : Nat} {Ls : Array Slot} {z : Int32} {rest : List Value} (hd : decode c.code pc = .ok (.ireturn, 1))
    (hQ : Q (some (.int z)) T.heap locs) (h1 : cells ≤ kc) (h2 : slots ≤ ks) : own_G p e below s Q kc ks T (mkF m pc Ls (.int z :: rest)) := by
  refine own_out X hlk (v := some (.int z)) (fun h => by rw [hret] at h; cases h) (fun fs hl => ?_) hQ h1 h2
  have hm' : T.vm.method? m = some meth := X.method'
  have hn : narrow .int (.int z) = .int z := rfl
  show Steps p.tables e below (T.setTop { method := m, pc := pc, locals := Ls, stack := _ :: rest, locked := none }) _
  jvm_step X.here [X.here.top, hx, hd, hm', hret, hn]
  first | (intro acts; rw [hl _ acts rfl rfl rfl]) | rw [hl _ _ rfl rfl rfl]
  exact Steps.refl _
theorem own_retZ (X : Stand p l e R s m args below meth c T locs cells slots) (hx : p.tables.exec = Jvm.exec) (hlk : meth.locks = false) (hret : meth.sig.returnType = some .boolean) {pc : Nat} {Ls : Array Slot} {z : Int32} {rest : List Value} (hd : decode c.code pc = .ok (.ireturn, 1))
    (hQ : Q (some (.int (z &&& 1))) T.heap locs) (h1 : cells ≤ kc) (h2 : slots ≤ ks) : own_G p e below s Q kc ks T (mkF m pc Ls (.int z :: rest)) :=
  own_out X hlk (v := some (.int (z &&& 1))) (fun h => by rw [hret] at h; cases h) (fun fs hl => retN X hx (t := .boolean) hret (by simp) hd hl) hQ h1 h2
theorem own_retJ (X : Stand p l e R s m args below meth c T locs cells slots) (hx : p.tables.exec = Jvm.exec) (hlk : meth.locks = false) (hret : meth.sig.returnType = some .long) {pc : Nat} {Ls : Array Slot} {z : Int64} (hd : decode c.code pc = .ok (.lreturn, 1))
    (hQ : Q (some (.long z)) T.heap locs) (h1 : cells ≤ kc) (h2 : slots ≤ ks) : own_G p e below s Q kc ks T (mkF m pc Ls [.long z]) :=
  own_out X hlk (v := some (.long z)) (fun h => by rw [hret] at h; cases h) (fun fs hl => X.lreturnOut hx hret hd hl) hQ h1 h2
theorem own_retA (X : Stand p l e R s m args below meth c T locs cells slots) (hx : p.tables.exec = Jvm.exec) (hlk : meth.locks = false) {t : FieldType} (hret : meth.sig.returnType = some t) (ht : t.isReference = true) {pc : Nat} {Ls : Array Slot} {z : Value} (hz : z.isRef = true) (hd : decode c.code pc = .ok (.areturn, 1))
    (hQ : Q (some z) T.heap locs) (h1 : cells ≤ kc) (h2 : slots ≤ ks) : own_G p e below s Q kc ks T (mkF m pc Ls [z]) :=
  own_out X hlk (v := some z) (fun h => by rw [hret] at h; cases h) (fun fs hl => X.areturnOut hx hz hret ht hd hl) hQ h1 h2
theorem own_retV (X : Stand p l e R s m args below meth c T locs cells slots) (hx : p.tables.exec = Jvm.exec) (hlk : meth.locks = false) (hret : meth.sig.returnType = none) {pc : Nat} {Ls : Array Slot} (hd : decode c.code pc = .ok (.return_, 1))
    (hQ : Q none T.heap locs) (h1 : cells ≤ kc) (h2 : slots ≤ ks) : own_G p e below s Q kc ks T (mkF m pc Ls []) :=
  own_out X hlk (v := none) (fun _ => rfl) (fun fs hl => X.returnOut hx hret hd hl) hQ h1 h2
/-- a method's contract at one heap and one row of arguments -/
def own_C (l : Launch) (Z : State) (y : MethodName) (bytes : ByteArray) (mx : Nat) (ret : Option FieldType) (ws : List Jvm.Cond) (rm : Room) (as : Array Value) (h0 : Heap) (Q : Option Value → Heap → List Loc → Prop) : Prop :=
  MetFree l y (head1 (Jvm.Cond.code y bytes mx ret :: ws) rm) (fun a U => a = as ∧ Z.Warmed39 U.vm ∧ U.heap = h0) (fun _ _ _ _ _ => True) (fun _ U o U' => ∃ v L, o = .returned v ∧ Q v U'.heap L ∧ FrameEnd U o U' L rm.cells rm.slots)
theorem own_met {y : MethodName} {bytes : ByteArray} {mx : Nat} {ret : Option FieldType} {ws : List Jvm.Cond} {rm : Room} {as : Array Value} {h0 : Heap} (hp : plainFor y = true) (L0 : Array Slot) (hef : ∀ m, entryFrame m as mx = mkF m 0 L0 [])
    (body : ∀ (p : Program) (e : Env) (s : State) (m : MethodId) (below : List Frame) (meth : Method) (c : Code) (s₁ : State), p.tables.exec = Jvm.exec → c.code = bytes → c.maxLocals = mx → s.vm.findClass y.cls = some m.cls → meth.sig.returnType = ret → meth.locks = false → Z.Warmed39 s.vm → meth.name = y.name →
      Stand p l e rm s m as below meth c s₁ [] 0 0 → s₁.heap = h0 → own_G p e below s Q rm.cells rm.slots s₁ (mkF m 0 L0 [])) :
    own_C l Z y bytes mx ret ws rm as h0 Q := by
  refine MetFree.of_bodySF hp hisR ?_
  intro p e s m args below meth c s₁ Bd hml0 hP hK
  obtain ⟨rfl, hZ, hh⟩ := hP
  have hown : s.vm.findClass y.cls = some m.cls := findClass_of_methodNamed Bd.named
  have hnm := (name_of_methodNamed Bd.named Bd.method).1
  have X0 : Stand p l e rm s m args below meth c s₁ [] 0 0 := Stand.of_body Bd
  have e0 : s₁.heap = h0 := by rw [← hh, Bd.state]; rfl
  obtain ⟨t, o, h1, h2⟩ := body p e s m below meth c s₁ Bd.exec Bd.bytes hml0 hown Bd.returns Bd.notSynchronized hZ hnm X0 e0
  exact ⟨t, o, castTop (hef m) h1, h2⟩
/-- a static call by the callee's contract -/
theorem own_callS (X : Stand p l e R s m args below meth c T locs cells slots) (hx : p.tables.exec = Jvm.exec) (hZ : Z.Warmed39 s.vm) {own : String} {index : Nat} {y : MethodName} {bytes : ByteArray} {mx : Nat} {ret : Option FieldType} {rm : Room} {Qc : Option Value → Heap → List Loc → Prop}
    (hown : s.vm.findClass own = some m.cls) (w1 : (Jvm.Cond.methodLink own index y).before a0 Z = true) (w2 : (Jvm.Cond.static y).before a0 Z = true) (w3 : (Jvm.Cond.initialized y.cls).before a0 Z = true) (w4 : (Jvm.Cond.code y bytes mx ret).before a0 Z = true) (hy : y.cls ≠ "java/lang/invoke/MethodHandle" ∧ y.cls ≠ "java/lang/invoke/VarHandle")
    (eT : T.heap = h) (argsL rest : List Value) (hM : own_C l Z y bytes mx ret [] rm argsL.toArray h Qc) (W : Nat) (hf : rm.frames + 1 ≤ R.frames) (hlo : W + (mx + 11) + rm.locals ≤ R.locals) (hW : (rest.map fun v => v.category).sum ≤ W) (hc : cells + rm.cells ≤ R.cells) (hs : slots + rm.slots ≤ R.slots)
    {pc : Nat} {Ls : Array Slot} {S : List Value} (hsize : Ls.size = c.maxLocals) (hlen : ∀ sig, parseMethodDescriptor y.desc = some sig → argsL.length = sig.parameters.length) (hS : S = argsL.reverse ++ rest) (hd : decode c.code pc = .ok (.invokestatic index, 3))
    (k : ∀ (T' : State) (v : Option Value) (L : List Loc), Stand p l e R s m args below meth c T' (locs ++ L) (cells + rm.cells) (slots + rm.slots) → Qc v T'.heap L → own_G p e below s Q kc ks T' (mkF m (pc + 3) Ls (v.toList ++ rest))) :
    own_G p e below s Q kc ks T (mkF m pc Ls S) := by
  obtain ⟨v, _, ⟨T', L', k', n'⟩, -, X', ⟨L, hQ, q1, q2, q3⟩, st⟩ := Jvm.LawKit.callS X hx (y := y) hown (mvT hZ w1) (mvT hZ w2) (mvT hZ w3) (mvT hZ w4) hy (backOf (W := W) hM hZ w4 w3 hf hlo) (g := mkF m pc Ls S) rfl hsize (argsL := argsL) (rest := rest) hlen hS (by show 2 * 0 + _ ≤ _; omega) hd (fun _ _ => ⟨rfl, eT, hc, hs⟩)
  dsimp only [Pt.U, Pt.locs, Pt.cells, Pt.slots] at X' q1 q2 q3 st hQ
  subst q1 q2 q3
  exact own_go _ st (k T' v L X' hQ)
/-- what a pure method's end is: this value, the heap as it was, no place written -/
def own_P (r : Value) (h0 : Heap) (v : Option Value) (h : Heap) (L : List Loc) : Prop := v = some r ∧ h = h0 ∧ L = []
/-- a static call of a pure method -/
theorem own_callP (X : Stand p l e R s m args below meth c T locs cells slots) (hx : p.tables.exec = Jvm.exec) (hZ : Z.Warmed39 s.vm) {own : String} {index : Nat} {y : MethodName} {bytes : ByteArray} {mx : Nat} {ret : Option FieldType} {fr lo : Nat} {r : Value}
    (hown : s.vm.findClass own = some m.cls) (w1 : (Jvm.Cond.methodLink own index y).before a0 Z = true) (w2 : (Jvm.Cond.static y).before a0 Z = true) (w3 : (Jvm.Cond.initialized y.cls).before a0 Z = true) (w4 : (Jvm.Cond.code y bytes mx ret).before a0 Z = true) (hy : y.cls ≠ "java/lang/invoke/MethodHandle" ∧ y.cls ≠ "java/lang/invoke/VarHandle")
    (eT : T.heap = h) (argsL rest : List Value) (hM : own_C l Z y bytes mx ret [] { frames := fr, cells := 0, slots := 0, locals := lo } argsL.toArray h (own_P r h)) (W : Nat) (hf : fr + 1 ≤ R.frames) (hlo : W + (mx + 11) + lo ≤ R.locals) (hW : (rest.map fun v => v.category).sum ≤ W) (hc : cells ≤ R.cells) (hs : slots ≤ R.slots)
    {pc : Nat} {Ls : Array Slot} {S : List Value} (hsize : Ls.size = c.maxLocals) (hlen : ∀ sig, parseMethodDescriptor y.desc = some sig → argsL.length = sig.parameters.length) (hS : S = argsL.reverse ++ rest) (hd : decode c.code pc = .ok (.invokestatic index, 3))
    (k : ∀ (T' : State), Stand p l e R s m args below meth c T' locs cells slots → T'.heap = h → own_G p e below s Q kc ks T' (mkF m (pc + 3) Ls (r :: rest))) :
    own_G p e below s Q kc ks T (mkF m pc Ls S) := by
  refine own_callS X hx hZ hown w1 w2 w3 w4 hy eT argsL rest hM W hf hlo hW hc hs hsize hlen hS hd ?_
  rintro T' v L X' ⟨rfl, q2, rfl⟩
  rw [List.append_nil] at X'
  exact k T' X' q2
/-- a constructor's call -/
theorem own_callI (X : Stand p l e R s m args below meth c T locs cells slots) (hx : p.tables.exec = Jvm.exec) (hZ : Z.Warmed39 s.vm) {own : String} {index : Nat} {y : MethodName} {bytes : ByteArray} {mx : Nat} {rm : Room} {Qc : Option Value → Heap → List Loc → Prop} (hy1 : y.name = "<init>")
    (hown : s.vm.findClass own = some m.cls) (w1 : (Jvm.Cond.methodLink own index y).before a0 Z = true) (w2 : (Jvm.Cond.instanceMethod y).before a0 Z = true) (w3 : (Jvm.Cond.initialized y.cls).before a0 Z = true) (w4 : (Jvm.Cond.code y bytes mx none).before a0 Z = true) (hy : y.cls ≠ "java/lang/invoke/MethodHandle" ∧ y.cls ≠ "java/lang/invoke/VarHandle")
    (eT : T.heap = h) (a : Addr) (argsL rest : List Value) (hM : own_C l Z y bytes mx none [] rm (.ref a :: argsL).toArray h Qc) (W : Nat) (hf : rm.frames + 1 ≤ R.frames) (hlo : W + (mx + 11) + rm.locals ≤ R.locals) (hW : (rest.map fun v => v.category).sum ≤ W) (hc : cells + rm.cells ≤ R.cells) (hs : slots + rm.slots ≤ R.slots)
    {pc : Nat} {Ls : Array Slot} {S : List Value} (hsize : Ls.size = c.maxLocals) (hlen : ∀ sig, parseMethodDescriptor y.desc = some sig → argsL.length = sig.parameters.length) (hS : S = argsL.reverse ++ .ref a :: rest) (hd : decode c.code pc = .ok (.invokespecial index, 3))
    (k : ∀ (T' : State) (v : Option Value) (L : List Loc), Stand p l e R s m args below meth c T' (locs ++ L) (cells + rm.cells) (slots + rm.slots) → Qc v T'.heap L → own_G p e below s Q kc ks T' (mkF m (pc + 3) Ls (v.toList ++ rest))) :
    own_G p e below s Q kc ks T (mkF m pc Ls S) := by
  obtain ⟨v, _, ⟨T', L', k', n'⟩, -, X', ⟨L, hQ, q1, q2, q3⟩, st⟩ := X.specialBack hx (y := y) hy1 hown (mvT hZ w1) (mvT hZ w2) (mvT hZ w4) hy (backOf (W := W) hM hZ w4 w3 hf hlo) (g := mkF m pc Ls S) rfl hsize (Steps.refl _) (a := a) (argsL := argsL) (rest := rest) hlen hS (by show 2 * 0 + _ ≤ _; omega) hd (fun _ _ => ⟨rfl, eT, hc, hs⟩)
  dsimp only [Pt.U, Pt.locs, Pt.cells, Pt.slots] at X' q1 q2 q3 st hQ
  subst q1 q2 q3
  exact own_go _ (fun t kt => st.trans kt) (k T' v L X' hQ)
/-- an instance method's call -/
theorem own_callV (X : Stand p l e R s m args below meth c T locs cells slots) (hx : p.tables.exec = Jvm.exec) (hZ : Z.Warmed39 s.vm) {own C : String} {index : Nat} {y : MethodName} {bytes : ByteArray} {mx : Nat} {ret : Option FieldType} {rm : Room} {Qc : Option Value → Heap → List Loc → Prop}
    (hown : s.vm.findClass own = some m.cls) (w1 : (Jvm.Cond.methodLink own index y).before a0 Z = true) (w5 : (Jvm.Cond.declares y).before a0 Z = true) (w6 : (Jvm.Cond.selects C y y).before a0 Z = true) (w2 : (Jvm.Cond.instanceMethod y).before a0 Z = true) (w3 : (Jvm.Cond.initialized y.cls).before a0 Z = true) (w4 : (Jvm.Cond.code y bytes mx ret).before a0 Z = true) (hy : y.cls ≠ "java/lang/invoke/MethodHandle" ∧ y.cls ≠ "java/lang/invoke/VarHandle")
    (eT : T.heap = h) {a : Addr} (E : Exa Z h a C) (argsL rest : List Value) (hM : own_C l Z y bytes mx ret [] rm (.ref a :: argsL).toArray h Qc) (W : Nat) (hf : rm.frames + 1 ≤ R.frames) (hlo : W + (mx + 11) + rm.locals ≤ R.locals) (hW : (rest.map fun v => v.category).sum ≤ W) (hc : cells + rm.cells ≤ R.cells) (hs : slots + rm.slots ≤ R.slots)
    {pc : Nat} {Ls : Array Slot} {S : List Value} (hsize : Ls.size = c.maxLocals) (hlen : ∀ sig, parseMethodDescriptor y.desc = some sig → argsL.length = sig.parameters.length) (hS : S = argsL.reverse ++ .ref a :: rest) (hd : decode c.code pc = .ok (.invokevirtual index, 3))
    (k : ∀ (T' : State) (v : Option Value) (L : List Loc), Stand p l e R s m args below meth c T' (locs ++ L) (cells + rm.cells) (slots + rm.slots) → Qc v T'.heap L → own_G p e below s Q kc ks T' (mkF m (pc + 3) Ls (v.toList ++ rest))) :
    own_G p e below s Q kc ks T (mkF m pc Ls S) := by
  obtain ⟨cq, kq, qa, qb, qc⟩ := isOf hZ eT E
  obtain ⟨v, _, ⟨T', L', k', n'⟩, -, X', ⟨L, hQ, q1, q2, q3⟩, st⟩ := X.virtualBack hx (y := y) (z := y) hown (mvT hZ w1) (mvT hZ w5) (notFace_of_selects (args := #[]) (mvT hZ w6)) (mvT hZ w6) (mvT hZ w2) hy (backOf (W := W) hM hZ w4 w3 hf hlo) qa qc (g := mkF m pc Ls S) rfl hsize (Steps.refl _) (argsL := argsL) (rest := rest) hlen hS (by show 2 * 0 + _ ≤ _; omega) hd (fun _ _ => ⟨rfl, eT, hc, hs⟩)
  dsimp only [Pt.U, Pt.locs, Pt.cells, Pt.slots] at X' q1 q2 q3 st hQ
  subst q1 q2 q3
  exact own_go _ (fun t kt => st.trans kt) (k T' v L X' hQ)
end OwnKit
section OwnHeap
variable {p : Program} {l : Launch} {e : Env} {R : Room} {s : State} {m : MethodId} {args : Array Value} {below : List Frame} {meth : Method} {c : Code} {T T' : State} {locs : List Loc} {cells slots n0 : Nat} {Q : Option Value → Heap → List Loc → Prop} {kc ks : Nat} {g : JFrame} {Z : State} {a0 : Array Value} {h h' h0 : Heap} {a b : Addr} {vs : List Value} {ty : FieldType} {v w : Value} {sl pc : Nat} {Ls : Array Slot} {rest : List Value}
/-- the run stands here, and whatever was written lies in cells at or above n0 -/
def own_S (p : Program) (l : Launch) (e : Env) (R : Room) (s : State) (m : MethodId) (args : Array Value) (below : List Frame) (meth : Method) (c : Code) (n0 : Nat) (T : State) (cells slots : Nat) : Prop := ∃ locs, Stand p l e R s m args below meth c T locs cells slots ∧ Fr n0 locs
theorem own_S.of (X : Stand p l e R s m args below meth c T [] cells slots) (n0 : Nat) : own_S p l e R s m args below meth c n0 T cells slots := ⟨[], X, Fr.nil n0⟩
theorem own_S.here (X : own_S p l e R s m args below meth c n0 T cells slots) : At T m c below := X.elim fun _ q => q.1.here
theorem own_S.ldcInt (X : own_S p l e R s m args below meth c n0 T cells slots) (hx : p.tables.exec = Jvm.exec) {own : String} {index : Nat} {v : Int32} (hown : s.vm.findClass own = some m.cls)
    (hc : (Jvm.Cond.constant own index v).before args s = true) {g : JFrame} (hg : g.method = m) (hd : decode c.code g.pc = .ok (.ldc index, 2)) (t : State) (k : Steps p.tables e below (T.setTop { g with pc := g.pc + 2, stack := .int v :: g.stack }) t) : Steps p.tables e below (T.setTop g) t :=
  X.elim fun _ q => q.1.ldcInt hx hown hc hg hd t k
theorem own_S.ldcwInt (X : own_S p l e R s m args below meth c n0 T cells slots) (hx : p.tables.exec = Jvm.exec) {own : String} {index : Nat} {v : Int32} (hown : s.vm.findClass own = some m.cls)
    (hc : (Jvm.Cond.constant own index v).before args s = true) {g : JFrame} (hg : g.method = m) (hd : decode c.code g.pc = .ok (.ldc_w index, 3)) (t : State) (k : Steps p.tables e below (T.setTop { g with pc := g.pc + 3, stack := .int v :: g.stack }) t) : Steps p.tables e below (T.setTop g) t :=
  X.elim fun _ q => q.1.ldcwInt hx hown hc hg hd t k
theorem own_S.ldc2Long (X : own_S p l e R s m args below meth c n0 T cells slots) (hx : p.tables.exec = Jvm.exec) {own : String} {index : Nat} {v : Int64} (hown : s.vm.findClass own = some m.cls)
    (hc : (Jvm.Cond.constantLong own index v).before args s = true) {g : JFrame} (hg : g.method = m) (hd : decode c.code g.pc = .ok (.ldc2_w index, 3)) (t : State) (k : Steps p.tables e below (T.setTop { g with pc := g.pc + 3, stack := .long v :: g.stack }) t) : Steps p.tables e below (T.setTop g) t :=
  X.elim fun _ q => q.1.ldc2Long hx hown hc hg hd t k
theorem own_S.more (X : own_S p l e R s m args below meth c n0 T cells slots) {cells' slots' : Nat} (h1 : cells ≤ cells') (h2 : slots ≤ slots') : own_S p l e R s m args below meth c n0 T cells' slots' := X.elim fun L q => ⟨L, q.1.more h1 h2, q.2⟩
/-- what a contract with a heap says: the places written are new, and P -/
def own_Q (n0 : Nat) (P : Option Value → Heap → Prop) (v : Option Value) (h : Heap) (L : List Loc) : Prop := Fr n0 L ∧ P v h
theorem own_S.retI {P : Option Value → Heap → Prop} (X : own_S p l e R s m args below meth c n0 T cells slots) (hx : p.tables.exec = Jvm.exec) (hlk : meth.locks = false) (hret : meth.sig.returnType = some .int) {z : Int32} (hd : decode c.code pc = .ok (.ireturn, 1))
    (hQ : P (some (.int z)) T.heap) (h1 : cells ≤ kc) (h2 : slots ≤ ks) : own_G p e below s (own_Q n0 P) kc ks T (mkF m pc Ls (.int z :: rest)) := X.elim fun L q => own_retI q.1 hx hlk hret hd ⟨q.2, hQ⟩ h1 h2
theorem own_S.retZ {P : Option Value → Heap → Prop} (X : own_S p l e R s m args below meth c n0 T cells slots) (hx : p.tables.exec = Jvm.exec) (hlk : meth.locks = false) (hret : meth.sig.returnType = some .boolean) {z : Int32} (hd : decode c.code pc = .ok (.ireturn, 1))
    (hQ : P (some (.int (z &&& 1))) T.heap) (h1 : cells ≤ kc) (h2 : slots ≤ ks) : own_G p e below s (own_Q n0 P) kc ks T (mkF m pc Ls (.int z :: rest)) := X.elim fun L q => own_retZ q.1 hx hlk hret hd ⟨q.2, hQ⟩ h1 h2
theorem own_S.retJ {P : Option Value → Heap → Prop} (X : own_S p l e R s m args below meth c n0 T cells slots) (hx : p.tables.exec = Jvm.exec) (hlk : meth.locks = false) (hret : meth.sig.returnType = some .long) {z : Int64} (hd : decode c.code pc = .ok (.lreturn, 1))
    (hQ : P (some (.long z)) T.heap) (h1 : cells ≤ kc) (h2 : slots ≤ ks) : own_G p e below s (own_Q n0 P) kc ks T (mkF m pc Ls [.long z]) := X.elim fun L q => own_retJ q.1 hx hlk hret hd ⟨q.2, hQ⟩ h1 h2
theorem own_S.retA {P : Option Value → Heap → Prop} (X : own_S p l e R s m args below meth c n0 T cells slots) (hx : p.tables.exec = Jvm.exec) (hlk : meth.locks = false) {t : FieldType} (hret : meth.sig.returnType = some t) (ht : t.isReference = true) {z : Value} (hz : z.isRef = true) (hd : decode c.code pc = .ok (.areturn, 1))
    (hQ : P (some z) T.heap) (h1 : cells ≤ kc) (h2 : slots ≤ ks) : own_G p e below s (own_Q n0 P) kc ks T (mkF m pc Ls [z]) := X.elim fun L q => own_retA q.1 hx hlk hret ht hz hd ⟨q.2, hQ⟩ h1 h2
theorem own_S.retV {P : Option Value → Heap → Prop} (X : own_S p l e R s m args below meth c n0 T cells slots) (hx : p.tables.exec = Jvm.exec) (hlk : meth.locks = false) (hret : meth.sig.returnType = none) (hd : decode c.code pc = .ok (.return_, 1))
    (hQ : P none T.heap) (h1 : cells ≤ kc) (h2 : slots ≤ ks) : own_G p e below s (own_Q n0 P) kc ks T (mkF m pc Ls []) := X.elim fun L q => own_retV q.1 hx hlk hret hd ⟨q.2, hQ⟩ h1 h2
/-- fields -/
theorem own_S.getF (X : own_S p l e R s m args below meth c n0 T cells slots) (hx : p.tables.exec = Jvm.exec) (hZ : Z.Warmed39 s.vm) {own C n d : String} {index : Nat} (hown : s.vm.findClass own = some m.cls) (w1 : (Jvm.Cond.fieldLink own index C n d).before a0 Z = true) (eT : T.heap = h) (F : Fld Z h a C n d v) (hd : decode c.code pc = .ok (.getfield index, 3))
    (k : ∀ T', own_S p l e R s m args below meth c n0 T' cells slots → T'.heap = h → own_G p e below s Q kc ks T' (mkF m (pc + 3) Ls (v :: rest))) : own_G p e below s Q kc ks T (mkF m pc Ls (.ref a :: rest)) := by
  obtain ⟨locs, Y, N⟩ := X
  obtain ⟨T', Y', e', st⟩ := Jvm.RoadKit.getF Y hx hZ hown (host := "") (Or.inl w1) Via.refl eT F (g := mkF m pc Ls (.ref a :: rest)) rfl rfl hd
  exact own_go _ st (k T' ⟨locs, Y', N⟩ e')
theorem own_S.putF (X : own_S p l e R s m args below meth c n0 T cells slots) (hx : p.tables.exec = Jvm.exec) (hZ : Z.Warmed39 s.vm) {own C n d : String} {index kk : Nat} {ty : FieldType} (hown : s.vm.findClass own = some m.cls) (w1 : (Jvm.Cond.fieldLink own index C n d).before a0 Z = true) (eT : T.heap = h) {old : Value} (F : Fld Z h a C n d old) (E : Exa Z h a C) (g0 : n0 ≤ a)
    (L : (Jvm.Cond.lays C C n d).before a0 Z = true ∨ ((Jvm.Cond.laysFinal C C n d).before a0 Z = true ∧ own = C ∧ meth.name = "<init>")) (wi : (Jvm.Cond.instantiable C kk).before a0 Z = true) (hty : parseFieldDescriptor d = some ty) (hn : narrow ty v = v) (hf : fits ty v = true) (hd : decode c.code pc = .ok (.putfield index, 3))
    (k : ∀ T' h', own_S p l e R s m args below meth c n0 T' cells slots → T'.heap = h' → Wr h h' a (Jvm.RoadKit.slotOf Z C n d) v → own_G p e below s Q kc ks T' (mkF m (pc + 3) Ls rest)) : own_G p e below s Q kc ks T (mkF m pc Ls (v :: .ref a :: rest)) := by
  obtain ⟨locs, Y, N⟩ := X
  obtain ⟨T', h', Y', e', W, st⟩ := Jvm.RoadKit.putF Y hx hZ hown (host := "") (Or.inl w1) Via.refl eT F E L wi hty hn hf (g := mkF m pc Ls (v :: .ref a :: rest)) rfl rfl hd
  exact own_go _ st (k T' h' ⟨_, Y', Fr.snoc Y' N g0⟩ e' W)
theorem own_S.initO (X : own_S p l e R s m args below meth c n0 T cells slots) (hx : p.tables.exec = Jvm.exec) (hZ : Z.Warmed39 s.vm) {own : String} {idx : Nat} (hown : s.vm.findClass own = some m.cls) (w1 : (Jvm.Cond.methodLink own idx Lib.objectInit).before a0 Z = true) (w2 : (Jvm.Cond.instanceMethod Lib.objectInit).before a0 Z = true)
    (w3 : (Jvm.Cond.code Lib.objectInit ⟨#[0xb1]⟩ 1 none).before a0 Z = true) (eT : T.heap = h) (hsize : Ls.size = c.maxLocals) (hd : decode c.code pc = .ok (.invokespecial idx, 3)) (hf : 1 ≤ R.frames) (W : Nat) (hW : (rest.map fun v => v.category).sum ≤ W) (hl : W + 12 ≤ R.locals)
    (k : ∀ T', own_S p l e R s m args below meth c n0 T' cells slots → T'.heap = h → own_G p e below s Q kc ks T' (mkF m (pc + 3) Ls rest)) : own_G p e below s Q kc ks T (mkF m pc Ls (.ref a :: rest)) := by
  obtain ⟨locs, Y, N⟩ := X
  obtain ⟨T', Y', e', st⟩ := Jvm.RoadKit.initO Y hx hZ hown w1 w2 w3 eT (g := mkF m pc Ls (.ref a :: rest)) rfl hsize (a := a) (rest := rest) rfl hd hf (W := W) (by show 2 * 0 + _ ≤ _; omega) hl
  exact own_go _ st (k T' ⟨locs, Y', N⟩ e')
/-- new -/
theorem own_S.newO (X : own_S p l e R s m args below meth c n0 T cells slots) (hx : p.tables.exec = Jvm.exec) (hZ : Z.Warmed39 s.vm) {own C : String} {index n : Nat} (hown : s.vm.findClass own = some m.cls) (w1 : (Jvm.Cond.classLink own index C).before a0 Z = true) (wi : (Jvm.Cond.instantiable C n).before a0 Z = true) (wz : (Jvm.Cond.initialized C).before a0 Z = true) (eT : T.heap = h)
    (hd : decode c.code pc = .ok (.new index, 3)) (hc : cells + 1 ≤ R.cells) (hl : slots + n ≤ R.slots)
    (k : ∀ T' h' (b : Addr), own_S p l e R s m args below meth c n0 T' (cells + 1) (slots + n) → T'.heap = h' → b = h.size → Ext h h' → Exa Z h' b C → (∀ {O nm d : String} {ty : FieldType}, Laid Z a0 C O nm d → parseFieldDescriptor d = some ty → Fld Z h' b O nm d (defaultValue ty)) → own_G p e below s Q kc ks T' (mkF m (pc + 3) Ls (.ref b :: rest))) :
    own_G p e below s Q kc ks T (mkF m pc Ls rest) := by
  obtain ⟨locs, Y, N⟩ := X
  obtain ⟨T', h', Y', e', E, A, D, -, st⟩ := Jvm.RoadKit.newO Y hx hZ hown w1 wi wz eT (g := mkF m pc Ls rest) rfl hd hc hl
  exact own_go _ st (k T' h' h.size ⟨_, Y', N⟩ e' rfl E A D)
/-- an array, by the list of what it holds -/
def own_A (Z : State) (h : Heap) (ty : FieldType) (a : Addr) (vs : List Value) : Prop := ∃ cl : Cell, Arr Z h a cl ty ∧ cl.slots = vs.toArray ∧ vs.length < 2 ^ 31
theorem own_A.lt (A : own_A Z h ty a vs) : a < h.size := A.elim fun _ q => q.1.lt
theorem own_A.ext (A : own_A Z h ty a vs) (E : Ext h h') : own_A Z h' ty a vs := A.elim fun cl q => ⟨cl, q.1.ext E, q.2⟩
theorem own_A.other (A : own_A Z h ty b vs) (W : Wr h h' a sl v) (q : b ≠ a) : own_A Z h' ty b vs := A.elim fun cl r => ⟨cl, r.1.other W q, r.2⟩
theorem own_A.keep {ws : List Addr} (A : own_A Z h ty a vs) (K : Keep h h' ws) (q : a ∉ ws) : own_A Z h' ty a vs := A.elim fun cl r => ⟨cl, ⟨K.2.1 a cl r.1.1 q, r.1.2⟩, r.2⟩
theorem own_A.set (A : own_A Z h ty a vs) {i : Nat} (W : Wr h h' a i v) : own_A Z h' ty a (vs.set i v) := by
  obtain ⟨cl, A, q1, q2⟩ := A
  refine ⟨_, A.same W, ?_, by rw [List.length_set]; exact q2⟩
  simp [Cell.setSlot, q1]
theorem own_A.len (A : own_A Z h ty a vs) : vs.length < 2 ^ 31 := A.elim fun _ q => q.2.2
theorem own_clamp {j : Int32} {i : Nat} (hj : j.toInt = i) : j.toNatClampNeg = i ∧ ¬ j < 0 := by
  refine ⟨by simp [Int32.toNatClampNeg, hj], ?_⟩
  rw [Int32.lt_iff_toInt_lt, Int32.toInt_zero]; omega
theorem own_in {cl : Cell} (q1 : cl.slots = vs.toArray) {j : Int32} {i : Nat} (hj : j.toInt = i) (hi : i < vs.length) : ¬ (j < 0 ∨ cl.slots.size ≤ j.toNatClampNeg) := by
  obtain ⟨c1, c2⟩ := own_clamp hj
  rw [q1, c1]; intro r
  rcases r with r | r
  · exact c2 r
  · simp at r; omega
theorem own_lt_of {i : Nat} (hv : vs[i]? = some v) : i < vs.length := (List.getElem?_eq_some_iff.mp hv).1
theorem own_S.ldJ (X : own_S p l e R s m args below meth c n0 T cells slots) (hx : p.tables.exec = Jvm.exec) (hZ : Z.Warmed39 s.vm) (eT : T.heap = h) (A : own_A Z h .long a vs) {j : Int32} (i : Nat) (hj : j.toInt = i) (hv : vs[i]? = some v) (hd : decode c.code pc = .ok (.laload, 1))
    (k : own_G p e below s Q kc ks T (mkF m (pc + 1) Ls (v :: rest))) : own_G p e below s Q kc ks T (mkF m pc Ls (.int j :: .ref a :: rest)) := by
  obtain ⟨locs, Y, N⟩ := X
  obtain ⟨cl, A, q1, q2⟩ := A
  refine own_go _ (fun t kt => Y.laload hx (j := j) (v := v) (by rw [eT]; exact A.1) (State.isArrayOf_alike hZ.alike A.2.1) A.2.2 (own_in q1 hj (own_lt_of hv)) (by rw [(own_clamp hj).1, q1]; simpa using hv) (g := mkF m pc Ls (.int j :: .ref a :: rest)) rfl rfl hd t kt) k
theorem own_S.ldI (X : own_S p l e R s m args below meth c n0 T cells slots) (hx : p.tables.exec = Jvm.exec) (hZ : Z.Warmed39 s.vm) (eT : T.heap = h) (A : own_A Z h .int a vs) {j : Int32} (i : Nat) (hj : j.toInt = i) (hv : vs[i]? = some v) (hd : decode c.code pc = .ok (.iaload, 1))
    (k : own_G p e below s Q kc ks T (mkF m (pc + 1) Ls (v :: rest))) : own_G p e below s Q kc ks T (mkF m pc Ls (.int j :: .ref a :: rest)) := by
  obtain ⟨locs, Y, N⟩ := X
  obtain ⟨cl, A, q1, q2⟩ := A
  refine own_go _ (fun t kt => Y.iaload hx (j := j) (v := v) (by rw [eT]; exact A.1) (State.isArrayOf_alike hZ.alike A.2.1) A.2.2 (own_in q1 hj (own_lt_of hv)) (by rw [(own_clamp hj).1, q1]; simpa using hv) (g := mkF m pc Ls (.int j :: .ref a :: rest)) rfl rfl hd t kt) k
theorem own_S.ldB (X : own_S p l e R s m args below meth c n0 T cells slots) (hx : p.tables.exec = Jvm.exec) (hZ : Z.Warmed39 s.vm) (eT : T.heap = h) (A : own_A Z h .byte a vs) {j : Int32} (i : Nat) (hj : j.toInt = i) (hv : vs[i]? = some v) (hd : decode c.code pc = .ok (.baload, 1))
    (k : own_G p e below s Q kc ks T (mkF m (pc + 1) Ls (v :: rest))) : own_G p e below s Q kc ks T (mkF m pc Ls (.int j :: .ref a :: rest)) := by
  obtain ⟨locs, Y, N⟩ := X
  obtain ⟨cl, A, q1, q2⟩ := A
  refine own_go _ (fun t kt => Y.baloadBytes hx (j := j) (v := v) (by rw [eT]; exact A.1) (State.isArrayOf_alike hZ.alike A.2.1) A.2.2 (own_in q1 hj (own_lt_of hv)) (by rw [(own_clamp hj).1, q1]; simpa using hv) (g := mkF m pc Ls (.int j :: .ref a :: rest)) rfl rfl hd t kt) k
theorem own_S.alen (X : own_S p l e R s m args below meth c n0 T cells slots) (hx : p.tables.exec = Jvm.exec) (hZ : Z.Warmed39 s.vm) (eT : T.heap = h) (A : own_A Z h ty a vs) (hd : decode c.code pc = .ok (.arraylength, 1))
    (k : own_G p e below s Q kc ks T (mkF m (pc + 1) Ls (.int (Int32.ofNat vs.length) :: rest))) : own_G p e below s Q kc ks T (mkF m pc Ls (.ref a :: rest)) := by
  obtain ⟨locs, Y, N⟩ := X
  obtain ⟨cl, A, q1, q2⟩ := A
  have q : cl.slots.size.toInt32 = Int32.ofNat vs.length := by rw [q1]; simp
  refine own_go _ (fun t kt => Y.arraylength hx (by rw [eT]; exact A.1) (State.isArrayOf_alike hZ.alike A.2.1) (g := mkF m pc Ls (.ref a :: rest)) rfl rfl hd t (by rw [q]; exact kt)) k
theorem own_S.stJ (X : own_S p l e R s m args below meth c n0 T cells slots) (hx : p.tables.exec = Jvm.exec) (hZ : Z.Warmed39 s.vm) (eT : T.heap = h) (A : own_A Z h .long a vs) (g0 : n0 ≤ a) {j : Int32} {x : Int64} (i : Nat) (hj : j.toInt = i) (hi : i < vs.length) (hd : decode c.code pc = .ok (.lastore, 1))
    (k : ∀ T' h', own_S p l e R s m args below meth c n0 T' cells slots → T'.heap = h' → Wr h h' a i (.long x) → own_A Z h' .long a (vs.set i (.long x)) → own_G p e below s Q kc ks T' (mkF m (pc + 1) Ls rest)) : own_G p e below s Q kc ks T (mkF m pc Ls (.long x :: .int j :: .ref a :: rest)) := by
  obtain ⟨locs, Y, N⟩ := X
  have A' := A
  obtain ⟨cl, A, q1, q2⟩ := A
  obtain ⟨T', h', Y', e', W, st⟩ := Jvm.RoadKit.stJ Y hx hZ eT A (j := j) (x := x) (own_in q1 hj hi) (g := mkF m pc Ls (.long x :: .int j :: .ref a :: rest)) rfl rfl hd
  rw [(own_clamp hj).1] at W
  exact own_go _ st (k T' h' ⟨_, Y', Fr.snoc Y' N g0⟩ e' W (A'.set W))
theorem own_S.stI (X : own_S p l e R s m args below meth c n0 T cells slots) (hx : p.tables.exec = Jvm.exec) (hZ : Z.Warmed39 s.vm) (eT : T.heap = h) (A : own_A Z h .int a vs) (g0 : n0 ≤ a) {j : Int32} {x : Int32} (i : Nat) (hj : j.toInt = i) (hi : i < vs.length) (hd : decode c.code pc = .ok (.iastore, 1))
    (k : ∀ T' h', own_S p l e R s m args below meth c n0 T' cells slots → T'.heap = h' → Wr h h' a i (.int x) → own_A Z h' .int a (vs.set i (.int x)) → own_G p e below s Q kc ks T' (mkF m (pc + 1) Ls rest)) : own_G p e below s Q kc ks T (mkF m pc Ls (.int x :: .int j :: .ref a :: rest)) := by
  obtain ⟨locs, Y, N⟩ := X
  have A' := A
  obtain ⟨cl, A, q1, q2⟩ := A
  obtain ⟨T', h', Y', e', W, st⟩ := Jvm.RoadKit.stI Y hx hZ eT A (j := j) (x := x) (own_in q1 hj hi) (g := mkF m pc Ls (.int x :: .int j :: .ref a :: rest)) rfl rfl hd
  rw [(own_clamp hj).1] at W
  exact own_go _ st (k T' h' ⟨_, Y', Fr.snoc Y' N g0⟩ e' W (A'.set W))
theorem own_S.stB (X : own_S p l e R s m args below meth c n0 T cells slots) (hx : p.tables.exec = Jvm.exec) (hZ : Z.Warmed39 s.vm) (eT : T.heap = h) (A : own_A Z h .byte a vs) (g0 : n0 ≤ a) {j : Int32} {x : Int32} (i : Nat) (hj : j.toInt = i) (hi : i < vs.length) (hd : decode c.code pc = .ok (.bastore, 1))
    (k : ∀ T' h', own_S p l e R s m args below meth c n0 T' cells slots → T'.heap = h' → Wr h h' a i (.int x.toInt8.toInt32) → own_A Z h' .byte a (vs.set i (.int x.toInt8.toInt32)) → own_G p e below s Q kc ks T' (mkF m (pc + 1) Ls rest)) : own_G p e below s Q kc ks T (mkF m pc Ls (.int x :: .int j :: .ref a :: rest)) := by
  obtain ⟨locs, Y, N⟩ := X
  have A' := A
  obtain ⟨cl, A, q1, q2⟩ := A
  obtain ⟨T', h', Y', e', W, st⟩ := Jvm.RoadKit.stB Y hx hZ eT A (j := j) (x := x) (own_in q1 hj hi) (g := mkF m pc Ls (.int x :: .int j :: .ref a :: rest)) rfl rfl hd
  rw [(own_clamp hj).1] at W
  exact own_go _ st (k T' h' ⟨_, Y', Fr.snoc Y' N g0⟩ e' W (A'.set W))
theorem own_S.stZ (X : own_S p l e R s m args below meth c n0 T cells slots) (hx : p.tables.exec = Jvm.exec) (hZ : Z.Warmed39 s.vm) (eT : T.heap = h) (A : own_A Z h .boolean a vs) (g0 : n0 ≤ a) {j : Int32} {x : Int32} (i : Nat) (hj : j.toInt = i) (hi : i < vs.length) (hd : decode c.code pc = .ok (.bastore, 1))
    (k : ∀ T' h', own_S p l e R s m args below meth c n0 T' cells slots → T'.heap = h' → Wr h h' a i (.int (x &&& 1)) → own_A Z h' .boolean a (vs.set i (.int (x &&& 1))) → own_G p e below s Q kc ks T' (mkF m (pc + 1) Ls rest)) : own_G p e below s Q kc ks T (mkF m pc Ls (.int x :: .int j :: .ref a :: rest)) := by
  obtain ⟨locs, Y, N⟩ := X
  have A' := A
  obtain ⟨cl, A, q1, q2⟩ := A
  obtain ⟨T', h', Y', e', W, st⟩ := Jvm.RoadKit.stZ Y hx hZ eT A (j := j) (x := x) (own_in q1 hj hi) (g := mkF m pc Ls (.int x :: .int j :: .ref a :: rest)) rfl rfl hd
  rw [(own_clamp hj).1] at W
  exact own_go _ st (k T' h' ⟨_, Y', Fr.snoc Y' N g0⟩ e' W (A'.set W))
theorem own_S.newP (X : own_S p l e R s m args below meth c n0 T cells slots) (hx : p.tables.exec = Jvm.exec) (hZ : Z.Warmed39 s.vm) {aty : ArrayType} (w1 : (Jvm.Cond.arrayClass (newarray.typeOf aty)).before a0 Z = true) (eT : T.heap = h) {j : Int32} (n : Nat) (hj : j.toInt = n) (hd : decode c.code pc = .ok (.newarray aty, 2)) (cap : Nat) (hn : n ≤ cap) (hb : cap * 8 ≤ 536870912) (hc : cells + 1 ≤ R.cells) (hl : slots + cap ≤ R.slots)
    (k : ∀ T' h' (b : Addr), own_S p l e R s m args below meth c n0 T' (cells + 1) (slots + cap) → T'.heap = h' → b = h.size → Ext h h' → own_A Z h' (newarray.typeOf aty) b (List.replicate n (defaultValue (newarray.typeOf aty))) → own_G p e below s Q kc ks T' (mkF m (pc + 2) Ls (.ref b :: rest))) :
    own_G p e below s Q kc ks T (mkF m pc Ls (.int j :: rest)) := by
  obtain ⟨locs, Y, N⟩ := X
  obtain ⟨c1, c2⟩ := own_clamp hj
  obtain ⟨T', h', cA, Y', e', E, A, st⟩ := Jvm.RoadKit.newP Y hx hZ w1 eT (g := mkF m pc Ls (.int j :: rest)) rfl hd rfl c2 (cap := cap) (by rw [c1]; exact hn) hb hc hl
  refine own_go _ st (k T' h' h.size ⟨_, Y', N⟩ e' rfl E ⟨_, A, ?_, ?_⟩)
  · simp [newA, c1]
  · rw [List.length_replicate]; omega
/-- calls -/
theorem own_S.callS (X : own_S p l e R s m args below meth c n0 T cells slots) (hx : p.tables.exec = Jvm.exec) (hZ : Z.Warmed39 s.vm) {own : String} {index : Nat} {y : MethodName} {bytes : ByteArray} {mx : Nat} {ret : Option FieldType} {rm : Room} {P : Option Value → Heap → Prop}
    (hown : s.vm.findClass own = some m.cls) (w1 : (Jvm.Cond.methodLink own index y).before a0 Z = true) (w2 : (Jvm.Cond.static y).before a0 Z = true) (w3 : (Jvm.Cond.initialized y.cls).before a0 Z = true) (w4 : (Jvm.Cond.code y bytes mx ret).before a0 Z = true) (hy : y.cls ≠ "java/lang/invoke/MethodHandle" ∧ y.cls ≠ "java/lang/invoke/VarHandle")
    (eT : T.heap = h) (argsL rest : List Value) (hM : own_C l Z y bytes mx ret [] rm argsL.toArray h (own_Q n0 P)) (W : Nat) (hf : rm.frames + 1 ≤ R.frames) (hlo : W + (mx + 11) + rm.locals ≤ R.locals) (hW : (rest.map fun v => v.category).sum ≤ W) (hc : cells + rm.cells ≤ R.cells) (hs : slots + rm.slots ≤ R.slots)
    {S : List Value} (hsize : Ls.size = c.maxLocals) (hlen : ∀ sig, parseMethodDescriptor y.desc = some sig → argsL.length = sig.parameters.length) (hS : S = argsL.reverse ++ rest) (hd : decode c.code pc = .ok (.invokestatic index, 3))
    (k : ∀ (T' : State) (v : Option Value), own_S p l e R s m args below meth c n0 T' (cells + rm.cells) (slots + rm.slots) → P v T'.heap → own_G p e below s Q kc ks T' (mkF m (pc + 3) Ls (v.toList ++ rest))) :
    own_G p e below s Q kc ks T (mkF m pc Ls S) := by
  obtain ⟨locs, Y, N⟩ := X
  exact own_callS Y hx hZ hown w1 w2 w3 w4 hy eT argsL rest hM W hf hlo hW hc hs hsize hlen hS hd fun T' v L Y' hq => k T' v ⟨_, Y', N.app hq.1⟩ hq.2
theorem own_S.callP (X : own_S p l e R s m args below meth c n0 T cells slots) (hx : p.tables.exec = Jvm.exec) (hZ : Z.Warmed39 s.vm) {own : String} {index : Nat} {y : MethodName} {bytes : ByteArray} {mx : Nat} {ret : Option FieldType} {fr lo : Nat} {r : Value}
    (hown : s.vm.findClass own = some m.cls) (w1 : (Jvm.Cond.methodLink own index y).before a0 Z = true) (w2 : (Jvm.Cond.static y).before a0 Z = true) (w3 : (Jvm.Cond.initialized y.cls).before a0 Z = true) (w4 : (Jvm.Cond.code y bytes mx ret).before a0 Z = true) (hy : y.cls ≠ "java/lang/invoke/MethodHandle" ∧ y.cls ≠ "java/lang/invoke/VarHandle")
    (eT : T.heap = h) (argsL rest : List Value) (hM : own_C l Z y bytes mx ret [] { frames := fr, cells := 0, slots := 0, locals := lo } argsL.toArray h (own_P r h)) (W : Nat) (hf : fr + 1 ≤ R.frames) (hlo : W + (mx + 11) + lo ≤ R.locals) (hW : (rest.map fun v => v.category).sum ≤ W) (hc : cells ≤ R.cells) (hs : slots ≤ R.slots)
    {S : List Value} (hsize : Ls.size = c.maxLocals) (hlen : ∀ sig, parseMethodDescriptor y.desc = some sig → argsL.length = sig.parameters.length) (hS : S = argsL.reverse ++ rest) (hd : decode c.code pc = .ok (.invokestatic index, 3))
    (k : ∀ (T' : State), own_S p l e R s m args below meth c n0 T' cells slots → T'.heap = h → own_G p e below s Q kc ks T' (mkF m (pc + 3) Ls (r :: rest))) :
    own_G p e below s Q kc ks T (mkF m pc Ls S) := by
  obtain ⟨locs, Y, N⟩ := X
  exact own_callP Y hx hZ hown w1 w2 w3 w4 hy eT argsL rest hM W hf hlo hW hc hs hsize hlen hS hd fun T' Y' e' => k T' ⟨_, Y', N⟩ e'
theorem own_S.callI (X : own_S p l e R s m args below meth c n0 T cells slots) (hx : p.tables.exec = Jvm.exec) (hZ : Z.Warmed39 s.vm) {own : String} {index : Nat} {y : MethodName} {bytes : ByteArray} {mx : Nat} {rm : Room} {P : Option Value → Heap → Prop} (hy1 : y.name = "<init>")
    (hown : s.vm.findClass own = some m.cls) (w1 : (Jvm.Cond.methodLink own index y).before a0 Z = true) (w2 : (Jvm.Cond.instanceMethod y).before a0 Z = true) (w3 : (Jvm.Cond.initialized y.cls).before a0 Z = true) (w4 : (Jvm.Cond.code y bytes mx none).before a0 Z = true) (hy : y.cls ≠ "java/lang/invoke/MethodHandle" ∧ y.cls ≠ "java/lang/invoke/VarHandle")
    (eT : T.heap = h) (a : Addr) (argsL rest : List Value) (hM : own_C l Z y bytes mx none [] rm (.ref a :: argsL).toArray h (own_Q n0 P)) (W : Nat) (hf : rm.frames + 1 ≤ R.frames) (hlo : W + (mx + 11) + rm.locals ≤ R.locals) (hW : (rest.map fun v => v.category).sum ≤ W) (hc : cells + rm.cells ≤ R.cells) (hs : slots + rm.slots ≤ R.slots)
    {S : List Value} (hsize : Ls.size = c.maxLocals) (hlen : ∀ sig, parseMethodDescriptor y.desc = some sig → argsL.length = sig.parameters.length) (hS : S = argsL.reverse ++ .ref a :: rest) (hd : decode c.code pc = .ok (.invokespecial index, 3))
    (k : ∀ (T' : State) (v : Option Value), own_S p l e R s m args below meth c n0 T' (cells + rm.cells) (slots + rm.slots) → P v T'.heap → own_G p e below s Q kc ks T' (mkF m (pc + 3) Ls (v.toList ++ rest))) :
    own_G p e below s Q kc ks T (mkF m pc Ls S) := by
  obtain ⟨locs, Y, N⟩ := X
  exact own_callI Y hx hZ hy1 hown w1 w2 w3 w4 hy eT a argsL rest hM W hf hlo hW hc hs hsize hlen hS hd fun T' v L Y' hq => k T' v ⟨_, Y', N.app hq.1⟩ hq.2
theorem own_S.callV (X : own_S p l e R s m args below meth c n0 T cells slots) (hx : p.tables.exec = Jvm.exec) (hZ : Z.Warmed39 s.vm) {own C : String} {index : Nat} {y : MethodName} {bytes : ByteArray} {mx : Nat} {ret : Option FieldType} {rm : Room} {P : Option Value → Heap → Prop}
    (hown : s.vm.findClass own = some m.cls) (w1 : (Jvm.Cond.methodLink own index y).before a0 Z = true) (w5 : (Jvm.Cond.declares y).before a0 Z = true) (w6 : (Jvm.Cond.selects C y y).before a0 Z = true) (w2 : (Jvm.Cond.instanceMethod y).before a0 Z = true) (w3 : (Jvm.Cond.initialized y.cls).before a0 Z = true) (w4 : (Jvm.Cond.code y bytes mx ret).before a0 Z = true) (hy : y.cls ≠ "java/lang/invoke/MethodHandle" ∧ y.cls ≠ "java/lang/invoke/VarHandle")
    (eT : T.heap = h) {a : Addr} (E : Exa Z h a C) (argsL rest : List Value) (hM : own_C l Z y bytes mx ret [] rm (.ref a :: argsL).toArray h (own_Q n0 P)) (W : Nat) (hf : rm.frames + 1 ≤ R.frames) (hlo : W + (mx + 11) + rm.locals ≤ R.locals) (hW : (rest.map fun v => v.category).sum ≤ W) (hc : cells + rm.cells ≤ R.cells) (hs : slots + rm.slots ≤ R.slots)
    {S : List Value} (hsize : Ls.size = c.maxLocals) (hlen : ∀ sig, parseMethodDescriptor y.desc = some sig → argsL.length = sig.parameters.length) (hS : S = argsL.reverse ++ .ref a :: rest) (hd : decode c.code pc = .ok (.invokevirtual index, 3))
    (k : ∀ (T' : State) (v : Option Value), own_S p l e R s m args below meth c n0 T' (cells + rm.cells) (slots + rm.slots) → P v T'.heap → own_G p e below s Q kc ks T' (mkF m (pc + 3) Ls (v.toList ++ rest))) :
    own_G p e below s Q kc ks T (mkF m pc Ls S) := by
  obtain ⟨locs, Y, N⟩ := X
  exact own_callV Y hx hZ hown w1 w5 w6 w2 w3 w4 hy eT E argsL rest hM W hf hlo hW hc hs hsize hlen hS hd fun T' v L Y' hq => k T' v ⟨_, Y', N.app hq.1⟩ hq.2
end OwnHeap
theorem own_pd0 : parseMethodDescriptor "(I)I" = some ⟨[.int], some .int⟩ := by decide +kernel
theorem own_pd1 : parseMethodDescriptor "([J)V" = some ⟨[(.array .long)], none⟩ := by decide +kernel
theorem own_pd2 : parseMethodDescriptor "(IJ)I" = some ⟨[.int, .long], some .int⟩ := by decide +kernel

theorem own_oadd {p q : Int64} {x y z : Int} (hp : p = Int64.ofInt x) (hq : q = Int64.ofInt y) (h : x + y = z) : p + q = Int64.ofInt z := by rw [hp, hq, ← h, Int64.ofInt_add]
theorem own_osub {p q : Int64} {x y z : Int} (hp : p = Int64.ofInt x) (hq : q = Int64.ofInt y) (h : x - y = z) : p - q = Int64.ofInt z := by rw [hp, hq, ← h, Int64.ofInt_sub]
theorem own_omul {p q : Int64} {x y z : Int} (hp : p = Int64.ofInt x) (hq : q = Int64.ofInt y) (h : x * y = z) : p * q = Int64.ofInt z := by rw [hp, hq, ← h, Int64.ofInt_mul]
theorem own_oI {x : Int} (h : -4611686018427387904 ≤ x ∧ x ≤ 4611686018427387904) : (Int64.ofInt x).toInt = x := by rw [Int64.toInt_ofInt]; exact Jvm.Kit.bmod64 (by omega) (by omega)
theorem own_olt {p q : Int64} {x y : Int} (hp : p = Int64.ofInt x) (hq : q = Int64.ofInt y) (h1 : -4611686018427387904 ≤ x ∧ x ≤ 4611686018427387904) (h2 : -4611686018427387904 ≤ y ∧ y ≤ 4611686018427387904) (h : x < y) : p < q := by rw [Int64.lt_iff_toInt_lt, hp, hq, own_oI h1, own_oI h2]; exact h
theorem own_onl {p q : Int64} {x y : Int} (hp : p = Int64.ofInt x) (hq : q = Int64.ofInt y) (h1 : -4611686018427387904 ≤ x ∧ x ≤ 4611686018427387904) (h2 : -4611686018427387904 ≤ y ∧ y ≤ 4611686018427387904) (h : ¬ x < y) : ¬ p < q := by rw [Int64.lt_iff_toInt_lt, hp, hq, own_oI h1, own_oI h2]; exact h
theorem own_oeq {p q : Int64} {x y : Int} (hp : p = Int64.ofInt x) (hq : q = Int64.ofInt y) (h1 : -4611686018427387904 ≤ x ∧ x ≤ 4611686018427387904) (h2 : -4611686018427387904 ≤ y ∧ y ≤ 4611686018427387904) (h : x = y) : p = q := by rw [hp, hq, h]
theorem own_one {p q : Int64} {x y : Int} (hp : p = Int64.ofInt x) (hq : q = Int64.ofInt y) (h1 : -4611686018427387904 ≤ x ∧ x ≤ 4611686018427387904) (h2 : -4611686018427387904 ≤ y ∧ y ≤ 4611686018427387904) (h : ¬ x = y) : ¬ p = q := fun r => h (by rw [← own_oI h1, ← own_oI h2, ← hp, ← hq, r])
def own_pw (thr al : Int64) : Int64 := (thr <<< ((31 : Int32) &&& 0x3f).toInt64) ||| al

theorem own_dn_0 : decode jdk_33_method_47_code 0 = .ok (.iload_n 0, 1) := by decide +kernel
theorem own_dn_1 : decode jdk_33_method_47_code 1 = .ok (.ifCond .gt 14, 3) := by decide +kernel
theorem own_dn_15 : decode jdk_33_method_47_code 15 = .ok (.bipush 31, 2) := by decide +kernel
theorem own_dn_17 : decode jdk_33_method_47_code 17 = .ok (.istore_n 1, 1) := by decide +kernel
theorem own_dn_18 : decode jdk_33_method_47_code 18 = .ok (.iload_n 0, 1) := by decide +kernel
theorem own_dn_19 : decode jdk_33_method_47_code 19 = .ok (.ldc_w 264, 3) := by decide +kernel
theorem own_dn_22 : decode jdk_33_method_47_code 22 = .ok (.if_icmp .lt 11, 3) := by decide +kernel
theorem own_dn_33 : decode jdk_33_method_47_code 33 = .ok (.iload_n 0, 1) := by decide +kernel
theorem own_dn_34 : decode jdk_33_method_47_code 34 = .ok (.sipush 256, 3) := by decide +kernel
theorem own_dn_37 : decode jdk_33_method_47_code 37 = .ok (.if_icmp .lt 11, 3) := by decide +kernel
theorem own_dn_48 : decode jdk_33_method_47_code 48 = .ok (.iload_n 0, 1) := by decide +kernel
theorem own_dn_49 : decode jdk_33_method_47_code 49 = .ok (.bipush 16, 2) := by decide +kernel
theorem own_dn_51 : decode jdk_33_method_47_code 51 = .ok (.if_icmp .lt 10, 3) := by decide +kernel
theorem own_dn_61 : decode jdk_33_method_47_code 61 = .ok (.iload_n 0, 1) := by decide +kernel
theorem own_dn_62 : decode jdk_33_method_47_code 62 = .ok (.iconst 4, 1) := by decide +kernel
theorem own_dn_63 : decode jdk_33_method_47_code 63 = .ok (.if_icmp .lt 10, 3) := by decide +kernel
theorem own_dn_73 : decode jdk_33_method_47_code 73 = .ok (.iload_n 1, 1) := by decide +kernel
theorem own_dn_74 : decode jdk_33_method_47_code 74 = .ok (.iload_n 0, 1) := by decide +kernel
theorem own_dn_75 : decode jdk_33_method_47_code 75 = .ok (.iconst 1, 1) := by decide +kernel
theorem own_dn_76 : decode jdk_33_method_47_code 76 = .ok (.iushr, 1) := by decide +kernel
theorem own_dn_77 : decode jdk_33_method_47_code 77 = .ok (.isub, 1) := by decide +kernel
theorem own_dn_78 : decode jdk_33_method_47_code 78 = .ok (.ireturn, 1) := by decide +kernel
theorem own_pn_own_nlz1 : plainFor (⟨"java/lang/Integer", "numberOfLeadingZeros", "(I)I"⟩ : MethodName) = true := plainFor_of_name (show plainName "java/lang/Integer" = true by first | (simp [plainName, overriddenIn]; done) | decide +kernel)
set_option maxRecDepth 65536 in
set_option maxHeartbeats 40000000 in
theorem own_nlz1 (l : Launch) (Z : State) (a0 : Array Value) (hw : ∀ d ∈ tables_1, d.before a0 Z = true) (ws : List Jvm.Cond) (h0 : Heap)   :
    own_C l Z (⟨"java/lang/Integer", "numberOfLeadingZeros", "(I)I"⟩ : MethodName) jdk_33_method_47_code 2 (some .int) ws ({ frames := 0, cells := 0, slots := 0, locals := 0 } : Room) #[(.int (1 : Int32))] h0 (own_P (.int (31 : Int32)) h0) := by
  refine own_met own_pn_own_nlz1 #[iv (1 : Int32), .unset] (fun m => by first | (simp [entryFrame, mkF, argsToLocals, Value.category]; done) | rfl) ?_
  intro p e s m below meth c s₁ hx hby hml hown hret hlk hZ hnm X0 e0
  refine own_gs 1 [(.int (1 : Int32))] (fun t' k => XS.iloadN X0.here hx rfl (hb hby own_dn_0) rfl  k) ?_
  refine own_gs 15 [] (fun t' k => XS.ifYes X0.here hx rfl (pc0 := 1) (pc' := 15) rfl (hb hby own_dn_1) rfl ((if0 _ _).trans (tlt (by decide)).2.2.1) (by decide) (by decide) k) ?_
  refine own_gs 17 [(.int (31 : Int32))] (fun t' k => XS.bipush X0.here hx rfl (hb hby own_dn_15) k) ?_
  refine own_go (mkF m 18 #[iv (1 : Int32), iv (31 : Int32)] []) (fun t' k => XS.istoreN X0.here hx rfl (hb hby own_dn_17) rfl rfl k) ?_
  refine own_gs 19 [(.int (1 : Int32))] (fun t' k => XS.iloadN X0.here hx rfl (hb hby own_dn_18) rfl  k) ?_
  refine own_gs 22 [(.int (65536 : Int32)), (.int (1 : Int32))] (fun t' k => X0.ldcwInt hx hown (mvT hZ (hw _ (List.mem_of_getElem? (i := 45) rfl))) (g := (mkF m 19 #[iv (1 : Int32), iv (31 : Int32)] [(.int (1 : Int32))])) rfl (hb hby own_dn_19) _ k) ?_
  refine own_gs 33 [] (fun t' k => XS.icmpYes X0.here hx rfl (pc0 := 22) (pc' := 33) rfl (hb hby own_dn_22) rfl (tlt (by decide)).1 (by decide) (by decide) k) ?_
  refine own_gs 34 [(.int (1 : Int32))] (fun t' k => XS.iloadN X0.here hx rfl (hb hby own_dn_33) rfl  k) ?_
  refine own_gs 37 [(.int (256 : Int32)), (.int (1 : Int32))] (fun t' k => XS.sipush X0.here hx rfl (hb hby own_dn_34) k) ?_
  refine own_gs 48 [] (fun t' k => XS.icmpYes X0.here hx rfl (pc0 := 37) (pc' := 48) rfl (hb hby own_dn_37) rfl (tlt (by decide)).1 (by decide) (by decide) k) ?_
  refine own_gs 49 [(.int (1 : Int32))] (fun t' k => XS.iloadN X0.here hx rfl (hb hby own_dn_48) rfl  k) ?_
  refine own_gs 51 [(.int (16 : Int32)), (.int (1 : Int32))] (fun t' k => XS.bipush X0.here hx rfl (hb hby own_dn_49) k) ?_
  refine own_gs 61 [] (fun t' k => XS.icmpYes X0.here hx rfl (pc0 := 51) (pc' := 61) rfl (hb hby own_dn_51) rfl (tlt (by decide)).1 (by decide) (by decide) k) ?_
  refine own_gs 62 [(.int (1 : Int32))] (fun t' k => XS.iloadN X0.here hx rfl (hb hby own_dn_61) rfl  k) ?_
  refine own_gs 63 [(.int (4 : Int32)), (.int (1 : Int32))] (fun t' k => XS.iconst X0.here hx rfl (hb hby own_dn_62) k) ?_
  refine own_gs 73 [] (fun t' k => XS.icmpYes X0.here hx rfl (pc0 := 63) (pc' := 73) rfl (hb hby own_dn_63) rfl (tlt (by decide)).1 (by decide) (by decide) k) ?_
  refine own_gs 74 [(.int (31 : Int32))] (fun t' k => XS.iloadN X0.here hx rfl (hb hby own_dn_73) rfl  k) ?_
  refine own_gs 75 [(.int (1 : Int32)), (.int (31 : Int32))] (fun t' k => XS.iloadN X0.here hx rfl (hb hby own_dn_74) rfl  k) ?_
  refine own_gs 76 [(.int (1 : Int32)), (.int (1 : Int32)), (.int (31 : Int32))] (fun t' k => XS.iconst X0.here hx rfl (hb hby own_dn_75) k) ?_
  refine own_gs 77 [(.int (0 : Int32)), (.int (31 : Int32))] (fun t' k => XS.iushr X0.here hx rfl (hb hby own_dn_76) rfl k) ?_
  refine own_gs 78 [(.int (31 : Int32))] (fun t' k => XS.isub X0.here hx rfl (hb hby own_dn_77) rfl k) ?_
  refine own_retI X0 hx hlk hret (hb hby own_dn_78) ?_ (by decide) (by decide)
  exact ⟨rfl, e0, rfl⟩

theorem own_dh_0 : decode jdk_33_method_45_code 0 = .ok (.iload_n 0, 1) := by decide +kernel
theorem own_dh_1 : decode jdk_33_method_45_code 1 = .ok (.ldc 127, 2) := by decide +kernel
theorem own_dh_3 : decode jdk_33_method_45_code 3 = .ok (.iload_n 0, 1) := by decide +kernel
theorem own_dh_4 : decode jdk_33_method_45_code 4 = .ok (.invokestatic 51, 3) := by decide +kernel
theorem own_dh_7 : decode jdk_33_method_45_code 7 = .ok (.iushr, 1) := by decide +kernel
theorem own_dh_8 : decode jdk_33_method_45_code 8 = .ok (.iand, 1) := by decide +kernel
theorem own_dh_9 : decode jdk_33_method_45_code 9 = .ok (.ireturn, 1) := by decide +kernel
theorem own_pn_own_hob1 : plainFor (⟨"java/lang/Integer", "highestOneBit", "(I)I"⟩ : MethodName) = true := plainFor_of_name (show plainName "java/lang/Integer" = true by first | (simp [plainName, overriddenIn]; done) | decide +kernel)
set_option maxRecDepth 65536 in
set_option maxHeartbeats 40000000 in
theorem own_hob1 (l : Launch) (Z : State) (a0 : Array Value) (hw : ∀ d ∈ tables_1, d.before a0 Z = true) (ws : List Jvm.Cond) (h0 : Heap)   :
    own_C l Z (⟨"java/lang/Integer", "highestOneBit", "(I)I"⟩ : MethodName) jdk_33_method_45_code 1 (some .int) ws ({ frames := 1, cells := 0, slots := 0, locals := 15 } : Room) #[(.int (1 : Int32))] h0 (own_P (.int (1 : Int32)) h0) := by
  refine own_met own_pn_own_hob1 #[iv (1 : Int32)] (fun m => by first | (simp [entryFrame, mkF, argsToLocals, Value.category]; done) | rfl) ?_
  intro p e s m below meth c s₁ hx hby hml hown hret hlk hZ hnm X0 e0
  refine own_gs 1 [(.int (1 : Int32))] (fun t' k => XS.iloadN X0.here hx rfl (hb hby own_dh_0) rfl  k) ?_
  refine own_gs 3 [(.int (-2147483648 : Int32)), (.int (1 : Int32))] (fun t' k => X0.ldcInt hx hown (mvT hZ (hw _ (List.mem_of_getElem? (i := 41) rfl))) (g := (mkF m 1 #[iv (1 : Int32)] [(.int (1 : Int32))])) rfl (hb hby own_dh_1) _ k) ?_
  refine own_gs 4 [(.int (1 : Int32)), (.int (-2147483648 : Int32)), (.int (1 : Int32))] (fun t' k => XS.iloadN X0.here hx rfl (hb hby own_dh_3) rfl  k) ?_
  refine own_callP X0 hx hZ (y := (⟨"java/lang/Integer", "numberOfLeadingZeros", "(I)I"⟩ : MethodName)) (fr := 0) (lo := 0) (r := (.int (31 : Int32))) hown (hw _ (List.mem_of_getElem? (i := 42) rfl)) (hw _ (List.mem_of_getElem? (i := 43) rfl)) (hw _ (List.mem_of_getElem? (i := 15) rfl)) (hw _ (List.mem_of_getElem? (i := 44) rfl)) (by decide) e0 [(.int (1 : Int32))] [(.int (-2147483648 : Int32)), (.int (1 : Int32))] (own_nlz1 l Z a0 hw [] h0 ) 2 (by decide) (by decide) (Nat.le_of_eq rfl) (by decide) (by decide) (by rw [hml]; rfl) (lenOf own_pd0 rfl) rfl (hb hby own_dh_4) ?_
  intro T1 X1 e1
  refine own_gs 8 [(.int (1 : Int32)), (.int (1 : Int32))] (fun t' k => XS.iushr X1.here hx rfl (hb hby own_dh_7) rfl k) ?_
  refine own_gs 9 [(.int (1 : Int32))] (fun t' k => XS.iand X1.here hx rfl (hb hby own_dh_8) rfl k) ?_
  refine own_retI X1 hx hlk hret (hb hby own_dh_9) ?_ (by decide) (by decide)
  exact ⟨rfl, e1, rfl⟩

theorem own_dn_66 : decode jdk_33_method_47_code 66 = .ok (.iinc 1 (-2), 3) := by decide +kernel
theorem own_dn_69 : decode jdk_33_method_47_code 69 = .ok (.iload_n 0, 1) := by decide +kernel
theorem own_dn_70 : decode jdk_33_method_47_code 70 = .ok (.iconst 2, 1) := by decide +kernel
theorem own_dn_71 : decode jdk_33_method_47_code 71 = .ok (.iushr, 1) := by decide +kernel
theorem own_dn_72 : decode jdk_33_method_47_code 72 = .ok (.istore_n 0, 1) := by decide +kernel
theorem own_pn_own_nlz4 : plainFor (⟨"java/lang/Integer", "numberOfLeadingZeros", "(I)I"⟩ : MethodName) = true := plainFor_of_name (show plainName "java/lang/Integer" = true by first | (simp [plainName, overriddenIn]; done) | decide +kernel)
set_option maxRecDepth 65536 in
set_option maxHeartbeats 40000000 in
theorem own_nlz4 (l : Launch) (Z : State) (a0 : Array Value) (hw : ∀ d ∈ tables_1, d.before a0 Z = true) (ws : List Jvm.Cond) (h0 : Heap)   :
    own_C l Z (⟨"java/lang/Integer", "numberOfLeadingZeros", "(I)I"⟩ : MethodName) jdk_33_method_47_code 2 (some .int) ws ({ frames := 0, cells := 0, slots := 0, locals := 0 } : Room) #[(.int (4 : Int32))] h0 (own_P (.int (29 : Int32)) h0) := by
  refine own_met own_pn_own_nlz4 #[iv (4 : Int32), .unset] (fun m => by first | (simp [entryFrame, mkF, argsToLocals, Value.category]; done) | rfl) ?_
  intro p e s m below meth c s₁ hx hby hml hown hret hlk hZ hnm X0 e0
  refine own_gs 1 [(.int (4 : Int32))] (fun t' k => XS.iloadN X0.here hx rfl (hb hby own_dn_0) rfl  k) ?_
  refine own_gs 15 [] (fun t' k => XS.ifYes X0.here hx rfl (pc0 := 1) (pc' := 15) rfl (hb hby own_dn_1) rfl ((if0 _ _).trans (tlt (by decide)).2.2.1) (by decide) (by decide) k) ?_
  refine own_gs 17 [(.int (31 : Int32))] (fun t' k => XS.bipush X0.here hx rfl (hb hby own_dn_15) k) ?_
  refine own_go (mkF m 18 #[iv (4 : Int32), iv (31 : Int32)] []) (fun t' k => XS.istoreN X0.here hx rfl (hb hby own_dn_17) rfl rfl k) ?_
  refine own_gs 19 [(.int (4 : Int32))] (fun t' k => XS.iloadN X0.here hx rfl (hb hby own_dn_18) rfl  k) ?_
  refine own_gs 22 [(.int (65536 : Int32)), (.int (4 : Int32))] (fun t' k => X0.ldcwInt hx hown (mvT hZ (hw _ (List.mem_of_getElem? (i := 45) rfl))) (g := (mkF m 19 #[iv (4 : Int32), iv (31 : Int32)] [(.int (4 : Int32))])) rfl (hb hby own_dn_19) _ k) ?_
  refine own_gs 33 [] (fun t' k => XS.icmpYes X0.here hx rfl (pc0 := 22) (pc' := 33) rfl (hb hby own_dn_22) rfl (tlt (by decide)).1 (by decide) (by decide) k) ?_
  refine own_gs 34 [(.int (4 : Int32))] (fun t' k => XS.iloadN X0.here hx rfl (hb hby own_dn_33) rfl  k) ?_
  refine own_gs 37 [(.int (256 : Int32)), (.int (4 : Int32))] (fun t' k => XS.sipush X0.here hx rfl (hb hby own_dn_34) k) ?_
  refine own_gs 48 [] (fun t' k => XS.icmpYes X0.here hx rfl (pc0 := 37) (pc' := 48) rfl (hb hby own_dn_37) rfl (tlt (by decide)).1 (by decide) (by decide) k) ?_
  refine own_gs 49 [(.int (4 : Int32))] (fun t' k => XS.iloadN X0.here hx rfl (hb hby own_dn_48) rfl  k) ?_
  refine own_gs 51 [(.int (16 : Int32)), (.int (4 : Int32))] (fun t' k => XS.bipush X0.here hx rfl (hb hby own_dn_49) k) ?_
  refine own_gs 61 [] (fun t' k => XS.icmpYes X0.here hx rfl (pc0 := 51) (pc' := 61) rfl (hb hby own_dn_51) rfl (tlt (by decide)).1 (by decide) (by decide) k) ?_
  refine own_gs 62 [(.int (4 : Int32))] (fun t' k => XS.iloadN X0.here hx rfl (hb hby own_dn_61) rfl  k) ?_
  refine own_gs 63 [(.int (4 : Int32)), (.int (4 : Int32))] (fun t' k => XS.iconst X0.here hx rfl (hb hby own_dn_62) k) ?_
  refine own_gs 66 [] (fun t' k => XS.icmpNo X0.here hx rfl (hb hby own_dn_63) rfl (flt (by decide)).1 k) ?_
  refine own_go (mkF m 69 #[iv (4 : Int32), iv (29 : Int32)] []) (fun t' k => XS.iinc X0.here hx rfl (hb hby own_dn_66) rfl rfl k) ?_
  refine own_gs 70 [(.int (4 : Int32))] (fun t' k => XS.iloadN X0.here hx rfl (hb hby own_dn_69) rfl  k) ?_
  refine own_gs 71 [(.int (2 : Int32)), (.int (4 : Int32))] (fun t' k => XS.iconst X0.here hx rfl (hb hby own_dn_70) k) ?_
  refine own_gs 72 [(.int (1 : Int32))] (fun t' k => XS.iushr X0.here hx rfl (hb hby own_dn_71) rfl k) ?_
  refine own_go (mkF m 73 #[iv (1 : Int32), iv (29 : Int32)] []) (fun t' k => XS.istoreN X0.here hx rfl (hb hby own_dn_72) rfl rfl k) ?_
  refine own_gs 74 [(.int (29 : Int32))] (fun t' k => XS.iloadN X0.here hx rfl (hb hby own_dn_73) rfl  k) ?_
  refine own_gs 75 [(.int (1 : Int32)), (.int (29 : Int32))] (fun t' k => XS.iloadN X0.here hx rfl (hb hby own_dn_74) rfl  k) ?_
  refine own_gs 76 [(.int (1 : Int32)), (.int (1 : Int32)), (.int (29 : Int32))] (fun t' k => XS.iconst X0.here hx rfl (hb hby own_dn_75) k) ?_
  refine own_gs 77 [(.int (0 : Int32)), (.int (29 : Int32))] (fun t' k => XS.iushr X0.here hx rfl (hb hby own_dn_76) rfl k) ?_
  refine own_gs 78 [(.int (29 : Int32))] (fun t' k => XS.isub X0.here hx rfl (hb hby own_dn_77) rfl k) ?_
  refine own_retI X0 hx hlk hret (hb hby own_dn_78) ?_ (by decide) (by decide)
  exact ⟨rfl, e0, rfl⟩

theorem own_pn_own_hob4 : plainFor (⟨"java/lang/Integer", "highestOneBit", "(I)I"⟩ : MethodName) = true := plainFor_of_name (show plainName "java/lang/Integer" = true by first | (simp [plainName, overriddenIn]; done) | decide +kernel)
set_option maxRecDepth 65536 in
set_option maxHeartbeats 40000000 in
theorem own_hob4 (l : Launch) (Z : State) (a0 : Array Value) (hw : ∀ d ∈ tables_1, d.before a0 Z = true) (ws : List Jvm.Cond) (h0 : Heap)   :
    own_C l Z (⟨"java/lang/Integer", "highestOneBit", "(I)I"⟩ : MethodName) jdk_33_method_45_code 1 (some .int) ws ({ frames := 1, cells := 0, slots := 0, locals := 15 } : Room) #[(.int (4 : Int32))] h0 (own_P (.int (4 : Int32)) h0) := by
  refine own_met own_pn_own_hob4 #[iv (4 : Int32)] (fun m => by first | (simp [entryFrame, mkF, argsToLocals, Value.category]; done) | rfl) ?_
  intro p e s m below meth c s₁ hx hby hml hown hret hlk hZ hnm X0 e0
  refine own_gs 1 [(.int (4 : Int32))] (fun t' k => XS.iloadN X0.here hx rfl (hb hby own_dh_0) rfl  k) ?_
  refine own_gs 3 [(.int (-2147483648 : Int32)), (.int (4 : Int32))] (fun t' k => X0.ldcInt hx hown (mvT hZ (hw _ (List.mem_of_getElem? (i := 41) rfl))) (g := (mkF m 1 #[iv (4 : Int32)] [(.int (4 : Int32))])) rfl (hb hby own_dh_1) _ k) ?_
  refine own_gs 4 [(.int (4 : Int32)), (.int (-2147483648 : Int32)), (.int (4 : Int32))] (fun t' k => XS.iloadN X0.here hx rfl (hb hby own_dh_3) rfl  k) ?_
  refine own_callP X0 hx hZ (y := (⟨"java/lang/Integer", "numberOfLeadingZeros", "(I)I"⟩ : MethodName)) (fr := 0) (lo := 0) (r := (.int (29 : Int32))) hown (hw _ (List.mem_of_getElem? (i := 42) rfl)) (hw _ (List.mem_of_getElem? (i := 43) rfl)) (hw _ (List.mem_of_getElem? (i := 15) rfl)) (hw _ (List.mem_of_getElem? (i := 44) rfl)) (by decide) e0 [(.int (4 : Int32))] [(.int (-2147483648 : Int32)), (.int (4 : Int32))] (own_nlz4 l Z a0 hw [] h0 ) 2 (by decide) (by decide) (Nat.le_of_eq rfl) (by decide) (by decide) (by rw [hml]; rfl) (lenOf own_pd0 rfl) rfl (hb hby own_dh_4) ?_
  intro T1 X1 e1
  refine own_gs 8 [(.int (4 : Int32)), (.int (4 : Int32))] (fun t' k => XS.iushr X1.here hx rfl (hb hby own_dh_7) rfl k) ?_
  refine own_gs 9 [(.int (4 : Int32))] (fun t' k => XS.iand X1.here hx rfl (hb hby own_dh_8) rfl k) ?_
  refine own_retI X1 hx hlk hret (hb hby own_dh_9) ?_ (by decide) (by decide)
  exact ⟨rfl, e1, rfl⟩

theorem own_dt_0 : decode jdk_33_method_48_code 0 = .ok (.iload_n 0, 1) := by decide +kernel
theorem own_dt_1 : decode jdk_33_method_48_code 1 = .ok (.iconst (-1), 1) := by decide +kernel
theorem own_dt_2 : decode jdk_33_method_48_code 2 = .ok (.ixor, 1) := by decide +kernel
theorem own_dt_3 : decode jdk_33_method_48_code 3 = .ok (.iload_n 0, 1) := by decide +kernel
theorem own_dt_4 : decode jdk_33_method_48_code 4 = .ok (.iconst 1, 1) := by decide +kernel
theorem own_dt_5 : decode jdk_33_method_48_code 5 = .ok (.isub, 1) := by decide +kernel
theorem own_dt_6 : decode jdk_33_method_48_code 6 = .ok (.iand, 1) := by decide +kernel
theorem own_dt_7 : decode jdk_33_method_48_code 7 = .ok (.istore_n 0, 1) := by decide +kernel
theorem own_dt_8 : decode jdk_33_method_48_code 8 = .ok (.iload_n 0, 1) := by decide +kernel
theorem own_dt_9 : decode jdk_33_method_48_code 9 = .ok (.ifCond .gt 8, 3) := by decide +kernel
theorem own_dt_12 : decode jdk_33_method_48_code 12 = .ok (.iload_n 0, 1) := by decide +kernel
theorem own_dt_13 : decode jdk_33_method_48_code 13 = .ok (.bipush 32, 2) := by decide +kernel
theorem own_dt_15 : decode jdk_33_method_48_code 15 = .ok (.iand, 1) := by decide +kernel
theorem own_dt_16 : decode jdk_33_method_48_code 16 = .ok (.ireturn, 1) := by decide +kernel
theorem own_pn_own_ntz1 : plainFor (⟨"java/lang/Integer", "numberOfTrailingZeros", "(I)I"⟩ : MethodName) = true := plainFor_of_name (show plainName "java/lang/Integer" = true by first | (simp [plainName, overriddenIn]; done) | decide +kernel)
set_option maxRecDepth 65536 in
set_option maxHeartbeats 40000000 in
theorem own_ntz1 (l : Launch) (Z : State) (a0 : Array Value) (hw : ∀ d ∈ tables_1, d.before a0 Z = true) (ws : List Jvm.Cond) (h0 : Heap)   :
    own_C l Z (⟨"java/lang/Integer", "numberOfTrailingZeros", "(I)I"⟩ : MethodName) jdk_33_method_48_code 2 (some .int) ws ({ frames := 0, cells := 0, slots := 0, locals := 0 } : Room) #[(.int (1 : Int32))] h0 (own_P (.int (0 : Int32)) h0) := by
  refine own_met own_pn_own_ntz1 #[iv (1 : Int32), .unset] (fun m => by first | (simp [entryFrame, mkF, argsToLocals, Value.category]; done) | rfl) ?_
  intro p e s m below meth c s₁ hx hby hml hown hret hlk hZ hnm X0 e0
  refine own_gs 1 [(.int (1 : Int32))] (fun t' k => XS.iloadN X0.here hx rfl (hb hby own_dt_0) rfl  k) ?_
  refine own_gs 2 [(.int (-1 : Int32)), (.int (1 : Int32))] (fun t' k => XS.iconst X0.here hx rfl (hb hby own_dt_1) k) ?_
  refine own_gs 3 [(.int ((1 : Int32) ^^^ (-1 : Int32)))] (fun t' k => XS.ixor X0.here hx rfl (hb hby own_dt_2) rfl k) ?_
  rw [show ((1 : Int32) ^^^ (-1 : Int32)) = (-2 : Int32) from by decide]
  refine own_gs 4 [(.int (1 : Int32)), (.int (-2 : Int32))] (fun t' k => XS.iloadN X0.here hx rfl (hb hby own_dt_3) rfl  k) ?_
  refine own_gs 5 [(.int (1 : Int32)), (.int (1 : Int32)), (.int (-2 : Int32))] (fun t' k => XS.iconst X0.here hx rfl (hb hby own_dt_4) k) ?_
  refine own_gs 6 [(.int (0 : Int32)), (.int (-2 : Int32))] (fun t' k => XS.isub X0.here hx rfl (hb hby own_dt_5) rfl k) ?_
  refine own_gs 7 [(.int (0 : Int32))] (fun t' k => XS.iand X0.here hx rfl (hb hby own_dt_6) rfl k) ?_
  refine own_go (mkF m 8 #[iv (0 : Int32), .unset] []) (fun t' k => XS.istoreN X0.here hx rfl (hb hby own_dt_7) rfl rfl k) ?_
  refine own_gs 9 [(.int (0 : Int32))] (fun t' k => XS.iloadN X0.here hx rfl (hb hby own_dt_8) rfl  k) ?_
  refine own_gs 12 [] (fun t' k => XS.ifNo X0.here hx rfl (hb hby own_dt_9) rfl ((if0 _ _).trans (flt (by decide)).2.2.1) k) ?_
  refine own_gs 13 [(.int (0 : Int32))] (fun t' k => XS.iloadN X0.here hx rfl (hb hby own_dt_12) rfl  k) ?_
  refine own_gs 15 [(.int (32 : Int32)), (.int (0 : Int32))] (fun t' k => XS.bipush X0.here hx rfl (hb hby own_dt_13) k) ?_
  refine own_gs 16 [(.int (0 : Int32))] (fun t' k => XS.iand X0.here hx rfl (hb hby own_dt_15) rfl k) ?_
  refine own_retI X0 hx hlk hret (hb hby own_dt_16) ?_ (by decide) (by decide)
  exact ⟨rfl, e0, rfl⟩

theorem own_dt_17 : decode jdk_33_method_48_code 17 = .ok (.iconst 1, 1) := by decide +kernel
theorem own_dt_18 : decode jdk_33_method_48_code 18 = .ok (.istore_n 1, 1) := by decide +kernel
theorem own_dt_19 : decode jdk_33_method_48_code 19 = .ok (.iload_n 0, 1) := by decide +kernel
theorem own_dt_20 : decode jdk_33_method_48_code 20 = .ok (.ldc_w 264, 3) := by decide +kernel
theorem own_dt_23 : decode jdk_33_method_48_code 23 = .ok (.if_icmp .le 11, 3) := by decide +kernel
theorem own_dt_34 : decode jdk_33_method_48_code 34 = .ok (.iload_n 0, 1) := by decide +kernel
theorem own_dt_35 : decode jdk_33_method_48_code 35 = .ok (.sipush 256, 3) := by decide +kernel
theorem own_dt_38 : decode jdk_33_method_48_code 38 = .ok (.if_icmp .le 11, 3) := by decide +kernel
theorem own_dt_49 : decode jdk_33_method_48_code 49 = .ok (.iload_n 0, 1) := by decide +kernel
theorem own_dt_50 : decode jdk_33_method_48_code 50 = .ok (.bipush 16, 2) := by decide +kernel
theorem own_dt_52 : decode jdk_33_method_48_code 52 = .ok (.if_icmp .le 10, 3) := by decide +kernel
theorem own_dt_62 : decode jdk_33_method_48_code 62 = .ok (.iload_n 0, 1) := by decide +kernel
theorem own_dt_63 : decode jdk_33_method_48_code 63 = .ok (.iconst 4, 1) := by decide +kernel
theorem own_dt_64 : decode jdk_33_method_48_code 64 = .ok (.if_icmp .le 10, 3) := by decide +kernel
theorem own_dt_74 : decode jdk_33_method_48_code 74 = .ok (.iload_n 1, 1) := by decide +kernel
theorem own_dt_75 : decode jdk_33_method_48_code 75 = .ok (.iload_n 0, 1) := by decide +kernel
theorem own_dt_76 : decode jdk_33_method_48_code 76 = .ok (.iconst 1, 1) := by decide +kernel
theorem own_dt_77 : decode jdk_33_method_48_code 77 = .ok (.iushr, 1) := by decide +kernel
theorem own_dt_78 : decode jdk_33_method_48_code 78 = .ok (.iadd, 1) := by decide +kernel
theorem own_dt_79 : decode jdk_33_method_48_code 79 = .ok (.ireturn, 1) := by decide +kernel
theorem own_pn_own_ntz2 : plainFor (⟨"java/lang/Integer", "numberOfTrailingZeros", "(I)I"⟩ : MethodName) = true := plainFor_of_name (show plainName "java/lang/Integer" = true by first | (simp [plainName, overriddenIn]; done) | decide +kernel)
set_option maxRecDepth 65536 in
set_option maxHeartbeats 40000000 in
theorem own_ntz2 (l : Launch) (Z : State) (a0 : Array Value) (hw : ∀ d ∈ tables_1, d.before a0 Z = true) (ws : List Jvm.Cond) (h0 : Heap)   :
    own_C l Z (⟨"java/lang/Integer", "numberOfTrailingZeros", "(I)I"⟩ : MethodName) jdk_33_method_48_code 2 (some .int) ws ({ frames := 0, cells := 0, slots := 0, locals := 0 } : Room) #[(.int (2 : Int32))] h0 (own_P (.int (1 : Int32)) h0) := by
  refine own_met own_pn_own_ntz2 #[iv (2 : Int32), .unset] (fun m => by first | (simp [entryFrame, mkF, argsToLocals, Value.category]; done) | rfl) ?_
  intro p e s m below meth c s₁ hx hby hml hown hret hlk hZ hnm X0 e0
  refine own_gs 1 [(.int (2 : Int32))] (fun t' k => XS.iloadN X0.here hx rfl (hb hby own_dt_0) rfl  k) ?_
  refine own_gs 2 [(.int (-1 : Int32)), (.int (2 : Int32))] (fun t' k => XS.iconst X0.here hx rfl (hb hby own_dt_1) k) ?_
  refine own_gs 3 [(.int ((2 : Int32) ^^^ (-1 : Int32)))] (fun t' k => XS.ixor X0.here hx rfl (hb hby own_dt_2) rfl k) ?_
  rw [show ((2 : Int32) ^^^ (-1 : Int32)) = (-3 : Int32) from by decide]
  refine own_gs 4 [(.int (2 : Int32)), (.int (-3 : Int32))] (fun t' k => XS.iloadN X0.here hx rfl (hb hby own_dt_3) rfl  k) ?_
  refine own_gs 5 [(.int (1 : Int32)), (.int (2 : Int32)), (.int (-3 : Int32))] (fun t' k => XS.iconst X0.here hx rfl (hb hby own_dt_4) k) ?_
  refine own_gs 6 [(.int (1 : Int32)), (.int (-3 : Int32))] (fun t' k => XS.isub X0.here hx rfl (hb hby own_dt_5) rfl k) ?_
  refine own_gs 7 [(.int (1 : Int32))] (fun t' k => XS.iand X0.here hx rfl (hb hby own_dt_6) rfl k) ?_
  refine own_go (mkF m 8 #[iv (1 : Int32), .unset] []) (fun t' k => XS.istoreN X0.here hx rfl (hb hby own_dt_7) rfl rfl k) ?_
  refine own_gs 9 [(.int (1 : Int32))] (fun t' k => XS.iloadN X0.here hx rfl (hb hby own_dt_8) rfl  k) ?_
  refine own_gs 17 [] (fun t' k => XS.ifYes X0.here hx rfl (pc0 := 9) (pc' := 17) rfl (hb hby own_dt_9) rfl ((if0 _ _).trans (tlt (by decide)).2.2.1) (by decide) (by decide) k) ?_
  refine own_gs 18 [(.int (1 : Int32))] (fun t' k => XS.iconst X0.here hx rfl (hb hby own_dt_17) k) ?_
  refine own_go (mkF m 19 #[iv (1 : Int32), iv (1 : Int32)] []) (fun t' k => XS.istoreN X0.here hx rfl (hb hby own_dt_18) rfl rfl k) ?_
  refine own_gs 20 [(.int (1 : Int32))] (fun t' k => XS.iloadN X0.here hx rfl (hb hby own_dt_19) rfl  k) ?_
  refine own_gs 23 [(.int (65536 : Int32)), (.int (1 : Int32))] (fun t' k => X0.ldcwInt hx hown (mvT hZ (hw _ (List.mem_of_getElem? (i := 45) rfl))) (g := (mkF m 20 #[iv (1 : Int32), iv (1 : Int32)] [(.int (1 : Int32))])) rfl (hb hby own_dt_20) _ k) ?_
  refine own_gs 34 [] (fun t' k => XS.icmpYes X0.here hx rfl (pc0 := 23) (pc' := 34) rfl (hb hby own_dt_23) rfl (flt (by decide)).2.2.2 (by decide) (by decide) k) ?_
  refine own_gs 35 [(.int (1 : Int32))] (fun t' k => XS.iloadN X0.here hx rfl (hb hby own_dt_34) rfl  k) ?_
  refine own_gs 38 [(.int (256 : Int32)), (.int (1 : Int32))] (fun t' k => XS.sipush X0.here hx rfl (hb hby own_dt_35) k) ?_
  refine own_gs 49 [] (fun t' k => XS.icmpYes X0.here hx rfl (pc0 := 38) (pc' := 49) rfl (hb hby own_dt_38) rfl (flt (by decide)).2.2.2 (by decide) (by decide) k) ?_
  refine own_gs 50 [(.int (1 : Int32))] (fun t' k => XS.iloadN X0.here hx rfl (hb hby own_dt_49) rfl  k) ?_
  refine own_gs 52 [(.int (16 : Int32)), (.int (1 : Int32))] (fun t' k => XS.bipush X0.here hx rfl (hb hby own_dt_50) k) ?_
  refine own_gs 62 [] (fun t' k => XS.icmpYes X0.here hx rfl (pc0 := 52) (pc' := 62) rfl (hb hby own_dt_52) rfl (flt (by decide)).2.2.2 (by decide) (by decide) k) ?_
  refine own_gs 63 [(.int (1 : Int32))] (fun t' k => XS.iloadN X0.here hx rfl (hb hby own_dt_62) rfl  k) ?_
  refine own_gs 64 [(.int (4 : Int32)), (.int (1 : Int32))] (fun t' k => XS.iconst X0.here hx rfl (hb hby own_dt_63) k) ?_
  refine own_gs 74 [] (fun t' k => XS.icmpYes X0.here hx rfl (pc0 := 64) (pc' := 74) rfl (hb hby own_dt_64) rfl (flt (by decide)).2.2.2 (by decide) (by decide) k) ?_
  refine own_gs 75 [(.int (1 : Int32))] (fun t' k => XS.iloadN X0.here hx rfl (hb hby own_dt_74) rfl  k) ?_
  refine own_gs 76 [(.int (1 : Int32)), (.int (1 : Int32))] (fun t' k => XS.iloadN X0.here hx rfl (hb hby own_dt_75) rfl  k) ?_
  refine own_gs 77 [(.int (1 : Int32)), (.int (1 : Int32)), (.int (1 : Int32))] (fun t' k => XS.iconst X0.here hx rfl (hb hby own_dt_76) k) ?_
  refine own_gs 78 [(.int (0 : Int32)), (.int (1 : Int32))] (fun t' k => XS.iushr X0.here hx rfl (hb hby own_dt_77) rfl k) ?_
  refine own_gs 79 [(.int (1 : Int32))] (fun t' k => XS.iadd X0.here hx rfl (hb hby own_dt_78) rfl k) ?_
  refine own_retI X0 hx hlk hret (hb hby own_dt_79) ?_ (by decide) (by decide)
  exact ⟨rfl, e0, rfl⟩

theorem own_dt_67 : decode jdk_33_method_48_code 67 = .ok (.iinc 1 2, 3) := by decide +kernel
theorem own_dt_70 : decode jdk_33_method_48_code 70 = .ok (.iload_n 0, 1) := by decide +kernel
theorem own_dt_71 : decode jdk_33_method_48_code 71 = .ok (.iconst 2, 1) := by decide +kernel
theorem own_dt_72 : decode jdk_33_method_48_code 72 = .ok (.iushr, 1) := by decide +kernel
theorem own_dt_73 : decode jdk_33_method_48_code 73 = .ok (.istore_n 0, 1) := by decide +kernel
theorem own_pn_own_ntz8 : plainFor (⟨"java/lang/Integer", "numberOfTrailingZeros", "(I)I"⟩ : MethodName) = true := plainFor_of_name (show plainName "java/lang/Integer" = true by first | (simp [plainName, overriddenIn]; done) | decide +kernel)
set_option maxRecDepth 65536 in
set_option maxHeartbeats 40000000 in
theorem own_ntz8 (l : Launch) (Z : State) (a0 : Array Value) (hw : ∀ d ∈ tables_1, d.before a0 Z = true) (ws : List Jvm.Cond) (h0 : Heap)   :
    own_C l Z (⟨"java/lang/Integer", "numberOfTrailingZeros", "(I)I"⟩ : MethodName) jdk_33_method_48_code 2 (some .int) ws ({ frames := 0, cells := 0, slots := 0, locals := 0 } : Room) #[(.int (8 : Int32))] h0 (own_P (.int (3 : Int32)) h0) := by
  refine own_met own_pn_own_ntz8 #[iv (8 : Int32), .unset] (fun m => by first | (simp [entryFrame, mkF, argsToLocals, Value.category]; done) | rfl) ?_
  intro p e s m below meth c s₁ hx hby hml hown hret hlk hZ hnm X0 e0
  refine own_gs 1 [(.int (8 : Int32))] (fun t' k => XS.iloadN X0.here hx rfl (hb hby own_dt_0) rfl  k) ?_
  refine own_gs 2 [(.int (-1 : Int32)), (.int (8 : Int32))] (fun t' k => XS.iconst X0.here hx rfl (hb hby own_dt_1) k) ?_
  refine own_gs 3 [(.int ((8 : Int32) ^^^ (-1 : Int32)))] (fun t' k => XS.ixor X0.here hx rfl (hb hby own_dt_2) rfl k) ?_
  rw [show ((8 : Int32) ^^^ (-1 : Int32)) = (-9 : Int32) from by decide]
  refine own_gs 4 [(.int (8 : Int32)), (.int (-9 : Int32))] (fun t' k => XS.iloadN X0.here hx rfl (hb hby own_dt_3) rfl  k) ?_
  refine own_gs 5 [(.int (1 : Int32)), (.int (8 : Int32)), (.int (-9 : Int32))] (fun t' k => XS.iconst X0.here hx rfl (hb hby own_dt_4) k) ?_
  refine own_gs 6 [(.int (7 : Int32)), (.int (-9 : Int32))] (fun t' k => XS.isub X0.here hx rfl (hb hby own_dt_5) rfl k) ?_
  refine own_gs 7 [(.int (7 : Int32))] (fun t' k => XS.iand X0.here hx rfl (hb hby own_dt_6) rfl k) ?_
  refine own_go (mkF m 8 #[iv (7 : Int32), .unset] []) (fun t' k => XS.istoreN X0.here hx rfl (hb hby own_dt_7) rfl rfl k) ?_
  refine own_gs 9 [(.int (7 : Int32))] (fun t' k => XS.iloadN X0.here hx rfl (hb hby own_dt_8) rfl  k) ?_
  refine own_gs 17 [] (fun t' k => XS.ifYes X0.here hx rfl (pc0 := 9) (pc' := 17) rfl (hb hby own_dt_9) rfl ((if0 _ _).trans (tlt (by decide)).2.2.1) (by decide) (by decide) k) ?_
  refine own_gs 18 [(.int (1 : Int32))] (fun t' k => XS.iconst X0.here hx rfl (hb hby own_dt_17) k) ?_
  refine own_go (mkF m 19 #[iv (7 : Int32), iv (1 : Int32)] []) (fun t' k => XS.istoreN X0.here hx rfl (hb hby own_dt_18) rfl rfl k) ?_
  refine own_gs 20 [(.int (7 : Int32))] (fun t' k => XS.iloadN X0.here hx rfl (hb hby own_dt_19) rfl  k) ?_
  refine own_gs 23 [(.int (65536 : Int32)), (.int (7 : Int32))] (fun t' k => X0.ldcwInt hx hown (mvT hZ (hw _ (List.mem_of_getElem? (i := 45) rfl))) (g := (mkF m 20 #[iv (7 : Int32), iv (1 : Int32)] [(.int (7 : Int32))])) rfl (hb hby own_dt_20) _ k) ?_
  refine own_gs 34 [] (fun t' k => XS.icmpYes X0.here hx rfl (pc0 := 23) (pc' := 34) rfl (hb hby own_dt_23) rfl (flt (by decide)).2.2.2 (by decide) (by decide) k) ?_
  refine own_gs 35 [(.int (7 : Int32))] (fun t' k => XS.iloadN X0.here hx rfl (hb hby own_dt_34) rfl  k) ?_
  refine own_gs 38 [(.int (256 : Int32)), (.int (7 : Int32))] (fun t' k => XS.sipush X0.here hx rfl (hb hby own_dt_35) k) ?_
  refine own_gs 49 [] (fun t' k => XS.icmpYes X0.here hx rfl (pc0 := 38) (pc' := 49) rfl (hb hby own_dt_38) rfl (flt (by decide)).2.2.2 (by decide) (by decide) k) ?_
  refine own_gs 50 [(.int (7 : Int32))] (fun t' k => XS.iloadN X0.here hx rfl (hb hby own_dt_49) rfl  k) ?_
  refine own_gs 52 [(.int (16 : Int32)), (.int (7 : Int32))] (fun t' k => XS.bipush X0.here hx rfl (hb hby own_dt_50) k) ?_
  refine own_gs 62 [] (fun t' k => XS.icmpYes X0.here hx rfl (pc0 := 52) (pc' := 62) rfl (hb hby own_dt_52) rfl (flt (by decide)).2.2.2 (by decide) (by decide) k) ?_
  refine own_gs 63 [(.int (7 : Int32))] (fun t' k => XS.iloadN X0.here hx rfl (hb hby own_dt_62) rfl  k) ?_
  refine own_gs 64 [(.int (4 : Int32)), (.int (7 : Int32))] (fun t' k => XS.iconst X0.here hx rfl (hb hby own_dt_63) k) ?_
  refine own_gs 67 [] (fun t' k => XS.icmpNo X0.here hx rfl (hb hby own_dt_64) rfl (tlt (by decide)).2.2.2 k) ?_
  refine own_go (mkF m 70 #[iv (7 : Int32), iv (3 : Int32)] []) (fun t' k => XS.iinc X0.here hx rfl (hb hby own_dt_67) rfl rfl k) ?_
  refine own_gs 71 [(.int (7 : Int32))] (fun t' k => XS.iloadN X0.here hx rfl (hb hby own_dt_70) rfl  k) ?_
  refine own_gs 72 [(.int (2 : Int32)), (.int (7 : Int32))] (fun t' k => XS.iconst X0.here hx rfl (hb hby own_dt_71) k) ?_
  refine own_gs 73 [(.int (1 : Int32))] (fun t' k => XS.iushr X0.here hx rfl (hb hby own_dt_72) rfl k) ?_
  refine own_go (mkF m 74 #[iv (1 : Int32), iv (3 : Int32)] []) (fun t' k => XS.istoreN X0.here hx rfl (hb hby own_dt_73) rfl rfl k) ?_
  refine own_gs 75 [(.int (3 : Int32))] (fun t' k => XS.iloadN X0.here hx rfl (hb hby own_dt_74) rfl  k) ?_
  refine own_gs 76 [(.int (1 : Int32)), (.int (3 : Int32))] (fun t' k => XS.iloadN X0.here hx rfl (hb hby own_dt_75) rfl  k) ?_
  refine own_gs 77 [(.int (1 : Int32)), (.int (1 : Int32)), (.int (3 : Int32))] (fun t' k => XS.iconst X0.here hx rfl (hb hby own_dt_76) k) ?_
  refine own_gs 78 [(.int (0 : Int32)), (.int (3 : Int32))] (fun t' k => XS.iushr X0.here hx rfl (hb hby own_dt_77) rfl k) ?_
  refine own_gs 79 [(.int (3 : Int32))] (fun t' k => XS.iadd X0.here hx rfl (hb hby own_dt_78) rfl k) ?_
  refine own_retI X0 hx hlk hret (hb hby own_dt_79) ?_ (by decide) (by decide)
  exact ⟨rfl, e0, rfl⟩


theorem own_le33 {x : Int} (h : ¬ (8589934592 : Int64) < Int64.ofInt x) (hb : -4611686018427387904 ≤ x ∧ x ≤ 4611686018427387904) : x ≤ 8589934592 := by
  have e : (8589934592 : Int64).toInt = 8589934592 := rfl
  rw [Int64.lt_iff_toInt_lt, e, own_oI hb] at h; omega

theorem own_sn_AliasTable_total_shift {Z : State} {a0 : Array Value} (hw : ∀ d ∈ tables_1, d.before a0 Z = true) : Jvm.RoadKit.slotOf Z "com/example/load_across_peers/loadacrosspeers/internal/pick/AliasTable" "total" "J" ≠ Jvm.RoadKit.slotOf Z "com/example/load_across_peers/loadacrosspeers/internal/pick/AliasTable" "shift" "I" := slot_ne (Or.inr (hw _ (List.mem_of_getElem? (i := 20) rfl))) (Or.inr (hw _ (List.mem_of_getElem? (i := 18) rfl))) (by decide) (t := .long) (t' := .int) (by decide) (by decide)
theorem own_sn_AliasTable_packed_shift {Z : State} {a0 : Array Value} (hw : ∀ d ∈ tables_1, d.before a0 Z = true) : Jvm.RoadKit.slotOf Z "com/example/load_across_peers/loadacrosspeers/internal/pick/AliasTable" "packed" "[J" ≠ Jvm.RoadKit.slotOf Z "com/example/load_across_peers/loadacrosspeers/internal/pick/AliasTable" "shift" "I" := slot_ne (Or.inr (hw _ (List.mem_of_getElem? (i := 23) rfl))) (Or.inr (hw _ (List.mem_of_getElem? (i := 18) rfl))) (by decide) (t := (.array .long)) (t' := .int) (by decide) (by decide)
theorem own_sn_AliasTable_thresholds_shift {Z : State} {a0 : Array Value} (hw : ∀ d ∈ tables_1, d.before a0 Z = true) : Jvm.RoadKit.slotOf Z "com/example/load_across_peers/loadacrosspeers/internal/pick/AliasTable" "thresholds" "[J" ≠ Jvm.RoadKit.slotOf Z "com/example/load_across_peers/loadacrosspeers/internal/pick/AliasTable" "shift" "I" := slot_ne (Or.inr (hw _ (List.mem_of_getElem? (i := 25) rfl))) (Or.inr (hw _ (List.mem_of_getElem? (i := 18) rfl))) (by decide) (t := (.array .long)) (t' := .int) (by decide) (by decide)
theorem own_sn_AliasTable_aliases_shift {Z : State} {a0 : Array Value} (hw : ∀ d ∈ tables_1, d.before a0 Z = true) : Jvm.RoadKit.slotOf Z "com/example/load_across_peers/loadacrosspeers/internal/pick/AliasTable" "aliases" "[I" ≠ Jvm.RoadKit.slotOf Z "com/example/load_across_peers/loadacrosspeers/internal/pick/AliasTable" "shift" "I" := slot_ne (Or.inr (hw _ (List.mem_of_getElem? (i := 27) rfl))) (Or.inr (hw _ (List.mem_of_getElem? (i := 18) rfl))) (by decide) (t := (.array .int)) (t' := .int) (by decide) (by decide)
theorem own_sn_AliasTable_shift_total {Z : State} {a0 : Array Value} (hw : ∀ d ∈ tables_1, d.before a0 Z = true) : Jvm.RoadKit.slotOf Z "com/example/load_across_peers/loadacrosspeers/internal/pick/AliasTable" "shift" "I" ≠ Jvm.RoadKit.slotOf Z "com/example/load_across_peers/loadacrosspeers/internal/pick/AliasTable" "total" "J" := slot_ne (Or.inr (hw _ (List.mem_of_getElem? (i := 18) rfl))) (Or.inr (hw _ (List.mem_of_getElem? (i := 20) rfl))) (by decide) (t := .int) (t' := .long) (by decide) (by decide)
theorem own_sn_AliasTable_packed_total {Z : State} {a0 : Array Value} (hw : ∀ d ∈ tables_1, d.before a0 Z = true) : Jvm.RoadKit.slotOf Z "com/example/load_across_peers/loadacrosspeers/internal/pick/AliasTable" "packed" "[J" ≠ Jvm.RoadKit.slotOf Z "com/example/load_across_peers/loadacrosspeers/internal/pick/AliasTable" "total" "J" := slot_ne (Or.inr (hw _ (List.mem_of_getElem? (i := 23) rfl))) (Or.inr (hw _ (List.mem_of_getElem? (i := 20) rfl))) (by decide) (t := (.array .long)) (t' := .long) (by decide) (by decide)
theorem own_sn_AliasTable_thresholds_total {Z : State} {a0 : Array Value} (hw : ∀ d ∈ tables_1, d.before a0 Z = true) : Jvm.RoadKit.slotOf Z "com/example/load_across_peers/loadacrosspeers/internal/pick/AliasTable" "thresholds" "[J" ≠ Jvm.RoadKit.slotOf Z "com/example/load_across_peers/loadacrosspeers/internal/pick/AliasTable" "total" "J" := slot_ne (Or.inr (hw _ (List.mem_of_getElem? (i := 25) rfl))) (Or.inr (hw _ (List.mem_of_getElem? (i := 20) rfl))) (by decide) (t := (.array .long)) (t' := .long) (by decide) (by decide)
theorem own_sn_AliasTable_aliases_total {Z : State} {a0 : Array Value} (hw : ∀ d ∈ tables_1, d.before a0 Z = true) : Jvm.RoadKit.slotOf Z "com/example/load_across_peers/loadacrosspeers/internal/pick/AliasTable" "aliases" "[I" ≠ Jvm.RoadKit.slotOf Z "com/example/load_across_peers/loadacrosspeers/internal/pick/AliasTable" "total" "J" := slot_ne (Or.inr (hw _ (List.mem_of_getElem? (i := 27) rfl))) (Or.inr (hw _ (List.mem_of_getElem? (i := 20) rfl))) (by decide) (t := (.array .int)) (t' := .long) (by decide) (by decide)
theorem own_sn_AliasTable_shift_packed {Z : State} {a0 : Array Value} (hw : ∀ d ∈ tables_1, d.before a0 Z = true) : Jvm.RoadKit.slotOf Z "com/example/load_across_peers/loadacrosspeers/internal/pick/AliasTable" "shift" "I" ≠ Jvm.RoadKit.slotOf Z "com/example/load_across_peers/loadacrosspeers/internal/pick/AliasTable" "packed" "[J" := slot_ne (Or.inr (hw _ (List.mem_of_getElem? (i := 18) rfl))) (Or.inr (hw _ (List.mem_of_getElem? (i := 23) rfl))) (by decide) (t := .int) (t' := (.array .long)) (by decide) (by decide)
theorem own_sn_AliasTable_total_packed {Z : State} {a0 : Array Value} (hw : ∀ d ∈ tables_1, d.before a0 Z = true) : Jvm.RoadKit.slotOf Z "com/example/load_across_peers/loadacrosspeers/internal/pick/AliasTable" "total" "J" ≠ Jvm.RoadKit.slotOf Z "com/example/load_across_peers/loadacrosspeers/internal/pick/AliasTable" "packed" "[J" := slot_ne (Or.inr (hw _ (List.mem_of_getElem? (i := 20) rfl))) (Or.inr (hw _ (List.mem_of_getElem? (i := 23) rfl))) (by decide) (t := .long) (t' := (.array .long)) (by decide) (by decide)
theorem own_sn_AliasTable_thresholds_packed {Z : State} {a0 : Array Value} (hw : ∀ d ∈ tables_1, d.before a0 Z = true) : Jvm.RoadKit.slotOf Z "com/example/load_across_peers/loadacrosspeers/internal/pick/AliasTable" "thresholds" "[J" ≠ Jvm.RoadKit.slotOf Z "com/example/load_across_peers/loadacrosspeers/internal/pick/AliasTable" "packed" "[J" := slot_ne (Or.inr (hw _ (List.mem_of_getElem? (i := 25) rfl))) (Or.inr (hw _ (List.mem_of_getElem? (i := 23) rfl))) (by decide) (t := (.array .long)) (t' := (.array .long)) (by decide) (by decide)
theorem own_sn_AliasTable_aliases_packed {Z : State} {a0 : Array Value} (hw : ∀ d ∈ tables_1, d.before a0 Z = true) : Jvm.RoadKit.slotOf Z "com/example/load_across_peers/loadacrosspeers/internal/pick/AliasTable" "aliases" "[I" ≠ Jvm.RoadKit.slotOf Z "com/example/load_across_peers/loadacrosspeers/internal/pick/AliasTable" "packed" "[J" := slot_ne (Or.inr (hw _ (List.mem_of_getElem? (i := 27) rfl))) (Or.inr (hw _ (List.mem_of_getElem? (i := 23) rfl))) (by decide) (t := (.array .int)) (t' := (.array .long)) (by decide) (by decide)
theorem own_sn_AliasTable_shift_thresholds {Z : State} {a0 : Array Value} (hw : ∀ d ∈ tables_1, d.before a0 Z = true) : Jvm.RoadKit.slotOf Z "com/example/load_across_peers/loadacrosspeers/internal/pick/AliasTable" "shift" "I" ≠ Jvm.RoadKit.slotOf Z "com/example/load_across_peers/loadacrosspeers/internal/pick/AliasTable" "thresholds" "[J" := slot_ne (Or.inr (hw _ (List.mem_of_getElem? (i := 18) rfl))) (Or.inr (hw _ (List.mem_of_getElem? (i := 25) rfl))) (by decide) (t := .int) (t' := (.array .long)) (by decide) (by decide)
theorem own_sn_AliasTable_total_thresholds {Z : State} {a0 : Array Value} (hw : ∀ d ∈ tables_1, d.before a0 Z = true) : Jvm.RoadKit.slotOf Z "com/example/load_across_peers/loadacrosspeers/internal/pick/AliasTable" "total" "J" ≠ Jvm.RoadKit.slotOf Z "com/example/load_across_peers/loadacrosspeers/internal/pick/AliasTable" "thresholds" "[J" := slot_ne (Or.inr (hw _ (List.mem_of_getElem? (i := 20) rfl))) (Or.inr (hw _ (List.mem_of_getElem? (i := 25) rfl))) (by decide) (t := .long) (t' := (.array .long)) (by decide) (by decide)
theorem own_sn_AliasTable_packed_thresholds {Z : State} {a0 : Array Value} (hw : ∀ d ∈ tables_1, d.before a0 Z = true) : Jvm.RoadKit.slotOf Z "com/example/load_across_peers/loadacrosspeers/internal/pick/AliasTable" "packed" "[J" ≠ Jvm.RoadKit.slotOf Z "com/example/load_across_peers/loadacrosspeers/internal/pick/AliasTable" "thresholds" "[J" := slot_ne (Or.inr (hw _ (List.mem_of_getElem? (i := 23) rfl))) (Or.inr (hw _ (List.mem_of_getElem? (i := 25) rfl))) (by decide) (t := (.array .long)) (t' := (.array .long)) (by decide) (by decide)
theorem own_sn_AliasTable_aliases_thresholds {Z : State} {a0 : Array Value} (hw : ∀ d ∈ tables_1, d.before a0 Z = true) : Jvm.RoadKit.slotOf Z "com/example/load_across_peers/loadacrosspeers/internal/pick/AliasTable" "aliases" "[I" ≠ Jvm.RoadKit.slotOf Z "com/example/load_across_peers/loadacrosspeers/internal/pick/AliasTable" "thresholds" "[J" := slot_ne (Or.inr (hw _ (List.mem_of_getElem? (i := 27) rfl))) (Or.inr (hw _ (List.mem_of_getElem? (i := 25) rfl))) (by decide) (t := (.array .int)) (t' := (.array .long)) (by decide) (by decide)
theorem own_sn_AliasTable_shift_aliases {Z : State} {a0 : Array Value} (hw : ∀ d ∈ tables_1, d.before a0 Z = true) : Jvm.RoadKit.slotOf Z "com/example/load_across_peers/loadacrosspeers/internal/pick/AliasTable" "shift" "I" ≠ Jvm.RoadKit.slotOf Z "com/example/load_across_peers/loadacrosspeers/internal/pick/AliasTable" "aliases" "[I" := slot_ne (Or.inr (hw _ (List.mem_of_getElem? (i := 18) rfl))) (Or.inr (hw _ (List.mem_of_getElem? (i := 27) rfl))) (by decide) (t := .int) (t' := (.array .int)) (by decide) (by decide)
theorem own_sn_AliasTable_total_aliases {Z : State} {a0 : Array Value} (hw : ∀ d ∈ tables_1, d.before a0 Z = true) : Jvm.RoadKit.slotOf Z "com/example/load_across_peers/loadacrosspeers/internal/pick/AliasTable" "total" "J" ≠ Jvm.RoadKit.slotOf Z "com/example/load_across_peers/loadacrosspeers/internal/pick/AliasTable" "aliases" "[I" := slot_ne (Or.inr (hw _ (List.mem_of_getElem? (i := 20) rfl))) (Or.inr (hw _ (List.mem_of_getElem? (i := 27) rfl))) (by decide) (t := .long) (t' := (.array .int)) (by decide) (by decide)
theorem own_sn_AliasTable_packed_aliases {Z : State} {a0 : Array Value} (hw : ∀ d ∈ tables_1, d.before a0 Z = true) : Jvm.RoadKit.slotOf Z "com/example/load_across_peers/loadacrosspeers/internal/pick/AliasTable" "packed" "[J" ≠ Jvm.RoadKit.slotOf Z "com/example/load_across_peers/loadacrosspeers/internal/pick/AliasTable" "aliases" "[I" := slot_ne (Or.inr (hw _ (List.mem_of_getElem? (i := 23) rfl))) (Or.inr (hw _ (List.mem_of_getElem? (i := 27) rfl))) (by decide) (t := (.array .long)) (t' := (.array .int)) (by decide) (by decide)
theorem own_sn_AliasTable_thresholds_aliases {Z : State} {a0 : Array Value} (hw : ∀ d ∈ tables_1, d.before a0 Z = true) : Jvm.RoadKit.slotOf Z "com/example/load_across_peers/loadacrosspeers/internal/pick/AliasTable" "thresholds" "[J" ≠ Jvm.RoadKit.slotOf Z "com/example/load_across_peers/loadacrosspeers/internal/pick/AliasTable" "aliases" "[I" := slot_ne (Or.inr (hw _ (List.mem_of_getElem? (i := 25) rfl))) (Or.inr (hw _ (List.mem_of_getElem? (i := 27) rfl))) (by decide) (t := (.array .long)) (t' := (.array .int)) (by decide) (by decide)
theorem own_dI_0 : decode prog_10_method_1_code 0 = .ok (.aload_n 0, 1) := by decide +kernel
theorem own_dI_1 : decode prog_10_method_1_code 1 = .ok (.invokespecial 5, 3) := by decide +kernel
theorem own_dI_4 : decode prog_10_method_1_code 4 = .ok (.aload_n 1, 1) := by decide +kernel
theorem own_dI_5 : decode prog_10_method_1_code 5 = .ok (.arraylength, 1) := by decide +kernel
theorem own_dI_6 : decode prog_10_method_1_code 6 = .ok (.iconst 1, 1) := by decide +kernel
theorem own_dI_7 : decode prog_10_method_1_code 7 = .ok (.if_icmp .gt 7, 3) := by decide +kernel
theorem own_dI_10 : decode prog_10_method_1_code 10 = .ok (.iconst 1, 1) := by decide +kernel
theorem own_dI_11 : decode prog_10_method_1_code 11 = .ok (.goto 12, 3) := by decide +kernel
theorem own_dI_23 : decode prog_10_method_1_code 23 = .ok (.istore_n 2, 1) := by decide +kernel
theorem own_dI_24 : decode prog_10_method_1_code 24 = .ok (.iload_n 2, 1) := by decide +kernel
theorem own_dI_25 : decode prog_10_method_1_code 25 = .ok (.newarray .long, 2) := by decide +kernel
theorem own_dI_27 : decode prog_10_method_1_code 27 = .ok (.astore_n 3, 1) := by decide +kernel
theorem own_dI_28 : decode prog_10_method_1_code 28 = .ok (.iload_n 2, 1) := by decide +kernel
theorem own_dI_29 : decode prog_10_method_1_code 29 = .ok (.newarray .int, 2) := by decide +kernel
theorem own_dI_31 : decode prog_10_method_1_code 31 = .ok (.astore 4, 2) := by decide +kernel
theorem own_dI_33 : decode prog_10_method_1_code 33 = .ok (.aload_n 0, 1) := by decide +kernel
theorem own_dI_34 : decode prog_10_method_1_code 34 = .ok (.bipush 64, 2) := by decide +kernel
theorem own_dI_36 : decode prog_10_method_1_code 36 = .ok (.iload_n 2, 1) := by decide +kernel
theorem own_dI_37 : decode prog_10_method_1_code 37 = .ok (.invokestatic 17, 3) := by decide +kernel
theorem own_dI_40 : decode prog_10_method_1_code 40 = .ok (.isub, 1) := by decide +kernel
theorem own_dI_41 : decode prog_10_method_1_code 41 = .ok (.putfield 20, 3) := by decide +kernel
theorem own_dI_44 : decode prog_10_method_1_code 44 = .ok (.lconst 0, 1) := by decide +kernel
theorem own_dI_45 : decode prog_10_method_1_code 45 = .ok (.lstore 5, 2) := by decide +kernel
theorem own_dI_47 : decode prog_10_method_1_code 47 = .ok (.aload_n 1, 1) := by decide +kernel
theorem own_dI_48 : decode prog_10_method_1_code 48 = .ok (.astore 7, 2) := by decide +kernel
theorem own_dI_50 : decode prog_10_method_1_code 50 = .ok (.aload 7, 2) := by decide +kernel
theorem own_dI_52 : decode prog_10_method_1_code 52 = .ok (.arraylength, 1) := by decide +kernel
theorem own_dI_53 : decode prog_10_method_1_code 53 = .ok (.istore 8, 2) := by decide +kernel
theorem own_dI_55 : decode prog_10_method_1_code 55 = .ok (.iconst 0, 1) := by decide +kernel
theorem own_dI_56 : decode prog_10_method_1_code 56 = .ok (.istore 9, 2) := by decide +kernel
theorem own_dI_58 : decode prog_10_method_1_code 58 = .ok (.iload 9, 2) := by decide +kernel
theorem own_dI_60 : decode prog_10_method_1_code 60 = .ok (.iload 8, 2) := by decide +kernel
theorem own_dI_62 : decode prog_10_method_1_code 62 = .ok (.if_icmp .ge 23, 3) := by decide +kernel
theorem own_dI_65 : decode prog_10_method_1_code 65 = .ok (.aload 7, 2) := by decide +kernel
theorem own_dI_67 : decode prog_10_method_1_code 67 = .ok (.iload 9, 2) := by decide +kernel
theorem own_dI_69 : decode prog_10_method_1_code 69 = .ok (.laload, 1) := by decide +kernel
theorem own_dI_70 : decode prog_10_method_1_code 70 = .ok (.lstore 10, 2) := by decide +kernel
theorem own_dI_72 : decode prog_10_method_1_code 72 = .ok (.lload 5, 2) := by decide +kernel
theorem own_dI_74 : decode prog_10_method_1_code 74 = .ok (.lload 10, 2) := by decide +kernel
theorem own_dI_76 : decode prog_10_method_1_code 76 = .ok (.ladd, 1) := by decide +kernel
theorem own_dI_77 : decode prog_10_method_1_code 77 = .ok (.lstore 5, 2) := by decide +kernel
theorem own_dI_79 : decode prog_10_method_1_code 79 = .ok (.iinc 9 1, 3) := by decide +kernel
theorem own_dI_82 : decode prog_10_method_1_code 82 = .ok (.goto (-24), 3) := by decide +kernel
theorem own_dI_85 : decode prog_10_method_1_code 85 = .ok (.aload_n 0, 1) := by decide +kernel
theorem own_dI_86 : decode prog_10_method_1_code 86 = .ok (.lload 5, 2) := by decide +kernel
theorem own_dI_88 : decode prog_10_method_1_code 88 = .ok (.putfield 24, 3) := by decide +kernel
theorem own_dI_91 : decode prog_10_method_1_code 91 = .ok (.iload_n 2, 1) := by decide +kernel
theorem own_dI_92 : decode prog_10_method_1_code 92 = .ok (.newarray .long, 2) := by decide +kernel
theorem own_dI_94 : decode prog_10_method_1_code 94 = .ok (.astore 7, 2) := by decide +kernel
theorem own_dI_96 : decode prog_10_method_1_code 96 = .ok (.iload_n 2, 1) := by decide +kernel
theorem own_dI_97 : decode prog_10_method_1_code 97 = .ok (.newarray .int, 2) := by decide +kernel
theorem own_dI_99 : decode prog_10_method_1_code 99 = .ok (.astore 8, 2) := by decide +kernel
theorem own_dI_101 : decode prog_10_method_1_code 101 = .ok (.iload_n 2, 1) := by decide +kernel
theorem own_dI_102 : decode prog_10_method_1_code 102 = .ok (.newarray .int, 2) := by decide +kernel
theorem own_dI_104 : decode prog_10_method_1_code 104 = .ok (.astore 9, 2) := by decide +kernel
theorem own_dI_106 : decode prog_10_method_1_code 106 = .ok (.iconst 0, 1) := by decide +kernel
theorem own_dI_107 : decode prog_10_method_1_code 107 = .ok (.istore 10, 2) := by decide +kernel
theorem own_dI_109 : decode prog_10_method_1_code 109 = .ok (.iconst 0, 1) := by decide +kernel
theorem own_dI_110 : decode prog_10_method_1_code 110 = .ok (.istore 11, 2) := by decide +kernel
theorem own_dI_112 : decode prog_10_method_1_code 112 = .ok (.iconst 0, 1) := by decide +kernel
theorem own_dI_113 : decode prog_10_method_1_code 113 = .ok (.istore 12, 2) := by decide +kernel
theorem own_dI_115 : decode prog_10_method_1_code 115 = .ok (.iload 12, 2) := by decide +kernel
theorem own_dI_117 : decode prog_10_method_1_code 117 = .ok (.iload_n 2, 1) := by decide +kernel
theorem own_dI_118 : decode prog_10_method_1_code 118 = .ok (.if_icmp .ge 68, 3) := by decide +kernel
theorem own_dI_121 : decode prog_10_method_1_code 121 = .ok (.aload 7, 2) := by decide +kernel
theorem own_dI_123 : decode prog_10_method_1_code 123 = .ok (.iload 12, 2) := by decide +kernel
theorem own_dI_125 : decode prog_10_method_1_code 125 = .ok (.iload 12, 2) := by decide +kernel
theorem own_dI_127 : decode prog_10_method_1_code 127 = .ok (.aload_n 1, 1) := by decide +kernel
theorem own_dI_128 : decode prog_10_method_1_code 128 = .ok (.arraylength, 1) := by decide +kernel
theorem own_dI_129 : decode prog_10_method_1_code 129 = .ok (.if_icmp .ge 13, 3) := by decide +kernel
theorem own_dI_132 : decode prog_10_method_1_code 132 = .ok (.aload_n 1, 1) := by decide +kernel
theorem own_dI_133 : decode prog_10_method_1_code 133 = .ok (.iload 12, 2) := by decide +kernel
theorem own_dI_135 : decode prog_10_method_1_code 135 = .ok (.laload, 1) := by decide +kernel
theorem own_dI_136 : decode prog_10_method_1_code 136 = .ok (.iload_n 2, 1) := by decide +kernel
theorem own_dI_137 : decode prog_10_method_1_code 137 = .ok (.i2l, 1) := by decide +kernel
theorem own_dI_138 : decode prog_10_method_1_code 138 = .ok (.lmul, 1) := by decide +kernel
theorem own_dI_139 : decode prog_10_method_1_code 139 = .ok (.goto 4, 3) := by decide +kernel
theorem own_dI_143 : decode prog_10_method_1_code 143 = .ok (.lastore, 1) := by decide +kernel
theorem own_dI_144 : decode prog_10_method_1_code 144 = .ok (.aload 7, 2) := by decide +kernel
theorem own_dI_146 : decode prog_10_method_1_code 146 = .ok (.iload 12, 2) := by decide +kernel
theorem own_dI_148 : decode prog_10_method_1_code 148 = .ok (.laload, 1) := by decide +kernel
theorem own_dI_149 : decode prog_10_method_1_code 149 = .ok (.aload_n 0, 1) := by decide +kernel
theorem own_dI_150 : decode prog_10_method_1_code 150 = .ok (.getfield 24, 3) := by decide +kernel
theorem own_dI_153 : decode prog_10_method_1_code 153 = .ok (.lcmp, 1) := by decide +kernel
theorem own_dI_154 : decode prog_10_method_1_code 154 = .ok (.ifCond .ge 16, 3) := by decide +kernel
theorem own_dI_170 : decode prog_10_method_1_code 170 = .ok (.aload 9, 2) := by decide +kernel
theorem own_dI_172 : decode prog_10_method_1_code 172 = .ok (.iload 11, 2) := by decide +kernel
theorem own_dI_174 : decode prog_10_method_1_code 174 = .ok (.iinc 11 1, 3) := by decide +kernel
theorem own_dI_177 : decode prog_10_method_1_code 177 = .ok (.iload 12, 2) := by decide +kernel
theorem own_dI_179 : decode prog_10_method_1_code 179 = .ok (.iastore, 1) := by decide +kernel
theorem own_dI_180 : decode prog_10_method_1_code 180 = .ok (.iinc 12 1, 3) := by decide +kernel
theorem own_dI_183 : decode prog_10_method_1_code 183 = .ok (.goto (-68), 3) := by decide +kernel
theorem own_dI_186 : decode prog_10_method_1_code 186 = .ok (.iload 10, 2) := by decide +kernel
theorem own_dI_188 : decode prog_10_method_1_code 188 = .ok (.ifCond .le 90, 3) := by decide +kernel
theorem own_dI_278 : decode prog_10_method_1_code 278 = .ok (.iload 11, 2) := by decide +kernel
theorem own_dI_280 : decode prog_10_method_1_code 280 = .ok (.ifCond .le 23, 3) := by decide +kernel
theorem own_dI_283 : decode prog_10_method_1_code 283 = .ok (.aload 9, 2) := by decide +kernel
theorem own_dI_285 : decode prog_10_method_1_code 285 = .ok (.iinc 11 (-1), 3) := by decide +kernel
theorem own_dI_288 : decode prog_10_method_1_code 288 = .ok (.iload 11, 2) := by decide +kernel
theorem own_dI_290 : decode prog_10_method_1_code 290 = .ok (.iaload, 1) := by decide +kernel
theorem own_dI_291 : decode prog_10_method_1_code 291 = .ok (.istore 12, 2) := by decide +kernel
theorem own_dI_293 : decode prog_10_method_1_code 293 = .ok (.aload 4, 2) := by decide +kernel
theorem own_dI_295 : decode prog_10_method_1_code 295 = .ok (.iload 12, 2) := by decide +kernel
theorem own_dI_297 : decode prog_10_method_1_code 297 = .ok (.iload 12, 2) := by decide +kernel
theorem own_dI_299 : decode prog_10_method_1_code 299 = .ok (.iastore, 1) := by decide +kernel
theorem own_dI_300 : decode prog_10_method_1_code 300 = .ok (.goto (-22), 3) := by decide +kernel
theorem own_dI_303 : decode prog_10_method_1_code 303 = .ok (.aload_n 0, 1) := by decide +kernel
theorem own_dI_304 : decode prog_10_method_1_code 304 = .ok (.getfield 24, 3) := by decide +kernel
theorem own_dI_307 : decode prog_10_method_1_code 307 = .ok (.ldc2_w 28, 3) := by decide +kernel
theorem own_dI_310 : decode prog_10_method_1_code 310 = .ok (.lcmp, 1) := by decide +kernel
theorem own_dI_311 : decode prog_10_method_1_code 311 = .ok (.ifCond .gt 59, 3) := by decide +kernel
theorem own_dI_314 : decode prog_10_method_1_code 314 = .ok (.aload_n 0, 1) := by decide +kernel
theorem own_dI_315 : decode prog_10_method_1_code 315 = .ok (.iload_n 2, 1) := by decide +kernel
theorem own_dI_316 : decode prog_10_method_1_code 316 = .ok (.newarray .long, 2) := by decide +kernel
theorem own_dI_318 : decode prog_10_method_1_code 318 = .ok (.putfield 30, 3) := by decide +kernel
theorem own_dI_321 : decode prog_10_method_1_code 321 = .ok (.iconst 0, 1) := by decide +kernel
theorem own_dI_322 : decode prog_10_method_1_code 322 = .ok (.istore 12, 2) := by decide +kernel
theorem own_dI_324 : decode prog_10_method_1_code 324 = .ok (.iload 12, 2) := by decide +kernel
theorem own_dI_326 : decode prog_10_method_1_code 326 = .ok (.iload_n 2, 1) := by decide +kernel
theorem own_dI_327 : decode prog_10_method_1_code 327 = .ok (.if_icmp .ge 30, 3) := by decide +kernel
theorem own_dI_330 : decode prog_10_method_1_code 330 = .ok (.aload_n 0, 1) := by decide +kernel
theorem own_dI_331 : decode prog_10_method_1_code 331 = .ok (.getfield 30, 3) := by decide +kernel
theorem own_dI_334 : decode prog_10_method_1_code 334 = .ok (.iload 12, 2) := by decide +kernel
theorem own_dI_336 : decode prog_10_method_1_code 336 = .ok (.aload_n 3, 1) := by decide +kernel
theorem own_dI_337 : decode prog_10_method_1_code 337 = .ok (.iload 12, 2) := by decide +kernel
theorem own_dI_339 : decode prog_10_method_1_code 339 = .ok (.laload, 1) := by decide +kernel
theorem own_dI_340 : decode prog_10_method_1_code 340 = .ok (.bipush 31, 2) := by decide +kernel
theorem own_dI_342 : decode prog_10_method_1_code 342 = .ok (.lshl, 1) := by decide +kernel
theorem own_dI_343 : decode prog_10_method_1_code 343 = .ok (.aload 4, 2) := by decide +kernel
theorem own_dI_345 : decode prog_10_method_1_code 345 = .ok (.iload 12, 2) := by decide +kernel
theorem own_dI_347 : decode prog_10_method_1_code 347 = .ok (.iaload, 1) := by decide +kernel
theorem own_dI_348 : decode prog_10_method_1_code 348 = .ok (.i2l, 1) := by decide +kernel
theorem own_dI_349 : decode prog_10_method_1_code 349 = .ok (.lor, 1) := by decide +kernel
theorem own_dI_350 : decode prog_10_method_1_code 350 = .ok (.lastore, 1) := by decide +kernel
theorem own_dI_351 : decode prog_10_method_1_code 351 = .ok (.iinc 12 1, 3) := by decide +kernel
theorem own_dI_354 : decode prog_10_method_1_code 354 = .ok (.goto (-30), 3) := by decide +kernel
theorem own_dI_357 : decode prog_10_method_1_code 357 = .ok (.aload_n 0, 1) := by decide +kernel
theorem own_dI_358 : decode prog_10_method_1_code 358 = .ok (.aconst_null, 1) := by decide +kernel
theorem own_dI_359 : decode prog_10_method_1_code 359 = .ok (.putfield 34, 3) := by decide +kernel
theorem own_dI_362 : decode prog_10_method_1_code 362 = .ok (.aload_n 0, 1) := by decide +kernel
theorem own_dI_363 : decode prog_10_method_1_code 363 = .ok (.aconst_null, 1) := by decide +kernel
theorem own_dI_364 : decode prog_10_method_1_code 364 = .ok (.putfield 37, 3) := by decide +kernel
theorem own_dI_367 : decode prog_10_method_1_code 367 = .ok (.goto 19, 3) := by decide +kernel
theorem own_dI_386 : decode prog_10_method_1_code 386 = .ok (.return_, 1) := by decide +kernel
theorem own_pn_own_rmI1 : plainFor (⟨"com/example/load_across_peers/loadacrosspeers/internal/pick/AliasTable", "<init>", "([J)V"⟩ : MethodName) = true := plainFor_of_name (show plainName "com/example/load_across_peers/loadacrosspeers/internal/pick/AliasTable" = true by first | (simp [plainName, overriddenIn]; done) | decide +kernel)
set_option maxRecDepth 65536 in
set_option maxHeartbeats 40000000 in
theorem own_rmI1 (l : Launch) (Z : State) (a0 : Array Value) (hw : ∀ d ∈ tables_1, d.before a0 Z = true) (ws : List Jvm.Cond) (h0 : Heap) (n0 : Nat) (Z0 : n0 ≤ h0.size) (t w : Addr) (g_t : n0 ≤ t) (ne_t_w : t ≠ w) (A : Int) (hA1 : 1 ≤ A) (hA2 : A ≤ 2147483647) (E_t : Exa Z h0 t "com/example/load_across_peers/loadacrosspeers/internal/pick/AliasTable") (A_w : own_A Z h0 .long w [(.long (Int64.ofInt (A)))]) (F_shift : Fld Z h0 t "com/example/load_across_peers/loadacrosspeers/internal/pick/AliasTable" "shift" "I" (.int (0 : Int32))) (F_total : Fld Z h0 t "com/example/load_across_peers/loadacrosspeers/internal/pick/AliasTable" "total" "J" (.long (0 : Int64))) (F_packed : Fld Z h0 t "com/example/load_across_peers/loadacrosspeers/internal/pick/AliasTable" "packed" "[J" .null) (F_thresholds : Fld Z h0 t "com/example/load_across_peers/loadacrosspeers/internal/pick/AliasTable" "thresholds" "[J" .null) (F_aliases : Fld Z h0 t "com/example/load_across_peers/loadacrosspeers/internal/pick/AliasTable" "aliases" "[I" .null)  :
    own_C l Z (⟨"com/example/load_across_peers/loadacrosspeers/internal/pick/AliasTable", "<init>", "([J)V"⟩ : MethodName) prog_10_method_1_code 14 none ws ({ frames := 2, cells := 6, slots := 6, locals := 27 } : Room) #[(.ref t), (.ref w)] h0 (own_Q n0 (fun v h => v = none ∧ n0 ≤ h.size ∧ Exa Z h t "com/example/load_across_peers/loadacrosspeers/internal/pick/AliasTable" ∧ ∃ b, Fld Z h t "com/example/load_across_peers/loadacrosspeers/internal/pick/AliasTable" "packed" "[J" (.ref b) ∧ own_A Z h .long b [(.long (own_pw (0 : Int64) (0 : Int64)))])) := by
  refine own_met own_pn_own_rmI1 #[rv t, rv w, .unset, .unset, .unset, .unset, .unset, .unset, .unset, .unset, .unset, .unset, .unset, .unset] (fun m => by first | (simp [entryFrame, mkF, argsToLocals, Value.category]; done) | rfl) ?_
  intro p e s m below meth c s₁ hx hby hml hown hret hlk hZ hnm X0 e0
  replace X0 := own_S.of X0 (n0)
  have hn : n0 ≤ h0.size := Z0
  refine own_gs 1 [(.ref t)] (fun t' k => XS.aloadN X0.here hx rfl (hb hby own_dI_0) rfl rfl  k) ?_
  refine X0.initO hx hZ hown (hw _ (List.mem_of_getElem? (i := 9) rfl)) (hw _ (List.mem_of_getElem? (i := 10) rfl)) (hw _ (List.mem_of_getElem? (i := 11) rfl)) e0 (by rw [hml]; rfl) (hb hby own_dI_1) (by decide) 0 (Nat.le_of_eq rfl) (by decide) ?_
  intro T1 X1 e1
  refine own_gs 5 [(.ref w)] (fun t' k => XS.aloadN X1.here hx rfl (hb hby own_dI_4) rfl rfl  k) ?_
  refine X1.alen hx hZ e1 A_w (hb hby own_dI_5) ?_
  show own_G p e below s _ _ _ T1 (mkF m 6 #[rv t, rv w, .unset, .unset, .unset, .unset, .unset, .unset, .unset, .unset, .unset, .unset, .unset, .unset] [(.int (1 : Int32))])
  refine own_gs 7 [(.int (1 : Int32)), (.int (1 : Int32))] (fun t' k => XS.iconst X1.here hx rfl (hb hby own_dI_6) k) ?_
  refine own_gs 10 [] (fun t' k => XS.icmpNo X1.here hx rfl (hb hby own_dI_7) rfl (flt (by decide)).2.2.1 k) ?_
  refine own_gs 11 [(.int (1 : Int32))] (fun t' k => XS.iconst X1.here hx rfl (hb hby own_dI_10) k) ?_
  refine own_gs 23 [(.int (1 : Int32))] (fun t' k => XS.goto X1.here hx rfl (pc0 := 11) (pc' := 23) rfl (hb hby own_dI_11) (by decide) (by decide) k) ?_
  refine own_go (mkF m 24 #[rv t, rv w, iv (1 : Int32), .unset, .unset, .unset, .unset, .unset, .unset, .unset, .unset, .unset, .unset, .unset] []) (fun t' k => XS.istoreN X1.here hx rfl (hb hby own_dI_23) rfl rfl k) ?_
  refine own_gs 25 [(.int (1 : Int32))] (fun t' k => XS.iloadN X1.here hx rfl (hb hby own_dI_24) rfl  k) ?_
  refine X1.newP hx hZ (hw _ (List.mem_of_getElem? (i := 2) rfl)) e1 1 (by decide) (hb hby own_dI_25) 1 (by decide) (by decide) (by decide) (by decide) ?_
  intro T2 h2 b2 X2 e2 q2 xt2 A_b2
  have g_b2 : n0 ≤ b2 := by rw [q2]; exact hn
  have lt_t_b2 : t < b2 := by rw [q2]; exact E_t.lt
  have lt_w_b2 : w < b2 := by rw [q2]; exact A_w.lt
  replace E_t := E_t.ext xt2
  replace A_w := A_w.ext xt2
  replace F_shift := F_shift.ext xt2
  replace F_total := F_total.ext xt2
  replace F_packed := F_packed.ext xt2
  replace F_thresholds := F_thresholds.ext xt2
  replace F_aliases := F_aliases.ext xt2
  replace hn := Nat.le_trans hn xt2.1
  replace A_b2 : own_A Z h2 .long b2 [(.long (0 : Int64))] := A_b2
  refine own_go (mkF m 28 #[rv t, rv w, iv (1 : Int32), rv b2, .unset, .unset, .unset, .unset, .unset, .unset, .unset, .unset, .unset, .unset] []) (fun t' k => XS.astoreN X2.here hx rfl (hb hby own_dI_27) rfl rfl rfl k) ?_
  refine own_gs 29 [(.int (1 : Int32))] (fun t' k => XS.iloadN X2.here hx rfl (hb hby own_dI_28) rfl  k) ?_
  refine X2.newP hx hZ (hw _ (List.mem_of_getElem? (i := 12) rfl)) e2 1 (by decide) (hb hby own_dI_29) 1 (by decide) (by decide) (by decide) (by decide) ?_
  intro T3 h3 b3 X3 e3 q3 xt3 A_b3
  have g_b3 : n0 ≤ b3 := by rw [q3]; exact hn
  have lt_t_b3 : t < b3 := by rw [q3]; exact E_t.lt
  have lt_w_b3 : w < b3 := by rw [q3]; exact A_w.lt
  have lt_b2_b3 : b2 < b3 := by rw [q3]; exact A_b2.lt
  replace E_t := E_t.ext xt3
  replace A_w := A_w.ext xt3
  replace F_shift := F_shift.ext xt3
  replace F_total := F_total.ext xt3
  replace F_packed := F_packed.ext xt3
  replace F_thresholds := F_thresholds.ext xt3
  replace F_aliases := F_aliases.ext xt3
  replace A_b2 := A_b2.ext xt3
  replace hn := Nat.le_trans hn xt3.1
  replace A_b3 : own_A Z h3 .int b3 [(.int (0 : Int32))] := A_b3
  refine own_go (mkF m 33 #[rv t, rv w, iv (1 : Int32), rv b2, rv b3, .unset, .unset, .unset, .unset, .unset, .unset, .unset, .unset, .unset] []) (fun t' k => XS.astore X3.here hx rfl (hb hby own_dI_31) rfl rfl rfl k) ?_
  refine own_gs 34 [(.ref t)] (fun t' k => XS.aloadN X3.here hx rfl (hb hby own_dI_33) rfl rfl  k) ?_
  refine own_gs 36 [(.int (64 : Int32)), (.ref t)] (fun t' k => XS.bipush X3.here hx rfl (hb hby own_dI_34) k) ?_
  refine own_gs 37 [(.int (1 : Int32)), (.int (64 : Int32)), (.ref t)] (fun t' k => XS.iloadN X3.here hx rfl (hb hby own_dI_36) rfl  k) ?_
  refine X3.callP hx hZ (y := (⟨"java/lang/Integer", "numberOfTrailingZeros", "(I)I"⟩ : MethodName)) (fr := 0) (lo := 0) (r := (.int (0 : Int32))) hown (hw _ (List.mem_of_getElem? (i := 13) rfl)) (hw _ (List.mem_of_getElem? (i := 14) rfl)) (hw _ (List.mem_of_getElem? (i := 15) rfl)) (hw _ (List.mem_of_getElem? (i := 16) rfl)) (by decide) e3 [(.int (1 : Int32))] [(.int (64 : Int32)), (.ref t)] (own_ntz1 l Z a0 hw [] h3 ) 2 (by decide) (by decide) (Nat.le_of_eq rfl) (by decide) (by decide) (by rw [hml]; rfl) (lenOf own_pd0 rfl) rfl (hb hby own_dI_37) ?_
  intro T4 X4 e4
  refine own_gs 41 [(.int (64 : Int32)), (.ref t)] (fun t' k => XS.isub X4.here hx rfl (hb hby own_dI_40) rfl k) ?_
  refine X4.putF hx hZ hown (hw _ (List.mem_of_getElem? (i := 17) rfl)) e4 F_shift E_t g_t (Or.inr ⟨(hw _ (List.mem_of_getElem? (i := 18) rfl)), rfl, hnm⟩) (hw _ (List.mem_of_getElem? (i := 4) rfl)) (ty := .int) (by decide) rfl rfl (hb hby own_dI_41) ?_
  intro T5 h5 X5 e5 W5
  replace E_t := E_t.wr W5
  replace A_w := A_w.other W5 (Ne.symm ne_t_w)
  replace F_shift := F_shift.same W5
  replace F_total := F_total.other W5 (Or.inr (own_sn_AliasTable_total_shift hw))
  replace F_packed := F_packed.other W5 (Or.inr (own_sn_AliasTable_packed_shift hw))
  replace F_thresholds := F_thresholds.other W5 (Or.inr (own_sn_AliasTable_thresholds_shift hw))
  replace F_aliases := F_aliases.other W5 (Or.inr (own_sn_AliasTable_aliases_shift hw))
  replace A_b2 := A_b2.other W5 (Ne.symm (Nat.ne_of_lt lt_t_b2))
  replace A_b3 := A_b3.other W5 (Ne.symm (Nat.ne_of_lt lt_t_b3))
  replace hn := Nat.le_trans hn (Keep.of_wr W5).1
  clear W5 X4 e4
  refine own_gs 45 [(.long (0 : Int64))] (fun t' k => XS.lconst X5.here hx rfl (hb hby own_dI_44) k) ?_
  refine own_go (mkF m 47 #[rv t, rv w, iv (1 : Int32), rv b2, rv b3, jv (0 : Int64), .second, .unset, .unset, .unset, .unset, .unset, .unset, .unset] []) (fun t' k => XS.lstore X5.here hx rfl (hb hby own_dI_45) rfl rfl k) ?_
  refine own_gs 48 [(.ref w)] (fun t' k => XS.aloadN X5.here hx rfl (hb hby own_dI_47) rfl rfl  k) ?_
  refine own_go (mkF m 50 #[rv t, rv w, iv (1 : Int32), rv b2, rv b3, jv (0 : Int64), .second, rv w, .unset, .unset, .unset, .unset, .unset, .unset] []) (fun t' k => XS.astore X5.here hx rfl (hb hby own_dI_48) rfl rfl rfl k) ?_
  refine own_gs 52 [(.ref w)] (fun t' k => XS.aload X5.here hx rfl (hb hby own_dI_50) rfl rfl  k) ?_
  refine X5.alen hx hZ e5 A_w (hb hby own_dI_52) ?_
  show own_G p e below s _ _ _ T5 (mkF m 53 #[rv t, rv w, iv (1 : Int32), rv b2, rv b3, jv (0 : Int64), .second, rv w, .unset, .unset, .unset, .unset, .unset, .unset] [(.int (1 : Int32))])
  refine own_go (mkF m 55 #[rv t, rv w, iv (1 : Int32), rv b2, rv b3, jv (0 : Int64), .second, rv w, iv (1 : Int32), .unset, .unset, .unset, .unset, .unset] []) (fun t' k => XS.istore X5.here hx rfl (hb hby own_dI_53) rfl rfl k) ?_
  refine own_gs 56 [(.int (0 : Int32))] (fun t' k => XS.iconst X5.here hx rfl (hb hby own_dI_55) k) ?_
  refine own_go (mkF m 58 #[rv t, rv w, iv (1 : Int32), rv b2, rv b3, jv (0 : Int64), .second, rv w, iv (1 : Int32), iv (0 : Int32), .unset, .unset, .unset, .unset] []) (fun t' k => XS.istore X5.here hx rfl (hb hby own_dI_56) rfl rfl k) ?_
  refine own_gs 60 [(.int (0 : Int32))] (fun t' k => XS.iload X5.here hx rfl (hb hby own_dI_58) rfl  k) ?_
  refine own_gs 62 [(.int (1 : Int32)), (.int (0 : Int32))] (fun t' k => XS.iload X5.here hx rfl (hb hby own_dI_60) rfl  k) ?_
  refine own_gs 65 [] (fun t' k => XS.icmpNo X5.here hx rfl (hb hby own_dI_62) rfl (tlt (by decide)).2.1 k) ?_
  refine own_gs 67 [(.ref w)] (fun t' k => XS.aload X5.here hx rfl (hb hby own_dI_65) rfl rfl  k) ?_
  refine own_gs 69 [(.int (0 : Int32)), (.ref w)] (fun t' k => XS.iload X5.here hx rfl (hb hby own_dI_67) rfl  k) ?_
  refine X5.ldJ hx hZ e5 A_w (v := (.long (Int64.ofInt (A)))) 0 (by decide) rfl (hb hby own_dI_69) ?_
  refine own_go (mkF m 72 #[rv t, rv w, iv (1 : Int32), rv b2, rv b3, jv (0 : Int64), .second, rv w, iv (1 : Int32), iv (0 : Int32), jv (Int64.ofInt (A)), .second, .unset, .unset] []) (fun t' k => XS.lstore X5.here hx rfl (hb hby own_dI_70) rfl rfl k) ?_
  refine own_gs 74 [(.long (0 : Int64))] (fun t' k => XS.lload X5.here hx rfl (hb hby own_dI_72) rfl  k) ?_
  refine own_gs 76 [(.long (Int64.ofInt (A))), (.long (0 : Int64))] (fun t' k => XS.lload X5.here hx rfl (hb hby own_dI_74) rfl  k) ?_
  refine own_gs 77 [(.long ((0 : Int64) + (Int64.ofInt (A))))] (fun t' k => XS.ladd X5.here hx rfl (hb hby own_dI_76) rfl k) ?_
  rw [own_oadd (z := A) (show (0 : Int64) = Int64.ofInt (0) from rfl) (show (Int64.ofInt (A)) = (Int64.ofInt (A)) from rfl) (by omega)]
  refine own_go (mkF m 79 #[rv t, rv w, iv (1 : Int32), rv b2, rv b3, jv (Int64.ofInt (A)), .second, rv w, iv (1 : Int32), iv (0 : Int32), jv (Int64.ofInt (A)), .second, .unset, .unset] []) (fun t' k => XS.lstore X5.here hx rfl (hb hby own_dI_77) rfl rfl k) ?_
  refine own_go (mkF m 82 #[rv t, rv w, iv (1 : Int32), rv b2, rv b3, jv (Int64.ofInt (A)), .second, rv w, iv (1 : Int32), iv (1 : Int32), jv (Int64.ofInt (A)), .second, .unset, .unset] []) (fun t' k => XS.iinc X5.here hx rfl (hb hby own_dI_79) rfl rfl k) ?_
  refine own_gs 58 [] (fun t' k => XS.goto X5.here hx rfl (pc0 := 82) (pc' := 58) rfl (hb hby own_dI_82) (by decide) (by decide) k) ?_
  refine own_gs 60 [(.int (1 : Int32))] (fun t' k => XS.iload X5.here hx rfl (hb hby own_dI_58) rfl  k) ?_
  refine own_gs 62 [(.int (1 : Int32)), (.int (1 : Int32))] (fun t' k => XS.iload X5.here hx rfl (hb hby own_dI_60) rfl  k) ?_
  refine own_gs 85 [] (fun t' k => XS.icmpYes X5.here hx rfl (pc0 := 62) (pc' := 85) rfl (hb hby own_dI_62) rfl (flt (by decide)).2.1 (by decide) (by decide) k) ?_
  refine own_gs 86 [(.ref t)] (fun t' k => XS.aloadN X5.here hx rfl (hb hby own_dI_85) rfl rfl  k) ?_
  refine own_gs 88 [(.long (Int64.ofInt (A))), (.ref t)] (fun t' k => XS.lload X5.here hx rfl (hb hby own_dI_86) rfl  k) ?_
  refine X5.putF hx hZ hown (hw _ (List.mem_of_getElem? (i := 19) rfl)) e5 F_total E_t g_t (Or.inr ⟨(hw _ (List.mem_of_getElem? (i := 20) rfl)), rfl, hnm⟩) (hw _ (List.mem_of_getElem? (i := 4) rfl)) (ty := .long) (by decide) rfl rfl (hb hby own_dI_88) ?_
  intro T6 h6 X6 e6 W6
  replace E_t := E_t.wr W6
  replace A_w := A_w.other W6 (Ne.symm ne_t_w)
  replace F_shift := F_shift.other W6 (Or.inr (own_sn_AliasTable_shift_total hw))
  replace F_total := F_total.same W6
  replace F_packed := F_packed.other W6 (Or.inr (own_sn_AliasTable_packed_total hw))
  replace F_thresholds := F_thresholds.other W6 (Or.inr (own_sn_AliasTable_thresholds_total hw))
  replace F_aliases := F_aliases.other W6 (Or.inr (own_sn_AliasTable_aliases_total hw))
  replace A_b2 := A_b2.other W6 (Ne.symm (Nat.ne_of_lt lt_t_b2))
  replace A_b3 := A_b3.other W6 (Ne.symm (Nat.ne_of_lt lt_t_b3))
  replace hn := Nat.le_trans hn (Keep.of_wr W6).1
  clear W6 X5 e5
  refine own_gs 92 [(.int (1 : Int32))] (fun t' k => XS.iloadN X6.here hx rfl (hb hby own_dI_91) rfl  k) ?_
  refine X6.newP hx hZ (hw _ (List.mem_of_getElem? (i := 2) rfl)) e6 1 (by decide) (hb hby own_dI_92) 1 (by decide) (by decide) (by decide) (by decide) ?_
  intro T7 h7 b7 X7 e7 q7 xt7 A_b7
  have g_b7 : n0 ≤ b7 := by rw [q7]; exact hn
  have lt_t_b7 : t < b7 := by rw [q7]; exact E_t.lt
  have lt_w_b7 : w < b7 := by rw [q7]; exact A_w.lt
  have lt_b2_b7 : b2 < b7 := by rw [q7]; exact A_b2.lt
  have lt_b3_b7 : b3 < b7 := by rw [q7]; exact A_b3.lt
  replace E_t := E_t.ext xt7
  replace A_w := A_w.ext xt7
  replace F_shift := F_shift.ext xt7
  replace F_total := F_total.ext xt7
  replace F_packed := F_packed.ext xt7
  replace F_thresholds := F_thresholds.ext xt7
  replace F_aliases := F_aliases.ext xt7
  replace A_b2 := A_b2.ext xt7
  replace A_b3 := A_b3.ext xt7
  replace hn := Nat.le_trans hn xt7.1
  replace A_b7 : own_A Z h7 .long b7 [(.long (0 : Int64))] := A_b7
  refine own_go (mkF m 96 #[rv t, rv w, iv (1 : Int32), rv b2, rv b3, jv (Int64.ofInt (A)), .second, rv b7, iv (1 : Int32), iv (1 : Int32), jv (Int64.ofInt (A)), .second, .unset, .unset] []) (fun t' k => XS.astore X7.here hx rfl (hb hby own_dI_94) rfl rfl rfl k) ?_
  refine own_gs 97 [(.int (1 : Int32))] (fun t' k => XS.iloadN X7.here hx rfl (hb hby own_dI_96) rfl  k) ?_
  refine X7.newP hx hZ (hw _ (List.mem_of_getElem? (i := 12) rfl)) e7 1 (by decide) (hb hby own_dI_97) 1 (by decide) (by decide) (by decide) (by decide) ?_
  intro T8 h8 b8 X8 e8 q8 xt8 A_b8
  have g_b8 : n0 ≤ b8 := by rw [q8]; exact hn
  have lt_t_b8 : t < b8 := by rw [q8]; exact E_t.lt
  have lt_w_b8 : w < b8 := by rw [q8]; exact A_w.lt
  have lt_b2_b8 : b2 < b8 := by rw [q8]; exact A_b2.lt
  have lt_b3_b8 : b3 < b8 := by rw [q8]; exact A_b3.lt
  have lt_b7_b8 : b7 < b8 := by rw [q8]; exact A_b7.lt
  replace E_t := E_t.ext xt8
  replace A_w := A_w.ext xt8
  replace F_shift := F_shift.ext xt8
  replace F_total := F_total.ext xt8
  replace F_packed := F_packed.ext xt8
  replace F_thresholds := F_thresholds.ext xt8
  replace F_aliases := F_aliases.ext xt8
  replace A_b2 := A_b2.ext xt8
  replace A_b3 := A_b3.ext xt8
  replace A_b7 := A_b7.ext xt8
  replace hn := Nat.le_trans hn xt8.1
  replace A_b8 : own_A Z h8 .int b8 [(.int (0 : Int32))] := A_b8
  refine own_go (mkF m 101 #[rv t, rv w, iv (1 : Int32), rv b2, rv b3, jv (Int64.ofInt (A)), .second, rv b7, rv b8, iv (1 : Int32), jv (Int64.ofInt (A)), .second, .unset, .unset] []) (fun t' k => XS.astore X8.here hx rfl (hb hby own_dI_99) rfl rfl rfl k) ?_
  refine own_gs 102 [(.int (1 : Int32))] (fun t' k => XS.iloadN X8.here hx rfl (hb hby own_dI_101) rfl  k) ?_
  refine X8.newP hx hZ (hw _ (List.mem_of_getElem? (i := 12) rfl)) e8 1 (by decide) (hb hby own_dI_102) 1 (by decide) (by decide) (by decide) (by decide) ?_
  intro T9 h9 b9 X9 e9 q9 xt9 A_b9
  have g_b9 : n0 ≤ b9 := by rw [q9]; exact hn
  have lt_t_b9 : t < b9 := by rw [q9]; exact E_t.lt
  have lt_w_b9 : w < b9 := by rw [q9]; exact A_w.lt
  have lt_b2_b9 : b2 < b9 := by rw [q9]; exact A_b2.lt
  have lt_b3_b9 : b3 < b9 := by rw [q9]; exact A_b3.lt
  have lt_b7_b9 : b7 < b9 := by rw [q9]; exact A_b7.lt
  have lt_b8_b9 : b8 < b9 := by rw [q9]; exact A_b8.lt
  replace E_t := E_t.ext xt9
  replace A_w := A_w.ext xt9
  replace F_shift := F_shift.ext xt9
  replace F_total := F_total.ext xt9
  replace F_packed := F_packed.ext xt9
  replace F_thresholds := F_thresholds.ext xt9
  replace F_aliases := F_aliases.ext xt9
  replace A_b2 := A_b2.ext xt9
  replace A_b3 := A_b3.ext xt9
  replace A_b7 := A_b7.ext xt9
  replace A_b8 := A_b8.ext xt9
  replace hn := Nat.le_trans hn xt9.1
  replace A_b9 : own_A Z h9 .int b9 [(.int (0 : Int32))] := A_b9
  refine own_go (mkF m 106 #[rv t, rv w, iv (1 : Int32), rv b2, rv b3, jv (Int64.ofInt (A)), .second, rv b7, rv b8, rv b9, jv (Int64.ofInt (A)), .second, .unset, .unset] []) (fun t' k => XS.astore X9.here hx rfl (hb hby own_dI_104) rfl rfl rfl k) ?_
  refine own_gs 107 [(.int (0 : Int32))] (fun t' k => XS.iconst X9.here hx rfl (hb hby own_dI_106) k) ?_
  refine own_go (mkF m 109 #[rv t, rv w, iv (1 : Int32), rv b2, rv b3, jv (Int64.ofInt (A)), .second, rv b7, rv b8, rv b9, iv (0 : Int32), .unset, .unset, .unset] []) (fun t' k => XS.istore X9.here hx rfl (hb hby own_dI_107) rfl rfl k) ?_
  refine own_gs 110 [(.int (0 : Int32))] (fun t' k => XS.iconst X9.here hx rfl (hb hby own_dI_109) k) ?_
  refine own_go (mkF m 112 #[rv t, rv w, iv (1 : Int32), rv b2, rv b3, jv (Int64.ofInt (A)), .second, rv b7, rv b8, rv b9, iv (0 : Int32), iv (0 : Int32), .unset, .unset] []) (fun t' k => XS.istore X9.here hx rfl (hb hby own_dI_110) rfl rfl k) ?_
  refine own_gs 113 [(.int (0 : Int32))] (fun t' k => XS.iconst X9.here hx rfl (hb hby own_dI_112) k) ?_
  refine own_go (mkF m 115 #[rv t, rv w, iv (1 : Int32), rv b2, rv b3, jv (Int64.ofInt (A)), .second, rv b7, rv b8, rv b9, iv (0 : Int32), iv (0 : Int32), iv (0 : Int32), .unset] []) (fun t' k => XS.istore X9.here hx rfl (hb hby own_dI_113) rfl rfl k) ?_
  refine own_gs 117 [(.int (0 : Int32))] (fun t' k => XS.iload X9.here hx rfl (hb hby own_dI_115) rfl  k) ?_
  refine own_gs 118 [(.int (1 : Int32)), (.int (0 : Int32))] (fun t' k => XS.iloadN X9.here hx rfl (hb hby own_dI_117) rfl  k) ?_
  refine own_gs 121 [] (fun t' k => XS.icmpNo X9.here hx rfl (hb hby own_dI_118) rfl (tlt (by decide)).2.1 k) ?_
  refine own_gs 123 [(.ref b7)] (fun t' k => XS.aload X9.here hx rfl (hb hby own_dI_121) rfl rfl  k) ?_
  refine own_gs 125 [(.int (0 : Int32)), (.ref b7)] (fun t' k => XS.iload X9.here hx rfl (hb hby own_dI_123) rfl  k) ?_
  refine own_gs 127 [(.int (0 : Int32)), (.int (0 : Int32)), (.ref b7)] (fun t' k => XS.iload X9.here hx rfl (hb hby own_dI_125) rfl  k) ?_
  refine own_gs 128 [(.ref w), (.int (0 : Int32)), (.int (0 : Int32)), (.ref b7)] (fun t' k => XS.aloadN X9.here hx rfl (hb hby own_dI_127) rfl rfl  k) ?_
  refine X9.alen hx hZ e9 A_w (hb hby own_dI_128) ?_
  show own_G p e below s _ _ _ T9 (mkF m 129 #[rv t, rv w, iv (1 : Int32), rv b2, rv b3, jv (Int64.ofInt (A)), .second, rv b7, rv b8, rv b9, iv (0 : Int32), iv (0 : Int32), iv (0 : Int32), .unset] [(.int (1 : Int32)), (.int (0 : Int32)), (.int (0 : Int32)), (.ref b7)])
  refine own_gs 132 [(.int (0 : Int32)), (.ref b7)] (fun t' k => XS.icmpNo X9.here hx rfl (hb hby own_dI_129) rfl (tlt (by decide)).2.1 k) ?_
  refine own_gs 133 [(.ref w), (.int (0 : Int32)), (.ref b7)] (fun t' k => XS.aloadN X9.here hx rfl (hb hby own_dI_132) rfl rfl  k) ?_
  refine own_gs 135 [(.int (0 : Int32)), (.ref w), (.int (0 : Int32)), (.ref b7)] (fun t' k => XS.iload X9.here hx rfl (hb hby own_dI_133) rfl  k) ?_
  refine X9.ldJ hx hZ e9 A_w (v := (.long (Int64.ofInt (A)))) 0 (by decide) rfl (hb hby own_dI_135) ?_
  refine own_gs 137 [(.int (1 : Int32)), (.long (Int64.ofInt (A))), (.int (0 : Int32)), (.ref b7)] (fun t' k => XS.iloadN X9.here hx rfl (hb hby own_dI_136) rfl  k) ?_
  refine own_gs 138 [(.long (1 : Int64)), (.long (Int64.ofInt (A))), (.int (0 : Int32)), (.ref b7)] (fun t' k => XS.i2l X9.here hx rfl (hb hby own_dI_137) rfl k) ?_
  refine own_gs 139 [(.long ((Int64.ofInt (A)) * (1 : Int64))), (.int (0 : Int32)), (.ref b7)] (fun t' k => XS.lmul X9.here hx rfl (hb hby own_dI_138) rfl k) ?_
  rw [own_omul (z := A) (show (Int64.ofInt (A)) = (Int64.ofInt (A)) from rfl) (show (1 : Int64) = Int64.ofInt (1) from rfl) (by omega)]
  refine own_gs 143 [(.long (Int64.ofInt (A))), (.int (0 : Int32)), (.ref b7)] (fun t' k => XS.goto X9.here hx rfl (pc0 := 139) (pc' := 143) rfl (hb hby own_dI_139) (by decide) (by decide) k) ?_
  refine X9.stJ hx hZ e9 A_b7 g_b7 0 (by decide) (Nat.le_of_ble_eq_true rfl) (hb hby own_dI_143) ?_
  intro T10 h10 X10 e10 W10 A10
  replace A_b7 : own_A Z h10 .long b7 [(.long (Int64.ofInt (A)))] := A10
  clear A10
  replace E_t := E_t.wr W10
  replace A_w := A_w.other W10 (Nat.ne_of_lt lt_w_b7)
  replace F_shift := F_shift.other W10 (Or.inl (Nat.ne_of_lt lt_t_b7))
  replace F_total := F_total.other W10 (Or.inl (Nat.ne_of_lt lt_t_b7))
  replace F_packed := F_packed.other W10 (Or.inl (Nat.ne_of_lt lt_t_b7))
  replace F_thresholds := F_thresholds.other W10 (Or.inl (Nat.ne_of_lt lt_t_b7))
  replace F_aliases := F_aliases.other W10 (Or.inl (Nat.ne_of_lt lt_t_b7))
  replace A_b2 := A_b2.other W10 (Nat.ne_of_lt lt_b2_b7)
  replace A_b3 := A_b3.other W10 (Nat.ne_of_lt lt_b3_b7)
  replace A_b8 := A_b8.other W10 (Ne.symm (Nat.ne_of_lt lt_b7_b8))
  replace A_b9 := A_b9.other W10 (Ne.symm (Nat.ne_of_lt lt_b7_b9))
  replace hn := Nat.le_trans hn (Keep.of_wr W10).1
  clear W10 X9 e9
  refine own_gs 146 [(.ref b7)] (fun t' k => XS.aload X10.here hx rfl (hb hby own_dI_144) rfl rfl  k) ?_
  refine own_gs 148 [(.int (0 : Int32)), (.ref b7)] (fun t' k => XS.iload X10.here hx rfl (hb hby own_dI_146) rfl  k) ?_
  refine X10.ldJ hx hZ e10 A_b7 (v := (.long (Int64.ofInt (A)))) 0 (by decide) rfl (hb hby own_dI_148) ?_
  refine own_gs 150 [(.ref t), (.long (Int64.ofInt (A)))] (fun t' k => XS.aloadN X10.here hx rfl (hb hby own_dI_149) rfl rfl  k) ?_
  refine X10.getF hx hZ hown (hw _ (List.mem_of_getElem? (i := 19) rfl)) e10 F_total (hb hby own_dI_150) ?_
  intro T11 X11 e11
  refine own_gs 154 [(.int (lcmpW (Int64.ofInt (A)) (Int64.ofInt (A))))] (fun t' k => XS.lcmp X11.here hx rfl (hb hby own_dI_153) rfl k) ?_
  refine own_gs 170 [] (fun t' k => XS.ifYes X11.here hx rfl (pc0 := 154) (pc' := 170) rfl (hb hby own_dI_154) rfl ((if0 _ _).trans (flt (fun q => (own_onl (show (Int64.ofInt (A)) = (Int64.ofInt (A)) from rfl) (show (Int64.ofInt (A)) = (Int64.ofInt (A)) from rfl) (by omega) (by omega) (by omega)) ((lw_lt (Int64.ofInt (A)) (Int64.ofInt (A))).mp q))).2.1) (by decide) (by decide) k) ?_
  refine own_gs 172 [(.ref b9)] (fun t' k => XS.aload X11.here hx rfl (hb hby own_dI_170) rfl rfl  k) ?_
  refine own_gs 174 [(.int (0 : Int32)), (.ref b9)] (fun t' k => XS.iload X11.here hx rfl (hb hby own_dI_172) rfl  k) ?_
  refine own_go (mkF m 177 #[rv t, rv w, iv (1 : Int32), rv b2, rv b3, jv (Int64.ofInt (A)), .second, rv b7, rv b8, rv b9, iv (0 : Int32), iv (1 : Int32), iv (0 : Int32), .unset] [(.int (0 : Int32)), (.ref b9)]) (fun t' k => XS.iinc X11.here hx rfl (hb hby own_dI_174) rfl rfl k) ?_
  refine own_gs 179 [(.int (0 : Int32)), (.int (0 : Int32)), (.ref b9)] (fun t' k => XS.iload X11.here hx rfl (hb hby own_dI_177) rfl  k) ?_
  refine X11.stI hx hZ e11 A_b9 g_b9 0 (by decide) (Nat.le_of_ble_eq_true rfl) (hb hby own_dI_179) ?_
  intro T12 h12 X12 e12 W12 A12
  replace A_b9 : own_A Z h12 .int b9 [(.int (0 : Int32))] := A12
  clear A12
  replace E_t := E_t.wr W12
  replace A_w := A_w.other W12 (Nat.ne_of_lt lt_w_b9)
  replace F_shift := F_shift.other W12 (Or.inl (Nat.ne_of_lt lt_t_b9))
  replace F_total := F_total.other W12 (Or.inl (Nat.ne_of_lt lt_t_b9))
  replace F_packed := F_packed.other W12 (Or.inl (Nat.ne_of_lt lt_t_b9))
  replace F_thresholds := F_thresholds.other W12 (Or.inl (Nat.ne_of_lt lt_t_b9))
  replace F_aliases := F_aliases.other W12 (Or.inl (Nat.ne_of_lt lt_t_b9))
  replace A_b2 := A_b2.other W12 (Nat.ne_of_lt lt_b2_b9)
  replace A_b3 := A_b3.other W12 (Nat.ne_of_lt lt_b3_b9)
  replace A_b7 := A_b7.other W12 (Nat.ne_of_lt lt_b7_b9)
  replace A_b8 := A_b8.other W12 (Nat.ne_of_lt lt_b8_b9)
  replace hn := Nat.le_trans hn (Keep.of_wr W12).1
  clear W12 X11 e11
  refine own_go (mkF m 183 #[rv t, rv w, iv (1 : Int32), rv b2, rv b3, jv (Int64.ofInt (A)), .second, rv b7, rv b8, rv b9, iv (0 : Int32), iv (1 : Int32), iv (1 : Int32), .unset] []) (fun t' k => XS.iinc X12.here hx rfl (hb hby own_dI_180) rfl rfl k) ?_
  refine own_gs 115 [] (fun t' k => XS.goto X12.here hx rfl (pc0 := 183) (pc' := 115) rfl (hb hby own_dI_183) (by decide) (by decide) k) ?_
  refine own_gs 117 [(.int (1 : Int32))] (fun t' k => XS.iload X12.here hx rfl (hb hby own_dI_115) rfl  k) ?_
  refine own_gs 118 [(.int (1 : Int32)), (.int (1 : Int32))] (fun t' k => XS.iloadN X12.here hx rfl (hb hby own_dI_117) rfl  k) ?_
  refine own_gs 186 [] (fun t' k => XS.icmpYes X12.here hx rfl (pc0 := 118) (pc' := 186) rfl (hb hby own_dI_118) rfl (flt (by decide)).2.1 (by decide) (by decide) k) ?_
  refine own_gs 188 [(.int (0 : Int32))] (fun t' k => XS.iload X12.here hx rfl (hb hby own_dI_186) rfl  k) ?_
  refine own_gs 278 [] (fun t' k => XS.ifYes X12.here hx rfl (pc0 := 188) (pc' := 278) rfl (hb hby own_dI_188) rfl ((if0 _ _).trans (flt (by decide)).2.2.2) (by decide) (by decide) k) ?_
  refine own_gs 280 [(.int (1 : Int32))] (fun t' k => XS.iload X12.here hx rfl (hb hby own_dI_278) rfl  k) ?_
  refine own_gs 283 [] (fun t' k => XS.ifNo X12.here hx rfl (hb hby own_dI_280) rfl ((if0 _ _).trans (tlt (by decide)).2.2.2) k) ?_
  refine own_gs 285 [(.ref b9)] (fun t' k => XS.aload X12.here hx rfl (hb hby own_dI_283) rfl rfl  k) ?_
  refine own_go (mkF m 288 #[rv t, rv w, iv (1 : Int32), rv b2, rv b3, jv (Int64.ofInt (A)), .second, rv b7, rv b8, rv b9, iv (0 : Int32), iv (0 : Int32), iv (1 : Int32), .unset] [(.ref b9)]) (fun t' k => XS.iinc X12.here hx rfl (hb hby own_dI_285) rfl rfl k) ?_
  refine own_gs 290 [(.int (0 : Int32)), (.ref b9)] (fun t' k => XS.iload X12.here hx rfl (hb hby own_dI_288) rfl  k) ?_
  refine X12.ldI hx hZ e12 A_b9 (v := (.int (0 : Int32))) 0 (by decide) rfl (hb hby own_dI_290) ?_
  refine own_go (mkF m 293 #[rv t, rv w, iv (1 : Int32), rv b2, rv b3, jv (Int64.ofInt (A)), .second, rv b7, rv b8, rv b9, iv (0 : Int32), iv (0 : Int32), iv (0 : Int32), .unset] []) (fun t' k => XS.istore X12.here hx rfl (hb hby own_dI_291) rfl rfl k) ?_
  refine own_gs 295 [(.ref b3)] (fun t' k => XS.aload X12.here hx rfl (hb hby own_dI_293) rfl rfl  k) ?_
  refine own_gs 297 [(.int (0 : Int32)), (.ref b3)] (fun t' k => XS.iload X12.here hx rfl (hb hby own_dI_295) rfl  k) ?_
  refine own_gs 299 [(.int (0 : Int32)), (.int (0 : Int32)), (.ref b3)] (fun t' k => XS.iload X12.here hx rfl (hb hby own_dI_297) rfl  k) ?_
  refine X12.stI hx hZ e12 A_b3 g_b3 0 (by decide) (Nat.le_of_ble_eq_true rfl) (hb hby own_dI_299) ?_
  intro T13 h13 X13 e13 W13 A13
  replace A_b3 : own_A Z h13 .int b3 [(.int (0 : Int32))] := A13
  clear A13
  replace E_t := E_t.wr W13
  replace A_w := A_w.other W13 (Nat.ne_of_lt lt_w_b3)
  replace F_shift := F_shift.other W13 (Or.inl (Nat.ne_of_lt lt_t_b3))
  replace F_total := F_total.other W13 (Or.inl (Nat.ne_of_lt lt_t_b3))
  replace F_packed := F_packed.other W13 (Or.inl (Nat.ne_of_lt lt_t_b3))
  replace F_thresholds := F_thresholds.other W13 (Or.inl (Nat.ne_of_lt lt_t_b3))
  replace F_aliases := F_aliases.other W13 (Or.inl (Nat.ne_of_lt lt_t_b3))
  replace A_b2 := A_b2.other W13 (Nat.ne_of_lt lt_b2_b3)
  replace A_b7 := A_b7.other W13 (Ne.symm (Nat.ne_of_lt lt_b3_b7))
  replace A_b8 := A_b8.other W13 (Ne.symm (Nat.ne_of_lt lt_b3_b8))
  replace A_b9 := A_b9.other W13 (Ne.symm (Nat.ne_of_lt lt_b3_b9))
  replace hn := Nat.le_trans hn (Keep.of_wr W13).1
  clear W13 X12 e12
  refine own_gs 278 [] (fun t' k => XS.goto X13.here hx rfl (pc0 := 300) (pc' := 278) rfl (hb hby own_dI_300) (by decide) (by decide) k) ?_
  refine own_gs 280 [(.int (0 : Int32))] (fun t' k => XS.iload X13.here hx rfl (hb hby own_dI_278) rfl  k) ?_
  refine own_gs 303 [] (fun t' k => XS.ifYes X13.here hx rfl (pc0 := 280) (pc' := 303) rfl (hb hby own_dI_280) rfl ((if0 _ _).trans (flt (by decide)).2.2.2) (by decide) (by decide) k) ?_
  refine own_gs 304 [(.ref t)] (fun t' k => XS.aloadN X13.here hx rfl (hb hby own_dI_303) rfl rfl  k) ?_
  refine X13.getF hx hZ hown (hw _ (List.mem_of_getElem? (i := 19) rfl)) e13 F_total (hb hby own_dI_304) ?_
  intro T14 X14 e14
  refine own_gs 310 [(.long (8589934592 : Int64)), (.long (Int64.ofInt (A)))] (fun t' k => X14.ldc2Long hx hown (mvT hZ (hw _ (List.mem_of_getElem? (i := 21) rfl))) (g := (mkF m 307 #[rv t, rv w, iv (1 : Int32), rv b2, rv b3, jv (Int64.ofInt (A)), .second, rv b7, rv b8, rv b9, iv (0 : Int32), iv (0 : Int32), iv (0 : Int32), .unset] [(.long (Int64.ofInt (A)))])) rfl (hb hby own_dI_307) _ k) ?_
  refine own_gs 311 [(.int (lcmpW (Int64.ofInt (A)) (8589934592 : Int64)))] (fun t' k => XS.lcmp X14.here hx rfl (hb hby own_dI_310) rfl k) ?_
  refine own_gs 314 [] (fun t' k => XS.ifNo X14.here hx rfl (hb hby own_dI_311) rfl ((if0 _ _).trans (flt (fun q => (own_onl (show (8589934592 : Int64) = Int64.ofInt (8589934592) from rfl) (show (Int64.ofInt (A)) = (Int64.ofInt (A)) from rfl) (by omega) (by omega) (by omega)) ((lw_gt (Int64.ofInt (A)) (8589934592 : Int64)).mp q))).2.2.1) k) ?_
  refine own_gs 315 [(.ref t)] (fun t' k => XS.aloadN X14.here hx rfl (hb hby own_dI_314) rfl rfl  k) ?_
  refine own_gs 316 [(.int (1 : Int32)), (.ref t)] (fun t' k => XS.iloadN X14.here hx rfl (hb hby own_dI_315) rfl  k) ?_
  refine X14.newP hx hZ (hw _ (List.mem_of_getElem? (i := 2) rfl)) e14 1 (by decide) (hb hby own_dI_316) 1 (by decide) (by decide) (by decide) (by decide) ?_
  intro T15 h15 b15 X15 e15 q15 xt15 A_b15
  have g_b15 : n0 ≤ b15 := by rw [q15]; exact hn
  have lt_t_b15 : t < b15 := by rw [q15]; exact E_t.lt
  have lt_w_b15 : w < b15 := by rw [q15]; exact A_w.lt
  have lt_b2_b15 : b2 < b15 := by rw [q15]; exact A_b2.lt
  have lt_b3_b15 : b3 < b15 := by rw [q15]; exact A_b3.lt
  have lt_b7_b15 : b7 < b15 := by rw [q15]; exact A_b7.lt
  have lt_b8_b15 : b8 < b15 := by rw [q15]; exact A_b8.lt
  have lt_b9_b15 : b9 < b15 := by rw [q15]; exact A_b9.lt
  replace E_t := E_t.ext xt15
  replace A_w := A_w.ext xt15
  replace F_shift := F_shift.ext xt15
  replace F_total := F_total.ext xt15
  replace F_packed := F_packed.ext xt15
  replace F_thresholds := F_thresholds.ext xt15
  replace F_aliases := F_aliases.ext xt15
  replace A_b2 := A_b2.ext xt15
  replace A_b3 := A_b3.ext xt15
  replace A_b7 := A_b7.ext xt15
  replace A_b8 := A_b8.ext xt15
  replace A_b9 := A_b9.ext xt15
  replace hn := Nat.le_trans hn xt15.1
  replace A_b15 : own_A Z h15 .long b15 [(.long (0 : Int64))] := A_b15
  refine X15.putF hx hZ hown (hw _ (List.mem_of_getElem? (i := 22) rfl)) e15 F_packed E_t g_t (Or.inr ⟨(hw _ (List.mem_of_getElem? (i := 23) rfl)), rfl, hnm⟩) (hw _ (List.mem_of_getElem? (i := 4) rfl)) (ty := (.array .long)) (by decide) rfl rfl (hb hby own_dI_318) ?_
  intro T16 h16 X16 e16 W16
  replace E_t := E_t.wr W16
  replace A_w := A_w.other W16 (Ne.symm ne_t_w)
  replace F_shift := F_shift.other W16 (Or.inr (own_sn_AliasTable_shift_packed hw))
  replace F_total := F_total.other W16 (Or.inr (own_sn_AliasTable_total_packed hw))
  replace F_packed := F_packed.same W16
  replace F_thresholds := F_thresholds.other W16 (Or.inr (own_sn_AliasTable_thresholds_packed hw))
  replace F_aliases := F_aliases.other W16 (Or.inr (own_sn_AliasTable_aliases_packed hw))
  replace A_b2 := A_b2.other W16 (Ne.symm (Nat.ne_of_lt lt_t_b2))
  replace A_b3 := A_b3.other W16 (Ne.symm (Nat.ne_of_lt lt_t_b3))
  replace A_b7 := A_b7.other W16 (Ne.symm (Nat.ne_of_lt lt_t_b7))
  replace A_b8 := A_b8.other W16 (Ne.symm (Nat.ne_of_lt lt_t_b8))
  replace A_b9 := A_b9.other W16 (Ne.symm (Nat.ne_of_lt lt_t_b9))
  replace A_b15 := A_b15.other W16 (Ne.symm (Nat.ne_of_lt lt_t_b15))
  replace hn := Nat.le_trans hn (Keep.of_wr W16).1
  clear W16 X15 e15
  refine own_gs 322 [(.int (0 : Int32))] (fun t' k => XS.iconst X16.here hx rfl (hb hby own_dI_321) k) ?_
  refine own_gs 324 [] (fun t' k => XS.istore X16.here hx rfl (hb hby own_dI_322) rfl rfl k) ?_
  refine own_gs 326 [(.int (0 : Int32))] (fun t' k => XS.iload X16.here hx rfl (hb hby own_dI_324) rfl  k) ?_
  refine own_gs 327 [(.int (1 : Int32)), (.int (0 : Int32))] (fun t' k => XS.iloadN X16.here hx rfl (hb hby own_dI_326) rfl  k) ?_
  refine own_gs 330 [] (fun t' k => XS.icmpNo X16.here hx rfl (hb hby own_dI_327) rfl (tlt (by decide)).2.1 k) ?_
  refine own_gs 331 [(.ref t)] (fun t' k => XS.aloadN X16.here hx rfl (hb hby own_dI_330) rfl rfl  k) ?_
  refine X16.getF hx hZ hown (hw _ (List.mem_of_getElem? (i := 22) rfl)) e16 F_packed (hb hby own_dI_331) ?_
  intro T17 X17 e17
  refine own_gs 336 [(.int (0 : Int32)), (.ref b15)] (fun t' k => XS.iload X17.here hx rfl (hb hby own_dI_334) rfl  k) ?_
  refine own_gs 337 [(.ref b2), (.int (0 : Int32)), (.ref b15)] (fun t' k => XS.aloadN X17.here hx rfl (hb hby own_dI_336) rfl rfl  k) ?_
  refine own_gs 339 [(.int (0 : Int32)), (.ref b2), (.int (0 : Int32)), (.ref b15)] (fun t' k => XS.iload X17.here hx rfl (hb hby own_dI_337) rfl  k) ?_
  refine X17.ldJ hx hZ e17 A_b2 (v := (.long (0 : Int64))) 0 (by decide) rfl (hb hby own_dI_339) ?_
  refine own_gs 342 [(.int (31 : Int32)), (.long (0 : Int64)), (.int (0 : Int32)), (.ref b15)] (fun t' k => XS.bipush X17.here hx rfl (hb hby own_dI_340) k) ?_
  refine own_gs 343 [(.long (0 : Int64)), (.int (0 : Int32)), (.ref b15)] (fun t' k => XS.lshl X17.here hx rfl (hb hby own_dI_342) rfl k) ?_
  refine own_gs 345 [(.ref b3), (.long (0 : Int64)), (.int (0 : Int32)), (.ref b15)] (fun t' k => XS.aload X17.here hx rfl (hb hby own_dI_343) rfl rfl  k) ?_
  refine own_gs 347 [(.int (0 : Int32)), (.ref b3), (.long (0 : Int64)), (.int (0 : Int32)), (.ref b15)] (fun t' k => XS.iload X17.here hx rfl (hb hby own_dI_345) rfl  k) ?_
  refine X17.ldI hx hZ e17 A_b3 (v := (.int (0 : Int32))) 0 (by decide) rfl (hb hby own_dI_347) ?_
  refine own_gs 349 [(.long (0 : Int64)), (.long (0 : Int64)), (.int (0 : Int32)), (.ref b15)] (fun t' k => XS.i2l X17.here hx rfl (hb hby own_dI_348) rfl k) ?_
  refine own_gs 350 [(.long (0 : Int64)), (.int (0 : Int32)), (.ref b15)] (fun t' k => XS.lor X17.here hx rfl (hb hby own_dI_349) rfl k) ?_
  refine X17.stJ hx hZ e17 A_b15 g_b15 0 (by decide) (Nat.le_of_ble_eq_true rfl) (hb hby own_dI_350) ?_
  intro T18 h18 X18 e18 W18 A18
  replace A_b15 : own_A Z h18 .long b15 [(.long (0 : Int64))] := A18
  clear A18
  replace E_t := E_t.wr W18
  replace A_w := A_w.other W18 (Nat.ne_of_lt lt_w_b15)
  replace F_shift := F_shift.other W18 (Or.inl (Nat.ne_of_lt lt_t_b15))
  replace F_total := F_total.other W18 (Or.inl (Nat.ne_of_lt lt_t_b15))
  replace F_packed := F_packed.other W18 (Or.inl (Nat.ne_of_lt lt_t_b15))
  replace F_thresholds := F_thresholds.other W18 (Or.inl (Nat.ne_of_lt lt_t_b15))
  replace F_aliases := F_aliases.other W18 (Or.inl (Nat.ne_of_lt lt_t_b15))
  replace A_b2 := A_b2.other W18 (Nat.ne_of_lt lt_b2_b15)
  replace A_b3 := A_b3.other W18 (Nat.ne_of_lt lt_b3_b15)
  replace A_b7 := A_b7.other W18 (Nat.ne_of_lt lt_b7_b15)
  replace A_b8 := A_b8.other W18 (Nat.ne_of_lt lt_b8_b15)
  replace A_b9 := A_b9.other W18 (Nat.ne_of_lt lt_b9_b15)
  replace hn := Nat.le_trans hn (Keep.of_wr W18).1
  clear W18 X17 e17
  refine own_go (mkF m 354 #[rv t, rv w, iv (1 : Int32), rv b2, rv b3, jv (Int64.ofInt (A)), .second, rv b7, rv b8, rv b9, iv (0 : Int32), iv (0 : Int32), iv (1 : Int32), .unset] []) (fun t' k => XS.iinc X18.here hx rfl (hb hby own_dI_351) rfl rfl k) ?_
  refine own_gs 324 [] (fun t' k => XS.goto X18.here hx rfl (pc0 := 354) (pc' := 324) rfl (hb hby own_dI_354) (by decide) (by decide) k) ?_
  refine own_gs 326 [(.int (1 : Int32))] (fun t' k => XS.iload X18.here hx rfl (hb hby own_dI_324) rfl  k) ?_
  refine own_gs 327 [(.int (1 : Int32)), (.int (1 : Int32))] (fun t' k => XS.iloadN X18.here hx rfl (hb hby own_dI_326) rfl  k) ?_
  refine own_gs 357 [] (fun t' k => XS.icmpYes X18.here hx rfl (pc0 := 327) (pc' := 357) rfl (hb hby own_dI_327) rfl (flt (by decide)).2.1 (by decide) (by decide) k) ?_
  refine own_gs 358 [(.ref t)] (fun t' k => XS.aloadN X18.here hx rfl (hb hby own_dI_357) rfl rfl  k) ?_
  refine own_gs 359 [.null, (.ref t)] (fun t' k => XS.aconstNull X18.here hx rfl (hb hby own_dI_358) k) ?_
  refine X18.putF hx hZ hown (hw _ (List.mem_of_getElem? (i := 24) rfl)) e18 F_thresholds E_t g_t (Or.inr ⟨(hw _ (List.mem_of_getElem? (i := 25) rfl)), rfl, hnm⟩) (hw _ (List.mem_of_getElem? (i := 4) rfl)) (ty := (.array .long)) (by decide) rfl rfl (hb hby own_dI_359) ?_
  intro T19 h19 X19 e19 W19
  replace E_t := E_t.wr W19
  replace A_w := A_w.other W19 (Ne.symm ne_t_w)
  replace F_shift := F_shift.other W19 (Or.inr (own_sn_AliasTable_shift_thresholds hw))
  replace F_total := F_total.other W19 (Or.inr (own_sn_AliasTable_total_thresholds hw))
  replace F_packed := F_packed.other W19 (Or.inr (own_sn_AliasTable_packed_thresholds hw))
  replace F_thresholds := F_thresholds.same W19
  replace F_aliases := F_aliases.other W19 (Or.inr (own_sn_AliasTable_aliases_thresholds hw))
  replace A_b2 := A_b2.other W19 (Ne.symm (Nat.ne_of_lt lt_t_b2))
  replace A_b3 := A_b3.other W19 (Ne.symm (Nat.ne_of_lt lt_t_b3))
  replace A_b7 := A_b7.other W19 (Ne.symm (Nat.ne_of_lt lt_t_b7))
  replace A_b8 := A_b8.other W19 (Ne.symm (Nat.ne_of_lt lt_t_b8))
  replace A_b9 := A_b9.other W19 (Ne.symm (Nat.ne_of_lt lt_t_b9))
  replace A_b15 := A_b15.other W19 (Ne.symm (Nat.ne_of_lt lt_t_b15))
  replace hn := Nat.le_trans hn (Keep.of_wr W19).1
  clear W19 X18 e18
  refine own_gs 363 [(.ref t)] (fun t' k => XS.aloadN X19.here hx rfl (hb hby own_dI_362) rfl rfl  k) ?_
  refine own_gs 364 [.null, (.ref t)] (fun t' k => XS.aconstNull X19.here hx rfl (hb hby own_dI_363) k) ?_
  refine X19.putF hx hZ hown (hw _ (List.mem_of_getElem? (i := 26) rfl)) e19 F_aliases E_t g_t (Or.inr ⟨(hw _ (List.mem_of_getElem? (i := 27) rfl)), rfl, hnm⟩) (hw _ (List.mem_of_getElem? (i := 4) rfl)) (ty := (.array .int)) (by decide) rfl rfl (hb hby own_dI_364) ?_
  intro T20 h20 X20 e20 W20
  replace E_t := E_t.wr W20
  replace A_w := A_w.other W20 (Ne.symm ne_t_w)
  replace F_shift := F_shift.other W20 (Or.inr (own_sn_AliasTable_shift_aliases hw))
  replace F_total := F_total.other W20 (Or.inr (own_sn_AliasTable_total_aliases hw))
  replace F_packed := F_packed.other W20 (Or.inr (own_sn_AliasTable_packed_aliases hw))
  replace F_thresholds := F_thresholds.other W20 (Or.inr (own_sn_AliasTable_thresholds_aliases hw))
  replace F_aliases := F_aliases.same W20
  replace A_b2 := A_b2.other W20 (Ne.symm (Nat.ne_of_lt lt_t_b2))
  replace A_b3 := A_b3.other W20 (Ne.symm (Nat.ne_of_lt lt_t_b3))
  replace A_b7 := A_b7.other W20 (Ne.symm (Nat.ne_of_lt lt_t_b7))
  replace A_b8 := A_b8.other W20 (Ne.symm (Nat.ne_of_lt lt_t_b8))
  replace A_b9 := A_b9.other W20 (Ne.symm (Nat.ne_of_lt lt_t_b9))
  replace A_b15 := A_b15.other W20 (Ne.symm (Nat.ne_of_lt lt_t_b15))
  replace hn := Nat.le_trans hn (Keep.of_wr W20).1
  clear W20 X19 e19
  refine own_gs 386 [] (fun t' k => XS.goto X20.here hx rfl (pc0 := 367) (pc' := 386) rfl (hb hby own_dI_367) (by decide) (by decide) k) ?_
  refine X20.retV hx hlk hret (hb hby own_dI_386) ?_ (by decide) (by decide)
  rw [e20]
  exact ⟨rfl, hn, E_t, ⟨_, F_packed, A_b15⟩⟩

theorem own_dI_14 : decode prog_10_method_1_code 14 = .ok (.aload_n 1, 1) := by decide +kernel
theorem own_dI_15 : decode prog_10_method_1_code 15 = .ok (.arraylength, 1) := by decide +kernel
theorem own_dI_16 : decode prog_10_method_1_code 16 = .ok (.iconst 1, 1) := by decide +kernel
theorem own_dI_17 : decode prog_10_method_1_code 17 = .ok (.isub, 1) := by decide +kernel
theorem own_dI_18 : decode prog_10_method_1_code 18 = .ok (.invokestatic 11, 3) := by decide +kernel
theorem own_dI_21 : decode prog_10_method_1_code 21 = .ok (.iconst 1, 1) := by decide +kernel
theorem own_dI_22 : decode prog_10_method_1_code 22 = .ok (.ishl, 1) := by decide +kernel
theorem own_pn_own_rmI2e : plainFor (⟨"com/example/load_across_peers/loadacrosspeers/internal/pick/AliasTable", "<init>", "([J)V"⟩ : MethodName) = true := plainFor_of_name (show plainName "com/example/load_across_peers/loadacrosspeers/internal/pick/AliasTable" = true by first | (simp [plainName, overriddenIn]; done) | decide +kernel)
set_option maxRecDepth 65536 in
set_option maxHeartbeats 40000000 in
theorem own_rmI2e (l : Launch) (Z : State) (a0 : Array Value) (hw : ∀ d ∈ tables_1, d.before a0 Z = true) (ws : List Jvm.Cond) (h0 : Heap) (n0 : Nat) (Z0 : n0 ≤ h0.size) (t w : Addr) (g_t : n0 ≤ t) (ne_t_w : t ≠ w) (A B : Int) (hA0 : 0 ≤ A) (hA2 : A ≤ 2147483647) (hB0 : 0 ≤ B) (hB2 : B ≤ 2147483647) (hab : A = B) (E_t : Exa Z h0 t "com/example/load_across_peers/loadacrosspeers/internal/pick/AliasTable") (A_w : own_A Z h0 .long w [(.long (Int64.ofInt (A))), (.long (Int64.ofInt (B)))]) (F_shift : Fld Z h0 t "com/example/load_across_peers/loadacrosspeers/internal/pick/AliasTable" "shift" "I" (.int (0 : Int32))) (F_total : Fld Z h0 t "com/example/load_across_peers/loadacrosspeers/internal/pick/AliasTable" "total" "J" (.long (0 : Int64))) (F_packed : Fld Z h0 t "com/example/load_across_peers/loadacrosspeers/internal/pick/AliasTable" "packed" "[J" .null) (F_thresholds : Fld Z h0 t "com/example/load_across_peers/loadacrosspeers/internal/pick/AliasTable" "thresholds" "[J" .null) (F_aliases : Fld Z h0 t "com/example/load_across_peers/loadacrosspeers/internal/pick/AliasTable" "aliases" "[I" .null)  :
    own_C l Z (⟨"com/example/load_across_peers/loadacrosspeers/internal/pick/AliasTable", "<init>", "([J)V"⟩ : MethodName) prog_10_method_1_code 14 none ws ({ frames := 2, cells := 6, slots := 12, locals := 27 } : Room) #[(.ref t), (.ref w)] h0 (own_Q n0 (fun v h => v = none ∧ n0 ≤ h.size ∧ Exa Z h t "com/example/load_across_peers/loadacrosspeers/internal/pick/AliasTable" ∧ ∃ b, Fld Z h t "com/example/load_across_peers/loadacrosspeers/internal/pick/AliasTable" "packed" "[J" (.ref b) ∧ own_A Z h .long b [(.long (own_pw (0 : Int64) (0 : Int64))), (.long (own_pw (0 : Int64) (1 : Int64)))])) := by
  refine own_met own_pn_own_rmI2e #[rv t, rv w, .unset, .unset, .unset, .unset, .unset, .unset, .unset, .unset, .unset, .unset, .unset, .unset] (fun m => by first | (simp [entryFrame, mkF, argsToLocals, Value.category]; done) | rfl) ?_
  intro p e s m below meth c s₁ hx hby hml hown hret hlk hZ hnm X0 e0
  replace X0 := own_S.of X0 (n0)
  have hn : n0 ≤ h0.size := Z0
  refine own_gs 1 [(.ref t)] (fun t' k => XS.aloadN X0.here hx rfl (hb hby own_dI_0) rfl rfl  k) ?_
  refine X0.initO hx hZ hown (hw _ (List.mem_of_getElem? (i := 9) rfl)) (hw _ (List.mem_of_getElem? (i := 10) rfl)) (hw _ (List.mem_of_getElem? (i := 11) rfl)) e0 (by rw [hml]; rfl) (hb hby own_dI_1) (by decide) 0 (Nat.le_of_eq rfl) (by decide) ?_
  intro T1 X1 e1
  refine own_gs 5 [(.ref w)] (fun t' k => XS.aloadN X1.here hx rfl (hb hby own_dI_4) rfl rfl  k) ?_
  refine X1.alen hx hZ e1 A_w (hb hby own_dI_5) ?_
  show own_G p e below s _ _ _ T1 (mkF m 6 #[rv t, rv w, .unset, .unset, .unset, .unset, .unset, .unset, .unset, .unset, .unset, .unset, .unset, .unset] [(.int (2 : Int32))])
  refine own_gs 7 [(.int (1 : Int32)), (.int (2 : Int32))] (fun t' k => XS.iconst X1.here hx rfl (hb hby own_dI_6) k) ?_
  refine own_gs 14 [] (fun t' k => XS.icmpYes X1.here hx rfl (pc0 := 7) (pc' := 14) rfl (hb hby own_dI_7) rfl (tlt (by decide)).2.2.1 (by decide) (by decide) k) ?_
  refine own_gs 15 [(.ref w)] (fun t' k => XS.aloadN X1.here hx rfl (hb hby own_dI_14) rfl rfl  k) ?_
  refine X1.alen hx hZ e1 A_w (hb hby own_dI_15) ?_
  show own_G p e below s _ _ _ T1 (mkF m 16 #[rv t, rv w, .unset, .unset, .unset, .unset, .unset, .unset, .unset, .unset, .unset, .unset, .unset, .unset] [(.int (2 : Int32))])
  refine own_gs 17 [(.int (1 : Int32)), (.int (2 : Int32))] (fun t' k => XS.iconst X1.here hx rfl (hb hby own_dI_16) k) ?_
  refine own_gs 18 [(.int (1 : Int32))] (fun t' k => XS.isub X1.here hx rfl (hb hby own_dI_17) rfl k) ?_
  refine X1.callP hx hZ (y := (⟨"java/lang/Integer", "highestOneBit", "(I)I"⟩ : MethodName)) (fr := 1) (lo := 15) (r := (.int (1 : Int32))) hown (hw _ (List.mem_of_getElem? (i := 38) rfl)) (hw _ (List.mem_of_getElem? (i := 39) rfl)) (hw _ (List.mem_of_getElem? (i := 15) rfl)) (hw _ (List.mem_of_getElem? (i := 40) rfl)) (by decide) e1 [(.int (1 : Int32))] [] (own_hob1 l Z a0 hw [] h0 ) 0 (by decide) (by decide) (Nat.le_of_eq rfl) (by decide) (by decide) (by rw [hml]; rfl) (lenOf own_pd0 rfl) rfl (hb hby own_dI_18) ?_
  intro T2 X2 e2
  refine own_gs 22 [(.int (1 : Int32)), (.int (1 : Int32))] (fun t' k => XS.iconst X2.here hx rfl (hb hby own_dI_21) k) ?_
  refine own_gs 23 [(.int (2 : Int32))] (fun t' k => XS.ishl X2.here hx rfl (hb hby own_dI_22) rfl k) ?_
  refine own_go (mkF m 24 #[rv t, rv w, iv (2 : Int32), .unset, .unset, .unset, .unset, .unset, .unset, .unset, .unset, .unset, .unset, .unset] []) (fun t' k => XS.istoreN X2.here hx rfl (hb hby own_dI_23) rfl rfl k) ?_
  refine own_gs 25 [(.int (2 : Int32))] (fun t' k => XS.iloadN X2.here hx rfl (hb hby own_dI_24) rfl  k) ?_
  refine X2.newP hx hZ (hw _ (List.mem_of_getElem? (i := 2) rfl)) e2 2 (by decide) (hb hby own_dI_25) 2 (by decide) (by decide) (by decide) (by decide) ?_
  intro T3 h3 b3 X3 e3 q3 xt3 A_b3
  have g_b3 : n0 ≤ b3 := by rw [q3]; exact hn
  have lt_t_b3 : t < b3 := by rw [q3]; exact E_t.lt
  have lt_w_b3 : w < b3 := by rw [q3]; exact A_w.lt
  replace E_t := E_t.ext xt3
  replace A_w := A_w.ext xt3
  replace F_shift := F_shift.ext xt3
  replace F_total := F_total.ext xt3
  replace F_packed := F_packed.ext xt3
  replace F_thresholds := F_thresholds.ext xt3
  replace F_aliases := F_aliases.ext xt3
  replace hn := Nat.le_trans hn xt3.1
  replace A_b3 : own_A Z h3 .long b3 [(.long (0 : Int64)), (.long (0 : Int64))] := A_b3
  refine own_go (mkF m 28 #[rv t, rv w, iv (2 : Int32), rv b3, .unset, .unset, .unset, .unset, .unset, .unset, .unset, .unset, .unset, .unset] []) (fun t' k => XS.astoreN X3.here hx rfl (hb hby own_dI_27) rfl rfl rfl k) ?_
  refine own_gs 29 [(.int (2 : Int32))] (fun t' k => XS.iloadN X3.here hx rfl (hb hby own_dI_28) rfl  k) ?_
  refine X3.newP hx hZ (hw _ (List.mem_of_getElem? (i := 12) rfl)) e3 2 (by decide) (hb hby own_dI_29) 2 (by decide) (by decide) (by decide) (by decide) ?_
  intro T4 h4 b4 X4 e4 q4 xt4 A_b4
  have g_b4 : n0 ≤ b4 := by rw [q4]; exact hn
  have lt_t_b4 : t < b4 := by rw [q4]; exact E_t.lt
  have lt_w_b4 : w < b4 := by rw [q4]; exact A_w.lt
  have lt_b3_b4 : b3 < b4 := by rw [q4]; exact A_b3.lt
  replace E_t := E_t.ext xt4
  replace A_w := A_w.ext xt4
  replace F_shift := F_shift.ext xt4
  replace F_total := F_total.ext xt4
  replace F_packed := F_packed.ext xt4
  replace F_thresholds := F_thresholds.ext xt4
  replace F_aliases := F_aliases.ext xt4
  replace A_b3 := A_b3.ext xt4
  replace hn := Nat.le_trans hn xt4.1
  replace A_b4 : own_A Z h4 .int b4 [(.int (0 : Int32)), (.int (0 : Int32))] := A_b4
  refine own_go (mkF m 33 #[rv t, rv w, iv (2 : Int32), rv b3, rv b4, .unset, .unset, .unset, .unset, .unset, .unset, .unset, .unset, .unset] []) (fun t' k => XS.astore X4.here hx rfl (hb hby own_dI_31) rfl rfl rfl k) ?_
  refine own_gs 34 [(.ref t)] (fun t' k => XS.aloadN X4.here hx rfl (hb hby own_dI_33) rfl rfl  k) ?_
  refine own_gs 36 [(.int (64 : Int32)), (.ref t)] (fun t' k => XS.bipush X4.here hx rfl (hb hby own_dI_34) k) ?_
  refine own_gs 37 [(.int (2 : Int32)), (.int (64 : Int32)), (.ref t)] (fun t' k => XS.iloadN X4.here hx rfl (hb hby own_dI_36) rfl  k) ?_
  refine X4.callP hx hZ (y := (⟨"java/lang/Integer", "numberOfTrailingZeros", "(I)I"⟩ : MethodName)) (fr := 0) (lo := 0) (r := (.int (1 : Int32))) hown (hw _ (List.mem_of_getElem? (i := 13) rfl)) (hw _ (List.mem_of_getElem? (i := 14) rfl)) (hw _ (List.mem_of_getElem? (i := 15) rfl)) (hw _ (List.mem_of_getElem? (i := 16) rfl)) (by decide) e4 [(.int (2 : Int32))] [(.int (64 : Int32)), (.ref t)] (own_ntz2 l Z a0 hw [] h4 ) 2 (by decide) (by decide) (Nat.le_of_eq rfl) (by decide) (by decide) (by rw [hml]; rfl) (lenOf own_pd0 rfl) rfl (hb hby own_dI_37) ?_
  intro T5 X5 e5
  refine own_gs 41 [(.int (63 : Int32)), (.ref t)] (fun t' k => XS.isub X5.here hx rfl (hb hby own_dI_40) rfl k) ?_
  refine X5.putF hx hZ hown (hw _ (List.mem_of_getElem? (i := 17) rfl)) e5 F_shift E_t g_t (Or.inr ⟨(hw _ (List.mem_of_getElem? (i := 18) rfl)), rfl, hnm⟩) (hw _ (List.mem_of_getElem? (i := 4) rfl)) (ty := .int) (by decide) rfl rfl (hb hby own_dI_41) ?_
  intro T6 h6 X6 e6 W6
  replace E_t := E_t.wr W6
  replace A_w := A_w.other W6 (Ne.symm ne_t_w)
  replace F_shift := F_shift.same W6
  replace F_total := F_total.other W6 (Or.inr (own_sn_AliasTable_total_shift hw))
  replace F_packed := F_packed.other W6 (Or.inr (own_sn_AliasTable_packed_shift hw))
  replace F_thresholds := F_thresholds.other W6 (Or.inr (own_sn_AliasTable_thresholds_shift hw))
  replace F_aliases := F_aliases.other W6 (Or.inr (own_sn_AliasTable_aliases_shift hw))
  replace A_b3 := A_b3.other W6 (Ne.symm (Nat.ne_of_lt lt_t_b3))
  replace A_b4 := A_b4.other W6 (Ne.symm (Nat.ne_of_lt lt_t_b4))
  replace hn := Nat.le_trans hn (Keep.of_wr W6).1
  clear W6 X5 e5
  refine own_gs 45 [(.long (0 : Int64))] (fun t' k => XS.lconst X6.here hx rfl (hb hby own_dI_44) k) ?_
  refine own_go (mkF m 47 #[rv t, rv w, iv (2 : Int32), rv b3, rv b4, jv (0 : Int64), .second, .unset, .unset, .unset, .unset, .unset, .unset, .unset] []) (fun t' k => XS.lstore X6.here hx rfl (hb hby own_dI_45) rfl rfl k) ?_
  refine own_gs 48 [(.ref w)] (fun t' k => XS.aloadN X6.here hx rfl (hb hby own_dI_47) rfl rfl  k) ?_
  refine own_go (mkF m 50 #[rv t, rv w, iv (2 : Int32), rv b3, rv b4, jv (0 : Int64), .second, rv w, .unset, .unset, .unset, .unset, .unset, .unset] []) (fun t' k => XS.astore X6.here hx rfl (hb hby own_dI_48) rfl rfl rfl k) ?_
  refine own_gs 52 [(.ref w)] (fun t' k => XS.aload X6.here hx rfl (hb hby own_dI_50) rfl rfl  k) ?_
  refine X6.alen hx hZ e6 A_w (hb hby own_dI_52) ?_
  show own_G p e below s _ _ _ T6 (mkF m 53 #[rv t, rv w, iv (2 : Int32), rv b3, rv b4, jv (0 : Int64), .second, rv w, .unset, .unset, .unset, .unset, .unset, .unset] [(.int (2 : Int32))])
  refine own_go (mkF m 55 #[rv t, rv w, iv (2 : Int32), rv b3, rv b4, jv (0 : Int64), .second, rv w, iv (2 : Int32), .unset, .unset, .unset, .unset, .unset] []) (fun t' k => XS.istore X6.here hx rfl (hb hby own_dI_53) rfl rfl k) ?_
  refine own_gs 56 [(.int (0 : Int32))] (fun t' k => XS.iconst X6.here hx rfl (hb hby own_dI_55) k) ?_
  refine own_go (mkF m 58 #[rv t, rv w, iv (2 : Int32), rv b3, rv b4, jv (0 : Int64), .second, rv w, iv (2 : Int32), iv (0 : Int32), .unset, .unset, .unset, .unset] []) (fun t' k => XS.istore X6.here hx rfl (hb hby own_dI_56) rfl rfl k) ?_
  refine own_gs 60 [(.int (0 : Int32))] (fun t' k => XS.iload X6.here hx rfl (hb hby own_dI_58) rfl  k) ?_
  refine own_gs 62 [(.int (2 : Int32)), (.int (0 : Int32))] (fun t' k => XS.iload X6.here hx rfl (hb hby own_dI_60) rfl  k) ?_
  refine own_gs 65 [] (fun t' k => XS.icmpNo X6.here hx rfl (hb hby own_dI_62) rfl (tlt (by decide)).2.1 k) ?_
  refine own_gs 67 [(.ref w)] (fun t' k => XS.aload X6.here hx rfl (hb hby own_dI_65) rfl rfl  k) ?_
  refine own_gs 69 [(.int (0 : Int32)), (.ref w)] (fun t' k => XS.iload X6.here hx rfl (hb hby own_dI_67) rfl  k) ?_
  refine X6.ldJ hx hZ e6 A_w (v := (.long (Int64.ofInt (A)))) 0 (by decide) rfl (hb hby own_dI_69) ?_
  refine own_go (mkF m 72 #[rv t, rv w, iv (2 : Int32), rv b3, rv b4, jv (0 : Int64), .second, rv w, iv (2 : Int32), iv (0 : Int32), jv (Int64.ofInt (A)), .second, .unset, .unset] []) (fun t' k => XS.lstore X6.here hx rfl (hb hby own_dI_70) rfl rfl k) ?_
  refine own_gs 74 [(.long (0 : Int64))] (fun t' k => XS.lload X6.here hx rfl (hb hby own_dI_72) rfl  k) ?_
  refine own_gs 76 [(.long (Int64.ofInt (A))), (.long (0 : Int64))] (fun t' k => XS.lload X6.here hx rfl (hb hby own_dI_74) rfl  k) ?_
  refine own_gs 77 [(.long ((0 : Int64) + (Int64.ofInt (A))))] (fun t' k => XS.ladd X6.here hx rfl (hb hby own_dI_76) rfl k) ?_
  rw [own_oadd (z := A) (show (0 : Int64) = Int64.ofInt (0) from rfl) (show (Int64.ofInt (A)) = (Int64.ofInt (A)) from rfl) (by omega)]
  refine own_go (mkF m 79 #[rv t, rv w, iv (2 : Int32), rv b3, rv b4, jv (Int64.ofInt (A)), .second, rv w, iv (2 : Int32), iv (0 : Int32), jv (Int64.ofInt (A)), .second, .unset, .unset] []) (fun t' k => XS.lstore X6.here hx rfl (hb hby own_dI_77) rfl rfl k) ?_
  refine own_go (mkF m 82 #[rv t, rv w, iv (2 : Int32), rv b3, rv b4, jv (Int64.ofInt (A)), .second, rv w, iv (2 : Int32), iv (1 : Int32), jv (Int64.ofInt (A)), .second, .unset, .unset] []) (fun t' k => XS.iinc X6.here hx rfl (hb hby own_dI_79) rfl rfl k) ?_
  refine own_gs 58 [] (fun t' k => XS.goto X6.here hx rfl (pc0 := 82) (pc' := 58) rfl (hb hby own_dI_82) (by decide) (by decide) k) ?_
  refine own_gs 60 [(.int (1 : Int32))] (fun t' k => XS.iload X6.here hx rfl (hb hby own_dI_58) rfl  k) ?_
  refine own_gs 62 [(.int (2 : Int32)), (.int (1 : Int32))] (fun t' k => XS.iload X6.here hx rfl (hb hby own_dI_60) rfl  k) ?_
  refine own_gs 65 [] (fun t' k => XS.icmpNo X6.here hx rfl (hb hby own_dI_62) rfl (tlt (by decide)).2.1 k) ?_
  refine own_gs 67 [(.ref w)] (fun t' k => XS.aload X6.here hx rfl (hb hby own_dI_65) rfl rfl  k) ?_
  refine own_gs 69 [(.int (1 : Int32)), (.ref w)] (fun t' k => XS.iload X6.here hx rfl (hb hby own_dI_67) rfl  k) ?_
  refine X6.ldJ hx hZ e6 A_w (v := (.long (Int64.ofInt (B)))) 1 (by decide) rfl (hb hby own_dI_69) ?_
  refine own_go (mkF m 72 #[rv t, rv w, iv (2 : Int32), rv b3, rv b4, jv (Int64.ofInt (A)), .second, rv w, iv (2 : Int32), iv (1 : Int32), jv (Int64.ofInt (B)), .second, .unset, .unset] []) (fun t' k => XS.lstore X6.here hx rfl (hb hby own_dI_70) rfl rfl k) ?_
  refine own_gs 74 [(.long (Int64.ofInt (A)))] (fun t' k => XS.lload X6.here hx rfl (hb hby own_dI_72) rfl  k) ?_
  refine own_gs 76 [(.long (Int64.ofInt (B))), (.long (Int64.ofInt (A)))] (fun t' k => XS.lload X6.here hx rfl (hb hby own_dI_74) rfl  k) ?_
  refine own_gs 77 [(.long ((Int64.ofInt (A)) + (Int64.ofInt (B))))] (fun t' k => XS.ladd X6.here hx rfl (hb hby own_dI_76) rfl k) ?_
  rw [own_oadd (z := A + B) (show (Int64.ofInt (A)) = (Int64.ofInt (A)) from rfl) (show (Int64.ofInt (B)) = (Int64.ofInt (B)) from rfl) (by omega)]
  refine own_go (mkF m 79 #[rv t, rv w, iv (2 : Int32), rv b3, rv b4, jv (Int64.ofInt (A + B)), .second, rv w, iv (2 : Int32), iv (1 : Int32), jv (Int64.ofInt (B)), .second, .unset, .unset] []) (fun t' k => XS.lstore X6.here hx rfl (hb hby own_dI_77) rfl rfl k) ?_
  refine own_go (mkF m 82 #[rv t, rv w, iv (2 : Int32), rv b3, rv b4, jv (Int64.ofInt (A + B)), .second, rv w, iv (2 : Int32), iv (2 : Int32), jv (Int64.ofInt (B)), .second, .unset, .unset] []) (fun t' k => XS.iinc X6.here hx rfl (hb hby own_dI_79) rfl rfl k) ?_
  refine own_gs 58 [] (fun t' k => XS.goto X6.here hx rfl (pc0 := 82) (pc' := 58) rfl (hb hby own_dI_82) (by decide) (by decide) k) ?_
  refine own_gs 60 [(.int (2 : Int32))] (fun t' k => XS.iload X6.here hx rfl (hb hby own_dI_58) rfl  k) ?_
  refine own_gs 62 [(.int (2 : Int32)), (.int (2 : Int32))] (fun t' k => XS.iload X6.here hx rfl (hb hby own_dI_60) rfl  k) ?_
  refine own_gs 85 [] (fun t' k => XS.icmpYes X6.here hx rfl (pc0 := 62) (pc' := 85) rfl (hb hby own_dI_62) rfl (flt (by decide)).2.1 (by decide) (by decide) k) ?_
  refine own_gs 86 [(.ref t)] (fun t' k => XS.aloadN X6.here hx rfl (hb hby own_dI_85) rfl rfl  k) ?_
  refine own_gs 88 [(.long (Int64.ofInt (A + B))), (.ref t)] (fun t' k => XS.lload X6.here hx rfl (hb hby own_dI_86) rfl  k) ?_
  refine X6.putF hx hZ hown (hw _ (List.mem_of_getElem? (i := 19) rfl)) e6 F_total E_t g_t (Or.inr ⟨(hw _ (List.mem_of_getElem? (i := 20) rfl)), rfl, hnm⟩) (hw _ (List.mem_of_getElem? (i := 4) rfl)) (ty := .long) (by decide) rfl rfl (hb hby own_dI_88) ?_
  intro T7 h7 X7 e7 W7
  replace E_t := E_t.wr W7
  replace A_w := A_w.other W7 (Ne.symm ne_t_w)
  replace F_shift := F_shift.other W7 (Or.inr (own_sn_AliasTable_shift_total hw))
  replace F_total := F_total.same W7
  replace F_packed := F_packed.other W7 (Or.inr (own_sn_AliasTable_packed_total hw))
  replace F_thresholds := F_thresholds.other W7 (Or.inr (own_sn_AliasTable_thresholds_total hw))
  replace F_aliases := F_aliases.other W7 (Or.inr (own_sn_AliasTable_aliases_total hw))
  replace A_b3 := A_b3.other W7 (Ne.symm (Nat.ne_of_lt lt_t_b3))
  replace A_b4 := A_b4.other W7 (Ne.symm (Nat.ne_of_lt lt_t_b4))
  replace hn := Nat.le_trans hn (Keep.of_wr W7).1
  clear W7 X6 e6
  refine own_gs 92 [(.int (2 : Int32))] (fun t' k => XS.iloadN X7.here hx rfl (hb hby own_dI_91) rfl  k) ?_
  refine X7.newP hx hZ (hw _ (List.mem_of_getElem? (i := 2) rfl)) e7 2 (by decide) (hb hby own_dI_92) 2 (by decide) (by decide) (by decide) (by decide) ?_
  intro T8 h8 b8 X8 e8 q8 xt8 A_b8
  have g_b8 : n0 ≤ b8 := by rw [q8]; exact hn
  have lt_t_b8 : t < b8 := by rw [q8]; exact E_t.lt
  have lt_w_b8 : w < b8 := by rw [q8]; exact A_w.lt
  have lt_b3_b8 : b3 < b8 := by rw [q8]; exact A_b3.lt
  have lt_b4_b8 : b4 < b8 := by rw [q8]; exact A_b4.lt
  replace E_t := E_t.ext xt8
  replace A_w := A_w.ext xt8
  replace F_shift := F_shift.ext xt8
  replace F_total := F_total.ext xt8
  replace F_packed := F_packed.ext xt8
  replace F_thresholds := F_thresholds.ext xt8
  replace F_aliases := F_aliases.ext xt8
  replace A_b3 := A_b3.ext xt8
  replace A_b4 := A_b4.ext xt8
  replace hn := Nat.le_trans hn xt8.1
  replace A_b8 : own_A Z h8 .long b8 [(.long (0 : Int64)), (.long (0 : Int64))] := A_b8
  refine own_go (mkF m 96 #[rv t, rv w, iv (2 : Int32), rv b3, rv b4, jv (Int64.ofInt (A + B)), .second, rv b8, iv (2 : Int32), iv (2 : Int32), jv (Int64.ofInt (B)), .second, .unset, .unset] []) (fun t' k => XS.astore X8.here hx rfl (hb hby own_dI_94) rfl rfl rfl k) ?_
  refine own_gs 97 [(.int (2 : Int32))] (fun t' k => XS.iloadN X8.here hx rfl (hb hby own_dI_96) rfl  k) ?_
  refine X8.newP hx hZ (hw _ (List.mem_of_getElem? (i := 12) rfl)) e8 2 (by decide) (hb hby own_dI_97) 2 (by decide) (by decide) (by decide) (by decide) ?_
  intro T9 h9 b9 X9 e9 q9 xt9 A_b9
  have g_b9 : n0 ≤ b9 := by rw [q9]; exact hn
  have lt_t_b9 : t < b9 := by rw [q9]; exact E_t.lt
  have lt_w_b9 : w < b9 := by rw [q9]; exact A_w.lt
  have lt_b3_b9 : b3 < b9 := by rw [q9]; exact A_b3.lt
  have lt_b4_b9 : b4 < b9 := by rw [q9]; exact A_b4.lt
  have lt_b8_b9 : b8 < b9 := by rw [q9]; exact A_b8.lt
  replace E_t := E_t.ext xt9
  replace A_w := A_w.ext xt9
  replace F_shift := F_shift.ext xt9
  replace F_total := F_total.ext xt9
  replace F_packed := F_packed.ext xt9
  replace F_thresholds := F_thresholds.ext xt9
  replace F_aliases := F_aliases.ext xt9
  replace A_b3 := A_b3.ext xt9
  replace A_b4 := A_b4.ext xt9
  replace A_b8 := A_b8.ext xt9
  replace hn := Nat.le_trans hn xt9.1
  replace A_b9 : own_A Z h9 .int b9 [(.int (0 : Int32)), (.int (0 : Int32))] := A_b9
  refine own_go (mkF m 101 #[rv t, rv w, iv (2 : Int32), rv b3, rv b4, jv (Int64.ofInt (A + B)), .second, rv b8, rv b9, iv (2 : Int32), jv (Int64.ofInt (B)), .second, .unset, .unset] []) (fun t' k => XS.astore X9.here hx rfl (hb hby own_dI_99) rfl rfl rfl k) ?_
  refine own_gs 102 [(.int (2 : Int32))] (fun t' k => XS.iloadN X9.here hx rfl (hb hby own_dI_101) rfl  k) ?_
  refine X9.newP hx hZ (hw _ (List.mem_of_getElem? (i := 12) rfl)) e9 2 (by decide) (hb hby own_dI_102) 2 (by decide) (by decide) (by decide) (by decide) ?_
  intro T10 h10 b10 X10 e10 q10 xt10 A_b10
  have g_b10 : n0 ≤ b10 := by rw [q10]; exact hn
  have lt_t_b10 : t < b10 := by rw [q10]; exact E_t.lt
  have lt_w_b10 : w < b10 := by rw [q10]; exact A_w.lt
  have lt_b3_b10 : b3 < b10 := by rw [q10]; exact A_b3.lt
  have lt_b4_b10 : b4 < b10 := by rw [q10]; exact A_b4.lt
  have lt_b8_b10 : b8 < b10 := by rw [q10]; exact A_b8.lt
  have lt_b9_b10 : b9 < b10 := by rw [q10]; exact A_b9.lt
  replace E_t := E_t.ext xt10
  replace A_w := A_w.ext xt10
  replace F_shift := F_shift.ext xt10
  replace F_total := F_total.ext xt10
  replace F_packed := F_packed.ext xt10
  replace F_thresholds := F_thresholds.ext xt10
  replace F_aliases := F_aliases.ext xt10
  replace A_b3 := A_b3.ext xt10
  replace A_b4 := A_b4.ext xt10
  replace A_b8 := A_b8.ext xt10
  replace A_b9 := A_b9.ext xt10
  replace hn := Nat.le_trans hn xt10.1
  replace A_b10 : own_A Z h10 .int b10 [(.int (0 : Int32)), (.int (0 : Int32))] := A_b10
  refine own_go (mkF m 106 #[rv t, rv w, iv (2 : Int32), rv b3, rv b4, jv (Int64.ofInt (A + B)), .second, rv b8, rv b9, rv b10, jv (Int64.ofInt (B)), .second, .unset, .unset] []) (fun t' k => XS.astore X10.here hx rfl (hb hby own_dI_104) rfl rfl rfl k) ?_
  refine own_gs 107 [(.int (0 : Int32))] (fun t' k => XS.iconst X10.here hx rfl (hb hby own_dI_106) k) ?_
  refine own_go (mkF m 109 #[rv t, rv w, iv (2 : Int32), rv b3, rv b4, jv (Int64.ofInt (A + B)), .second, rv b8, rv b9, rv b10, iv (0 : Int32), .unset, .unset, .unset] []) (fun t' k => XS.istore X10.here hx rfl (hb hby own_dI_107) rfl rfl k) ?_
  refine own_gs 110 [(.int (0 : Int32))] (fun t' k => XS.iconst X10.here hx rfl (hb hby own_dI_109) k) ?_
  refine own_go (mkF m 112 #[rv t, rv w, iv (2 : Int32), rv b3, rv b4, jv (Int64.ofInt (A + B)), .second, rv b8, rv b9, rv b10, iv (0 : Int32), iv (0 : Int32), .unset, .unset] []) (fun t' k => XS.istore X10.here hx rfl (hb hby own_dI_110) rfl rfl k) ?_
  refine own_gs 113 [(.int (0 : Int32))] (fun t' k => XS.iconst X10.here hx rfl (hb hby own_dI_112) k) ?_
  refine own_go (mkF m 115 #[rv t, rv w, iv (2 : Int32), rv b3, rv b4, jv (Int64.ofInt (A + B)), .second, rv b8, rv b9, rv b10, iv (0 : Int32), iv (0 : Int32), iv (0 : Int32), .unset] []) (fun t' k => XS.istore X10.here hx rfl (hb hby own_dI_113) rfl rfl k) ?_
  refine own_gs 117 [(.int (0 : Int32))] (fun t' k => XS.iload X10.here hx rfl (hb hby own_dI_115) rfl  k) ?_
  refine own_gs 118 [(.int (2 : Int32)), (.int (0 : Int32))] (fun t' k => XS.iloadN X10.here hx rfl (hb hby own_dI_117) rfl  k) ?_
  refine own_gs 121 [] (fun t' k => XS.icmpNo X10.here hx rfl (hb hby own_dI_118) rfl (tlt (by decide)).2.1 k) ?_
  refine own_gs 123 [(.ref b8)] (fun t' k => XS.aload X10.here hx rfl (hb hby own_dI_121) rfl rfl  k) ?_
  refine own_gs 125 [(.int (0 : Int32)), (.ref b8)] (fun t' k => XS.iload X10.here hx rfl (hb hby own_dI_123) rfl  k) ?_
  refine own_gs 127 [(.int (0 : Int32)), (.int (0 : Int32)), (.ref b8)] (fun t' k => XS.iload X10.here hx rfl (hb hby own_dI_125) rfl  k) ?_
  refine own_gs 128 [(.ref w), (.int (0 : Int32)), (.int (0 : Int32)), (.ref b8)] (fun t' k => XS.aloadN X10.here hx rfl (hb hby own_dI_127) rfl rfl  k) ?_
  refine X10.alen hx hZ e10 A_w (hb hby own_dI_128) ?_
  show own_G p e below s _ _ _ T10 (mkF m 129 #[rv t, rv w, iv (2 : Int32), rv b3, rv b4, jv (Int64.ofInt (A + B)), .second, rv b8, rv b9, rv b10, iv (0 : Int32), iv (0 : Int32), iv (0 : Int32), .unset] [(.int (2 : Int32)), (.int (0 : Int32)), (.int (0 : Int32)), (.ref b8)])
  refine own_gs 132 [(.int (0 : Int32)), (.ref b8)] (fun t' k => XS.icmpNo X10.here hx rfl (hb hby own_dI_129) rfl (tlt (by decide)).2.1 k) ?_
  refine own_gs 133 [(.ref w), (.int (0 : Int32)), (.ref b8)] (fun t' k => XS.aloadN X10.here hx rfl (hb hby own_dI_132) rfl rfl  k) ?_
  refine own_gs 135 [(.int (0 : Int32)), (.ref w), (.int (0 : Int32)), (.ref b8)] (fun t' k => XS.iload X10.here hx rfl (hb hby own_dI_133) rfl  k) ?_
  refine X10.ldJ hx hZ e10 A_w (v := (.long (Int64.ofInt (A)))) 0 (by decide) rfl (hb hby own_dI_135) ?_
  refine own_gs 137 [(.int (2 : Int32)), (.long (Int64.ofInt (A))), (.int (0 : Int32)), (.ref b8)] (fun t' k => XS.iloadN X10.here hx rfl (hb hby own_dI_136) rfl  k) ?_
  refine own_gs 138 [(.long (2 : Int64)), (.long (Int64.ofInt (A))), (.int (0 : Int32)), (.ref b8)] (fun t' k => XS.i2l X10.here hx rfl (hb hby own_dI_137) rfl k) ?_
  refine own_gs 139 [(.long ((Int64.ofInt (A)) * (2 : Int64))), (.int (0 : Int32)), (.ref b8)] (fun t' k => XS.lmul X10.here hx rfl (hb hby own_dI_138) rfl k) ?_
  rw [own_omul (z := 2 * A) (show (Int64.ofInt (A)) = (Int64.ofInt (A)) from rfl) (show (2 : Int64) = Int64.ofInt (2) from rfl) (by omega)]
  refine own_gs 143 [(.long (Int64.ofInt (2 * A))), (.int (0 : Int32)), (.ref b8)] (fun t' k => XS.goto X10.here hx rfl (pc0 := 139) (pc' := 143) rfl (hb hby own_dI_139) (by decide) (by decide) k) ?_
  refine X10.stJ hx hZ e10 A_b8 g_b8 0 (by decide) (Nat.le_of_ble_eq_true rfl) (hb hby own_dI_143) ?_
  intro T11 h11 X11 e11 W11 A11
  replace A_b8 : own_A Z h11 .long b8 [(.long (Int64.ofInt (2 * A))), (.long (0 : Int64))] := A11
  clear A11
  replace E_t := E_t.wr W11
  replace A_w := A_w.other W11 (Nat.ne_of_lt lt_w_b8)
  replace F_shift := F_shift.other W11 (Or.inl (Nat.ne_of_lt lt_t_b8))
  replace F_total := F_total.other W11 (Or.inl (Nat.ne_of_lt lt_t_b8))
  replace F_packed := F_packed.other W11 (Or.inl (Nat.ne_of_lt lt_t_b8))
  replace F_thresholds := F_thresholds.other W11 (Or.inl (Nat.ne_of_lt lt_t_b8))
  replace F_aliases := F_aliases.other W11 (Or.inl (Nat.ne_of_lt lt_t_b8))
  replace A_b3 := A_b3.other W11 (Nat.ne_of_lt lt_b3_b8)
  replace A_b4 := A_b4.other W11 (Nat.ne_of_lt lt_b4_b8)
  replace A_b9 := A_b9.other W11 (Ne.symm (Nat.ne_of_lt lt_b8_b9))
  replace A_b10 := A_b10.other W11 (Ne.symm (Nat.ne_of_lt lt_b8_b10))
  replace hn := Nat.le_trans hn (Keep.of_wr W11).1
  clear W11 X10 e10
  refine own_gs 146 [(.ref b8)] (fun t' k => XS.aload X11.here hx rfl (hb hby own_dI_144) rfl rfl  k) ?_
  refine own_gs 148 [(.int (0 : Int32)), (.ref b8)] (fun t' k => XS.iload X11.here hx rfl (hb hby own_dI_146) rfl  k) ?_
  refine X11.ldJ hx hZ e11 A_b8 (v := (.long (Int64.ofInt (2 * A)))) 0 (by decide) rfl (hb hby own_dI_148) ?_
  refine own_gs 150 [(.ref t), (.long (Int64.ofInt (2 * A)))] (fun t' k => XS.aloadN X11.here hx rfl (hb hby own_dI_149) rfl rfl  k) ?_
  refine X11.getF hx hZ hown (hw _ (List.mem_of_getElem? (i := 19) rfl)) e11 F_total (hb hby own_dI_150) ?_
  intro T12 X12 e12
  refine own_gs 154 [(.int (lcmpW (Int64.ofInt (2 * A)) (Int64.ofInt (A + B))))] (fun t' k => XS.lcmp X12.here hx rfl (hb hby own_dI_153) rfl k) ?_
  refine own_gs 170 [] (fun t' k => XS.ifYes X12.here hx rfl (pc0 := 154) (pc' := 170) rfl (hb hby own_dI_154) rfl ((if0 _ _).trans (flt (fun q => (own_onl (show (Int64.ofInt (2 * A)) = (Int64.ofInt (2 * A)) from rfl) (show (Int64.ofInt (A + B)) = (Int64.ofInt (A + B)) from rfl) (by omega) (by omega) (by omega)) ((lw_lt (Int64.ofInt (2 * A)) (Int64.ofInt (A + B))).mp q))).2.1) (by decide) (by decide) k) ?_
  refine own_gs 172 [(.ref b10)] (fun t' k => XS.aload X12.here hx rfl (hb hby own_dI_170) rfl rfl  k) ?_
  refine own_gs 174 [(.int (0 : Int32)), (.ref b10)] (fun t' k => XS.iload X12.here hx rfl (hb hby own_dI_172) rfl  k) ?_
  refine own_go (mkF m 177 #[rv t, rv w, iv (2 : Int32), rv b3, rv b4, jv (Int64.ofInt (A + B)), .second, rv b8, rv b9, rv b10, iv (0 : Int32), iv (1 : Int32), iv (0 : Int32), .unset] [(.int (0 : Int32)), (.ref b10)]) (fun t' k => XS.iinc X12.here hx rfl (hb hby own_dI_174) rfl rfl k) ?_
  refine own_gs 179 [(.int (0 : Int32)), (.int (0 : Int32)), (.ref b10)] (fun t' k => XS.iload X12.here hx rfl (hb hby own_dI_177) rfl  k) ?_
  refine X12.stI hx hZ e12 A_b10 g_b10 0 (by decide) (Nat.le_of_ble_eq_true rfl) (hb hby own_dI_179) ?_
  intro T13 h13 X13 e13 W13 A13
  replace A_b10 : own_A Z h13 .int b10 [(.int (0 : Int32)), (.int (0 : Int32))] := A13
  clear A13
  replace E_t := E_t.wr W13
  replace A_w := A_w.other W13 (Nat.ne_of_lt lt_w_b10)
  replace F_shift := F_shift.other W13 (Or.inl (Nat.ne_of_lt lt_t_b10))
  replace F_total := F_total.other W13 (Or.inl (Nat.ne_of_lt lt_t_b10))
  replace F_packed := F_packed.other W13 (Or.inl (Nat.ne_of_lt lt_t_b10))
  replace F_thresholds := F_thresholds.other W13 (Or.inl (Nat.ne_of_lt lt_t_b10))
  replace F_aliases := F_aliases.other W13 (Or.inl (Nat.ne_of_lt lt_t_b10))
  replace A_b3 := A_b3.other W13 (Nat.ne_of_lt lt_b3_b10)
  replace A_b4 := A_b4.other W13 (Nat.ne_of_lt lt_b4_b10)
  replace A_b8 := A_b8.other W13 (Nat.ne_of_lt lt_b8_b10)
  replace A_b9 := A_b9.other W13 (Nat.ne_of_lt lt_b9_b10)
  replace hn := Nat.le_trans hn (Keep.of_wr W13).1
  clear W13 X12 e12
  refine own_go (mkF m 183 #[rv t, rv w, iv (2 : Int32), rv b3, rv b4, jv (Int64.ofInt (A + B)), .second, rv b8, rv b9, rv b10, iv (0 : Int32), iv (1 : Int32), iv (1 : Int32), .unset] []) (fun t' k => XS.iinc X13.here hx rfl (hb hby own_dI_180) rfl rfl k) ?_
  refine own_gs 115 [] (fun t' k => XS.goto X13.here hx rfl (pc0 := 183) (pc' := 115) rfl (hb hby own_dI_183) (by decide) (by decide) k) ?_
  refine own_gs 117 [(.int (1 : Int32))] (fun t' k => XS.iload X13.here hx rfl (hb hby own_dI_115) rfl  k) ?_
  refine own_gs 118 [(.int (2 : Int32)), (.int (1 : Int32))] (fun t' k => XS.iloadN X13.here hx rfl (hb hby own_dI_117) rfl  k) ?_
  refine own_gs 121 [] (fun t' k => XS.icmpNo X13.here hx rfl (hb hby own_dI_118) rfl (tlt (by decide)).2.1 k) ?_
  refine own_gs 123 [(.ref b8)] (fun t' k => XS.aload X13.here hx rfl (hb hby own_dI_121) rfl rfl  k) ?_
  refine own_gs 125 [(.int (1 : Int32)), (.ref b8)] (fun t' k => XS.iload X13.here hx rfl (hb hby own_dI_123) rfl  k) ?_
  refine own_gs 127 [(.int (1 : Int32)), (.int (1 : Int32)), (.ref b8)] (fun t' k => XS.iload X13.here hx rfl (hb hby own_dI_125) rfl  k) ?_
  refine own_gs 128 [(.ref w), (.int (1 : Int32)), (.int (1 : Int32)), (.ref b8)] (fun t' k => XS.aloadN X13.here hx rfl (hb hby own_dI_127) rfl rfl  k) ?_
  refine X13.alen hx hZ e13 A_w (hb hby own_dI_128) ?_
  show own_G p e below s _ _ _ T13 (mkF m 129 #[rv t, rv w, iv (2 : Int32), rv b3, rv b4, jv (Int64.ofInt (A + B)), .second, rv b8, rv b9, rv b10, iv (0 : Int32), iv (1 : Int32), iv (1 : Int32), .unset] [(.int (2 : Int32)), (.int (1 : Int32)), (.int (1 : Int32)), (.ref b8)])
  refine own_gs 132 [(.int (1 : Int32)), (.ref b8)] (fun t' k => XS.icmpNo X13.here hx rfl (hb hby own_dI_129) rfl (tlt (by decide)).2.1 k) ?_
  refine own_gs 133 [(.ref w), (.int (1 : Int32)), (.ref b8)] (fun t' k => XS.aloadN X13.here hx rfl (hb hby own_dI_132) rfl rfl  k) ?_
  refine own_gs 135 [(.int (1 : Int32)), (.ref w), (.int (1 : Int32)), (.ref b8)] (fun t' k => XS.iload X13.here hx rfl (hb hby own_dI_133) rfl  k) ?_
  refine X13.ldJ hx hZ e13 A_w (v := (.long (Int64.ofInt (B)))) 1 (by decide) rfl (hb hby own_dI_135) ?_
  refine own_gs 137 [(.int (2 : Int32)), (.long (Int64.ofInt (B))), (.int (1 : Int32)), (.ref b8)] (fun t' k => XS.iloadN X13.here hx rfl (hb hby own_dI_136) rfl  k) ?_
  refine own_gs 138 [(.long (2 : Int64)), (.long (Int64.ofInt (B))), (.int (1 : Int32)), (.ref b8)] (fun t' k => XS.i2l X13.here hx rfl (hb hby own_dI_137) rfl k) ?_
  refine own_gs 139 [(.long ((Int64.ofInt (B)) * (2 : Int64))), (.int (1 : Int32)), (.ref b8)] (fun t' k => XS.lmul X13.here hx rfl (hb hby own_dI_138) rfl k) ?_
  rw [own_omul (z := 2 * B) (show (Int64.ofInt (B)) = (Int64.ofInt (B)) from rfl) (show (2 : Int64) = Int64.ofInt (2) from rfl) (by omega)]
  refine own_gs 143 [(.long (Int64.ofInt (2 * B))), (.int (1 : Int32)), (.ref b8)] (fun t' k => XS.goto X13.here hx rfl (pc0 := 139) (pc' := 143) rfl (hb hby own_dI_139) (by decide) (by decide) k) ?_
  refine X13.stJ hx hZ e13 A_b8 g_b8 1 (by decide) (Nat.le_of_ble_eq_true rfl) (hb hby own_dI_143) ?_
  intro T14 h14 X14 e14 W14 A14
  replace A_b8 : own_A Z h14 .long b8 [(.long (Int64.ofInt (2 * A))), (.long (Int64.ofInt (2 * B)))] := A14
  clear A14
  replace E_t := E_t.wr W14
  replace A_w := A_w.other W14 (Nat.ne_of_lt lt_w_b8)
  replace F_shift := F_shift.other W14 (Or.inl (Nat.ne_of_lt lt_t_b8))
  replace F_total := F_total.other W14 (Or.inl (Nat.ne_of_lt lt_t_b8))
  replace F_packed := F_packed.other W14 (Or.inl (Nat.ne_of_lt lt_t_b8))
  replace F_thresholds := F_thresholds.other W14 (Or.inl (Nat.ne_of_lt lt_t_b8))
  replace F_aliases := F_aliases.other W14 (Or.inl (Nat.ne_of_lt lt_t_b8))
  replace A_b3 := A_b3.other W14 (Nat.ne_of_lt lt_b3_b8)
  replace A_b4 := A_b4.other W14 (Nat.ne_of_lt lt_b4_b8)
  replace A_b9 := A_b9.other W14 (Ne.symm (Nat.ne_of_lt lt_b8_b9))
  replace A_b10 := A_b10.other W14 (Ne.symm (Nat.ne_of_lt lt_b8_b10))
  replace hn := Nat.le_trans hn (Keep.of_wr W14).1
  clear W14 X13 e13
  refine own_gs 146 [(.ref b8)] (fun t' k => XS.aload X14.here hx rfl (hb hby own_dI_144) rfl rfl  k) ?_
  refine own_gs 148 [(.int (1 : Int32)), (.ref b8)] (fun t' k => XS.iload X14.here hx rfl (hb hby own_dI_146) rfl  k) ?_
  refine X14.ldJ hx hZ e14 A_b8 (v := (.long (Int64.ofInt (2 * B)))) 1 (by decide) rfl (hb hby own_dI_148) ?_
  refine own_gs 150 [(.ref t), (.long (Int64.ofInt (2 * B)))] (fun t' k => XS.aloadN X14.here hx rfl (hb hby own_dI_149) rfl rfl  k) ?_
  refine X14.getF hx hZ hown (hw _ (List.mem_of_getElem? (i := 19) rfl)) e14 F_total (hb hby own_dI_150) ?_
  intro T15 X15 e15
  refine own_gs 154 [(.int (lcmpW (Int64.ofInt (2 * B)) (Int64.ofInt (A + B))))] (fun t' k => XS.lcmp X15.here hx rfl (hb hby own_dI_153) rfl k) ?_
  refine own_gs 170 [] (fun t' k => XS.ifYes X15.here hx rfl (pc0 := 154) (pc' := 170) rfl (hb hby own_dI_154) rfl ((if0 _ _).trans (flt (fun q => (own_onl (show (Int64.ofInt (2 * B)) = (Int64.ofInt (2 * B)) from rfl) (show (Int64.ofInt (A + B)) = (Int64.ofInt (A + B)) from rfl) (by omega) (by omega) (by omega)) ((lw_lt (Int64.ofInt (2 * B)) (Int64.ofInt (A + B))).mp q))).2.1) (by decide) (by decide) k) ?_
  refine own_gs 172 [(.ref b10)] (fun t' k => XS.aload X15.here hx rfl (hb hby own_dI_170) rfl rfl  k) ?_
  refine own_gs 174 [(.int (1 : Int32)), (.ref b10)] (fun t' k => XS.iload X15.here hx rfl (hb hby own_dI_172) rfl  k) ?_
  refine own_go (mkF m 177 #[rv t, rv w, iv (2 : Int32), rv b3, rv b4, jv (Int64.ofInt (A + B)), .second, rv b8, rv b9, rv b10, iv (0 : Int32), iv (2 : Int32), iv (1 : Int32), .unset] [(.int (1 : Int32)), (.ref b10)]) (fun t' k => XS.iinc X15.here hx rfl (hb hby own_dI_174) rfl rfl k) ?_
  refine own_gs 179 [(.int (1 : Int32)), (.int (1 : Int32)), (.ref b10)] (fun t' k => XS.iload X15.here hx rfl (hb hby own_dI_177) rfl  k) ?_
  refine X15.stI hx hZ e15 A_b10 g_b10 1 (by decide) (Nat.le_of_ble_eq_true rfl) (hb hby own_dI_179) ?_
  intro T16 h16 X16 e16 W16 A16
  replace A_b10 : own_A Z h16 .int b10 [(.int (0 : Int32)), (.int (1 : Int32))] := A16
  clear A16
  replace E_t := E_t.wr W16
  replace A_w := A_w.other W16 (Nat.ne_of_lt lt_w_b10)
  replace F_shift := F_shift.other W16 (Or.inl (Nat.ne_of_lt lt_t_b10))
  replace F_total := F_total.other W16 (Or.inl (Nat.ne_of_lt lt_t_b10))
  replace F_packed := F_packed.other W16 (Or.inl (Nat.ne_of_lt lt_t_b10))
  replace F_thresholds := F_thresholds.other W16 (Or.inl (Nat.ne_of_lt lt_t_b10))
  replace F_aliases := F_aliases.other W16 (Or.inl (Nat.ne_of_lt lt_t_b10))
  replace A_b3 := A_b3.other W16 (Nat.ne_of_lt lt_b3_b10)
  replace A_b4 := A_b4.other W16 (Nat.ne_of_lt lt_b4_b10)
  replace A_b8 := A_b8.other W16 (Nat.ne_of_lt lt_b8_b10)
  replace A_b9 := A_b9.other W16 (Nat.ne_of_lt lt_b9_b10)
  replace hn := Nat.le_trans hn (Keep.of_wr W16).1
  clear W16 X15 e15
  refine own_go (mkF m 183 #[rv t, rv w, iv (2 : Int32), rv b3, rv b4, jv (Int64.ofInt (A + B)), .second, rv b8, rv b9, rv b10, iv (0 : Int32), iv (2 : Int32), iv (2 : Int32), .unset] []) (fun t' k => XS.iinc X16.here hx rfl (hb hby own_dI_180) rfl rfl k) ?_
  refine own_gs 115 [] (fun t' k => XS.goto X16.here hx rfl (pc0 := 183) (pc' := 115) rfl (hb hby own_dI_183) (by decide) (by decide) k) ?_
  refine own_gs 117 [(.int (2 : Int32))] (fun t' k => XS.iload X16.here hx rfl (hb hby own_dI_115) rfl  k) ?_
  refine own_gs 118 [(.int (2 : Int32)), (.int (2 : Int32))] (fun t' k => XS.iloadN X16.here hx rfl (hb hby own_dI_117) rfl  k) ?_
  refine own_gs 186 [] (fun t' k => XS.icmpYes X16.here hx rfl (pc0 := 118) (pc' := 186) rfl (hb hby own_dI_118) rfl (flt (by decide)).2.1 (by decide) (by decide) k) ?_
  refine own_gs 188 [(.int (0 : Int32))] (fun t' k => XS.iload X16.here hx rfl (hb hby own_dI_186) rfl  k) ?_
  refine own_gs 278 [] (fun t' k => XS.ifYes X16.here hx rfl (pc0 := 188) (pc' := 278) rfl (hb hby own_dI_188) rfl ((if0 _ _).trans (flt (by decide)).2.2.2) (by decide) (by decide) k) ?_
  refine own_gs 280 [(.int (2 : Int32))] (fun t' k => XS.iload X16.here hx rfl (hb hby own_dI_278) rfl  k) ?_
  refine own_gs 283 [] (fun t' k => XS.ifNo X16.here hx rfl (hb hby own_dI_280) rfl ((if0 _ _).trans (tlt (by decide)).2.2.2) k) ?_
  refine own_gs 285 [(.ref b10)] (fun t' k => XS.aload X16.here hx rfl (hb hby own_dI_283) rfl rfl  k) ?_
  refine own_go (mkF m 288 #[rv t, rv w, iv (2 : Int32), rv b3, rv b4, jv (Int64.ofInt (A + B)), .second, rv b8, rv b9, rv b10, iv (0 : Int32), iv (1 : Int32), iv (2 : Int32), .unset] [(.ref b10)]) (fun t' k => XS.iinc X16.here hx rfl (hb hby own_dI_285) rfl rfl k) ?_
  refine own_gs 290 [(.int (1 : Int32)), (.ref b10)] (fun t' k => XS.iload X16.here hx rfl (hb hby own_dI_288) rfl  k) ?_
  refine X16.ldI hx hZ e16 A_b10 (v := (.int (1 : Int32))) 1 (by decide) rfl (hb hby own_dI_290) ?_
  refine own_go (mkF m 293 #[rv t, rv w, iv (2 : Int32), rv b3, rv b4, jv (Int64.ofInt (A + B)), .second, rv b8, rv b9, rv b10, iv (0 : Int32), iv (1 : Int32), iv (1 : Int32), .unset] []) (fun t' k => XS.istore X16.here hx rfl (hb hby own_dI_291) rfl rfl k) ?_
  refine own_gs 295 [(.ref b4)] (fun t' k => XS.aload X16.here hx rfl (hb hby own_dI_293) rfl rfl  k) ?_
  refine own_gs 297 [(.int (1 : Int32)), (.ref b4)] (fun t' k => XS.iload X16.here hx rfl (hb hby own_dI_295) rfl  k) ?_
  refine own_gs 299 [(.int (1 : Int32)), (.int (1 : Int32)), (.ref b4)] (fun t' k => XS.iload X16.here hx rfl (hb hby own_dI_297) rfl  k) ?_
  refine X16.stI hx hZ e16 A_b4 g_b4 1 (by decide) (Nat.le_of_ble_eq_true rfl) (hb hby own_dI_299) ?_
  intro T17 h17 X17 e17 W17 A17
  replace A_b4 : own_A Z h17 .int b4 [(.int (0 : Int32)), (.int (1 : Int32))] := A17
  clear A17
  replace E_t := E_t.wr W17
  replace A_w := A_w.other W17 (Nat.ne_of_lt lt_w_b4)
  replace F_shift := F_shift.other W17 (Or.inl (Nat.ne_of_lt lt_t_b4))
  replace F_total := F_total.other W17 (Or.inl (Nat.ne_of_lt lt_t_b4))
  replace F_packed := F_packed.other W17 (Or.inl (Nat.ne_of_lt lt_t_b4))
  replace F_thresholds := F_thresholds.other W17 (Or.inl (Nat.ne_of_lt lt_t_b4))
  replace F_aliases := F_aliases.other W17 (Or.inl (Nat.ne_of_lt lt_t_b4))
  replace A_b3 := A_b3.other W17 (Nat.ne_of_lt lt_b3_b4)
  replace A_b8 := A_b8.other W17 (Ne.symm (Nat.ne_of_lt lt_b4_b8))
  replace A_b9 := A_b9.other W17 (Ne.symm (Nat.ne_of_lt lt_b4_b9))
  replace A_b10 := A_b10.other W17 (Ne.symm (Nat.ne_of_lt lt_b4_b10))
  replace hn := Nat.le_trans hn (Keep.of_wr W17).1
  clear W17 X16 e16
  refine own_gs 278 [] (fun t' k => XS.goto X17.here hx rfl (pc0 := 300) (pc' := 278) rfl (hb hby own_dI_300) (by decide) (by decide) k) ?_
  refine own_gs 280 [(.int (1 : Int32))] (fun t' k => XS.iload X17.here hx rfl (hb hby own_dI_278) rfl  k) ?_
  refine own_gs 283 [] (fun t' k => XS.ifNo X17.here hx rfl (hb hby own_dI_280) rfl ((if0 _ _).trans (tlt (by decide)).2.2.2) k) ?_
  refine own_gs 285 [(.ref b10)] (fun t' k => XS.aload X17.here hx rfl (hb hby own_dI_283) rfl rfl  k) ?_
  refine own_go (mkF m 288 #[rv t, rv w, iv (2 : Int32), rv b3, rv b4, jv (Int64.ofInt (A + B)), .second, rv b8, rv b9, rv b10, iv (0 : Int32), iv (0 : Int32), iv (1 : Int32), .unset] [(.ref b10)]) (fun t' k => XS.iinc X17.here hx rfl (hb hby own_dI_285) rfl rfl k) ?_
  refine own_gs 290 [(.int (0 : Int32)), (.ref b10)] (fun t' k => XS.iload X17.here hx rfl (hb hby own_dI_288) rfl  k) ?_
  refine X17.ldI hx hZ e17 A_b10 (v := (.int (0 : Int32))) 0 (by decide) rfl (hb hby own_dI_290) ?_
  refine own_go (mkF m 293 #[rv t, rv w, iv (2 : Int32), rv b3, rv b4, jv (Int64.ofInt (A + B)), .second, rv b8, rv b9, rv b10, iv (0 : Int32), iv (0 : Int32), iv (0 : Int32), .unset] []) (fun t' k => XS.istore X17.here hx rfl (hb hby own_dI_291) rfl rfl k) ?_
  refine own_gs 295 [(.ref b4)] (fun t' k => XS.aload X17.here hx rfl (hb hby own_dI_293) rfl rfl  k) ?_
  refine own_gs 297 [(.int (0 : Int32)), (.ref b4)] (fun t' k => XS.iload X17.here hx rfl (hb hby own_dI_295) rfl  k) ?_
  refine own_gs 299 [(.int (0 : Int32)), (.int (0 : Int32)), (.ref b4)] (fun t' k => XS.iload X17.here hx rfl (hb hby own_dI_297) rfl  k) ?_
  refine X17.stI hx hZ e17 A_b4 g_b4 0 (by decide) (Nat.le_of_ble_eq_true rfl) (hb hby own_dI_299) ?_
  intro T18 h18 X18 e18 W18 A18
  replace A_b4 : own_A Z h18 .int b4 [(.int (0 : Int32)), (.int (1 : Int32))] := A18
  clear A18
  replace E_t := E_t.wr W18
  replace A_w := A_w.other W18 (Nat.ne_of_lt lt_w_b4)
  replace F_shift := F_shift.other W18 (Or.inl (Nat.ne_of_lt lt_t_b4))
  replace F_total := F_total.other W18 (Or.inl (Nat.ne_of_lt lt_t_b4))
  replace F_packed := F_packed.other W18 (Or.inl (Nat.ne_of_lt lt_t_b4))
  replace F_thresholds := F_thresholds.other W18 (Or.inl (Nat.ne_of_lt lt_t_b4))
  replace F_aliases := F_aliases.other W18 (Or.inl (Nat.ne_of_lt lt_t_b4))
  replace A_b3 := A_b3.other W18 (Nat.ne_of_lt lt_b3_b4)
  replace A_b8 := A_b8.other W18 (Ne.symm (Nat.ne_of_lt lt_b4_b8))
  replace A_b9 := A_b9.other W18 (Ne.symm (Nat.ne_of_lt lt_b4_b9))
  replace A_b10 := A_b10.other W18 (Ne.symm (Nat.ne_of_lt lt_b4_b10))
  replace hn := Nat.le_trans hn (Keep.of_wr W18).1
  clear W18 X17 e17
  refine own_gs 278 [] (fun t' k => XS.goto X18.here hx rfl (pc0 := 300) (pc' := 278) rfl (hb hby own_dI_300) (by decide) (by decide) k) ?_
  refine own_gs 280 [(.int (0 : Int32))] (fun t' k => XS.iload X18.here hx rfl (hb hby own_dI_278) rfl  k) ?_
  refine own_gs 303 [] (fun t' k => XS.ifYes X18.here hx rfl (pc0 := 280) (pc' := 303) rfl (hb hby own_dI_280) rfl ((if0 _ _).trans (flt (by decide)).2.2.2) (by decide) (by decide) k) ?_
  refine own_gs 304 [(.ref t)] (fun t' k => XS.aloadN X18.here hx rfl (hb hby own_dI_303) rfl rfl  k) ?_
  refine X18.getF hx hZ hown (hw _ (List.mem_of_getElem? (i := 19) rfl)) e18 F_total (hb hby own_dI_304) ?_
  intro T19 X19 e19
  refine own_gs 310 [(.long (8589934592 : Int64)), (.long (Int64.ofInt (A + B)))] (fun t' k => X19.ldc2Long hx hown (mvT hZ (hw _ (List.mem_of_getElem? (i := 21) rfl))) (g := (mkF m 307 #[rv t, rv w, iv (2 : Int32), rv b3, rv b4, jv (Int64.ofInt (A + B)), .second, rv b8, rv b9, rv b10, iv (0 : Int32), iv (0 : Int32), iv (0 : Int32), .unset] [(.long (Int64.ofInt (A + B)))])) rfl (hb hby own_dI_307) _ k) ?_
  refine own_gs 311 [(.int (lcmpW (Int64.ofInt (A + B)) (8589934592 : Int64)))] (fun t' k => XS.lcmp X19.here hx rfl (hb hby own_dI_310) rfl k) ?_
  refine own_gs 314 [] (fun t' k => XS.ifNo X19.here hx rfl (hb hby own_dI_311) rfl ((if0 _ _).trans (flt (fun q => (own_onl (show (8589934592 : Int64) = Int64.ofInt (8589934592) from rfl) (show (Int64.ofInt (A + B)) = (Int64.ofInt (A + B)) from rfl) (by omega) (by omega) (by omega)) ((lw_gt (Int64.ofInt (A + B)) (8589934592 : Int64)).mp q))).2.2.1) k) ?_
  refine own_gs 315 [(.ref t)] (fun t' k => XS.aloadN X19.here hx rfl (hb hby own_dI_314) rfl rfl  k) ?_
  refine own_gs 316 [(.int (2 : Int32)), (.ref t)] (fun t' k => XS.iloadN X19.here hx rfl (hb hby own_dI_315) rfl  k) ?_
  refine X19.newP hx hZ (hw _ (List.mem_of_getElem? (i := 2) rfl)) e19 2 (by decide) (hb hby own_dI_316) 2 (by decide) (by decide) (by decide) (by decide) ?_
  intro T20 h20 b20 X20 e20 q20 xt20 A_b20
  have g_b20 : n0 ≤ b20 := by rw [q20]; exact hn
  have lt_t_b20 : t < b20 := by rw [q20]; exact E_t.lt
  have lt_w_b20 : w < b20 := by rw [q20]; exact A_w.lt
  have lt_b3_b20 : b3 < b20 := by rw [q20]; exact A_b3.lt
  have lt_b4_b20 : b4 < b20 := by rw [q20]; exact A_b4.lt
  have lt_b8_b20 : b8 < b20 := by rw [q20]; exact A_b8.lt
  have lt_b9_b20 : b9 < b20 := by rw [q20]; exact A_b9.lt
  have lt_b10_b20 : b10 < b20 := by rw [q20]; exact A_b10.lt
  replace E_t := E_t.ext xt20
  replace A_w := A_w.ext xt20
  replace F_shift := F_shift.ext xt20
  replace F_total := F_total.ext xt20
  replace F_packed := F_packed.ext xt20
  replace F_thresholds := F_thresholds.ext xt20
  replace F_aliases := F_aliases.ext xt20
  replace A_b3 := A_b3.ext xt20
  replace A_b4 := A_b4.ext xt20
  replace A_b8 := A_b8.ext xt20
  replace A_b9 := A_b9.ext xt20
  replace A_b10 := A_b10.ext xt20
  replace hn := Nat.le_trans hn xt20.1
  replace A_b20 : own_A Z h20 .long b20 [(.long (0 : Int64)), (.long (0 : Int64))] := A_b20
  refine X20.putF hx hZ hown (hw _ (List.mem_of_getElem? (i := 22) rfl)) e20 F_packed E_t g_t (Or.inr ⟨(hw _ (List.mem_of_getElem? (i := 23) rfl)), rfl, hnm⟩) (hw _ (List.mem_of_getElem? (i := 4) rfl)) (ty := (.array .long)) (by decide) rfl rfl (hb hby own_dI_318) ?_
  intro T21 h21 X21 e21 W21
  replace E_t := E_t.wr W21
  replace A_w := A_w.other W21 (Ne.symm ne_t_w)
  replace F_shift := F_shift.other W21 (Or.inr (own_sn_AliasTable_shift_packed hw))
  replace F_total := F_total.other W21 (Or.inr (own_sn_AliasTable_total_packed hw))
  replace F_packed := F_packed.same W21
  replace F_thresholds := F_thresholds.other W21 (Or.inr (own_sn_AliasTable_thresholds_packed hw))
  replace F_aliases := F_aliases.other W21 (Or.inr (own_sn_AliasTable_aliases_packed hw))
  replace A_b3 := A_b3.other W21 (Ne.symm (Nat.ne_of_lt lt_t_b3))
  replace A_b4 := A_b4.other W21 (Ne.symm (Nat.ne_of_lt lt_t_b4))
  replace A_b8 := A_b8.other W21 (Ne.symm (Nat.ne_of_lt lt_t_b8))
  replace A_b9 := A_b9.other W21 (Ne.symm (Nat.ne_of_lt lt_t_b9))
  replace A_b10 := A_b10.other W21 (Ne.symm (Nat.ne_of_lt lt_t_b10))
  replace A_b20 := A_b20.other W21 (Ne.symm (Nat.ne_of_lt lt_t_b20))
  replace hn := Nat.le_trans hn (Keep.of_wr W21).1
  clear W21 X20 e20
  refine own_gs 322 [(.int (0 : Int32))] (fun t' k => XS.iconst X21.here hx rfl (hb hby own_dI_321) k) ?_
  refine own_gs 324 [] (fun t' k => XS.istore X21.here hx rfl (hb hby own_dI_322) rfl rfl k) ?_
  refine own_gs 326 [(.int (0 : Int32))] (fun t' k => XS.iload X21.here hx rfl (hb hby own_dI_324) rfl  k) ?_
  refine own_gs 327 [(.int (2 : Int32)), (.int (0 : Int32))] (fun t' k => XS.iloadN X21.here hx rfl (hb hby own_dI_326) rfl  k) ?_
  refine own_gs 330 [] (fun t' k => XS.icmpNo X21.here hx rfl (hb hby own_dI_327) rfl (tlt (by decide)).2.1 k) ?_
  refine own_gs 331 [(.ref t)] (fun t' k => XS.aloadN X21.here hx rfl (hb hby own_dI_330) rfl rfl  k) ?_
  refine X21.getF hx hZ hown (hw _ (List.mem_of_getElem? (i := 22) rfl)) e21 F_packed (hb hby own_dI_331) ?_
  intro T22 X22 e22
  refine own_gs 336 [(.int (0 : Int32)), (.ref b20)] (fun t' k => XS.iload X22.here hx rfl (hb hby own_dI_334) rfl  k) ?_
  refine own_gs 337 [(.ref b3), (.int (0 : Int32)), (.ref b20)] (fun t' k => XS.aloadN X22.here hx rfl (hb hby own_dI_336) rfl rfl  k) ?_
  refine own_gs 339 [(.int (0 : Int32)), (.ref b3), (.int (0 : Int32)), (.ref b20)] (fun t' k => XS.iload X22.here hx rfl (hb hby own_dI_337) rfl  k) ?_
  refine X22.ldJ hx hZ e22 A_b3 (v := (.long (0 : Int64))) 0 (by decide) rfl (hb hby own_dI_339) ?_
  refine own_gs 342 [(.int (31 : Int32)), (.long (0 : Int64)), (.int (0 : Int32)), (.ref b20)] (fun t' k => XS.bipush X22.here hx rfl (hb hby own_dI_340) k) ?_
  refine own_gs 343 [(.long (0 : Int64)), (.int (0 : Int32)), (.ref b20)] (fun t' k => XS.lshl X22.here hx rfl (hb hby own_dI_342) rfl k) ?_
  refine own_gs 345 [(.ref b4), (.long (0 : Int64)), (.int (0 : Int32)), (.ref b20)] (fun t' k => XS.aload X22.here hx rfl (hb hby own_dI_343) rfl rfl  k) ?_
  refine own_gs 347 [(.int (0 : Int32)), (.ref b4), (.long (0 : Int64)), (.int (0 : Int32)), (.ref b20)] (fun t' k => XS.iload X22.here hx rfl (hb hby own_dI_345) rfl  k) ?_
  refine X22.ldI hx hZ e22 A_b4 (v := (.int (0 : Int32))) 0 (by decide) rfl (hb hby own_dI_347) ?_
  refine own_gs 349 [(.long (0 : Int64)), (.long (0 : Int64)), (.int (0 : Int32)), (.ref b20)] (fun t' k => XS.i2l X22.here hx rfl (hb hby own_dI_348) rfl k) ?_
  refine own_gs 350 [(.long (0 : Int64)), (.int (0 : Int32)), (.ref b20)] (fun t' k => XS.lor X22.here hx rfl (hb hby own_dI_349) rfl k) ?_
  refine X22.stJ hx hZ e22 A_b20 g_b20 0 (by decide) (Nat.le_of_ble_eq_true rfl) (hb hby own_dI_350) ?_
  intro T23 h23 X23 e23 W23 A23
  replace A_b20 : own_A Z h23 .long b20 [(.long (0 : Int64)), (.long (0 : Int64))] := A23
  clear A23
  replace E_t := E_t.wr W23
  replace A_w := A_w.other W23 (Nat.ne_of_lt lt_w_b20)
  replace F_shift := F_shift.other W23 (Or.inl (Nat.ne_of_lt lt_t_b20))
  replace F_total := F_total.other W23 (Or.inl (Nat.ne_of_lt lt_t_b20))
  replace F_packed := F_packed.other W23 (Or.inl (Nat.ne_of_lt lt_t_b20))
  replace F_thresholds := F_thresholds.other W23 (Or.inl (Nat.ne_of_lt lt_t_b20))
  replace F_aliases := F_aliases.other W23 (Or.inl (Nat.ne_of_lt lt_t_b20))
  replace A_b3 := A_b3.other W23 (Nat.ne_of_lt lt_b3_b20)
  replace A_b4 := A_b4.other W23 (Nat.ne_of_lt lt_b4_b20)
  replace A_b8 := A_b8.other W23 (Nat.ne_of_lt lt_b8_b20)
  replace A_b9 := A_b9.other W23 (Nat.ne_of_lt lt_b9_b20)
  replace A_b10 := A_b10.other W23 (Nat.ne_of_lt lt_b10_b20)
  replace hn := Nat.le_trans hn (Keep.of_wr W23).1
  clear W23 X22 e22
  refine own_go (mkF m 354 #[rv t, rv w, iv (2 : Int32), rv b3, rv b4, jv (Int64.ofInt (A + B)), .second, rv b8, rv b9, rv b10, iv (0 : Int32), iv (0 : Int32), iv (1 : Int32), .unset] []) (fun t' k => XS.iinc X23.here hx rfl (hb hby own_dI_351) rfl rfl k) ?_
  refine own_gs 324 [] (fun t' k => XS.goto X23.here hx rfl (pc0 := 354) (pc' := 324) rfl (hb hby own_dI_354) (by decide) (by decide) k) ?_
  refine own_gs 326 [(.int (1 : Int32))] (fun t' k => XS.iload X23.here hx rfl (hb hby own_dI_324) rfl  k) ?_
  refine own_gs 327 [(.int (2 : Int32)), (.int (1 : Int32))] (fun t' k => XS.iloadN X23.here hx rfl (hb hby own_dI_326) rfl  k) ?_
  refine own_gs 330 [] (fun t' k => XS.icmpNo X23.here hx rfl (hb hby own_dI_327) rfl (tlt (by decide)).2.1 k) ?_
  refine own_gs 331 [(.ref t)] (fun t' k => XS.aloadN X23.here hx rfl (hb hby own_dI_330) rfl rfl  k) ?_
  refine X23.getF hx hZ hown (hw _ (List.mem_of_getElem? (i := 22) rfl)) e23 F_packed (hb hby own_dI_331) ?_
  intro T24 X24 e24
  refine own_gs 336 [(.int (1 : Int32)), (.ref b20)] (fun t' k => XS.iload X24.here hx rfl (hb hby own_dI_334) rfl  k) ?_
  refine own_gs 337 [(.ref b3), (.int (1 : Int32)), (.ref b20)] (fun t' k => XS.aloadN X24.here hx rfl (hb hby own_dI_336) rfl rfl  k) ?_
  refine own_gs 339 [(.int (1 : Int32)), (.ref b3), (.int (1 : Int32)), (.ref b20)] (fun t' k => XS.iload X24.here hx rfl (hb hby own_dI_337) rfl  k) ?_
  refine X24.ldJ hx hZ e24 A_b3 (v := (.long (0 : Int64))) 1 (by decide) rfl (hb hby own_dI_339) ?_
  refine own_gs 342 [(.int (31 : Int32)), (.long (0 : Int64)), (.int (1 : Int32)), (.ref b20)] (fun t' k => XS.bipush X24.here hx rfl (hb hby own_dI_340) k) ?_
  refine own_gs 343 [(.long (0 : Int64)), (.int (1 : Int32)), (.ref b20)] (fun t' k => XS.lshl X24.here hx rfl (hb hby own_dI_342) rfl k) ?_
  refine own_gs 345 [(.ref b4), (.long (0 : Int64)), (.int (1 : Int32)), (.ref b20)] (fun t' k => XS.aload X24.here hx rfl (hb hby own_dI_343) rfl rfl  k) ?_
  refine own_gs 347 [(.int (1 : Int32)), (.ref b4), (.long (0 : Int64)), (.int (1 : Int32)), (.ref b20)] (fun t' k => XS.iload X24.here hx rfl (hb hby own_dI_345) rfl  k) ?_
  refine X24.ldI hx hZ e24 A_b4 (v := (.int (1 : Int32))) 1 (by decide) rfl (hb hby own_dI_347) ?_
  refine own_gs 349 [(.long (1 : Int64)), (.long (0 : Int64)), (.int (1 : Int32)), (.ref b20)] (fun t' k => XS.i2l X24.here hx rfl (hb hby own_dI_348) rfl k) ?_
  refine own_gs 350 [(.long (1 : Int64)), (.int (1 : Int32)), (.ref b20)] (fun t' k => XS.lor X24.here hx rfl (hb hby own_dI_349) rfl k) ?_
  refine X24.stJ hx hZ e24 A_b20 g_b20 1 (by decide) (Nat.le_of_ble_eq_true rfl) (hb hby own_dI_350) ?_
  intro T25 h25 X25 e25 W25 A25
  replace A_b20 : own_A Z h25 .long b20 [(.long (0 : Int64)), (.long (1 : Int64))] := A25
  clear A25
  replace E_t := E_t.wr W25
  replace A_w := A_w.other W25 (Nat.ne_of_lt lt_w_b20)
  replace F_shift := F_shift.other W25 (Or.inl (Nat.ne_of_lt lt_t_b20))
  replace F_total := F_total.other W25 (Or.inl (Nat.ne_of_lt lt_t_b20))
  replace F_packed := F_packed.other W25 (Or.inl (Nat.ne_of_lt lt_t_b20))
  replace F_thresholds := F_thresholds.other W25 (Or.inl (Nat.ne_of_lt lt_t_b20))
  replace F_aliases := F_aliases.other W25 (Or.inl (Nat.ne_of_lt lt_t_b20))
  replace A_b3 := A_b3.other W25 (Nat.ne_of_lt lt_b3_b20)
  replace A_b4 := A_b4.other W25 (Nat.ne_of_lt lt_b4_b20)
  replace A_b8 := A_b8.other W25 (Nat.ne_of_lt lt_b8_b20)
  replace A_b9 := A_b9.other W25 (Nat.ne_of_lt lt_b9_b20)
  replace A_b10 := A_b10.other W25 (Nat.ne_of_lt lt_b10_b20)
  replace hn := Nat.le_trans hn (Keep.of_wr W25).1
  clear W25 X24 e24
  refine own_go (mkF m 354 #[rv t, rv w, iv (2 : Int32), rv b3, rv b4, jv (Int64.ofInt (A + B)), .second, rv b8, rv b9, rv b10, iv (0 : Int32), iv (0 : Int32), iv (2 : Int32), .unset] []) (fun t' k => XS.iinc X25.here hx rfl (hb hby own_dI_351) rfl rfl k) ?_
  refine own_gs 324 [] (fun t' k => XS.goto X25.here hx rfl (pc0 := 354) (pc' := 324) rfl (hb hby own_dI_354) (by decide) (by decide) k) ?_
  refine own_gs 326 [(.int (2 : Int32))] (fun t' k => XS.iload X25.here hx rfl (hb hby own_dI_324) rfl  k) ?_
  refine own_gs 327 [(.int (2 : Int32)), (.int (2 : Int32))] (fun t' k => XS.iloadN X25.here hx rfl (hb hby own_dI_326) rfl  k) ?_
  refine own_gs 357 [] (fun t' k => XS.icmpYes X25.here hx rfl (pc0 := 327) (pc' := 357) rfl (hb hby own_dI_327) rfl (flt (by decide)).2.1 (by decide) (by decide) k) ?_
  refine own_gs 358 [(.ref t)] (fun t' k => XS.aloadN X25.here hx rfl (hb hby own_dI_357) rfl rfl  k) ?_
  refine own_gs 359 [.null, (.ref t)] (fun t' k => XS.aconstNull X25.here hx rfl (hb hby own_dI_358) k) ?_
  refine X25.putF hx hZ hown (hw _ (List.mem_of_getElem? (i := 24) rfl)) e25 F_thresholds E_t g_t (Or.inr ⟨(hw _ (List.mem_of_getElem? (i := 25) rfl)), rfl, hnm⟩) (hw _ (List.mem_of_getElem? (i := 4) rfl)) (ty := (.array .long)) (by decide) rfl rfl (hb hby own_dI_359) ?_
  intro T26 h26 X26 e26 W26
  replace E_t := E_t.wr W26
  replace A_w := A_w.other W26 (Ne.symm ne_t_w)
  replace F_shift := F_shift.other W26 (Or.inr (own_sn_AliasTable_shift_thresholds hw))
  replace F_total := F_total.other W26 (Or.inr (own_sn_AliasTable_total_thresholds hw))
  replace F_packed := F_packed.other W26 (Or.inr (own_sn_AliasTable_packed_thresholds hw))
  replace F_thresholds := F_thresholds.same W26
  replace F_aliases := F_aliases.other W26 (Or.inr (own_sn_AliasTable_aliases_thresholds hw))
  replace A_b3 := A_b3.other W26 (Ne.symm (Nat.ne_of_lt lt_t_b3))
  replace A_b4 := A_b4.other W26 (Ne.symm (Nat.ne_of_lt lt_t_b4))
  replace A_b8 := A_b8.other W26 (Ne.symm (Nat.ne_of_lt lt_t_b8))
  replace A_b9 := A_b9.other W26 (Ne.symm (Nat.ne_of_lt lt_t_b9))
  replace A_b10 := A_b10.other W26 (Ne.symm (Nat.ne_of_lt lt_t_b10))
  replace A_b20 := A_b20.other W26 (Ne.symm (Nat.ne_of_lt lt_t_b20))
  replace hn := Nat.le_trans hn (Keep.of_wr W26).1
  clear W26 X25 e25
  refine own_gs 363 [(.ref t)] (fun t' k => XS.aloadN X26.here hx rfl (hb hby own_dI_362) rfl rfl  k) ?_
  refine own_gs 364 [.null, (.ref t)] (fun t' k => XS.aconstNull X26.here hx rfl (hb hby own_dI_363) k) ?_
  refine X26.putF hx hZ hown (hw _ (List.mem_of_getElem? (i := 26) rfl)) e26 F_aliases E_t g_t (Or.inr ⟨(hw _ (List.mem_of_getElem? (i := 27) rfl)), rfl, hnm⟩) (hw _ (List.mem_of_getElem? (i := 4) rfl)) (ty := (.array .int)) (by decide) rfl rfl (hb hby own_dI_364) ?_
  intro T27 h27 X27 e27 W27
  replace E_t := E_t.wr W27
  replace A_w := A_w.other W27 (Ne.symm ne_t_w)
  replace F_shift := F_shift.other W27 (Or.inr (own_sn_AliasTable_shift_aliases hw))
  replace F_total := F_total.other W27 (Or.inr (own_sn_AliasTable_total_aliases hw))
  replace F_packed := F_packed.other W27 (Or.inr (own_sn_AliasTable_packed_aliases hw))
  replace F_thresholds := F_thresholds.other W27 (Or.inr (own_sn_AliasTable_thresholds_aliases hw))
  replace F_aliases := F_aliases.same W27
  replace A_b3 := A_b3.other W27 (Ne.symm (Nat.ne_of_lt lt_t_b3))
  replace A_b4 := A_b4.other W27 (Ne.symm (Nat.ne_of_lt lt_t_b4))
  replace A_b8 := A_b8.other W27 (Ne.symm (Nat.ne_of_lt lt_t_b8))
  replace A_b9 := A_b9.other W27 (Ne.symm (Nat.ne_of_lt lt_t_b9))
  replace A_b10 := A_b10.other W27 (Ne.symm (Nat.ne_of_lt lt_t_b10))
  replace A_b20 := A_b20.other W27 (Ne.symm (Nat.ne_of_lt lt_t_b20))
  replace hn := Nat.le_trans hn (Keep.of_wr W27).1
  clear W27 X26 e26
  refine own_gs 386 [] (fun t' k => XS.goto X27.here hx rfl (pc0 := 367) (pc' := 386) rfl (hb hby own_dI_367) (by decide) (by decide) k) ?_
  refine X27.retV hx hlk hret (hb hby own_dI_386) ?_ (by decide) (by decide)
  rw [e27]
  exact ⟨rfl, hn, E_t, ⟨_, F_packed, A_b20⟩⟩

theorem own_dI_157 : decode prog_10_method_1_code 157 = .ok (.aload 8, 2) := by decide +kernel
theorem own_dI_159 : decode prog_10_method_1_code 159 = .ok (.iload 10, 2) := by decide +kernel
theorem own_dI_161 : decode prog_10_method_1_code 161 = .ok (.iinc 10 1, 3) := by decide +kernel
theorem own_dI_164 : decode prog_10_method_1_code 164 = .ok (.iload 12, 2) := by decide +kernel
theorem own_dI_166 : decode prog_10_method_1_code 166 = .ok (.iastore, 1) := by decide +kernel
theorem own_dI_167 : decode prog_10_method_1_code 167 = .ok (.goto 13, 3) := by decide +kernel
theorem own_dI_191 : decode prog_10_method_1_code 191 = .ok (.iload 11, 2) := by decide +kernel
theorem own_dI_193 : decode prog_10_method_1_code 193 = .ok (.ifCond .le 85, 3) := by decide +kernel
theorem own_dI_196 : decode prog_10_method_1_code 196 = .ok (.aload 8, 2) := by decide +kernel
theorem own_dI_198 : decode prog_10_method_1_code 198 = .ok (.iinc 10 (-1), 3) := by decide +kernel
theorem own_dI_201 : decode prog_10_method_1_code 201 = .ok (.iload 10, 2) := by decide +kernel
theorem own_dI_203 : decode prog_10_method_1_code 203 = .ok (.iaload, 1) := by decide +kernel
theorem own_dI_204 : decode prog_10_method_1_code 204 = .ok (.istore 12, 2) := by decide +kernel
theorem own_dI_206 : decode prog_10_method_1_code 206 = .ok (.aload 9, 2) := by decide +kernel
theorem own_dI_208 : decode prog_10_method_1_code 208 = .ok (.iload 11, 2) := by decide +kernel
theorem own_dI_210 : decode prog_10_method_1_code 210 = .ok (.iconst 1, 1) := by decide +kernel
theorem own_dI_211 : decode prog_10_method_1_code 211 = .ok (.isub, 1) := by decide +kernel
theorem own_dI_212 : decode prog_10_method_1_code 212 = .ok (.iaload, 1) := by decide +kernel
theorem own_dI_213 : decode prog_10_method_1_code 213 = .ok (.istore 13, 2) := by decide +kernel
theorem own_dI_215 : decode prog_10_method_1_code 215 = .ok (.aload_n 3, 1) := by decide +kernel
theorem own_dI_216 : decode prog_10_method_1_code 216 = .ok (.iload 12, 2) := by decide +kernel
theorem own_dI_218 : decode prog_10_method_1_code 218 = .ok (.aload 7, 2) := by decide +kernel
theorem own_dI_220 : decode prog_10_method_1_code 220 = .ok (.iload 12, 2) := by decide +kernel
theorem own_dI_222 : decode prog_10_method_1_code 222 = .ok (.laload, 1) := by decide +kernel
theorem own_dI_223 : decode prog_10_method_1_code 223 = .ok (.lastore, 1) := by decide +kernel
theorem own_dI_224 : decode prog_10_method_1_code 224 = .ok (.aload 4, 2) := by decide +kernel
theorem own_dI_226 : decode prog_10_method_1_code 226 = .ok (.iload 12, 2) := by decide +kernel
theorem own_dI_228 : decode prog_10_method_1_code 228 = .ok (.iload 13, 2) := by decide +kernel
theorem own_dI_230 : decode prog_10_method_1_code 230 = .ok (.iastore, 1) := by decide +kernel
theorem own_dI_231 : decode prog_10_method_1_code 231 = .ok (.aload 7, 2) := by decide +kernel
theorem own_dI_233 : decode prog_10_method_1_code 233 = .ok (.iload 13, 2) := by decide +kernel
theorem own_dI_235 : decode prog_10_method_1_code 235 = .ok (.dup2, 1) := by decide +kernel
theorem own_dI_236 : decode prog_10_method_1_code 236 = .ok (.laload, 1) := by decide +kernel
theorem own_dI_237 : decode prog_10_method_1_code 237 = .ok (.aload_n 0, 1) := by decide +kernel
theorem own_dI_238 : decode prog_10_method_1_code 238 = .ok (.getfield 24, 3) := by decide +kernel
theorem own_dI_241 : decode prog_10_method_1_code 241 = .ok (.aload 7, 2) := by decide +kernel
theorem own_dI_243 : decode prog_10_method_1_code 243 = .ok (.iload 12, 2) := by decide +kernel
theorem own_dI_245 : decode prog_10_method_1_code 245 = .ok (.laload, 1) := by decide +kernel
theorem own_dI_246 : decode prog_10_method_1_code 246 = .ok (.lsub, 1) := by decide +kernel
theorem own_dI_247 : decode prog_10_method_1_code 247 = .ok (.lsub, 1) := by decide +kernel
theorem own_dI_248 : decode prog_10_method_1_code 248 = .ok (.lastore, 1) := by decide +kernel
theorem own_dI_249 : decode prog_10_method_1_code 249 = .ok (.aload 7, 2) := by decide +kernel
theorem own_dI_251 : decode prog_10_method_1_code 251 = .ok (.iload 13, 2) := by decide +kernel
theorem own_dI_253 : decode prog_10_method_1_code 253 = .ok (.laload, 1) := by decide +kernel
theorem own_dI_254 : decode prog_10_method_1_code 254 = .ok (.aload_n 0, 1) := by decide +kernel
theorem own_dI_255 : decode prog_10_method_1_code 255 = .ok (.getfield 24, 3) := by decide +kernel
theorem own_dI_258 : decode prog_10_method_1_code 258 = .ok (.lcmp, 1) := by decide +kernel
theorem own_dI_259 : decode prog_10_method_1_code 259 = .ok (.ifCond .ge 16, 3) := by decide +kernel
theorem own_dI_275 : decode prog_10_method_1_code 275 = .ok (.goto (-89), 3) := by decide +kernel
theorem own_pn_own_rmI2l : plainFor (⟨"com/example/load_across_peers/loadacrosspeers/internal/pick/AliasTable", "<init>", "([J)V"⟩ : MethodName) = true := plainFor_of_name (show plainName "com/example/load_across_peers/loadacrosspeers/internal/pick/AliasTable" = true by first | (simp [plainName, overriddenIn]; done) | decide +kernel)
set_option maxRecDepth 65536 in
set_option maxHeartbeats 40000000 in
theorem own_rmI2l (l : Launch) (Z : State) (a0 : Array Value) (hw : ∀ d ∈ tables_1, d.before a0 Z = true) (ws : List Jvm.Cond) (h0 : Heap) (n0 : Nat) (Z0 : n0 ≤ h0.size) (t w : Addr) (g_t : n0 ≤ t) (ne_t_w : t ≠ w) (A B : Int) (hA0 : 0 ≤ A) (hA2 : A ≤ 2147483647) (hB0 : 0 ≤ B) (hB2 : B ≤ 2147483647) (hab : A < B) (E_t : Exa Z h0 t "com/example/load_across_peers/loadacrosspeers/internal/pick/AliasTable") (A_w : own_A Z h0 .long w [(.long (Int64.ofInt (A))), (.long (Int64.ofInt (B)))]) (F_shift : Fld Z h0 t "com/example/load_across_peers/loadacrosspeers/internal/pick/AliasTable" "shift" "I" (.int (0 : Int32))) (F_total : Fld Z h0 t "com/example/load_across_peers/loadacrosspeers/internal/pick/AliasTable" "total" "J" (.long (0 : Int64))) (F_packed : Fld Z h0 t "com/example/load_across_peers/loadacrosspeers/internal/pick/AliasTable" "packed" "[J" .null) (F_thresholds : Fld Z h0 t "com/example/load_across_peers/loadacrosspeers/internal/pick/AliasTable" "thresholds" "[J" .null) (F_aliases : Fld Z h0 t "com/example/load_across_peers/loadacrosspeers/internal/pick/AliasTable" "aliases" "[I" .null)  :
    own_C l Z (⟨"com/example/load_across_peers/loadacrosspeers/internal/pick/AliasTable", "<init>", "([J)V"⟩ : MethodName) prog_10_method_1_code 14 none ws ({ frames := 2, cells := 6, slots := 12, locals := 27 } : Room) #[(.ref t), (.ref w)] h0 (own_Q n0 (fun v h => v = none ∧ n0 ≤ h.size ∧ Exa Z h t "com/example/load_across_peers/loadacrosspeers/internal/pick/AliasTable" ∧ ∃ b, Fld Z h t "com/example/load_across_peers/loadacrosspeers/internal/pick/AliasTable" "packed" "[J" (.ref b) ∧ own_A Z h .long b [(.long (own_pw (Int64.ofInt (2 * A)) (1 : Int64))), (.long (own_pw (0 : Int64) (1 : Int64)))])) := by
  refine own_met own_pn_own_rmI2l #[rv t, rv w, .unset, .unset, .unset, .unset, .unset, .unset, .unset, .unset, .unset, .unset, .unset, .unset] (fun m => by first | (simp [entryFrame, mkF, argsToLocals, Value.category]; done) | rfl) ?_
  intro p e s m below meth c s₁ hx hby hml hown hret hlk hZ hnm X0 e0
  replace X0 := own_S.of X0 (n0)
  have hn : n0 ≤ h0.size := Z0
  refine own_gs 1 [(.ref t)] (fun t' k => XS.aloadN X0.here hx rfl (hb hby own_dI_0) rfl rfl  k) ?_
  refine X0.initO hx hZ hown (hw _ (List.mem_of_getElem? (i := 9) rfl)) (hw _ (List.mem_of_getElem? (i := 10) rfl)) (hw _ (List.mem_of_getElem? (i := 11) rfl)) e0 (by rw [hml]; rfl) (hb hby own_dI_1) (by decide) 0 (Nat.le_of_eq rfl) (by decide) ?_
  intro T1 X1 e1
  refine own_gs 5 [(.ref w)] (fun t' k => XS.aloadN X1.here hx rfl (hb hby own_dI_4) rfl rfl  k) ?_
  refine X1.alen hx hZ e1 A_w (hb hby own_dI_5) ?_
  show own_G p e below s _ _ _ T1 (mkF m 6 #[rv t, rv w, .unset, .unset, .unset, .unset, .unset, .unset, .unset, .unset, .unset, .unset, .unset, .unset] [(.int (2 : Int32))])
  refine own_gs 7 [(.int (1 : Int32)), (.int (2 : Int32))] (fun t' k => XS.iconst X1.here hx rfl (hb hby own_dI_6) k) ?_
  refine own_gs 14 [] (fun t' k => XS.icmpYes X1.here hx rfl (pc0 := 7) (pc' := 14) rfl (hb hby own_dI_7) rfl (tlt (by decide)).2.2.1 (by decide) (by decide) k) ?_
  refine own_gs 15 [(.ref w)] (fun t' k => XS.aloadN X1.here hx rfl (hb hby own_dI_14) rfl rfl  k) ?_
  refine X1.alen hx hZ e1 A_w (hb hby own_dI_15) ?_
  show own_G p e below s _ _ _ T1 (mkF m 16 #[rv t, rv w, .unset, .unset, .unset, .unset, .unset, .unset, .unset, .unset, .unset, .unset, .unset, .unset] [(.int (2 : Int32))])
  refine own_gs 17 [(.int (1 : Int32)), (.int (2 : Int32))] (fun t' k => XS.iconst X1.here hx rfl (hb hby own_dI_16) k) ?_
  refine own_gs 18 [(.int (1 : Int32))] (fun t' k => XS.isub X1.here hx rfl (hb hby own_dI_17) rfl k) ?_
  refine X1.callP hx hZ (y := (⟨"java/lang/Integer", "highestOneBit", "(I)I"⟩ : MethodName)) (fr := 1) (lo := 15) (r := (.int (1 : Int32))) hown (hw _ (List.mem_of_getElem? (i := 38) rfl)) (hw _ (List.mem_of_getElem? (i := 39) rfl)) (hw _ (List.mem_of_getElem? (i := 15) rfl)) (hw _ (List.mem_of_getElem? (i := 40) rfl)) (by decide) e1 [(.int (1 : Int32))] [] (own_hob1 l Z a0 hw [] h0 ) 0 (by decide) (by decide) (Nat.le_of_eq rfl) (by decide) (by decide) (by rw [hml]; rfl) (lenOf own_pd0 rfl) rfl (hb hby own_dI_18) ?_
  intro T2 X2 e2
  refine own_gs 22 [(.int (1 : Int32)), (.int (1 : Int32))] (fun t' k => XS.iconst X2.here hx rfl (hb hby own_dI_21) k) ?_
  refine own_gs 23 [(.int (2 : Int32))] (fun t' k => XS.ishl X2.here hx rfl (hb hby own_dI_22) rfl k) ?_
  refine own_go (mkF m 24 #[rv t, rv w, iv (2 : Int32), .unset, .unset, .unset, .unset, .unset, .unset, .unset, .unset, .unset, .unset, .unset] []) (fun t' k => XS.istoreN X2.here hx rfl (hb hby own_dI_23) rfl rfl k) ?_
  refine own_gs 25 [(.int (2 : Int32))] (fun t' k => XS.iloadN X2.here hx rfl (hb hby own_dI_24) rfl  k) ?_
  refine X2.newP hx hZ (hw _ (List.mem_of_getElem? (i := 2) rfl)) e2 2 (by decide) (hb hby own_dI_25) 2 (by decide) (by decide) (by decide) (by decide) ?_
  intro T3 h3 b3 X3 e3 q3 xt3 A_b3
  have g_b3 : n0 ≤ b3 := by rw [q3]; exact hn
  have lt_t_b3 : t < b3 := by rw [q3]; exact E_t.lt
  have lt_w_b3 : w < b3 := by rw [q3]; exact A_w.lt
  replace E_t := E_t.ext xt3
  replace A_w := A_w.ext xt3
  replace F_shift := F_shift.ext xt3
  replace F_total := F_total.ext xt3
  replace F_packed := F_packed.ext xt3
  replace F_thresholds := F_thresholds.ext xt3
  replace F_aliases := F_aliases.ext xt3
  replace hn := Nat.le_trans hn xt3.1
  replace A_b3 : own_A Z h3 .long b3 [(.long (0 : Int64)), (.long (0 : Int64))] := A_b3
  refine own_go (mkF m 28 #[rv t, rv w, iv (2 : Int32), rv b3, .unset, .unset, .unset, .unset, .unset, .unset, .unset, .unset, .unset, .unset] []) (fun t' k => XS.astoreN X3.here hx rfl (hb hby own_dI_27) rfl rfl rfl k) ?_
  refine own_gs 29 [(.int (2 : Int32))] (fun t' k => XS.iloadN X3.here hx rfl (hb hby own_dI_28) rfl  k) ?_
  refine X3.newP hx hZ (hw _ (List.mem_of_getElem? (i := 12) rfl)) e3 2 (by decide) (hb hby own_dI_29) 2 (by decide) (by decide) (by decide) (by decide) ?_
  intro T4 h4 b4 X4 e4 q4 xt4 A_b4
  have g_b4 : n0 ≤ b4 := by rw [q4]; exact hn
  have lt_t_b4 : t < b4 := by rw [q4]; exact E_t.lt
  have lt_w_b4 : w < b4 := by rw [q4]; exact A_w.lt
  have lt_b3_b4 : b3 < b4 := by rw [q4]; exact A_b3.lt
  replace E_t := E_t.ext xt4
  replace A_w := A_w.ext xt4
  replace F_shift := F_shift.ext xt4
  replace F_total := F_total.ext xt4
  replace F_packed := F_packed.ext xt4
  replace F_thresholds := F_thresholds.ext xt4
  replace F_aliases := F_aliases.ext xt4
  replace A_b3 := A_b3.ext xt4
  replace hn := Nat.le_trans hn xt4.1
  replace A_b4 : own_A Z h4 .int b4 [(.int (0 : Int32)), (.int (0 : Int32))] := A_b4
  refine own_go (mkF m 33 #[rv t, rv w, iv (2 : Int32), rv b3, rv b4, .unset, .unset, .unset, .unset, .unset, .unset, .unset, .unset, .unset] []) (fun t' k => XS.astore X4.here hx rfl (hb hby own_dI_31) rfl rfl rfl k) ?_
  refine own_gs 34 [(.ref t)] (fun t' k => XS.aloadN X4.here hx rfl (hb hby own_dI_33) rfl rfl  k) ?_
  refine own_gs 36 [(.int (64 : Int32)), (.ref t)] (fun t' k => XS.bipush X4.here hx rfl (hb hby own_dI_34) k) ?_
  refine own_gs 37 [(.int (2 : Int32)), (.int (64 : Int32)), (.ref t)] (fun t' k => XS.iloadN X4.here hx rfl (hb hby own_dI_36) rfl  k) ?_
  refine X4.callP hx hZ (y := (⟨"java/lang/Integer", "numberOfTrailingZeros", "(I)I"⟩ : MethodName)) (fr := 0) (lo := 0) (r := (.int (1 : Int32))) hown (hw _ (List.mem_of_getElem? (i := 13) rfl)) (hw _ (List.mem_of_getElem? (i := 14) rfl)) (hw _ (List.mem_of_getElem? (i := 15) rfl)) (hw _ (List.mem_of_getElem? (i := 16) rfl)) (by decide) e4 [(.int (2 : Int32))] [(.int (64 : Int32)), (.ref t)] (own_ntz2 l Z a0 hw [] h4 ) 2 (by decide) (by decide) (Nat.le_of_eq rfl) (by decide) (by decide) (by rw [hml]; rfl) (lenOf own_pd0 rfl) rfl (hb hby own_dI_37) ?_
  intro T5 X5 e5
  refine own_gs 41 [(.int (63 : Int32)), (.ref t)] (fun t' k => XS.isub X5.here hx rfl (hb hby own_dI_40) rfl k) ?_
  refine X5.putF hx hZ hown (hw _ (List.mem_of_getElem? (i := 17) rfl)) e5 F_shift E_t g_t (Or.inr ⟨(hw _ (List.mem_of_getElem? (i := 18) rfl)), rfl, hnm⟩) (hw _ (List.mem_of_getElem? (i := 4) rfl)) (ty := .int) (by decide) rfl rfl (hb hby own_dI_41) ?_
  intro T6 h6 X6 e6 W6
  replace E_t := E_t.wr W6
  replace A_w := A_w.other W6 (Ne.symm ne_t_w)
  replace F_shift := F_shift.same W6
  replace F_total := F_total.other W6 (Or.inr (own_sn_AliasTable_total_shift hw))
  replace F_packed := F_packed.other W6 (Or.inr (own_sn_AliasTable_packed_shift hw))
  replace F_thresholds := F_thresholds.other W6 (Or.inr (own_sn_AliasTable_thresholds_shift hw))
  replace F_aliases := F_aliases.other W6 (Or.inr (own_sn_AliasTable_aliases_shift hw))
  replace A_b3 := A_b3.other W6 (Ne.symm (Nat.ne_of_lt lt_t_b3))
  replace A_b4 := A_b4.other W6 (Ne.symm (Nat.ne_of_lt lt_t_b4))
  replace hn := Nat.le_trans hn (Keep.of_wr W6).1
  clear W6 X5 e5
  refine own_gs 45 [(.long (0 : Int64))] (fun t' k => XS.lconst X6.here hx rfl (hb hby own_dI_44) k) ?_
  refine own_go (mkF m 47 #[rv t, rv w, iv (2 : Int32), rv b3, rv b4, jv (0 : Int64), .second, .unset, .unset, .unset, .unset, .unset, .unset, .unset] []) (fun t' k => XS.lstore X6.here hx rfl (hb hby own_dI_45) rfl rfl k) ?_
  refine own_gs 48 [(.ref w)] (fun t' k => XS.aloadN X6.here hx rfl (hb hby own_dI_47) rfl rfl  k) ?_
  refine own_go (mkF m 50 #[rv t, rv w, iv (2 : Int32), rv b3, rv b4, jv (0 : Int64), .second, rv w, .unset, .unset, .unset, .unset, .unset, .unset] []) (fun t' k => XS.astore X6.here hx rfl (hb hby own_dI_48) rfl rfl rfl k) ?_
  refine own_gs 52 [(.ref w)] (fun t' k => XS.aload X6.here hx rfl (hb hby own_dI_50) rfl rfl  k) ?_
  refine X6.alen hx hZ e6 A_w (hb hby own_dI_52) ?_
  show own_G p e below s _ _ _ T6 (mkF m 53 #[rv t, rv w, iv (2 : Int32), rv b3, rv b4, jv (0 : Int64), .second, rv w, .unset, .unset, .unset, .unset, .unset, .unset] [(.int (2 : Int32))])
  refine own_go (mkF m 55 #[rv t, rv w, iv (2 : Int32), rv b3, rv b4, jv (0 : Int64), .second, rv w, iv (2 : Int32), .unset, .unset, .unset, .unset, .unset] []) (fun t' k => XS.istore X6.here hx rfl (hb hby own_dI_53) rfl rfl k) ?_
  refine own_gs 56 [(.int (0 : Int32))] (fun t' k => XS.iconst X6.here hx rfl (hb hby own_dI_55) k) ?_
  refine own_go (mkF m 58 #[rv t, rv w, iv (2 : Int32), rv b3, rv b4, jv (0 : Int64), .second, rv w, iv (2 : Int32), iv (0 : Int32), .unset, .unset, .unset, .unset] []) (fun t' k => XS.istore X6.here hx rfl (hb hby own_dI_56) rfl rfl k) ?_
  refine own_gs 60 [(.int (0 : Int32))] (fun t' k => XS.iload X6.here hx rfl (hb hby own_dI_58) rfl  k) ?_
  refine own_gs 62 [(.int (2 : Int32)), (.int (0 : Int32))] (fun t' k => XS.iload X6.here hx rfl (hb hby own_dI_60) rfl  k) ?_
  refine own_gs 65 [] (fun t' k => XS.icmpNo X6.here hx rfl (hb hby own_dI_62) rfl (tlt (by decide)).2.1 k) ?_
  refine own_gs 67 [(.ref w)] (fun t' k => XS.aload X6.here hx rfl (hb hby own_dI_65) rfl rfl  k) ?_
  refine own_gs 69 [(.int (0 : Int32)), (.ref w)] (fun t' k => XS.iload X6.here hx rfl (hb hby own_dI_67) rfl  k) ?_
  refine X6.ldJ hx hZ e6 A_w (v := (.long (Int64.ofInt (A)))) 0 (by decide) rfl (hb hby own_dI_69) ?_
  refine own_go (mkF m 72 #[rv t, rv w, iv (2 : Int32), rv b3, rv b4, jv (0 : Int64), .second, rv w, iv (2 : Int32), iv (0 : Int32), jv (Int64.ofInt (A)), .second, .unset, .unset] []) (fun t' k => XS.lstore X6.here hx rfl (hb hby own_dI_70) rfl rfl k) ?_
  refine own_gs 74 [(.long (0 : Int64))] (fun t' k => XS.lload X6.here hx rfl (hb hby own_dI_72) rfl  k) ?_
  refine own_gs 76 [(.long (Int64.ofInt (A))), (.long (0 : Int64))] (fun t' k => XS.lload X6.here hx rfl (hb hby own_dI_74) rfl  k) ?_
  refine own_gs 77 [(.long ((0 : Int64) + (Int64.ofInt (A))))] (fun t' k => XS.ladd X6.here hx rfl (hb hby own_dI_76) rfl k) ?_
  rw [own_oadd (z := A) (show (0 : Int64) = Int64.ofInt (0) from rfl) (show (Int64.ofInt (A)) = (Int64.ofInt (A)) from rfl) (by omega)]
  refine own_go (mkF m 79 #[rv t, rv w, iv (2 : Int32), rv b3, rv b4, jv (Int64.ofInt (A)), .second, rv w, iv (2 : Int32), iv (0 : Int32), jv (Int64.ofInt (A)), .second, .unset, .unset] []) (fun t' k => XS.lstore X6.here hx rfl (hb hby own_dI_77) rfl rfl k) ?_
  refine own_go (mkF m 82 #[rv t, rv w, iv (2 : Int32), rv b3, rv b4, jv (Int64.ofInt (A)), .second, rv w, iv (2 : Int32), iv (1 : Int32), jv (Int64.ofInt (A)), .second, .unset, .unset] []) (fun t' k => XS.iinc X6.here hx rfl (hb hby own_dI_79) rfl rfl k) ?_
  refine own_gs 58 [] (fun t' k => XS.goto X6.here hx rfl (pc0 := 82) (pc' := 58) rfl (hb hby own_dI_82) (by decide) (by decide) k) ?_
  refine own_gs 60 [(.int (1 : Int32))] (fun t' k => XS.iload X6.here hx rfl (hb hby own_dI_58) rfl  k) ?_
  refine own_gs 62 [(.int (2 : Int32)), (.int (1 : Int32))] (fun t' k => XS.iload X6.here hx rfl (hb hby own_dI_60) rfl  k) ?_
  refine own_gs 65 [] (fun t' k => XS.icmpNo X6.here hx rfl (hb hby own_dI_62) rfl (tlt (by decide)).2.1 k) ?_
  refine own_gs 67 [(.ref w)] (fun t' k => XS.aload X6.here hx rfl (hb hby own_dI_65) rfl rfl  k) ?_
  refine own_gs 69 [(.int (1 : Int32)), (.ref w)] (fun t' k => XS.iload X6.here hx rfl (hb hby own_dI_67) rfl  k) ?_
  refine X6.ldJ hx hZ e6 A_w (v := (.long (Int64.ofInt (B)))) 1 (by decide) rfl (hb hby own_dI_69) ?_
  refine own_go (mkF m 72 #[rv t, rv w, iv (2 : Int32), rv b3, rv b4, jv (Int64.ofInt (A)), .second, rv w, iv (2 : Int32), iv (1 : Int32), jv (Int64.ofInt (B)), .second, .unset, .unset] []) (fun t' k => XS.lstore X6.here hx rfl (hb hby own_dI_70) rfl rfl k) ?_
  refine own_gs 74 [(.long (Int64.ofInt (A)))] (fun t' k => XS.lload X6.here hx rfl (hb hby own_dI_72) rfl  k) ?_
  refine own_gs 76 [(.long (Int64.ofInt (B))), (.long (Int64.ofInt (A)))] (fun t' k => XS.lload X6.here hx rfl (hb hby own_dI_74) rfl  k) ?_
  refine own_gs 77 [(.long ((Int64.ofInt (A)) + (Int64.ofInt (B))))] (fun t' k => XS.ladd X6.here hx rfl (hb hby own_dI_76) rfl k) ?_
  rw [own_oadd (z := A + B) (show (Int64.ofInt (A)) = (Int64.ofInt (A)) from rfl) (show (Int64.ofInt (B)) = (Int64.ofInt (B)) from rfl) (by omega)]
  refine own_go (mkF m 79 #[rv t, rv w, iv (2 : Int32), rv b3, rv b4, jv (Int64.ofInt (A + B)), .second, rv w, iv (2 : Int32), iv (1 : Int32), jv (Int64.ofInt (B)), .second, .unset, .unset] []) (fun t' k => XS.lstore X6.here hx rfl (hb hby own_dI_77) rfl rfl k) ?_
  refine own_go (mkF m 82 #[rv t, rv w, iv (2 : Int32), rv b3, rv b4, jv (Int64.ofInt (A + B)), .second, rv w, iv (2 : Int32), iv (2 : Int32), jv (Int64.ofInt (B)), .second, .unset, .unset] []) (fun t' k => XS.iinc X6.here hx rfl (hb hby own_dI_79) rfl rfl k) ?_
  refine own_gs 58 [] (fun t' k => XS.goto X6.here hx rfl (pc0 := 82) (pc' := 58) rfl (hb hby own_dI_82) (by decide) (by decide) k) ?_
  refine own_gs 60 [(.int (2 : Int32))] (fun t' k => XS.iload X6.here hx rfl (hb hby own_dI_58) rfl  k) ?_
  refine own_gs 62 [(.int (2 : Int32)), (.int (2 : Int32))] (fun t' k => XS.iload X6.here hx rfl (hb hby own_dI_60) rfl  k) ?_
  refine own_gs 85 [] (fun t' k => XS.icmpYes X6.here hx rfl (pc0 := 62) (pc' := 85) rfl (hb hby own_dI_62) rfl (flt (by decide)).2.1 (by decide) (by decide) k) ?_
  refine own_gs 86 [(.ref t)] (fun t' k => XS.aloadN X6.here hx rfl (hb hby own_dI_85) rfl rfl  k) ?_
  refine own_gs 88 [(.long (Int64.ofInt (A + B))), (.ref t)] (fun t' k => XS.lload X6.here hx rfl (hb hby own_dI_86) rfl  k) ?_
  refine X6.putF hx hZ hown (hw _ (List.mem_of_getElem? (i := 19) rfl)) e6 F_total E_t g_t (Or.inr ⟨(hw _ (List.mem_of_getElem? (i := 20) rfl)), rfl, hnm⟩) (hw _ (List.mem_of_getElem? (i := 4) rfl)) (ty := .long) (by decide) rfl rfl (hb hby own_dI_88) ?_
  intro T7 h7 X7 e7 W7
  replace E_t := E_t.wr W7
  replace A_w := A_w.other W7 (Ne.symm ne_t_w)
  replace F_shift := F_shift.other W7 (Or.inr (own_sn_AliasTable_shift_total hw))
  replace F_total := F_total.same W7
  replace F_packed := F_packed.other W7 (Or.inr (own_sn_AliasTable_packed_total hw))
  replace F_thresholds := F_thresholds.other W7 (Or.inr (own_sn_AliasTable_thresholds_total hw))
  replace F_aliases := F_aliases.other W7 (Or.inr (own_sn_AliasTable_aliases_total hw))
  replace A_b3 := A_b3.other W7 (Ne.symm (Nat.ne_of_lt lt_t_b3))
  replace A_b4 := A_b4.other W7 (Ne.symm (Nat.ne_of_lt lt_t_b4))
  replace hn := Nat.le_trans hn (Keep.of_wr W7).1
  clear W7 X6 e6
  refine own_gs 92 [(.int (2 : Int32))] (fun t' k => XS.iloadN X7.here hx rfl (hb hby own_dI_91) rfl  k) ?_
  refine X7.newP hx hZ (hw _ (List.mem_of_getElem? (i := 2) rfl)) e7 2 (by decide) (hb hby own_dI_92) 2 (by decide) (by decide) (by decide) (by decide) ?_
  intro T8 h8 b8 X8 e8 q8 xt8 A_b8
  have g_b8 : n0 ≤ b8 := by rw [q8]; exact hn
  have lt_t_b8 : t < b8 := by rw [q8]; exact E_t.lt
  have lt_w_b8 : w < b8 := by rw [q8]; exact A_w.lt
  have lt_b3_b8 : b3 < b8 := by rw [q8]; exact A_b3.lt
  have lt_b4_b8 : b4 < b8 := by rw [q8]; exact A_b4.lt
  replace E_t := E_t.ext xt8
  replace A_w := A_w.ext xt8
  replace F_shift := F_shift.ext xt8
  replace F_total := F_total.ext xt8
  replace F_packed := F_packed.ext xt8
  replace F_thresholds := F_thresholds.ext xt8
  replace F_aliases := F_aliases.ext xt8
  replace A_b3 := A_b3.ext xt8
  replace A_b4 := A_b4.ext xt8
  replace hn := Nat.le_trans hn xt8.1
  replace A_b8 : own_A Z h8 .long b8 [(.long (0 : Int64)), (.long (0 : Int64))] := A_b8
  refine own_go (mkF m 96 #[rv t, rv w, iv (2 : Int32), rv b3, rv b4, jv (Int64.ofInt (A + B)), .second, rv b8, iv (2 : Int32), iv (2 : Int32), jv (Int64.ofInt (B)), .second, .unset, .unset] []) (fun t' k => XS.astore X8.here hx rfl (hb hby own_dI_94) rfl rfl rfl k) ?_
  refine own_gs 97 [(.int (2 : Int32))] (fun t' k => XS.iloadN X8.here hx rfl (hb hby own_dI_96) rfl  k) ?_
  refine X8.newP hx hZ (hw _ (List.mem_of_getElem? (i := 12) rfl)) e8 2 (by decide) (hb hby own_dI_97) 2 (by decide) (by decide) (by decide) (by decide) ?_
  intro T9 h9 b9 X9 e9 q9 xt9 A_b9
  have g_b9 : n0 ≤ b9 := by rw [q9]; exact hn
  have lt_t_b9 : t < b9 := by rw [q9]; exact E_t.lt
  have lt_w_b9 : w < b9 := by rw [q9]; exact A_w.lt
  have lt_b3_b9 : b3 < b9 := by rw [q9]; exact A_b3.lt
  have lt_b4_b9 : b4 < b9 := by rw [q9]; exact A_b4.lt
  have lt_b8_b9 : b8 < b9 := by rw [q9]; exact A_b8.lt
  replace E_t := E_t.ext xt9
  replace A_w := A_w.ext xt9
  replace F_shift := F_shift.ext xt9
  replace F_total := F_total.ext xt9
  replace F_packed := F_packed.ext xt9
  replace F_thresholds := F_thresholds.ext xt9
  replace F_aliases := F_aliases.ext xt9
  replace A_b3 := A_b3.ext xt9
  replace A_b4 := A_b4.ext xt9
  replace A_b8 := A_b8.ext xt9
  replace hn := Nat.le_trans hn xt9.1
  replace A_b9 : own_A Z h9 .int b9 [(.int (0 : Int32)), (.int (0 : Int32))] := A_b9
  refine own_go (mkF m 101 #[rv t, rv w, iv (2 : Int32), rv b3, rv b4, jv (Int64.ofInt (A + B)), .second, rv b8, rv b9, iv (2 : Int32), jv (Int64.ofInt (B)), .second, .unset, .unset] []) (fun t' k => XS.astore X9.here hx rfl (hb hby own_dI_99) rfl rfl rfl k) ?_
  refine own_gs 102 [(.int (2 : Int32))] (fun t' k => XS.iloadN X9.here hx rfl (hb hby own_dI_101) rfl  k) ?_
  refine X9.newP hx hZ (hw _ (List.mem_of_getElem? (i := 12) rfl)) e9 2 (by decide) (hb hby own_dI_102) 2 (by decide) (by decide) (by decide) (by decide) ?_
  intro T10 h10 b10 X10 e10 q10 xt10 A_b10
  have g_b10 : n0 ≤ b10 := by rw [q10]; exact hn
  have lt_t_b10 : t < b10 := by rw [q10]; exact E_t.lt
  have lt_w_b10 : w < b10 := by rw [q10]; exact A_w.lt
  have lt_b3_b10 : b3 < b10 := by rw [q10]; exact A_b3.lt
  have lt_b4_b10 : b4 < b10 := by rw [q10]; exact A_b4.lt
  have lt_b8_b10 : b8 < b10 := by rw [q10]; exact A_b8.lt
  have lt_b9_b10 : b9 < b10 := by rw [q10]; exact A_b9.lt
  replace E_t := E_t.ext xt10
  replace A_w := A_w.ext xt10
  replace F_shift := F_shift.ext xt10
  replace F_total := F_total.ext xt10
  replace F_packed := F_packed.ext xt10
  replace F_thresholds := F_thresholds.ext xt10
  replace F_aliases := F_aliases.ext xt10
  replace A_b3 := A_b3.ext xt10
  replace A_b4 := A_b4.ext xt10
  replace A_b8 := A_b8.ext xt10
  replace A_b9 := A_b9.ext xt10
  replace hn := Nat.le_trans hn xt10.1
  replace A_b10 : own_A Z h10 .int b10 [(.int (0 : Int32)), (.int (0 : Int32))] := A_b10
  refine own_go (mkF m 106 #[rv t, rv w, iv (2 : Int32), rv b3, rv b4, jv (Int64.ofInt (A + B)), .second, rv b8, rv b9, rv b10, jv (Int64.ofInt (B)), .second, .unset, .unset] []) (fun t' k => XS.astore X10.here hx rfl (hb hby own_dI_104) rfl rfl rfl k) ?_
  refine own_gs 107 [(.int (0 : Int32))] (fun t' k => XS.iconst X10.here hx rfl (hb hby own_dI_106) k) ?_
  refine own_go (mkF m 109 #[rv t, rv w, iv (2 : Int32), rv b3, rv b4, jv (Int64.ofInt (A + B)), .second, rv b8, rv b9, rv b10, iv (0 : Int32), .unset, .unset, .unset] []) (fun t' k => XS.istore X10.here hx rfl (hb hby own_dI_107) rfl rfl k) ?_
  refine own_gs 110 [(.int (0 : Int32))] (fun t' k => XS.iconst X10.here hx rfl (hb hby own_dI_109) k) ?_
  refine own_go (mkF m 112 #[rv t, rv w, iv (2 : Int32), rv b3, rv b4, jv (Int64.ofInt (A + B)), .second, rv b8, rv b9, rv b10, iv (0 : Int32), iv (0 : Int32), .unset, .unset] []) (fun t' k => XS.istore X10.here hx rfl (hb hby own_dI_110) rfl rfl k) ?_
  refine own_gs 113 [(.int (0 : Int32))] (fun t' k => XS.iconst X10.here hx rfl (hb hby own_dI_112) k) ?_
  refine own_go (mkF m 115 #[rv t, rv w, iv (2 : Int32), rv b3, rv b4, jv (Int64.ofInt (A + B)), .second, rv b8, rv b9, rv b10, iv (0 : Int32), iv (0 : Int32), iv (0 : Int32), .unset] []) (fun t' k => XS.istore X10.here hx rfl (hb hby own_dI_113) rfl rfl k) ?_
  refine own_gs 117 [(.int (0 : Int32))] (fun t' k => XS.iload X10.here hx rfl (hb hby own_dI_115) rfl  k) ?_
  refine own_gs 118 [(.int (2 : Int32)), (.int (0 : Int32))] (fun t' k => XS.iloadN X10.here hx rfl (hb hby own_dI_117) rfl  k) ?_
  refine own_gs 121 [] (fun t' k => XS.icmpNo X10.here hx rfl (hb hby own_dI_118) rfl (tlt (by decide)).2.1 k) ?_
  refine own_gs 123 [(.ref b8)] (fun t' k => XS.aload X10.here hx rfl (hb hby own_dI_121) rfl rfl  k) ?_
  refine own_gs 125 [(.int (0 : Int32)), (.ref b8)] (fun t' k => XS.iload X10.here hx rfl (hb hby own_dI_123) rfl  k) ?_
  refine own_gs 127 [(.int (0 : Int32)), (.int (0 : Int32)), (.ref b8)] (fun t' k => XS.iload X10.here hx rfl (hb hby own_dI_125) rfl  k) ?_
  refine own_gs 128 [(.ref w), (.int (0 : Int32)), (.int (0 : Int32)), (.ref b8)] (fun t' k => XS.aloadN X10.here hx rfl (hb hby own_dI_127) rfl rfl  k) ?_
  refine X10.alen hx hZ e10 A_w (hb hby own_dI_128) ?_
  show own_G p e below s _ _ _ T10 (mkF m 129 #[rv t, rv w, iv (2 : Int32), rv b3, rv b4, jv (Int64.ofInt (A + B)), .second, rv b8, rv b9, rv b10, iv (0 : Int32), iv (0 : Int32), iv (0 : Int32), .unset] [(.int (2 : Int32)), (.int (0 : Int32)), (.int (0 : Int32)), (.ref b8)])
  refine own_gs 132 [(.int (0 : Int32)), (.ref b8)] (fun t' k => XS.icmpNo X10.here hx rfl (hb hby own_dI_129) rfl (tlt (by decide)).2.1 k) ?_
  refine own_gs 133 [(.ref w), (.int (0 : Int32)), (.ref b8)] (fun t' k => XS.aloadN X10.here hx rfl (hb hby own_dI_132) rfl rfl  k) ?_
  refine own_gs 135 [(.int (0 : Int32)), (.ref w), (.int (0 : Int32)), (.ref b8)] (fun t' k => XS.iload X10.here hx rfl (hb hby own_dI_133) rfl  k) ?_
  refine X10.ldJ hx hZ e10 A_w (v := (.long (Int64.ofInt (A)))) 0 (by decide) rfl (hb hby own_dI_135) ?_
  refine own_gs 137 [(.int (2 : Int32)), (.long (Int64.ofInt (A))), (.int (0 : Int32)), (.ref b8)] (fun t' k => XS.iloadN X10.here hx rfl (hb hby own_dI_136) rfl  k) ?_
  refine own_gs 138 [(.long (2 : Int64)), (.long (Int64.ofInt (A))), (.int (0 : Int32)), (.ref b8)] (fun t' k => XS.i2l X10.here hx rfl (hb hby own_dI_137) rfl k) ?_
  refine own_gs 139 [(.long ((Int64.ofInt (A)) * (2 : Int64))), (.int (0 : Int32)), (.ref b8)] (fun t' k => XS.lmul X10.here hx rfl (hb hby own_dI_138) rfl k) ?_
  rw [own_omul (z := 2 * A) (show (Int64.ofInt (A)) = (Int64.ofInt (A)) from rfl) (show (2 : Int64) = Int64.ofInt (2) from rfl) (by omega)]
  refine own_gs 143 [(.long (Int64.ofInt (2 * A))), (.int (0 : Int32)), (.ref b8)] (fun t' k => XS.goto X10.here hx rfl (pc0 := 139) (pc' := 143) rfl (hb hby own_dI_139) (by decide) (by decide) k) ?_
  refine X10.stJ hx hZ e10 A_b8 g_b8 0 (by decide) (Nat.le_of_ble_eq_true rfl) (hb hby own_dI_143) ?_
  intro T11 h11 X11 e11 W11 A11
  replace A_b8 : own_A Z h11 .long b8 [(.long (Int64.ofInt (2 * A))), (.long (0 : Int64))] := A11
  clear A11
  replace E_t := E_t.wr W11
  replace A_w := A_w.other W11 (Nat.ne_of_lt lt_w_b8)
  replace F_shift := F_shift.other W11 (Or.inl (Nat.ne_of_lt lt_t_b8))
  replace F_total := F_total.other W11 (Or.inl (Nat.ne_of_lt lt_t_b8))
  replace F_packed := F_packed.other W11 (Or.inl (Nat.ne_of_lt lt_t_b8))
  replace F_thresholds := F_thresholds.other W11 (Or.inl (Nat.ne_of_lt lt_t_b8))
  replace F_aliases := F_aliases.other W11 (Or.inl (Nat.ne_of_lt lt_t_b8))
  replace A_b3 := A_b3.other W11 (Nat.ne_of_lt lt_b3_b8)
  replace A_b4 := A_b4.other W11 (Nat.ne_of_lt lt_b4_b8)
  replace A_b9 := A_b9.other W11 (Ne.symm (Nat.ne_of_lt lt_b8_b9))
  replace A_b10 := A_b10.other W11 (Ne.symm (Nat.ne_of_lt lt_b8_b10))
  replace hn := Nat.le_trans hn (Keep.of_wr W11).1
  clear W11 X10 e10
  refine own_gs 146 [(.ref b8)] (fun t' k => XS.aload X11.here hx rfl (hb hby own_dI_144) rfl rfl  k) ?_
  refine own_gs 148 [(.int (0 : Int32)), (.ref b8)] (fun t' k => XS.iload X11.here hx rfl (hb hby own_dI_146) rfl  k) ?_
  refine X11.ldJ hx hZ e11 A_b8 (v := (.long (Int64.ofInt (2 * A)))) 0 (by decide) rfl (hb hby own_dI_148) ?_
  refine own_gs 150 [(.ref t), (.long (Int64.ofInt (2 * A)))] (fun t' k => XS.aloadN X11.here hx rfl (hb hby own_dI_149) rfl rfl  k) ?_
  refine X11.getF hx hZ hown (hw _ (List.mem_of_getElem? (i := 19) rfl)) e11 F_total (hb hby own_dI_150) ?_
  intro T12 X12 e12
  refine own_gs 154 [(.int (lcmpW (Int64.ofInt (2 * A)) (Int64.ofInt (A + B))))] (fun t' k => XS.lcmp X12.here hx rfl (hb hby own_dI_153) rfl k) ?_
  refine own_gs 157 [] (fun t' k => XS.ifNo X12.here hx rfl (hb hby own_dI_154) rfl ((if0 _ _).trans (tlt ((lw_lt (Int64.ofInt (2 * A)) (Int64.ofInt (A + B))).mpr (own_olt (show (Int64.ofInt (2 * A)) = (Int64.ofInt (2 * A)) from rfl) (show (Int64.ofInt (A + B)) = (Int64.ofInt (A + B)) from rfl) (by omega) (by omega) (by omega)))).2.1) k) ?_
  refine own_gs 159 [(.ref b9)] (fun t' k => XS.aload X12.here hx rfl (hb hby own_dI_157) rfl rfl  k) ?_
  refine own_gs 161 [(.int (0 : Int32)), (.ref b9)] (fun t' k => XS.iload X12.here hx rfl (hb hby own_dI_159) rfl  k) ?_
  refine own_go (mkF m 164 #[rv t, rv w, iv (2 : Int32), rv b3, rv b4, jv (Int64.ofInt (A + B)), .second, rv b8, rv b9, rv b10, iv (1 : Int32), iv (0 : Int32), iv (0 : Int32), .unset] [(.int (0 : Int32)), (.ref b9)]) (fun t' k => XS.iinc X12.here hx rfl (hb hby own_dI_161) rfl rfl k) ?_
  refine own_gs 166 [(.int (0 : Int32)), (.int (0 : Int32)), (.ref b9)] (fun t' k => XS.iload X12.here hx rfl (hb hby own_dI_164) rfl  k) ?_
  refine X12.stI hx hZ e12 A_b9 g_b9 0 (by decide) (Nat.le_of_ble_eq_true rfl) (hb hby own_dI_166) ?_
  intro T13 h13 X13 e13 W13 A13
  replace A_b9 : own_A Z h13 .int b9 [(.int (0 : Int32)), (.int (0 : Int32))] := A13
  clear A13
  replace E_t := E_t.wr W13
  replace A_w := A_w.other W13 (Nat.ne_of_lt lt_w_b9)
  replace F_shift := F_shift.other W13 (Or.inl (Nat.ne_of_lt lt_t_b9))
  replace F_total := F_total.other W13 (Or.inl (Nat.ne_of_lt lt_t_b9))
  replace F_packed := F_packed.other W13 (Or.inl (Nat.ne_of_lt lt_t_b9))
  replace F_thresholds := F_thresholds.other W13 (Or.inl (Nat.ne_of_lt lt_t_b9))
  replace F_aliases := F_aliases.other W13 (Or.inl (Nat.ne_of_lt lt_t_b9))
  replace A_b3 := A_b3.other W13 (Nat.ne_of_lt lt_b3_b9)
  replace A_b4 := A_b4.other W13 (Nat.ne_of_lt lt_b4_b9)
  replace A_b8 := A_b8.other W13 (Nat.ne_of_lt lt_b8_b9)
  replace A_b10 := A_b10.other W13 (Ne.symm (Nat.ne_of_lt lt_b9_b10))
  replace hn := Nat.le_trans hn (Keep.of_wr W13).1
  clear W13 X12 e12
  refine own_gs 180 [] (fun t' k => XS.goto X13.here hx rfl (pc0 := 167) (pc' := 180) rfl (hb hby own_dI_167) (by decide) (by decide) k) ?_
  refine own_go (mkF m 183 #[rv t, rv w, iv (2 : Int32), rv b3, rv b4, jv (Int64.ofInt (A + B)), .second, rv b8, rv b9, rv b10, iv (1 : Int32), iv (0 : Int32), iv (1 : Int32), .unset] []) (fun t' k => XS.iinc X13.here hx rfl (hb hby own_dI_180) rfl rfl k) ?_
  refine own_gs 115 [] (fun t' k => XS.goto X13.here hx rfl (pc0 := 183) (pc' := 115) rfl (hb hby own_dI_183) (by decide) (by decide) k) ?_
  refine own_gs 117 [(.int (1 : Int32))] (fun t' k => XS.iload X13.here hx rfl (hb hby own_dI_115) rfl  k) ?_
  refine own_gs 118 [(.int (2 : Int32)), (.int (1 : Int32))] (fun t' k => XS.iloadN X13.here hx rfl (hb hby own_dI_117) rfl  k) ?_
  refine own_gs 121 [] (fun t' k => XS.icmpNo X13.here hx rfl (hb hby own_dI_118) rfl (tlt (by decide)).2.1 k) ?_
  refine own_gs 123 [(.ref b8)] (fun t' k => XS.aload X13.here hx rfl (hb hby own_dI_121) rfl rfl  k) ?_
  refine own_gs 125 [(.int (1 : Int32)), (.ref b8)] (fun t' k => XS.iload X13.here hx rfl (hb hby own_dI_123) rfl  k) ?_
  refine own_gs 127 [(.int (1 : Int32)), (.int (1 : Int32)), (.ref b8)] (fun t' k => XS.iload X13.here hx rfl (hb hby own_dI_125) rfl  k) ?_
  refine own_gs 128 [(.ref w), (.int (1 : Int32)), (.int (1 : Int32)), (.ref b8)] (fun t' k => XS.aloadN X13.here hx rfl (hb hby own_dI_127) rfl rfl  k) ?_
  refine X13.alen hx hZ e13 A_w (hb hby own_dI_128) ?_
  show own_G p e below s _ _ _ T13 (mkF m 129 #[rv t, rv w, iv (2 : Int32), rv b3, rv b4, jv (Int64.ofInt (A + B)), .second, rv b8, rv b9, rv b10, iv (1 : Int32), iv (0 : Int32), iv (1 : Int32), .unset] [(.int (2 : Int32)), (.int (1 : Int32)), (.int (1 : Int32)), (.ref b8)])
  refine own_gs 132 [(.int (1 : Int32)), (.ref b8)] (fun t' k => XS.icmpNo X13.here hx rfl (hb hby own_dI_129) rfl (tlt (by decide)).2.1 k) ?_
  refine own_gs 133 [(.ref w), (.int (1 : Int32)), (.ref b8)] (fun t' k => XS.aloadN X13.here hx rfl (hb hby own_dI_132) rfl rfl  k) ?_
  refine own_gs 135 [(.int (1 : Int32)), (.ref w), (.int (1 : Int32)), (.ref b8)] (fun t' k => XS.iload X13.here hx rfl (hb hby own_dI_133) rfl  k) ?_
  refine X13.ldJ hx hZ e13 A_w (v := (.long (Int64.ofInt (B)))) 1 (by decide) rfl (hb hby own_dI_135) ?_
  refine own_gs 137 [(.int (2 : Int32)), (.long (Int64.ofInt (B))), (.int (1 : Int32)), (.ref b8)] (fun t' k => XS.iloadN X13.here hx rfl (hb hby own_dI_136) rfl  k) ?_
  refine own_gs 138 [(.long (2 : Int64)), (.long (Int64.ofInt (B))), (.int (1 : Int32)), (.ref b8)] (fun t' k => XS.i2l X13.here hx rfl (hb hby own_dI_137) rfl k) ?_
  refine own_gs 139 [(.long ((Int64.ofInt (B)) * (2 : Int64))), (.int (1 : Int32)), (.ref b8)] (fun t' k => XS.lmul X13.here hx rfl (hb hby own_dI_138) rfl k) ?_
  rw [own_omul (z := 2 * B) (show (Int64.ofInt (B)) = (Int64.ofInt (B)) from rfl) (show (2 : Int64) = Int64.ofInt (2) from rfl) (by omega)]
  refine own_gs 143 [(.long (Int64.ofInt (2 * B))), (.int (1 : Int32)), (.ref b8)] (fun t' k => XS.goto X13.here hx rfl (pc0 := 139) (pc' := 143) rfl (hb hby own_dI_139) (by decide) (by decide) k) ?_
  refine X13.stJ hx hZ e13 A_b8 g_b8 1 (by decide) (Nat.le_of_ble_eq_true rfl) (hb hby own_dI_143) ?_
  intro T14 h14 X14 e14 W14 A14
  replace A_b8 : own_A Z h14 .long b8 [(.long (Int64.ofInt (2 * A))), (.long (Int64.ofInt (2 * B)))] := A14
  clear A14
  replace E_t := E_t.wr W14
  replace A_w := A_w.other W14 (Nat.ne_of_lt lt_w_b8)
  replace F_shift := F_shift.other W14 (Or.inl (Nat.ne_of_lt lt_t_b8))
  replace F_total := F_total.other W14 (Or.inl (Nat.ne_of_lt lt_t_b8))
  replace F_packed := F_packed.other W14 (Or.inl (Nat.ne_of_lt lt_t_b8))
  replace F_thresholds := F_thresholds.other W14 (Or.inl (Nat.ne_of_lt lt_t_b8))
  replace F_aliases := F_aliases.other W14 (Or.inl (Nat.ne_of_lt lt_t_b8))
  replace A_b3 := A_b3.other W14 (Nat.ne_of_lt lt_b3_b8)
  replace A_b4 := A_b4.other W14 (Nat.ne_of_lt lt_b4_b8)
  replace A_b9 := A_b9.other W14 (Ne.symm (Nat.ne_of_lt lt_b8_b9))
  replace A_b10 := A_b10.other W14 (Ne.symm (Nat.ne_of_lt lt_b8_b10))
  replace hn := Nat.le_trans hn (Keep.of_wr W14).1
  clear W14 X13 e13
  refine own_gs 146 [(.ref b8)] (fun t' k => XS.aload X14.here hx rfl (hb hby own_dI_144) rfl rfl  k) ?_
  refine own_gs 148 [(.int (1 : Int32)), (.ref b8)] (fun t' k => XS.iload X14.here hx rfl (hb hby own_dI_146) rfl  k) ?_
  refine X14.ldJ hx hZ e14 A_b8 (v := (.long (Int64.ofInt (2 * B)))) 1 (by decide) rfl (hb hby own_dI_148) ?_
  refine own_gs 150 [(.ref t), (.long (Int64.ofInt (2 * B)))] (fun t' k => XS.aloadN X14.here hx rfl (hb hby own_dI_149) rfl rfl  k) ?_
  refine X14.getF hx hZ hown (hw _ (List.mem_of_getElem? (i := 19) rfl)) e14 F_total (hb hby own_dI_150) ?_
  intro T15 X15 e15
  refine own_gs 154 [(.int (lcmpW (Int64.ofInt (2 * B)) (Int64.ofInt (A + B))))] (fun t' k => XS.lcmp X15.here hx rfl (hb hby own_dI_153) rfl k) ?_
  refine own_gs 170 [] (fun t' k => XS.ifYes X15.here hx rfl (pc0 := 154) (pc' := 170) rfl (hb hby own_dI_154) rfl ((if0 _ _).trans (flt (fun q => (own_onl (show (Int64.ofInt (2 * B)) = (Int64.ofInt (2 * B)) from rfl) (show (Int64.ofInt (A + B)) = (Int64.ofInt (A + B)) from rfl) (by omega) (by omega) (by omega)) ((lw_lt (Int64.ofInt (2 * B)) (Int64.ofInt (A + B))).mp q))).2.1) (by decide) (by decide) k) ?_
  refine own_gs 172 [(.ref b10)] (fun t' k => XS.aload X15.here hx rfl (hb hby own_dI_170) rfl rfl  k) ?_
  refine own_gs 174 [(.int (0 : Int32)), (.ref b10)] (fun t' k => XS.iload X15.here hx rfl (hb hby own_dI_172) rfl  k) ?_
  refine own_go (mkF m 177 #[rv t, rv w, iv (2 : Int32), rv b3, rv b4, jv (Int64.ofInt (A + B)), .second, rv b8, rv b9, rv b10, iv (1 : Int32), iv (1 : Int32), iv (1 : Int32), .unset] [(.int (0 : Int32)), (.ref b10)]) (fun t' k => XS.iinc X15.here hx rfl (hb hby own_dI_174) rfl rfl k) ?_
  refine own_gs 179 [(.int (1 : Int32)), (.int (0 : Int32)), (.ref b10)] (fun t' k => XS.iload X15.here hx rfl (hb hby own_dI_177) rfl  k) ?_
  refine X15.stI hx hZ e15 A_b10 g_b10 0 (by decide) (Nat.le_of_ble_eq_true rfl) (hb hby own_dI_179) ?_
  intro T16 h16 X16 e16 W16 A16
  replace A_b10 : own_A Z h16 .int b10 [(.int (1 : Int32)), (.int (0 : Int32))] := A16
  clear A16
  replace E_t := E_t.wr W16
  replace A_w := A_w.other W16 (Nat.ne_of_lt lt_w_b10)
  replace F_shift := F_shift.other W16 (Or.inl (Nat.ne_of_lt lt_t_b10))
  replace F_total := F_total.other W16 (Or.inl (Nat.ne_of_lt lt_t_b10))
  replace F_packed := F_packed.other W16 (Or.inl (Nat.ne_of_lt lt_t_b10))
  replace F_thresholds := F_thresholds.other W16 (Or.inl (Nat.ne_of_lt lt_t_b10))
  replace F_aliases := F_aliases.other W16 (Or.inl (Nat.ne_of_lt lt_t_b10))
  replace A_b3 := A_b3.other W16 (Nat.ne_of_lt lt_b3_b10)
  replace A_b4 := A_b4.other W16 (Nat.ne_of_lt lt_b4_b10)
  replace A_b8 := A_b8.other W16 (Nat.ne_of_lt lt_b8_b10)
  replace A_b9 := A_b9.other W16 (Nat.ne_of_lt lt_b9_b10)
  replace hn := Nat.le_trans hn (Keep.of_wr W16).1
  clear W16 X15 e15
  refine own_go (mkF m 183 #[rv t, rv w, iv (2 : Int32), rv b3, rv b4, jv (Int64.ofInt (A + B)), .second, rv b8, rv b9, rv b10, iv (1 : Int32), iv (1 : Int32), iv (2 : Int32), .unset] []) (fun t' k => XS.iinc X16.here hx rfl (hb hby own_dI_180) rfl rfl k) ?_
  refine own_gs 115 [] (fun t' k => XS.goto X16.here hx rfl (pc0 := 183) (pc' := 115) rfl (hb hby own_dI_183) (by decide) (by decide) k) ?_
  refine own_gs 117 [(.int (2 : Int32))] (fun t' k => XS.iload X16.here hx rfl (hb hby own_dI_115) rfl  k) ?_
  refine own_gs 118 [(.int (2 : Int32)), (.int (2 : Int32))] (fun t' k => XS.iloadN X16.here hx rfl (hb hby own_dI_117) rfl  k) ?_
  refine own_gs 186 [] (fun t' k => XS.icmpYes X16.here hx rfl (pc0 := 118) (pc' := 186) rfl (hb hby own_dI_118) rfl (flt (by decide)).2.1 (by decide) (by decide) k) ?_
  refine own_gs 188 [(.int (1 : Int32))] (fun t' k => XS.iload X16.here hx rfl (hb hby own_dI_186) rfl  k) ?_
  refine own_gs 191 [] (fun t' k => XS.ifNo X16.here hx rfl (hb hby own_dI_188) rfl ((if0 _ _).trans (tlt (by decide)).2.2.2) k) ?_
  refine own_gs 193 [(.int (1 : Int32))] (fun t' k => XS.iload X16.here hx rfl (hb hby own_dI_191) rfl  k) ?_
  refine own_gs 196 [] (fun t' k => XS.ifNo X16.here hx rfl (hb hby own_dI_193) rfl ((if0 _ _).trans (tlt (by decide)).2.2.2) k) ?_
  refine own_gs 198 [(.ref b9)] (fun t' k => XS.aload X16.here hx rfl (hb hby own_dI_196) rfl rfl  k) ?_
  refine own_go (mkF m 201 #[rv t, rv w, iv (2 : Int32), rv b3, rv b4, jv (Int64.ofInt (A + B)), .second, rv b8, rv b9, rv b10, iv (0 : Int32), iv (1 : Int32), iv (2 : Int32), .unset] [(.ref b9)]) (fun t' k => XS.iinc X16.here hx rfl (hb hby own_dI_198) rfl rfl k) ?_
  refine own_gs 203 [(.int (0 : Int32)), (.ref b9)] (fun t' k => XS.iload X16.here hx rfl (hb hby own_dI_201) rfl  k) ?_
  refine X16.ldI hx hZ e16 A_b9 (v := (.int (0 : Int32))) 0 (by decide) rfl (hb hby own_dI_203) ?_
  refine own_go (mkF m 206 #[rv t, rv w, iv (2 : Int32), rv b3, rv b4, jv (Int64.ofInt (A + B)), .second, rv b8, rv b9, rv b10, iv (0 : Int32), iv (1 : Int32), iv (0 : Int32), .unset] []) (fun t' k => XS.istore X16.here hx rfl (hb hby own_dI_204) rfl rfl k) ?_
  refine own_gs 208 [(.ref b10)] (fun t' k => XS.aload X16.here hx rfl (hb hby own_dI_206) rfl rfl  k) ?_
  refine own_gs 210 [(.int (1 : Int32)), (.ref b10)] (fun t' k => XS.iload X16.here hx rfl (hb hby own_dI_208) rfl  k) ?_
  refine own_gs 211 [(.int (1 : Int32)), (.int (1 : Int32)), (.ref b10)] (fun t' k => XS.iconst X16.here hx rfl (hb hby own_dI_210) k) ?_
  refine own_gs 212 [(.int (0 : Int32)), (.ref b10)] (fun t' k => XS.isub X16.here hx rfl (hb hby own_dI_211) rfl k) ?_
  refine X16.ldI hx hZ e16 A_b10 (v := (.int (1 : Int32))) 0 (by decide) rfl (hb hby own_dI_212) ?_
  refine own_go (mkF m 215 #[rv t, rv w, iv (2 : Int32), rv b3, rv b4, jv (Int64.ofInt (A + B)), .second, rv b8, rv b9, rv b10, iv (0 : Int32), iv (1 : Int32), iv (0 : Int32), iv (1 : Int32)] []) (fun t' k => XS.istore X16.here hx rfl (hb hby own_dI_213) rfl rfl k) ?_
  refine own_gs 216 [(.ref b3)] (fun t' k => XS.aloadN X16.here hx rfl (hb hby own_dI_215) rfl rfl  k) ?_
  refine own_gs 218 [(.int (0 : Int32)), (.ref b3)] (fun t' k => XS.iload X16.here hx rfl (hb hby own_dI_216) rfl  k) ?_
  refine own_gs 220 [(.ref b8), (.int (0 : Int32)), (.ref b3)] (fun t' k => XS.aload X16.here hx rfl (hb hby own_dI_218) rfl rfl  k) ?_
  refine own_gs 222 [(.int (0 : Int32)), (.ref b8), (.int (0 : Int32)), (.ref b3)] (fun t' k => XS.iload X16.here hx rfl (hb hby own_dI_220) rfl  k) ?_
  refine X16.ldJ hx hZ e16 A_b8 (v := (.long (Int64.ofInt (2 * A)))) 0 (by decide) rfl (hb hby own_dI_222) ?_
  refine X16.stJ hx hZ e16 A_b3 g_b3 0 (by decide) (Nat.le_of_ble_eq_true rfl) (hb hby own_dI_223) ?_
  intro T17 h17 X17 e17 W17 A17
  replace A_b3 : own_A Z h17 .long b3 [(.long (Int64.ofInt (2 * A))), (.long (0 : Int64))] := A17
  clear A17
  replace E_t := E_t.wr W17
  replace A_w := A_w.other W17 (Nat.ne_of_lt lt_w_b3)
  replace F_shift := F_shift.other W17 (Or.inl (Nat.ne_of_lt lt_t_b3))
  replace F_total := F_total.other W17 (Or.inl (Nat.ne_of_lt lt_t_b3))
  replace F_packed := F_packed.other W17 (Or.inl (Nat.ne_of_lt lt_t_b3))
  replace F_thresholds := F_thresholds.other W17 (Or.inl (Nat.ne_of_lt lt_t_b3))
  replace F_aliases := F_aliases.other W17 (Or.inl (Nat.ne_of_lt lt_t_b3))
  replace A_b4 := A_b4.other W17 (Ne.symm (Nat.ne_of_lt lt_b3_b4))
  replace A_b8 := A_b8.other W17 (Ne.symm (Nat.ne_of_lt lt_b3_b8))
  replace A_b9 := A_b9.other W17 (Ne.symm (Nat.ne_of_lt lt_b3_b9))
  replace A_b10 := A_b10.other W17 (Ne.symm (Nat.ne_of_lt lt_b3_b10))
  replace hn := Nat.le_trans hn (Keep.of_wr W17).1
  clear W17 X16 e16
  refine own_gs 226 [(.ref b4)] (fun t' k => XS.aload X17.here hx rfl (hb hby own_dI_224) rfl rfl  k) ?_
  refine own_gs 228 [(.int (0 : Int32)), (.ref b4)] (fun t' k => XS.iload X17.here hx rfl (hb hby own_dI_226) rfl  k) ?_
  refine own_gs 230 [(.int (1 : Int32)), (.int (0 : Int32)), (.ref b4)] (fun t' k => XS.iload X17.here hx rfl (hb hby own_dI_228) rfl  k) ?_
  refine X17.stI hx hZ e17 A_b4 g_b4 0 (by decide) (Nat.le_of_ble_eq_true rfl) (hb hby own_dI_230) ?_
  intro T18 h18 X18 e18 W18 A18
  replace A_b4 : own_A Z h18 .int b4 [(.int (1 : Int32)), (.int (0 : Int32))] := A18
  clear A18
  replace E_t := E_t.wr W18
  replace A_w := A_w.other W18 (Nat.ne_of_lt lt_w_b4)
  replace F_shift := F_shift.other W18 (Or.inl (Nat.ne_of_lt lt_t_b4))
  replace F_total := F_total.other W18 (Or.inl (Nat.ne_of_lt lt_t_b4))
  replace F_packed := F_packed.other W18 (Or.inl (Nat.ne_of_lt lt_t_b4))
  replace F_thresholds := F_thresholds.other W18 (Or.inl (Nat.ne_of_lt lt_t_b4))
  replace F_aliases := F_aliases.other W18 (Or.inl (Nat.ne_of_lt lt_t_b4))
  replace A_b3 := A_b3.other W18 (Nat.ne_of_lt lt_b3_b4)
  replace A_b8 := A_b8.other W18 (Ne.symm (Nat.ne_of_lt lt_b4_b8))
  replace A_b9 := A_b9.other W18 (Ne.symm (Nat.ne_of_lt lt_b4_b9))
  replace A_b10 := A_b10.other W18 (Ne.symm (Nat.ne_of_lt lt_b4_b10))
  replace hn := Nat.le_trans hn (Keep.of_wr W18).1
  clear W18 X17 e17
  refine own_gs 233 [(.ref b8)] (fun t' k => XS.aload X18.here hx rfl (hb hby own_dI_231) rfl rfl  k) ?_
  refine own_gs 235 [(.int (1 : Int32)), (.ref b8)] (fun t' k => XS.iload X18.here hx rfl (hb hby own_dI_233) rfl  k) ?_
  refine own_gs 236 [(.int (1 : Int32)), (.ref b8), (.int (1 : Int32)), (.ref b8)] (fun t' k => Jvm.Free.XT.dup2 X18.here hx rfl (hb hby own_dI_235) rfl rfl rfl k) ?_
  refine X18.ldJ hx hZ e18 A_b8 (v := (.long (Int64.ofInt (2 * B)))) 1 (by decide) rfl (hb hby own_dI_236) ?_
  refine own_gs 238 [(.ref t), (.long (Int64.ofInt (2 * B))), (.int (1 : Int32)), (.ref b8)] (fun t' k => XS.aloadN X18.here hx rfl (hb hby own_dI_237) rfl rfl  k) ?_
  refine X18.getF hx hZ hown (hw _ (List.mem_of_getElem? (i := 19) rfl)) e18 F_total (hb hby own_dI_238) ?_
  intro T19 X19 e19
  refine own_gs 243 [(.ref b8), (.long (Int64.ofInt (A + B))), (.long (Int64.ofInt (2 * B))), (.int (1 : Int32)), (.ref b8)] (fun t' k => XS.aload X19.here hx rfl (hb hby own_dI_241) rfl rfl  k) ?_
  refine own_gs 245 [(.int (0 : Int32)), (.ref b8), (.long (Int64.ofInt (A + B))), (.long (Int64.ofInt (2 * B))), (.int (1 : Int32)), (.ref b8)] (fun t' k => XS.iload X19.here hx rfl (hb hby own_dI_243) rfl  k) ?_
  refine X19.ldJ hx hZ e19 A_b8 (v := (.long (Int64.ofInt (2 * A)))) 0 (by decide) rfl (hb hby own_dI_245) ?_
  refine own_gs 247 [(.long ((Int64.ofInt (A + B)) - (Int64.ofInt (2 * A)))), (.long (Int64.ofInt (2 * B))), (.int (1 : Int32)), (.ref b8)] (fun t' k => XS.lsub X19.here hx rfl (hb hby own_dI_246) rfl k) ?_
  rw [own_osub (z := -1 * A + B) (show (Int64.ofInt (A + B)) = (Int64.ofInt (A + B)) from rfl) (show (Int64.ofInt (2 * A)) = (Int64.ofInt (2 * A)) from rfl) (by omega)]
  refine own_gs 248 [(.long ((Int64.ofInt (2 * B)) - (Int64.ofInt (-1 * A + B)))), (.int (1 : Int32)), (.ref b8)] (fun t' k => XS.lsub X19.here hx rfl (hb hby own_dI_247) rfl k) ?_
  rw [own_osub (z := A + B) (show (Int64.ofInt (2 * B)) = (Int64.ofInt (2 * B)) from rfl) (show (Int64.ofInt (-1 * A + B)) = (Int64.ofInt (-1 * A + B)) from rfl) (by omega)]
  refine X19.stJ hx hZ e19 A_b8 g_b8 1 (by decide) (Nat.le_of_ble_eq_true rfl) (hb hby own_dI_248) ?_
  intro T20 h20 X20 e20 W20 A20
  replace A_b8 : own_A Z h20 .long b8 [(.long (Int64.ofInt (2 * A))), (.long (Int64.ofInt (A + B)))] := A20
  clear A20
  replace E_t := E_t.wr W20
  replace A_w := A_w.other W20 (Nat.ne_of_lt lt_w_b8)
  replace F_shift := F_shift.other W20 (Or.inl (Nat.ne_of_lt lt_t_b8))
  replace F_total := F_total.other W20 (Or.inl (Nat.ne_of_lt lt_t_b8))
  replace F_packed := F_packed.other W20 (Or.inl (Nat.ne_of_lt lt_t_b8))
  replace F_thresholds := F_thresholds.other W20 (Or.inl (Nat.ne_of_lt lt_t_b8))
  replace F_aliases := F_aliases.other W20 (Or.inl (Nat.ne_of_lt lt_t_b8))
  replace A_b3 := A_b3.other W20 (Nat.ne_of_lt lt_b3_b8)
  replace A_b4 := A_b4.other W20 (Nat.ne_of_lt lt_b4_b8)
  replace A_b9 := A_b9.other W20 (Ne.symm (Nat.ne_of_lt lt_b8_b9))
  replace A_b10 := A_b10.other W20 (Ne.symm (Nat.ne_of_lt lt_b8_b10))
  replace hn := Nat.le_trans hn (Keep.of_wr W20).1
  clear W20 X19 e19
  refine own_gs 251 [(.ref b8)] (fun t' k => XS.aload X20.here hx rfl (hb hby own_dI_249) rfl rfl  k) ?_
  refine own_gs 253 [(.int (1 : Int32)), (.ref b8)] (fun t' k => XS.iload X20.here hx rfl (hb hby own_dI_251) rfl  k) ?_
  refine X20.ldJ hx hZ e20 A_b8 (v := (.long (Int64.ofInt (A + B)))) 1 (by decide) rfl (hb hby own_dI_253) ?_
  refine own_gs 255 [(.ref t), (.long (Int64.ofInt (A + B)))] (fun t' k => XS.aloadN X20.here hx rfl (hb hby own_dI_254) rfl rfl  k) ?_
  refine X20.getF hx hZ hown (hw _ (List.mem_of_getElem? (i := 19) rfl)) e20 F_total (hb hby own_dI_255) ?_
  intro T21 X21 e21
  refine own_gs 259 [(.int (lcmpW (Int64.ofInt (A + B)) (Int64.ofInt (A + B))))] (fun t' k => XS.lcmp X21.here hx rfl (hb hby own_dI_258) rfl k) ?_
  refine own_gs 275 [] (fun t' k => XS.ifYes X21.here hx rfl (pc0 := 259) (pc' := 275) rfl (hb hby own_dI_259) rfl ((if0 _ _).trans (flt (fun q => (own_onl (show (Int64.ofInt (A + B)) = (Int64.ofInt (A + B)) from rfl) (show (Int64.ofInt (A + B)) = (Int64.ofInt (A + B)) from rfl) (by omega) (by omega) (by omega)) ((lw_lt (Int64.ofInt (A + B)) (Int64.ofInt (A + B))).mp q))).2.1) (by decide) (by decide) k) ?_
  refine own_gs 186 [] (fun t' k => XS.goto X21.here hx rfl (pc0 := 275) (pc' := 186) rfl (hb hby own_dI_275) (by decide) (by decide) k) ?_
  refine own_gs 188 [(.int (0 : Int32))] (fun t' k => XS.iload X21.here hx rfl (hb hby own_dI_186) rfl  k) ?_
  refine own_gs 278 [] (fun t' k => XS.ifYes X21.here hx rfl (pc0 := 188) (pc' := 278) rfl (hb hby own_dI_188) rfl ((if0 _ _).trans (flt (by decide)).2.2.2) (by decide) (by decide) k) ?_
  refine own_gs 280 [(.int (1 : Int32))] (fun t' k => XS.iload X21.here hx rfl (hb hby own_dI_278) rfl  k) ?_
  refine own_gs 283 [] (fun t' k => XS.ifNo X21.here hx rfl (hb hby own_dI_280) rfl ((if0 _ _).trans (tlt (by decide)).2.2.2) k) ?_
  refine own_gs 285 [(.ref b10)] (fun t' k => XS.aload X21.here hx rfl (hb hby own_dI_283) rfl rfl  k) ?_
  refine own_go (mkF m 288 #[rv t, rv w, iv (2 : Int32), rv b3, rv b4, jv (Int64.ofInt (A + B)), .second, rv b8, rv b9, rv b10, iv (0 : Int32), iv (0 : Int32), iv (0 : Int32), iv (1 : Int32)] [(.ref b10)]) (fun t' k => XS.iinc X21.here hx rfl (hb hby own_dI_285) rfl rfl k) ?_
  refine own_gs 290 [(.int (0 : Int32)), (.ref b10)] (fun t' k => XS.iload X21.here hx rfl (hb hby own_dI_288) rfl  k) ?_
  refine X21.ldI hx hZ e21 A_b10 (v := (.int (1 : Int32))) 0 (by decide) rfl (hb hby own_dI_290) ?_
  refine own_go (mkF m 293 #[rv t, rv w, iv (2 : Int32), rv b3, rv b4, jv (Int64.ofInt (A + B)), .second, rv b8, rv b9, rv b10, iv (0 : Int32), iv (0 : Int32), iv (1 : Int32), iv (1 : Int32)] []) (fun t' k => XS.istore X21.here hx rfl (hb hby own_dI_291) rfl rfl k) ?_
  refine own_gs 295 [(.ref b4)] (fun t' k => XS.aload X21.here hx rfl (hb hby own_dI_293) rfl rfl  k) ?_
  refine own_gs 297 [(.int (1 : Int32)), (.ref b4)] (fun t' k => XS.iload X21.here hx rfl (hb hby own_dI_295) rfl  k) ?_
  refine own_gs 299 [(.int (1 : Int32)), (.int (1 : Int32)), (.ref b4)] (fun t' k => XS.iload X21.here hx rfl (hb hby own_dI_297) rfl  k) ?_
  refine X21.stI hx hZ e21 A_b4 g_b4 1 (by decide) (Nat.le_of_ble_eq_true rfl) (hb hby own_dI_299) ?_
  intro T22 h22 X22 e22 W22 A22
  replace A_b4 : own_A Z h22 .int b4 [(.int (1 : Int32)), (.int (1 : Int32))] := A22
  clear A22
  replace E_t := E_t.wr W22
  replace A_w := A_w.other W22 (Nat.ne_of_lt lt_w_b4)
  replace F_shift := F_shift.other W22 (Or.inl (Nat.ne_of_lt lt_t_b4))
  replace F_total := F_total.other W22 (Or.inl (Nat.ne_of_lt lt_t_b4))
  replace F_packed := F_packed.other W22 (Or.inl (Nat.ne_of_lt lt_t_b4))
  replace F_thresholds := F_thresholds.other W22 (Or.inl (Nat.ne_of_lt lt_t_b4))
  replace F_aliases := F_aliases.other W22 (Or.inl (Nat.ne_of_lt lt_t_b4))
  replace A_b3 := A_b3.other W22 (Nat.ne_of_lt lt_b3_b4)
  replace A_b8 := A_b8.other W22 (Ne.symm (Nat.ne_of_lt lt_b4_b8))
  replace A_b9 := A_b9.other W22 (Ne.symm (Nat.ne_of_lt lt_b4_b9))
  replace A_b10 := A_b10.other W22 (Ne.symm (Nat.ne_of_lt lt_b4_b10))
  replace hn := Nat.le_trans hn (Keep.of_wr W22).1
  clear W22 X21 e21
  refine own_gs 278 [] (fun t' k => XS.goto X22.here hx rfl (pc0 := 300) (pc' := 278) rfl (hb hby own_dI_300) (by decide) (by decide) k) ?_
  refine own_gs 280 [(.int (0 : Int32))] (fun t' k => XS.iload X22.here hx rfl (hb hby own_dI_278) rfl  k) ?_
  refine own_gs 303 [] (fun t' k => XS.ifYes X22.here hx rfl (pc0 := 280) (pc' := 303) rfl (hb hby own_dI_280) rfl ((if0 _ _).trans (flt (by decide)).2.2.2) (by decide) (by decide) k) ?_
  refine own_gs 304 [(.ref t)] (fun t' k => XS.aloadN X22.here hx rfl (hb hby own_dI_303) rfl rfl  k) ?_
  refine X22.getF hx hZ hown (hw _ (List.mem_of_getElem? (i := 19) rfl)) e22 F_total (hb hby own_dI_304) ?_
  intro T23 X23 e23
  refine own_gs 310 [(.long (8589934592 : Int64)), (.long (Int64.ofInt (A + B)))] (fun t' k => X23.ldc2Long hx hown (mvT hZ (hw _ (List.mem_of_getElem? (i := 21) rfl))) (g := (mkF m 307 #[rv t, rv w, iv (2 : Int32), rv b3, rv b4, jv (Int64.ofInt (A + B)), .second, rv b8, rv b9, rv b10, iv (0 : Int32), iv (0 : Int32), iv (1 : Int32), iv (1 : Int32)] [(.long (Int64.ofInt (A + B)))])) rfl (hb hby own_dI_307) _ k) ?_
  refine own_gs 311 [(.int (lcmpW (Int64.ofInt (A + B)) (8589934592 : Int64)))] (fun t' k => XS.lcmp X23.here hx rfl (hb hby own_dI_310) rfl k) ?_
  refine own_gs 314 [] (fun t' k => XS.ifNo X23.here hx rfl (hb hby own_dI_311) rfl ((if0 _ _).trans (flt (fun q => (own_onl (show (8589934592 : Int64) = Int64.ofInt (8589934592) from rfl) (show (Int64.ofInt (A + B)) = (Int64.ofInt (A + B)) from rfl) (by omega) (by omega) (by omega)) ((lw_gt (Int64.ofInt (A + B)) (8589934592 : Int64)).mp q))).2.2.1) k) ?_
  refine own_gs 315 [(.ref t)] (fun t' k => XS.aloadN X23.here hx rfl (hb hby own_dI_314) rfl rfl  k) ?_
  refine own_gs 316 [(.int (2 : Int32)), (.ref t)] (fun t' k => XS.iloadN X23.here hx rfl (hb hby own_dI_315) rfl  k) ?_
  refine X23.newP hx hZ (hw _ (List.mem_of_getElem? (i := 2) rfl)) e23 2 (by decide) (hb hby own_dI_316) 2 (by decide) (by decide) (by decide) (by decide) ?_
  intro T24 h24 b24 X24 e24 q24 xt24 A_b24
  have g_b24 : n0 ≤ b24 := by rw [q24]; exact hn
  have lt_t_b24 : t < b24 := by rw [q24]; exact E_t.lt
  have lt_w_b24 : w < b24 := by rw [q24]; exact A_w.lt
  have lt_b3_b24 : b3 < b24 := by rw [q24]; exact A_b3.lt
  have lt_b4_b24 : b4 < b24 := by rw [q24]; exact A_b4.lt
  have lt_b8_b24 : b8 < b24 := by rw [q24]; exact A_b8.lt
  have lt_b9_b24 : b9 < b24 := by rw [q24]; exact A_b9.lt
  have lt_b10_b24 : b10 < b24 := by rw [q24]; exact A_b10.lt
  replace E_t := E_t.ext xt24
  replace A_w := A_w.ext xt24
  replace F_shift := F_shift.ext xt24
  replace F_total := F_total.ext xt24
  replace F_packed := F_packed.ext xt24
  replace F_thresholds := F_thresholds.ext xt24
  replace F_aliases := F_aliases.ext xt24
  replace A_b3 := A_b3.ext xt24
  replace A_b4 := A_b4.ext xt24
  replace A_b8 := A_b8.ext xt24
  replace A_b9 := A_b9.ext xt24
  replace A_b10 := A_b10.ext xt24
  replace hn := Nat.le_trans hn xt24.1
  replace A_b24 : own_A Z h24 .long b24 [(.long (0 : Int64)), (.long (0 : Int64))] := A_b24
  refine X24.putF hx hZ hown (hw _ (List.mem_of_getElem? (i := 22) rfl)) e24 F_packed E_t g_t (Or.inr ⟨(hw _ (List.mem_of_getElem? (i := 23) rfl)), rfl, hnm⟩) (hw _ (List.mem_of_getElem? (i := 4) rfl)) (ty := (.array .long)) (by decide) rfl rfl (hb hby own_dI_318) ?_
  intro T25 h25 X25 e25 W25
  replace E_t := E_t.wr W25
  replace A_w := A_w.other W25 (Ne.symm ne_t_w)
  replace F_shift := F_shift.other W25 (Or.inr (own_sn_AliasTable_shift_packed hw))
  replace F_total := F_total.other W25 (Or.inr (own_sn_AliasTable_total_packed hw))
  replace F_packed := F_packed.same W25
  replace F_thresholds := F_thresholds.other W25 (Or.inr (own_sn_AliasTable_thresholds_packed hw))
  replace F_aliases := F_aliases.other W25 (Or.inr (own_sn_AliasTable_aliases_packed hw))
  replace A_b3 := A_b3.other W25 (Ne.symm (Nat.ne_of_lt lt_t_b3))
  replace A_b4 := A_b4.other W25 (Ne.symm (Nat.ne_of_lt lt_t_b4))
  replace A_b8 := A_b8.other W25 (Ne.symm (Nat.ne_of_lt lt_t_b8))
  replace A_b9 := A_b9.other W25 (Ne.symm (Nat.ne_of_lt lt_t_b9))
  replace A_b10 := A_b10.other W25 (Ne.symm (Nat.ne_of_lt lt_t_b10))
  replace A_b24 := A_b24.other W25 (Ne.symm (Nat.ne_of_lt lt_t_b24))
  replace hn := Nat.le_trans hn (Keep.of_wr W25).1
  clear W25 X24 e24
  refine own_gs 322 [(.int (0 : Int32))] (fun t' k => XS.iconst X25.here hx rfl (hb hby own_dI_321) k) ?_
  refine own_go (mkF m 324 #[rv t, rv w, iv (2 : Int32), rv b3, rv b4, jv (Int64.ofInt (A + B)), .second, rv b8, rv b9, rv b10, iv (0 : Int32), iv (0 : Int32), iv (0 : Int32), iv (1 : Int32)] []) (fun t' k => XS.istore X25.here hx rfl (hb hby own_dI_322) rfl rfl k) ?_
  refine own_gs 326 [(.int (0 : Int32))] (fun t' k => XS.iload X25.here hx rfl (hb hby own_dI_324) rfl  k) ?_
  refine own_gs 327 [(.int (2 : Int32)), (.int (0 : Int32))] (fun t' k => XS.iloadN X25.here hx rfl (hb hby own_dI_326) rfl  k) ?_
  refine own_gs 330 [] (fun t' k => XS.icmpNo X25.here hx rfl (hb hby own_dI_327) rfl (tlt (by decide)).2.1 k) ?_
  refine own_gs 331 [(.ref t)] (fun t' k => XS.aloadN X25.here hx rfl (hb hby own_dI_330) rfl rfl  k) ?_
  refine X25.getF hx hZ hown (hw _ (List.mem_of_getElem? (i := 22) rfl)) e25 F_packed (hb hby own_dI_331) ?_
  intro T26 X26 e26
  refine own_gs 336 [(.int (0 : Int32)), (.ref b24)] (fun t' k => XS.iload X26.here hx rfl (hb hby own_dI_334) rfl  k) ?_
  refine own_gs 337 [(.ref b3), (.int (0 : Int32)), (.ref b24)] (fun t' k => XS.aloadN X26.here hx rfl (hb hby own_dI_336) rfl rfl  k) ?_
  refine own_gs 339 [(.int (0 : Int32)), (.ref b3), (.int (0 : Int32)), (.ref b24)] (fun t' k => XS.iload X26.here hx rfl (hb hby own_dI_337) rfl  k) ?_
  refine X26.ldJ hx hZ e26 A_b3 (v := (.long (Int64.ofInt (2 * A)))) 0 (by decide) rfl (hb hby own_dI_339) ?_
  refine own_gs 342 [(.int (31 : Int32)), (.long (Int64.ofInt (2 * A))), (.int (0 : Int32)), (.ref b24)] (fun t' k => XS.bipush X26.here hx rfl (hb hby own_dI_340) k) ?_
  refine own_gs 343 [(.long ((Int64.ofInt (2 * A)) <<< ((31 : Int32) &&& 0x3f).toInt64)), (.int (0 : Int32)), (.ref b24)] (fun t' k => XS.lshl X26.here hx rfl (hb hby own_dI_342) rfl k) ?_
  refine own_gs 345 [(.ref b4), (.long ((Int64.ofInt (2 * A)) <<< ((31 : Int32) &&& 0x3f).toInt64)), (.int (0 : Int32)), (.ref b24)] (fun t' k => XS.aload X26.here hx rfl (hb hby own_dI_343) rfl rfl  k) ?_
  refine own_gs 347 [(.int (0 : Int32)), (.ref b4), (.long ((Int64.ofInt (2 * A)) <<< ((31 : Int32) &&& 0x3f).toInt64)), (.int (0 : Int32)), (.ref b24)] (fun t' k => XS.iload X26.here hx rfl (hb hby own_dI_345) rfl  k) ?_
  refine X26.ldI hx hZ e26 A_b4 (v := (.int (1 : Int32))) 0 (by decide) rfl (hb hby own_dI_347) ?_
  refine own_gs 349 [(.long (1 : Int64)), (.long ((Int64.ofInt (2 * A)) <<< ((31 : Int32) &&& 0x3f).toInt64)), (.int (0 : Int32)), (.ref b24)] (fun t' k => XS.i2l X26.here hx rfl (hb hby own_dI_348) rfl k) ?_
  refine own_gs 350 [(.long (((Int64.ofInt (2 * A)) <<< ((31 : Int32) &&& 0x3f).toInt64) ||| (1 : Int64))), (.int (0 : Int32)), (.ref b24)] (fun t' k => XS.lor X26.here hx rfl (hb hby own_dI_349) rfl k) ?_
  refine X26.stJ hx hZ e26 A_b24 g_b24 0 (by decide) (Nat.le_of_ble_eq_true rfl) (hb hby own_dI_350) ?_
  intro T27 h27 X27 e27 W27 A27
  replace A_b24 : own_A Z h27 .long b24 [(.long (((Int64.ofInt (2 * A)) <<< ((31 : Int32) &&& 0x3f).toInt64) ||| (1 : Int64))), (.long (0 : Int64))] := A27
  clear A27
  replace E_t := E_t.wr W27
  replace A_w := A_w.other W27 (Nat.ne_of_lt lt_w_b24)
  replace F_shift := F_shift.other W27 (Or.inl (Nat.ne_of_lt lt_t_b24))
  replace F_total := F_total.other W27 (Or.inl (Nat.ne_of_lt lt_t_b24))
  replace F_packed := F_packed.other W27 (Or.inl (Nat.ne_of_lt lt_t_b24))
  replace F_thresholds := F_thresholds.other W27 (Or.inl (Nat.ne_of_lt lt_t_b24))
  replace F_aliases := F_aliases.other W27 (Or.inl (Nat.ne_of_lt lt_t_b24))
  replace A_b3 := A_b3.other W27 (Nat.ne_of_lt lt_b3_b24)
  replace A_b4 := A_b4.other W27 (Nat.ne_of_lt lt_b4_b24)
  replace A_b8 := A_b8.other W27 (Nat.ne_of_lt lt_b8_b24)
  replace A_b9 := A_b9.other W27 (Nat.ne_of_lt lt_b9_b24)
  replace A_b10 := A_b10.other W27 (Nat.ne_of_lt lt_b10_b24)
  replace hn := Nat.le_trans hn (Keep.of_wr W27).1
  clear W27 X26 e26
  refine own_go (mkF m 354 #[rv t, rv w, iv (2 : Int32), rv b3, rv b4, jv (Int64.ofInt (A + B)), .second, rv b8, rv b9, rv b10, iv (0 : Int32), iv (0 : Int32), iv (1 : Int32), iv (1 : Int32)] []) (fun t' k => XS.iinc X27.here hx rfl (hb hby own_dI_351) rfl rfl k) ?_
  refine own_gs 324 [] (fun t' k => XS.goto X27.here hx rfl (pc0 := 354) (pc' := 324) rfl (hb hby own_dI_354) (by decide) (by decide) k) ?_
  refine own_gs 326 [(.int (1 : Int32))] (fun t' k => XS.iload X27.here hx rfl (hb hby own_dI_324) rfl  k) ?_
  refine own_gs 327 [(.int (2 : Int32)), (.int (1 : Int32))] (fun t' k => XS.iloadN X27.here hx rfl (hb hby own_dI_326) rfl  k) ?_
  refine own_gs 330 [] (fun t' k => XS.icmpNo X27.here hx rfl (hb hby own_dI_327) rfl (tlt (by decide)).2.1 k) ?_
  refine own_gs 331 [(.ref t)] (fun t' k => XS.aloadN X27.here hx rfl (hb hby own_dI_330) rfl rfl  k) ?_
  refine X27.getF hx hZ hown (hw _ (List.mem_of_getElem? (i := 22) rfl)) e27 F_packed (hb hby own_dI_331) ?_
  intro T28 X28 e28
  refine own_gs 336 [(.int (1 : Int32)), (.ref b24)] (fun t' k => XS.iload X28.here hx rfl (hb hby own_dI_334) rfl  k) ?_
  refine own_gs 337 [(.ref b3), (.int (1 : Int32)), (.ref b24)] (fun t' k => XS.aloadN X28.here hx rfl (hb hby own_dI_336) rfl rfl  k) ?_
  refine own_gs 339 [(.int (1 : Int32)), (.ref b3), (.int (1 : Int32)), (.ref b24)] (fun t' k => XS.iload X28.here hx rfl (hb hby own_dI_337) rfl  k) ?_
  refine X28.ldJ hx hZ e28 A_b3 (v := (.long (0 : Int64))) 1 (by decide) rfl (hb hby own_dI_339) ?_
  refine own_gs 342 [(.int (31 : Int32)), (.long (0 : Int64)), (.int (1 : Int32)), (.ref b24)] (fun t' k => XS.bipush X28.here hx rfl (hb hby own_dI_340) k) ?_
  refine own_gs 343 [(.long (0 : Int64)), (.int (1 : Int32)), (.ref b24)] (fun t' k => XS.lshl X28.here hx rfl (hb hby own_dI_342) rfl k) ?_
  refine own_gs 345 [(.ref b4), (.long (0 : Int64)), (.int (1 : Int32)), (.ref b24)] (fun t' k => XS.aload X28.here hx rfl (hb hby own_dI_343) rfl rfl  k) ?_
  refine own_gs 347 [(.int (1 : Int32)), (.ref b4), (.long (0 : Int64)), (.int (1 : Int32)), (.ref b24)] (fun t' k => XS.iload X28.here hx rfl (hb hby own_dI_345) rfl  k) ?_
  refine X28.ldI hx hZ e28 A_b4 (v := (.int (1 : Int32))) 1 (by decide) rfl (hb hby own_dI_347) ?_
  refine own_gs 349 [(.long (1 : Int64)), (.long (0 : Int64)), (.int (1 : Int32)), (.ref b24)] (fun t' k => XS.i2l X28.here hx rfl (hb hby own_dI_348) rfl k) ?_
  refine own_gs 350 [(.long (1 : Int64)), (.int (1 : Int32)), (.ref b24)] (fun t' k => XS.lor X28.here hx rfl (hb hby own_dI_349) rfl k) ?_
  refine X28.stJ hx hZ e28 A_b24 g_b24 1 (by decide) (Nat.le_of_ble_eq_true rfl) (hb hby own_dI_350) ?_
  intro T29 h29 X29 e29 W29 A29
  replace A_b24 : own_A Z h29 .long b24 [(.long (((Int64.ofInt (2 * A)) <<< ((31 : Int32) &&& 0x3f).toInt64) ||| (1 : Int64))), (.long (1 : Int64))] := A29
  clear A29
  replace E_t := E_t.wr W29
  replace A_w := A_w.other W29 (Nat.ne_of_lt lt_w_b24)
  replace F_shift := F_shift.other W29 (Or.inl (Nat.ne_of_lt lt_t_b24))
  replace F_total := F_total.other W29 (Or.inl (Nat.ne_of_lt lt_t_b24))
  replace F_packed := F_packed.other W29 (Or.inl (Nat.ne_of_lt lt_t_b24))
  replace F_thresholds := F_thresholds.other W29 (Or.inl (Nat.ne_of_lt lt_t_b24))
  replace F_aliases := F_aliases.other W29 (Or.inl (Nat.ne_of_lt lt_t_b24))
  replace A_b3 := A_b3.other W29 (Nat.ne_of_lt lt_b3_b24)
  replace A_b4 := A_b4.other W29 (Nat.ne_of_lt lt_b4_b24)
  replace A_b8 := A_b8.other W29 (Nat.ne_of_lt lt_b8_b24)
  replace A_b9 := A_b9.other W29 (Nat.ne_of_lt lt_b9_b24)
  replace A_b10 := A_b10.other W29 (Nat.ne_of_lt lt_b10_b24)
  replace hn := Nat.le_trans hn (Keep.of_wr W29).1
  clear W29 X28 e28
  refine own_go (mkF m 354 #[rv t, rv w, iv (2 : Int32), rv b3, rv b4, jv (Int64.ofInt (A + B)), .second, rv b8, rv b9, rv b10, iv (0 : Int32), iv (0 : Int32), iv (2 : Int32), iv (1 : Int32)] []) (fun t' k => XS.iinc X29.here hx rfl (hb hby own_dI_351) rfl rfl k) ?_
  refine own_gs 324 [] (fun t' k => XS.goto X29.here hx rfl (pc0 := 354) (pc' := 324) rfl (hb hby own_dI_354) (by decide) (by decide) k) ?_
  refine own_gs 326 [(.int (2 : Int32))] (fun t' k => XS.iload X29.here hx rfl (hb hby own_dI_324) rfl  k) ?_
  refine own_gs 327 [(.int (2 : Int32)), (.int (2 : Int32))] (fun t' k => XS.iloadN X29.here hx rfl (hb hby own_dI_326) rfl  k) ?_
  refine own_gs 357 [] (fun t' k => XS.icmpYes X29.here hx rfl (pc0 := 327) (pc' := 357) rfl (hb hby own_dI_327) rfl (flt (by decide)).2.1 (by decide) (by decide) k) ?_
  refine own_gs 358 [(.ref t)] (fun t' k => XS.aloadN X29.here hx rfl (hb hby own_dI_357) rfl rfl  k) ?_
  refine own_gs 359 [.null, (.ref t)] (fun t' k => XS.aconstNull X29.here hx rfl (hb hby own_dI_358) k) ?_
  refine X29.putF hx hZ hown (hw _ (List.mem_of_getElem? (i := 24) rfl)) e29 F_thresholds E_t g_t (Or.inr ⟨(hw _ (List.mem_of_getElem? (i := 25) rfl)), rfl, hnm⟩) (hw _ (List.mem_of_getElem? (i := 4) rfl)) (ty := (.array .long)) (by decide) rfl rfl (hb hby own_dI_359) ?_
  intro T30 h30 X30 e30 W30
  replace E_t := E_t.wr W30
  replace A_w := A_w.other W30 (Ne.symm ne_t_w)
  replace F_shift := F_shift.other W30 (Or.inr (own_sn_AliasTable_shift_thresholds hw))
  replace F_total := F_total.other W30 (Or.inr (own_sn_AliasTable_total_thresholds hw))
  replace F_packed := F_packed.other W30 (Or.inr (own_sn_AliasTable_packed_thresholds hw))
  replace F_thresholds := F_thresholds.same W30
  replace F_aliases := F_aliases.other W30 (Or.inr (own_sn_AliasTable_aliases_thresholds hw))
  replace A_b3 := A_b3.other W30 (Ne.symm (Nat.ne_of_lt lt_t_b3))
  replace A_b4 := A_b4.other W30 (Ne.symm (Nat.ne_of_lt lt_t_b4))
  replace A_b8 := A_b8.other W30 (Ne.symm (Nat.ne_of_lt lt_t_b8))
  replace A_b9 := A_b9.other W30 (Ne.symm (Nat.ne_of_lt lt_t_b9))
  replace A_b10 := A_b10.other W30 (Ne.symm (Nat.ne_of_lt lt_t_b10))
  replace A_b24 := A_b24.other W30 (Ne.symm (Nat.ne_of_lt lt_t_b24))
  replace hn := Nat.le_trans hn (Keep.of_wr W30).1
  clear W30 X29 e29
  refine own_gs 363 [(.ref t)] (fun t' k => XS.aloadN X30.here hx rfl (hb hby own_dI_362) rfl rfl  k) ?_
  refine own_gs 364 [.null, (.ref t)] (fun t' k => XS.aconstNull X30.here hx rfl (hb hby own_dI_363) k) ?_
  refine X30.putF hx hZ hown (hw _ (List.mem_of_getElem? (i := 26) rfl)) e30 F_aliases E_t g_t (Or.inr ⟨(hw _ (List.mem_of_getElem? (i := 27) rfl)), rfl, hnm⟩) (hw _ (List.mem_of_getElem? (i := 4) rfl)) (ty := (.array .int)) (by decide) rfl rfl (hb hby own_dI_364) ?_
  intro T31 h31 X31 e31 W31
  replace E_t := E_t.wr W31
  replace A_w := A_w.other W31 (Ne.symm ne_t_w)
  replace F_shift := F_shift.other W31 (Or.inr (own_sn_AliasTable_shift_aliases hw))
  replace F_total := F_total.other W31 (Or.inr (own_sn_AliasTable_total_aliases hw))
  replace F_packed := F_packed.other W31 (Or.inr (own_sn_AliasTable_packed_aliases hw))
  replace F_thresholds := F_thresholds.other W31 (Or.inr (own_sn_AliasTable_thresholds_aliases hw))
  replace F_aliases := F_aliases.same W31
  replace A_b3 := A_b3.other W31 (Ne.symm (Nat.ne_of_lt lt_t_b3))
  replace A_b4 := A_b4.other W31 (Ne.symm (Nat.ne_of_lt lt_t_b4))
  replace A_b8 := A_b8.other W31 (Ne.symm (Nat.ne_of_lt lt_t_b8))
  replace A_b9 := A_b9.other W31 (Ne.symm (Nat.ne_of_lt lt_t_b9))
  replace A_b10 := A_b10.other W31 (Ne.symm (Nat.ne_of_lt lt_t_b10))
  replace A_b24 := A_b24.other W31 (Ne.symm (Nat.ne_of_lt lt_t_b24))
  replace hn := Nat.le_trans hn (Keep.of_wr W31).1
  clear W31 X30 e30
  refine own_gs 386 [] (fun t' k => XS.goto X31.here hx rfl (pc0 := 367) (pc' := 386) rfl (hb hby own_dI_367) (by decide) (by decide) k) ?_
  refine X31.retV hx hlk hret (hb hby own_dI_386) ?_ (by decide) (by decide)
  rw [e31]
  exact ⟨rfl, hn, E_t, ⟨_, F_packed, A_b24⟩⟩

theorem own_pn_own_rmI2g : plainFor (⟨"com/example/load_across_peers/loadacrosspeers/internal/pick/AliasTable", "<init>", "([J)V"⟩ : MethodName) = true := plainFor_of_name (show plainName "com/example/load_across_peers/loadacrosspeers/internal/pick/AliasTable" = true by first | (simp [plainName, overriddenIn]; done) | decide +kernel)
set_option maxRecDepth 65536 in
set_option maxHeartbeats 40000000 in
theorem own_rmI2g (l : Launch) (Z : State) (a0 : Array Value) (hw : ∀ d ∈ tables_1, d.before a0 Z = true) (ws : List Jvm.Cond) (h0 : Heap) (n0 : Nat) (Z0 : n0 ≤ h0.size) (t w : Addr) (g_t : n0 ≤ t) (ne_t_w : t ≠ w) (A B : Int) (hA0 : 0 ≤ A) (hA2 : A ≤ 2147483647) (hB0 : 0 ≤ B) (hB2 : B ≤ 2147483647) (hab : B < A) (E_t : Exa Z h0 t "com/example/load_across_peers/loadacrosspeers/internal/pick/AliasTable") (A_w : own_A Z h0 .long w [(.long (Int64.ofInt (A))), (.long (Int64.ofInt (B)))]) (F_shift : Fld Z h0 t "com/example/load_across_peers/loadacrosspeers/internal/pick/AliasTable" "shift" "I" (.int (0 : Int32))) (F_total : Fld Z h0 t "com/example/load_across_peers/loadacrosspeers/internal/pick/AliasTable" "total" "J" (.long (0 : Int64))) (F_packed : Fld Z h0 t "com/example/load_across_peers/loadacrosspeers/internal/pick/AliasTable" "packed" "[J" .null) (F_thresholds : Fld Z h0 t "com/example/load_across_peers/loadacrosspeers/internal/pick/AliasTable" "thresholds" "[J" .null) (F_aliases : Fld Z h0 t "com/example/load_across_peers/loadacrosspeers/internal/pick/AliasTable" "aliases" "[I" .null)  :
    own_C l Z (⟨"com/example/load_across_peers/loadacrosspeers/internal/pick/AliasTable", "<init>", "([J)V"⟩ : MethodName) prog_10_method_1_code 14 none ws ({ frames := 2, cells := 6, slots := 12, locals := 27 } : Room) #[(.ref t), (.ref w)] h0 (own_Q n0 (fun v h => v = none ∧ n0 ≤ h.size ∧ Exa Z h t "com/example/load_across_peers/loadacrosspeers/internal/pick/AliasTable" ∧ ∃ b, Fld Z h t "com/example/load_across_peers/loadacrosspeers/internal/pick/AliasTable" "packed" "[J" (.ref b) ∧ own_A Z h .long b [(.long (own_pw (0 : Int64) (0 : Int64))), (.long (own_pw (Int64.ofInt (2 * B)) (0 : Int64)))])) := by
  refine own_met own_pn_own_rmI2g #[rv t, rv w, .unset, .unset, .unset, .unset, .unset, .unset, .unset, .unset, .unset, .unset, .unset, .unset] (fun m => by first | (simp [entryFrame, mkF, argsToLocals, Value.category]; done) | rfl) ?_
  intro p e s m below meth c s₁ hx hby hml hown hret hlk hZ hnm X0 e0
  replace X0 := own_S.of X0 (n0)
  have hn : n0 ≤ h0.size := Z0
  refine own_gs 1 [(.ref t)] (fun t' k => XS.aloadN X0.here hx rfl (hb hby own_dI_0) rfl rfl  k) ?_
  refine X0.initO hx hZ hown (hw _ (List.mem_of_getElem? (i := 9) rfl)) (hw _ (List.mem_of_getElem? (i := 10) rfl)) (hw _ (List.mem_of_getElem? (i := 11) rfl)) e0 (by rw [hml]; rfl) (hb hby own_dI_1) (by decide) 0 (Nat.le_of_eq rfl) (by decide) ?_
  intro T1 X1 e1
  refine own_gs 5 [(.ref w)] (fun t' k => XS.aloadN X1.here hx rfl (hb hby own_dI_4) rfl rfl  k) ?_
  refine X1.alen hx hZ e1 A_w (hb hby own_dI_5) ?_
  show own_G p e below s _ _ _ T1 (mkF m 6 #[rv t, rv w, .unset, .unset, .unset, .unset, .unset, .unset, .unset, .unset, .unset, .unset, .unset, .unset] [(.int (2 : Int32))])
  refine own_gs 7 [(.int (1 : Int32)), (.int (2 : Int32))] (fun t' k => XS.iconst X1.here hx rfl (hb hby own_dI_6) k) ?_
  refine own_gs 14 [] (fun t' k => XS.icmpYes X1.here hx rfl (pc0 := 7) (pc' := 14) rfl (hb hby own_dI_7) rfl (tlt (by decide)).2.2.1 (by decide) (by decide) k) ?_
  refine own_gs 15 [(.ref w)] (fun t' k => XS.aloadN X1.here hx rfl (hb hby own_dI_14) rfl rfl  k) ?_
  refine X1.alen hx hZ e1 A_w (hb hby own_dI_15) ?_
  show own_G p e below s _ _ _ T1 (mkF m 16 #[rv t, rv w, .unset, .unset, .unset, .unset, .unset, .unset, .unset, .unset, .unset, .unset, .unset, .unset] [(.int (2 : Int32))])
  refine own_gs 17 [(.int (1 : Int32)), (.int (2 : Int32))] (fun t' k => XS.iconst X1.here hx rfl (hb hby own_dI_16) k) ?_
  refine own_gs 18 [(.int (1 : Int32))] (fun t' k => XS.isub X1.here hx rfl (hb hby own_dI_17) rfl k) ?_
  refine X1.callP hx hZ (y := (⟨"java/lang/Integer", "highestOneBit", "(I)I"⟩ : MethodName)) (fr := 1) (lo := 15) (r := (.int (1 : Int32))) hown (hw _ (List.mem_of_getElem? (i := 38) rfl)) (hw _ (List.mem_of_getElem? (i := 39) rfl)) (hw _ (List.mem_of_getElem? (i := 15) rfl)) (hw _ (List.mem_of_getElem? (i := 40) rfl)) (by decide) e1 [(.int (1 : Int32))] [] (own_hob1 l Z a0 hw [] h0 ) 0 (by decide) (by decide) (Nat.le_of_eq rfl) (by decide) (by decide) (by rw [hml]; rfl) (lenOf own_pd0 rfl) rfl (hb hby own_dI_18) ?_
  intro T2 X2 e2
  refine own_gs 22 [(.int (1 : Int32)), (.int (1 : Int32))] (fun t' k => XS.iconst X2.here hx rfl (hb hby own_dI_21) k) ?_
  refine own_gs 23 [(.int (2 : Int32))] (fun t' k => XS.ishl X2.here hx rfl (hb hby own_dI_22) rfl k) ?_
  refine own_go (mkF m 24 #[rv t, rv w, iv (2 : Int32), .unset, .unset, .unset, .unset, .unset, .unset, .unset, .unset, .unset, .unset, .unset] []) (fun t' k => XS.istoreN X2.here hx rfl (hb hby own_dI_23) rfl rfl k) ?_
  refine own_gs 25 [(.int (2 : Int32))] (fun t' k => XS.iloadN X2.here hx rfl (hb hby own_dI_24) rfl  k) ?_
  refine X2.newP hx hZ (hw _ (List.mem_of_getElem? (i := 2) rfl)) e2 2 (by decide) (hb hby own_dI_25) 2 (by decide) (by decide) (by decide) (by decide) ?_
  intro T3 h3 b3 X3 e3 q3 xt3 A_b3
  have g_b3 : n0 ≤ b3 := by rw [q3]; exact hn
  have lt_t_b3 : t < b3 := by rw [q3]; exact E_t.lt
  have lt_w_b3 : w < b3 := by rw [q3]; exact A_w.lt
  replace E_t := E_t.ext xt3
  replace A_w := A_w.ext xt3
  replace F_shift := F_shift.ext xt3
  replace F_total := F_total.ext xt3
  replace F_packed := F_packed.ext xt3
  replace F_thresholds := F_thresholds.ext xt3
  replace F_aliases := F_aliases.ext xt3
  replace hn := Nat.le_trans hn xt3.1
  replace A_b3 : own_A Z h3 .long b3 [(.long (0 : Int64)), (.long (0 : Int64))] := A_b3
  refine own_go (mkF m 28 #[rv t, rv w, iv (2 : Int32), rv b3, .unset, .unset, .unset, .unset, .unset, .unset, .unset, .unset, .unset, .unset] []) (fun t' k => XS.astoreN X3.here hx rfl (hb hby own_dI_27) rfl rfl rfl k) ?_
  refine own_gs 29 [(.int (2 : Int32))] (fun t' k => XS.iloadN X3.here hx rfl (hb hby own_dI_28) rfl  k) ?_
  refine X3.newP hx hZ (hw _ (List.mem_of_getElem? (i := 12) rfl)) e3 2 (by decide) (hb hby own_dI_29) 2 (by decide) (by decide) (by decide) (by decide) ?_
  intro T4 h4 b4 X4 e4 q4 xt4 A_b4
  have g_b4 : n0 ≤ b4 := by rw [q4]; exact hn
  have lt_t_b4 : t < b4 := by rw [q4]; exact E_t.lt
  have lt_w_b4 : w < b4 := by rw [q4]; exact A_w.lt
  have lt_b3_b4 : b3 < b4 := by rw [q4]; exact A_b3.lt
  replace E_t := E_t.ext xt4
  replace A_w := A_w.ext xt4
  replace F_shift := F_shift.ext xt4
  replace F_total := F_total.ext xt4
  replace F_packed := F_packed.ext xt4
  replace F_thresholds := F_thresholds.ext xt4
  replace F_aliases := F_aliases.ext xt4
  replace A_b3 := A_b3.ext xt4
  replace hn := Nat.le_trans hn xt4.1
  replace A_b4 : own_A Z h4 .int b4 [(.int (0 : Int32)), (.int (0 : Int32))] := A_b4
  refine own_go (mkF m 33 #[rv t, rv w, iv (2 : Int32), rv b3, rv b4, .unset, .unset, .unset, .unset, .unset, .unset, .unset, .unset, .unset] []) (fun t' k => XS.astore X4.here hx rfl (hb hby own_dI_31) rfl rfl rfl k) ?_
  refine own_gs 34 [(.ref t)] (fun t' k => XS.aloadN X4.here hx rfl (hb hby own_dI_33) rfl rfl  k) ?_
  refine own_gs 36 [(.int (64 : Int32)), (.ref t)] (fun t' k => XS.bipush X4.here hx rfl (hb hby own_dI_34) k) ?_
  refine own_gs 37 [(.int (2 : Int32)), (.int (64 : Int32)), (.ref t)] (fun t' k => XS.iloadN X4.here hx rfl (hb hby own_dI_36) rfl  k) ?_
  refine X4.callP hx hZ (y := (⟨"java/lang/Integer", "numberOfTrailingZeros", "(I)I"⟩ : MethodName)) (fr := 0) (lo := 0) (r := (.int (1 : Int32))) hown (hw _ (List.mem_of_getElem? (i := 13) rfl)) (hw _ (List.mem_of_getElem? (i := 14) rfl)) (hw _ (List.mem_of_getElem? (i := 15) rfl)) (hw _ (List.mem_of_getElem? (i := 16) rfl)) (by decide) e4 [(.int (2 : Int32))] [(.int (64 : Int32)), (.ref t)] (own_ntz2 l Z a0 hw [] h4 ) 2 (by decide) (by decide) (Nat.le_of_eq rfl) (by decide) (by decide) (by rw [hml]; rfl) (lenOf own_pd0 rfl) rfl (hb hby own_dI_37) ?_
  intro T5 X5 e5
  refine own_gs 41 [(.int (63 : Int32)), (.ref t)] (fun t' k => XS.isub X5.here hx rfl (hb hby own_dI_40) rfl k) ?_
  refine X5.putF hx hZ hown (hw _ (List.mem_of_getElem? (i := 17) rfl)) e5 F_shift E_t g_t (Or.inr ⟨(hw _ (List.mem_of_getElem? (i := 18) rfl)), rfl, hnm⟩) (hw _ (List.mem_of_getElem? (i := 4) rfl)) (ty := .int) (by decide) rfl rfl (hb hby own_dI_41) ?_
  intro T6 h6 X6 e6 W6
  replace E_t := E_t.wr W6
  replace A_w := A_w.other W6 (Ne.symm ne_t_w)
  replace F_shift := F_shift.same W6
  replace F_total := F_total.other W6 (Or.inr (own_sn_AliasTable_total_shift hw))
  replace F_packed := F_packed.other W6 (Or.inr (own_sn_AliasTable_packed_shift hw))
  replace F_thresholds := F_thresholds.other W6 (Or.inr (own_sn_AliasTable_thresholds_shift hw))
  replace F_aliases := F_aliases.other W6 (Or.inr (own_sn_AliasTable_aliases_shift hw))
  replace A_b3 := A_b3.other W6 (Ne.symm (Nat.ne_of_lt lt_t_b3))
  replace A_b4 := A_b4.other W6 (Ne.symm (Nat.ne_of_lt lt_t_b4))
  replace hn := Nat.le_trans hn (Keep.of_wr W6).1
  clear W6 X5 e5
  refine own_gs 45 [(.long (0 : Int64))] (fun t' k => XS.lconst X6.here hx rfl (hb hby own_dI_44) k) ?_
  refine own_go (mkF m 47 #[rv t, rv w, iv (2 : Int32), rv b3, rv b4, jv (0 : Int64), .second, .unset, .unset, .unset, .unset, .unset, .unset, .unset] []) (fun t' k => XS.lstore X6.here hx rfl (hb hby own_dI_45) rfl rfl k) ?_
  refine own_gs 48 [(.ref w)] (fun t' k => XS.aloadN X6.here hx rfl (hb hby own_dI_47) rfl rfl  k) ?_
  refine own_go (mkF m 50 #[rv t, rv w, iv (2 : Int32), rv b3, rv b4, jv (0 : Int64), .second, rv w, .unset, .unset, .unset, .unset, .unset, .unset] []) (fun t' k => XS.astore X6.here hx rfl (hb hby own_dI_48) rfl rfl rfl k) ?_
  refine own_gs 52 [(.ref w)] (fun t' k => XS.aload X6.here hx rfl (hb hby own_dI_50) rfl rfl  k) ?_
  refine X6.alen hx hZ e6 A_w (hb hby own_dI_52) ?_
  show own_G p e below s _ _ _ T6 (mkF m 53 #[rv t, rv w, iv (2 : Int32), rv b3, rv b4, jv (0 : Int64), .second, rv w, .unset, .unset, .unset, .unset, .unset, .unset] [(.int (2 : Int32))])
  refine own_go (mkF m 55 #[rv t, rv w, iv (2 : Int32), rv b3, rv b4, jv (0 : Int64), .second, rv w, iv (2 : Int32), .unset, .unset, .unset, .unset, .unset] []) (fun t' k => XS.istore X6.here hx rfl (hb hby own_dI_53) rfl rfl k) ?_
  refine own_gs 56 [(.int (0 : Int32))] (fun t' k => XS.iconst X6.here hx rfl (hb hby own_dI_55) k) ?_
  refine own_go (mkF m 58 #[rv t, rv w, iv (2 : Int32), rv b3, rv b4, jv (0 : Int64), .second, rv w, iv (2 : Int32), iv (0 : Int32), .unset, .unset, .unset, .unset] []) (fun t' k => XS.istore X6.here hx rfl (hb hby own_dI_56) rfl rfl k) ?_
  refine own_gs 60 [(.int (0 : Int32))] (fun t' k => XS.iload X6.here hx rfl (hb hby own_dI_58) rfl  k) ?_
  refine own_gs 62 [(.int (2 : Int32)), (.int (0 : Int32))] (fun t' k => XS.iload X6.here hx rfl (hb hby own_dI_60) rfl  k) ?_
  refine own_gs 65 [] (fun t' k => XS.icmpNo X6.here hx rfl (hb hby own_dI_62) rfl (tlt (by decide)).2.1 k) ?_
  refine own_gs 67 [(.ref w)] (fun t' k => XS.aload X6.here hx rfl (hb hby own_dI_65) rfl rfl  k) ?_
  refine own_gs 69 [(.int (0 : Int32)), (.ref w)] (fun t' k => XS.iload X6.here hx rfl (hb hby own_dI_67) rfl  k) ?_
  refine X6.ldJ hx hZ e6 A_w (v := (.long (Int64.ofInt (A)))) 0 (by decide) rfl (hb hby own_dI_69) ?_
  refine own_go (mkF m 72 #[rv t, rv w, iv (2 : Int32), rv b3, rv b4, jv (0 : Int64), .second, rv w, iv (2 : Int32), iv (0 : Int32), jv (Int64.ofInt (A)), .second, .unset, .unset] []) (fun t' k => XS.lstore X6.here hx rfl (hb hby own_dI_70) rfl rfl k) ?_
  refine own_gs 74 [(.long (0 : Int64))] (fun t' k => XS.lload X6.here hx rfl (hb hby own_dI_72) rfl  k) ?_
  refine own_gs 76 [(.long (Int64.ofInt (A))), (.long (0 : Int64))] (fun t' k => XS.lload X6.here hx rfl (hb hby own_dI_74) rfl  k) ?_
  refine own_gs 77 [(.long ((0 : Int64) + (Int64.ofInt (A))))] (fun t' k => XS.ladd X6.here hx rfl (hb hby own_dI_76) rfl k) ?_
  rw [own_oadd (z := A) (show (0 : Int64) = Int64.ofInt (0) from rfl) (show (Int64.ofInt (A)) = (Int64.ofInt (A)) from rfl) (by omega)]
  refine own_go (mkF m 79 #[rv t, rv w, iv (2 : Int32), rv b3, rv b4, jv (Int64.ofInt (A)), .second, rv w, iv (2 : Int32), iv (0 : Int32), jv (Int64.ofInt (A)), .second, .unset, .unset] []) (fun t' k => XS.lstore X6.here hx rfl (hb hby own_dI_77) rfl rfl k) ?_
  refine own_go (mkF m 82 #[rv t, rv w, iv (2 : Int32), rv b3, rv b4, jv (Int64.ofInt (A)), .second, rv w, iv (2 : Int32), iv (1 : Int32), jv (Int64.ofInt (A)), .second, .unset, .unset] []) (fun t' k => XS.iinc X6.here hx rfl (hb hby own_dI_79) rfl rfl k) ?_
  refine own_gs 58 [] (fun t' k => XS.goto X6.here hx rfl (pc0 := 82) (pc' := 58) rfl (hb hby own_dI_82) (by decide) (by decide) k) ?_
  refine own_gs 60 [(.int (1 : Int32))] (fun t' k => XS.iload X6.here hx rfl (hb hby own_dI_58) rfl  k) ?_
  refine own_gs 62 [(.int (2 : Int32)), (.int (1 : Int32))] (fun t' k => XS.iload X6.here hx rfl (hb hby own_dI_60) rfl  k) ?_
  refine own_gs 65 [] (fun t' k => XS.icmpNo X6.here hx rfl (hb hby own_dI_62) rfl (tlt (by decide)).2.1 k) ?_
  refine own_gs 67 [(.ref w)] (fun t' k => XS.aload X6.here hx rfl (hb hby own_dI_65) rfl rfl  k) ?_
  refine own_gs 69 [(.int (1 : Int32)), (.ref w)] (fun t' k => XS.iload X6.here hx rfl (hb hby own_dI_67) rfl  k) ?_
  refine X6.ldJ hx hZ e6 A_w (v := (.long (Int64.ofInt (B)))) 1 (by decide) rfl (hb hby own_dI_69) ?_
  refine own_go (mkF m 72 #[rv t, rv w, iv (2 : Int32), rv b3, rv b4, jv (Int64.ofInt (A)), .second, rv w, iv (2 : Int32), iv (1 : Int32), jv (Int64.ofInt (B)), .second, .unset, .unset] []) (fun t' k => XS.lstore X6.here hx rfl (hb hby own_dI_70) rfl rfl k) ?_
  refine own_gs 74 [(.long (Int64.ofInt (A)))] (fun t' k => XS.lload X6.here hx rfl (hb hby own_dI_72) rfl  k) ?_
  refine own_gs 76 [(.long (Int64.ofInt (B))), (.long (Int64.ofInt (A)))] (fun t' k => XS.lload X6.here hx rfl (hb hby own_dI_74) rfl  k) ?_
  refine own_gs 77 [(.long ((Int64.ofInt (A)) + (Int64.ofInt (B))))] (fun t' k => XS.ladd X6.here hx rfl (hb hby own_dI_76) rfl k) ?_
  rw [own_oadd (z := A + B) (show (Int64.ofInt (A)) = (Int64.ofInt (A)) from rfl) (show (Int64.ofInt (B)) = (Int64.ofInt (B)) from rfl) (by omega)]
  refine own_go (mkF m 79 #[rv t, rv w, iv (2 : Int32), rv b3, rv b4, jv (Int64.ofInt (A + B)), .second, rv w, iv (2 : Int32), iv (1 : Int32), jv (Int64.ofInt (B)), .second, .unset, .unset] []) (fun t' k => XS.lstore X6.here hx rfl (hb hby own_dI_77) rfl rfl k) ?_
  refine own_go (mkF m 82 #[rv t, rv w, iv (2 : Int32), rv b3, rv b4, jv (Int64.ofInt (A + B)), .second, rv w, iv (2 : Int32), iv (2 : Int32), jv (Int64.ofInt (B)), .second, .unset, .unset] []) (fun t' k => XS.iinc X6.here hx rfl (hb hby own_dI_79) rfl rfl k) ?_
  refine own_gs 58 [] (fun t' k => XS.goto X6.here hx rfl (pc0 := 82) (pc' := 58) rfl (hb hby own_dI_82) (by decide) (by decide) k) ?_
  refine own_gs 60 [(.int (2 : Int32))] (fun t' k => XS.iload X6.here hx rfl (hb hby own_dI_58) rfl  k) ?_
  refine own_gs 62 [(.int (2 : Int32)), (.int (2 : Int32))] (fun t' k => XS.iload X6.here hx rfl (hb hby own_dI_60) rfl  k) ?_
  refine own_gs 85 [] (fun t' k => XS.icmpYes X6.here hx rfl (pc0 := 62) (pc' := 85) rfl (hb hby own_dI_62) rfl (flt (by decide)).2.1 (by decide) (by decide) k) ?_
  refine own_gs 86 [(.ref t)] (fun t' k => XS.aloadN X6.here hx rfl (hb hby own_dI_85) rfl rfl  k) ?_
  refine own_gs 88 [(.long (Int64.ofInt (A + B))), (.ref t)] (fun t' k => XS.lload X6.here hx rfl (hb hby own_dI_86) rfl  k) ?_
  refine X6.putF hx hZ hown (hw _ (List.mem_of_getElem? (i := 19) rfl)) e6 F_total E_t g_t (Or.inr ⟨(hw _ (List.mem_of_getElem? (i := 20) rfl)), rfl, hnm⟩) (hw _ (List.mem_of_getElem? (i := 4) rfl)) (ty := .long) (by decide) rfl rfl (hb hby own_dI_88) ?_
  intro T7 h7 X7 e7 W7
  replace E_t := E_t.wr W7
  replace A_w := A_w.other W7 (Ne.symm ne_t_w)
  replace F_shift := F_shift.other W7 (Or.inr (own_sn_AliasTable_shift_total hw))
  replace F_total := F_total.same W7
  replace F_packed := F_packed.other W7 (Or.inr (own_sn_AliasTable_packed_total hw))
  replace F_thresholds := F_thresholds.other W7 (Or.inr (own_sn_AliasTable_thresholds_total hw))
  replace F_aliases := F_aliases.other W7 (Or.inr (own_sn_AliasTable_aliases_total hw))
  replace A_b3 := A_b3.other W7 (Ne.symm (Nat.ne_of_lt lt_t_b3))
  replace A_b4 := A_b4.other W7 (Ne.symm (Nat.ne_of_lt lt_t_b4))
  replace hn := Nat.le_trans hn (Keep.of_wr W7).1
  clear W7 X6 e6
  refine own_gs 92 [(.int (2 : Int32))] (fun t' k => XS.iloadN X7.here hx rfl (hb hby own_dI_91) rfl  k) ?_
  refine X7.newP hx hZ (hw _ (List.mem_of_getElem? (i := 2) rfl)) e7 2 (by decide) (hb hby own_dI_92) 2 (by decide) (by decide) (by decide) (by decide) ?_
  intro T8 h8 b8 X8 e8 q8 xt8 A_b8
  have g_b8 : n0 ≤ b8 := by rw [q8]; exact hn
  have lt_t_b8 : t < b8 := by rw [q8]; exact E_t.lt
  have lt_w_b8 : w < b8 := by rw [q8]; exact A_w.lt
  have lt_b3_b8 : b3 < b8 := by rw [q8]; exact A_b3.lt
  have lt_b4_b8 : b4 < b8 := by rw [q8]; exact A_b4.lt
  replace E_t := E_t.ext xt8
  replace A_w := A_w.ext xt8
  replace F_shift := F_shift.ext xt8
  replace F_total := F_total.ext xt8
  replace F_packed := F_packed.ext xt8
  replace F_thresholds := F_thresholds.ext xt8
  replace F_aliases := F_aliases.ext xt8
  replace A_b3 := A_b3.ext xt8
  replace A_b4 := A_b4.ext xt8
  replace hn := Nat.le_trans hn xt8.1
  replace A_b8 : own_A Z h8 .long b8 [(.long (0 : Int64)), (.long (0 : Int64))] := A_b8
  refine own_go (mkF m 96 #[rv t, rv w, iv (2 : Int32), rv b3, rv b4, jv (Int64.ofInt (A + B)), .second, rv b8, iv (2 : Int32), iv (2 : Int32), jv (Int64.ofInt (B)), .second, .unset, .unset] []) (fun t' k => XS.astore X8.here hx rfl (hb hby own_dI_94) rfl rfl rfl k) ?_
  refine own_gs 97 [(.int (2 : Int32))] (fun t' k => XS.iloadN X8.here hx rfl (hb hby own_dI_96) rfl  k) ?_
  refine X8.newP hx hZ (hw _ (List.mem_of_getElem? (i := 12) rfl)) e8 2 (by decide) (hb hby own_dI_97) 2 (by decide) (by decide) (by decide) (by decide) ?_
  intro T9 h9 b9 X9 e9 q9 xt9 A_b9
  have g_b9 : n0 ≤ b9 := by rw [q9]; exact hn
  have lt_t_b9 : t < b9 := by rw [q9]; exact E_t.lt
  have lt_w_b9 : w < b9 := by rw [q9]; exact A_w.lt
  have lt_b3_b9 : b3 < b9 := by rw [q9]; exact A_b3.lt
  have lt_b4_b9 : b4 < b9 := by rw [q9]; exact A_b4.lt
  have lt_b8_b9 : b8 < b9 := by rw [q9]; exact A_b8.lt
  replace E_t := E_t.ext xt9
  replace A_w := A_w.ext xt9
  replace F_shift := F_shift.ext xt9
  replace F_total := F_total.ext xt9
  replace F_packed := F_packed.ext xt9
  replace F_thresholds := F_thresholds.ext xt9
  replace F_aliases := F_aliases.ext xt9
  replace A_b3 := A_b3.ext xt9
  replace A_b4 := A_b4.ext xt9
  replace A_b8 := A_b8.ext xt9
  replace hn := Nat.le_trans hn xt9.1
  replace A_b9 : own_A Z h9 .int b9 [(.int (0 : Int32)), (.int (0 : Int32))] := A_b9
  refine own_go (mkF m 101 #[rv t, rv w, iv (2 : Int32), rv b3, rv b4, jv (Int64.ofInt (A + B)), .second, rv b8, rv b9, iv (2 : Int32), jv (Int64.ofInt (B)), .second, .unset, .unset] []) (fun t' k => XS.astore X9.here hx rfl (hb hby own_dI_99) rfl rfl rfl k) ?_
  refine own_gs 102 [(.int (2 : Int32))] (fun t' k => XS.iloadN X9.here hx rfl (hb hby own_dI_101) rfl  k) ?_
  refine X9.newP hx hZ (hw _ (List.mem_of_getElem? (i := 12) rfl)) e9 2 (by decide) (hb hby own_dI_102) 2 (by decide) (by decide) (by decide) (by decide) ?_
  intro T10 h10 b10 X10 e10 q10 xt10 A_b10
  have g_b10 : n0 ≤ b10 := by rw [q10]; exact hn
  have lt_t_b10 : t < b10 := by rw [q10]; exact E_t.lt
  have lt_w_b10 : w < b10 := by rw [q10]; exact A_w.lt
  have lt_b3_b10 : b3 < b10 := by rw [q10]; exact A_b3.lt
  have lt_b4_b10 : b4 < b10 := by rw [q10]; exact A_b4.lt
  have lt_b8_b10 : b8 < b10 := by rw [q10]; exact A_b8.lt
  have lt_b9_b10 : b9 < b10 := by rw [q10]; exact A_b9.lt
  replace E_t := E_t.ext xt10
  replace A_w := A_w.ext xt10
  replace F_shift := F_shift.ext xt10
  replace F_total := F_total.ext xt10
  replace F_packed := F_packed.ext xt10
  replace F_thresholds := F_thresholds.ext xt10
  replace F_aliases := F_aliases.ext xt10
  replace A_b3 := A_b3.ext xt10
  replace A_b4 := A_b4.ext xt10
  replace A_b8 := A_b8.ext xt10
  replace A_b9 := A_b9.ext xt10
  replace hn := Nat.le_trans hn xt10.1
  replace A_b10 : own_A Z h10 .int b10 [(.int (0 : Int32)), (.int (0 : Int32))] := A_b10
  refine own_go (mkF m 106 #[rv t, rv w, iv (2 : Int32), rv b3, rv b4, jv (Int64.ofInt (A + B)), .second, rv b8, rv b9, rv b10, jv (Int64.ofInt (B)), .second, .unset, .unset] []) (fun t' k => XS.astore X10.here hx rfl (hb hby own_dI_104) rfl rfl rfl k) ?_
  refine own_gs 107 [(.int (0 : Int32))] (fun t' k => XS.iconst X10.here hx rfl (hb hby own_dI_106) k) ?_
  refine own_go (mkF m 109 #[rv t, rv w, iv (2 : Int32), rv b3, rv b4, jv (Int64.ofInt (A + B)), .second, rv b8, rv b9, rv b10, iv (0 : Int32), .unset, .unset, .unset] []) (fun t' k => XS.istore X10.here hx rfl (hb hby own_dI_107) rfl rfl k) ?_
  refine own_gs 110 [(.int (0 : Int32))] (fun t' k => XS.iconst X10.here hx rfl (hb hby own_dI_109) k) ?_
  refine own_go (mkF m 112 #[rv t, rv w, iv (2 : Int32), rv b3, rv b4, jv (Int64.ofInt (A + B)), .second, rv b8, rv b9, rv b10, iv (0 : Int32), iv (0 : Int32), .unset, .unset] []) (fun t' k => XS.istore X10.here hx rfl (hb hby own_dI_110) rfl rfl k) ?_
  refine own_gs 113 [(.int (0 : Int32))] (fun t' k => XS.iconst X10.here hx rfl (hb hby own_dI_112) k) ?_
  refine own_go (mkF m 115 #[rv t, rv w, iv (2 : Int32), rv b3, rv b4, jv (Int64.ofInt (A + B)), .second, rv b8, rv b9, rv b10, iv (0 : Int32), iv (0 : Int32), iv (0 : Int32), .unset] []) (fun t' k => XS.istore X10.here hx rfl (hb hby own_dI_113) rfl rfl k) ?_
  refine own_gs 117 [(.int (0 : Int32))] (fun t' k => XS.iload X10.here hx rfl (hb hby own_dI_115) rfl  k) ?_
  refine own_gs 118 [(.int (2 : Int32)), (.int (0 : Int32))] (fun t' k => XS.iloadN X10.here hx rfl (hb hby own_dI_117) rfl  k) ?_
  refine own_gs 121 [] (fun t' k => XS.icmpNo X10.here hx rfl (hb hby own_dI_118) rfl (tlt (by decide)).2.1 k) ?_
  refine own_gs 123 [(.ref b8)] (fun t' k => XS.aload X10.here hx rfl (hb hby own_dI_121) rfl rfl  k) ?_
  refine own_gs 125 [(.int (0 : Int32)), (.ref b8)] (fun t' k => XS.iload X10.here hx rfl (hb hby own_dI_123) rfl  k) ?_
  refine own_gs 127 [(.int (0 : Int32)), (.int (0 : Int32)), (.ref b8)] (fun t' k => XS.iload X10.here hx rfl (hb hby own_dI_125) rfl  k) ?_
  refine own_gs 128 [(.ref w), (.int (0 : Int32)), (.int (0 : Int32)), (.ref b8)] (fun t' k => XS.aloadN X10.here hx rfl (hb hby own_dI_127) rfl rfl  k) ?_
  refine X10.alen hx hZ e10 A_w (hb hby own_dI_128) ?_
  show own_G p e below s _ _ _ T10 (mkF m 129 #[rv t, rv w, iv (2 : Int32), rv b3, rv b4, jv (Int64.ofInt (A + B)), .second, rv b8, rv b9, rv b10, iv (0 : Int32), iv (0 : Int32), iv (0 : Int32), .unset] [(.int (2 : Int32)), (.int (0 : Int32)), (.int (0 : Int32)), (.ref b8)])
  refine own_gs 132 [(.int (0 : Int32)), (.ref b8)] (fun t' k => XS.icmpNo X10.here hx rfl (hb hby own_dI_129) rfl (tlt (by decide)).2.1 k) ?_
  refine own_gs 133 [(.ref w), (.int (0 : Int32)), (.ref b8)] (fun t' k => XS.aloadN X10.here hx rfl (hb hby own_dI_132) rfl rfl  k) ?_
  refine own_gs 135 [(.int (0 : Int32)), (.ref w), (.int (0 : Int32)), (.ref b8)] (fun t' k => XS.iload X10.here hx rfl (hb hby own_dI_133) rfl  k) ?_
  refine X10.ldJ hx hZ e10 A_w (v := (.long (Int64.ofInt (A)))) 0 (by decide) rfl (hb hby own_dI_135) ?_
  refine own_gs 137 [(.int (2 : Int32)), (.long (Int64.ofInt (A))), (.int (0 : Int32)), (.ref b8)] (fun t' k => XS.iloadN X10.here hx rfl (hb hby own_dI_136) rfl  k) ?_
  refine own_gs 138 [(.long (2 : Int64)), (.long (Int64.ofInt (A))), (.int (0 : Int32)), (.ref b8)] (fun t' k => XS.i2l X10.here hx rfl (hb hby own_dI_137) rfl k) ?_
  refine own_gs 139 [(.long ((Int64.ofInt (A)) * (2 : Int64))), (.int (0 : Int32)), (.ref b8)] (fun t' k => XS.lmul X10.here hx rfl (hb hby own_dI_138) rfl k) ?_
  rw [own_omul (z := 2 * A) (show (Int64.ofInt (A)) = (Int64.ofInt (A)) from rfl) (show (2 : Int64) = Int64.ofInt (2) from rfl) (by omega)]
  refine own_gs 143 [(.long (Int64.ofInt (2 * A))), (.int (0 : Int32)), (.ref b8)] (fun t' k => XS.goto X10.here hx rfl (pc0 := 139) (pc' := 143) rfl (hb hby own_dI_139) (by decide) (by decide) k) ?_
  refine X10.stJ hx hZ e10 A_b8 g_b8 0 (by decide) (Nat.le_of_ble_eq_true rfl) (hb hby own_dI_143) ?_
  intro T11 h11 X11 e11 W11 A11
  replace A_b8 : own_A Z h11 .long b8 [(.long (Int64.ofInt (2 * A))), (.long (0 : Int64))] := A11
  clear A11
  replace E_t := E_t.wr W11
  replace A_w := A_w.other W11 (Nat.ne_of_lt lt_w_b8)
  replace F_shift := F_shift.other W11 (Or.inl (Nat.ne_of_lt lt_t_b8))
  replace F_total := F_total.other W11 (Or.inl (Nat.ne_of_lt lt_t_b8))
  replace F_packed := F_packed.other W11 (Or.inl (Nat.ne_of_lt lt_t_b8))
  replace F_thresholds := F_thresholds.other W11 (Or.inl (Nat.ne_of_lt lt_t_b8))
  replace F_aliases := F_aliases.other W11 (Or.inl (Nat.ne_of_lt lt_t_b8))
  replace A_b3 := A_b3.other W11 (Nat.ne_of_lt lt_b3_b8)
  replace A_b4 := A_b4.other W11 (Nat.ne_of_lt lt_b4_b8)
  replace A_b9 := A_b9.other W11 (Ne.symm (Nat.ne_of_lt lt_b8_b9))
  replace A_b10 := A_b10.other W11 (Ne.symm (Nat.ne_of_lt lt_b8_b10))
  replace hn := Nat.le_trans hn (Keep.of_wr W11).1
  clear W11 X10 e10
  refine own_gs 146 [(.ref b8)] (fun t' k => XS.aload X11.here hx rfl (hb hby own_dI_144) rfl rfl  k) ?_
  refine own_gs 148 [(.int (0 : Int32)), (.ref b8)] (fun t' k => XS.iload X11.here hx rfl (hb hby own_dI_146) rfl  k) ?_
  refine X11.ldJ hx hZ e11 A_b8 (v := (.long (Int64.ofInt (2 * A)))) 0 (by decide) rfl (hb hby own_dI_148) ?_
  refine own_gs 150 [(.ref t), (.long (Int64.ofInt (2 * A)))] (fun t' k => XS.aloadN X11.here hx rfl (hb hby own_dI_149) rfl rfl  k) ?_
  refine X11.getF hx hZ hown (hw _ (List.mem_of_getElem? (i := 19) rfl)) e11 F_total (hb hby own_dI_150) ?_
  intro T12 X12 e12
  refine own_gs 154 [(.int (lcmpW (Int64.ofInt (2 * A)) (Int64.ofInt (A + B))))] (fun t' k => XS.lcmp X12.here hx rfl (hb hby own_dI_153) rfl k) ?_
  refine own_gs 170 [] (fun t' k => XS.ifYes X12.here hx rfl (pc0 := 154) (pc' := 170) rfl (hb hby own_dI_154) rfl ((if0 _ _).trans (flt (fun q => (own_onl (show (Int64.ofInt (2 * A)) = (Int64.ofInt (2 * A)) from rfl) (show (Int64.ofInt (A + B)) = (Int64.ofInt (A + B)) from rfl) (by omega) (by omega) (by omega)) ((lw_lt (Int64.ofInt (2 * A)) (Int64.ofInt (A + B))).mp q))).2.1) (by decide) (by decide) k) ?_
  refine own_gs 172 [(.ref b10)] (fun t' k => XS.aload X12.here hx rfl (hb hby own_dI_170) rfl rfl  k) ?_
  refine own_gs 174 [(.int (0 : Int32)), (.ref b10)] (fun t' k => XS.iload X12.here hx rfl (hb hby own_dI_172) rfl  k) ?_
  refine own_go (mkF m 177 #[rv t, rv w, iv (2 : Int32), rv b3, rv b4, jv (Int64.ofInt (A + B)), .second, rv b8, rv b9, rv b10, iv (0 : Int32), iv (1 : Int32), iv (0 : Int32), .unset] [(.int (0 : Int32)), (.ref b10)]) (fun t' k => XS.iinc X12.here hx rfl (hb hby own_dI_174) rfl rfl k) ?_
  refine own_gs 179 [(.int (0 : Int32)), (.int (0 : Int32)), (.ref b10)] (fun t' k => XS.iload X12.here hx rfl (hb hby own_dI_177) rfl  k) ?_
  refine X12.stI hx hZ e12 A_b10 g_b10 0 (by decide) (Nat.le_of_ble_eq_true rfl) (hb hby own_dI_179) ?_
  intro T13 h13 X13 e13 W13 A13
  replace A_b10 : own_A Z h13 .int b10 [(.int (0 : Int32)), (.int (0 : Int32))] := A13
  clear A13
  replace E_t := E_t.wr W13
  replace A_w := A_w.other W13 (Nat.ne_of_lt lt_w_b10)
  replace F_shift := F_shift.other W13 (Or.inl (Nat.ne_of_lt lt_t_b10))
  replace F_total := F_total.other W13 (Or.inl (Nat.ne_of_lt lt_t_b10))
  replace F_packed := F_packed.other W13 (Or.inl (Nat.ne_of_lt lt_t_b10))
  replace F_thresholds := F_thresholds.other W13 (Or.inl (Nat.ne_of_lt lt_t_b10))
  replace F_aliases := F_aliases.other W13 (Or.inl (Nat.ne_of_lt lt_t_b10))
  replace A_b3 := A_b3.other W13 (Nat.ne_of_lt lt_b3_b10)
  replace A_b4 := A_b4.other W13 (Nat.ne_of_lt lt_b4_b10)
  replace A_b8 := A_b8.other W13 (Nat.ne_of_lt lt_b8_b10)
  replace A_b9 := A_b9.other W13 (Nat.ne_of_lt lt_b9_b10)
  replace hn := Nat.le_trans hn (Keep.of_wr W13).1
  clear W13 X12 e12
  refine own_go (mkF m 183 #[rv t, rv w, iv (2 : Int32), rv b3, rv b4, jv (Int64.ofInt (A + B)), .second, rv b8, rv b9, rv b10, iv (0 : Int32), iv (1 : Int32), iv (1 : Int32), .unset] []) (fun t' k => XS.iinc X13.here hx rfl (hb hby own_dI_180) rfl rfl k) ?_
  refine own_gs 115 [] (fun t' k => XS.goto X13.here hx rfl (pc0 := 183) (pc' := 115) rfl (hb hby own_dI_183) (by decide) (by decide) k) ?_
  refine own_gs 117 [(.int (1 : Int32))] (fun t' k => XS.iload X13.here hx rfl (hb hby own_dI_115) rfl  k) ?_
  refine own_gs 118 [(.int (2 : Int32)), (.int (1 : Int32))] (fun t' k => XS.iloadN X13.here hx rfl (hb hby own_dI_117) rfl  k) ?_
  refine own_gs 121 [] (fun t' k => XS.icmpNo X13.here hx rfl (hb hby own_dI_118) rfl (tlt (by decide)).2.1 k) ?_
  refine own_gs 123 [(.ref b8)] (fun t' k => XS.aload X13.here hx rfl (hb hby own_dI_121) rfl rfl  k) ?_
  refine own_gs 125 [(.int (1 : Int32)), (.ref b8)] (fun t' k => XS.iload X13.here hx rfl (hb hby own_dI_123) rfl  k) ?_
  refine own_gs 127 [(.int (1 : Int32)), (.int (1 : Int32)), (.ref b8)] (fun t' k => XS.iload X13.here hx rfl (hb hby own_dI_125) rfl  k) ?_
  refine own_gs 128 [(.ref w), (.int (1 : Int32)), (.int (1 : Int32)), (.ref b8)] (fun t' k => XS.aloadN X13.here hx rfl (hb hby own_dI_127) rfl rfl  k) ?_
  refine X13.alen hx hZ e13 A_w (hb hby own_dI_128) ?_
  show own_G p e below s _ _ _ T13 (mkF m 129 #[rv t, rv w, iv (2 : Int32), rv b3, rv b4, jv (Int64.ofInt (A + B)), .second, rv b8, rv b9, rv b10, iv (0 : Int32), iv (1 : Int32), iv (1 : Int32), .unset] [(.int (2 : Int32)), (.int (1 : Int32)), (.int (1 : Int32)), (.ref b8)])
  refine own_gs 132 [(.int (1 : Int32)), (.ref b8)] (fun t' k => XS.icmpNo X13.here hx rfl (hb hby own_dI_129) rfl (tlt (by decide)).2.1 k) ?_
  refine own_gs 133 [(.ref w), (.int (1 : Int32)), (.ref b8)] (fun t' k => XS.aloadN X13.here hx rfl (hb hby own_dI_132) rfl rfl  k) ?_
  refine own_gs 135 [(.int (1 : Int32)), (.ref w), (.int (1 : Int32)), (.ref b8)] (fun t' k => XS.iload X13.here hx rfl (hb hby own_dI_133) rfl  k) ?_
  refine X13.ldJ hx hZ e13 A_w (v := (.long (Int64.ofInt (B)))) 1 (by decide) rfl (hb hby own_dI_135) ?_
  refine own_gs 137 [(.int (2 : Int32)), (.long (Int64.ofInt (B))), (.int (1 : Int32)), (.ref b8)] (fun t' k => XS.iloadN X13.here hx rfl (hb hby own_dI_136) rfl  k) ?_
  refine own_gs 138 [(.long (2 : Int64)), (.long (Int64.ofInt (B))), (.int (1 : Int32)), (.ref b8)] (fun t' k => XS.i2l X13.here hx rfl (hb hby own_dI_137) rfl k) ?_
  refine own_gs 139 [(.long ((Int64.ofInt (B)) * (2 : Int64))), (.int (1 : Int32)), (.ref b8)] (fun t' k => XS.lmul X13.here hx rfl (hb hby own_dI_138) rfl k) ?_
  rw [own_omul (z := 2 * B) (show (Int64.ofInt (B)) = (Int64.ofInt (B)) from rfl) (show (2 : Int64) = Int64.ofInt (2) from rfl) (by omega)]
  refine own_gs 143 [(.long (Int64.ofInt (2 * B))), (.int (1 : Int32)), (.ref b8)] (fun t' k => XS.goto X13.here hx rfl (pc0 := 139) (pc' := 143) rfl (hb hby own_dI_139) (by decide) (by decide) k) ?_
  refine X13.stJ hx hZ e13 A_b8 g_b8 1 (by decide) (Nat.le_of_ble_eq_true rfl) (hb hby own_dI_143) ?_
  intro T14 h14 X14 e14 W14 A14
  replace A_b8 : own_A Z h14 .long b8 [(.long (Int64.ofInt (2 * A))), (.long (Int64.ofInt (2 * B)))] := A14
  clear A14
  replace E_t := E_t.wr W14
  replace A_w := A_w.other W14 (Nat.ne_of_lt lt_w_b8)
  replace F_shift := F_shift.other W14 (Or.inl (Nat.ne_of_lt lt_t_b8))
  replace F_total := F_total.other W14 (Or.inl (Nat.ne_of_lt lt_t_b8))
  replace F_packed := F_packed.other W14 (Or.inl (Nat.ne_of_lt lt_t_b8))
  replace F_thresholds := F_thresholds.other W14 (Or.inl (Nat.ne_of_lt lt_t_b8))
  replace F_aliases := F_aliases.other W14 (Or.inl (Nat.ne_of_lt lt_t_b8))
  replace A_b3 := A_b3.other W14 (Nat.ne_of_lt lt_b3_b8)
  replace A_b4 := A_b4.other W14 (Nat.ne_of_lt lt_b4_b8)
  replace A_b9 := A_b9.other W14 (Ne.symm (Nat.ne_of_lt lt_b8_b9))
  replace A_b10 := A_b10.other W14 (Ne.symm (Nat.ne_of_lt lt_b8_b10))
  replace hn := Nat.le_trans hn (Keep.of_wr W14).1
  clear W14 X13 e13
  refine own_gs 146 [(.ref b8)] (fun t' k => XS.aload X14.here hx rfl (hb hby own_dI_144) rfl rfl  k) ?_
  refine own_gs 148 [(.int (1 : Int32)), (.ref b8)] (fun t' k => XS.iload X14.here hx rfl (hb hby own_dI_146) rfl  k) ?_
  refine X14.ldJ hx hZ e14 A_b8 (v := (.long (Int64.ofInt (2 * B)))) 1 (by decide) rfl (hb hby own_dI_148) ?_
  refine own_gs 150 [(.ref t), (.long (Int64.ofInt (2 * B)))] (fun t' k => XS.aloadN X14.here hx rfl (hb hby own_dI_149) rfl rfl  k) ?_
  refine X14.getF hx hZ hown (hw _ (List.mem_of_getElem? (i := 19) rfl)) e14 F_total (hb hby own_dI_150) ?_
  intro T15 X15 e15
  refine own_gs 154 [(.int (lcmpW (Int64.ofInt (2 * B)) (Int64.ofInt (A + B))))] (fun t' k => XS.lcmp X15.here hx rfl (hb hby own_dI_153) rfl k) ?_
  refine own_gs 157 [] (fun t' k => XS.ifNo X15.here hx rfl (hb hby own_dI_154) rfl ((if0 _ _).trans (tlt ((lw_lt (Int64.ofInt (2 * B)) (Int64.ofInt (A + B))).mpr (own_olt (show (Int64.ofInt (2 * B)) = (Int64.ofInt (2 * B)) from rfl) (show (Int64.ofInt (A + B)) = (Int64.ofInt (A + B)) from rfl) (by omega) (by omega) (by omega)))).2.1) k) ?_
  refine own_gs 159 [(.ref b9)] (fun t' k => XS.aload X15.here hx rfl (hb hby own_dI_157) rfl rfl  k) ?_
  refine own_gs 161 [(.int (0 : Int32)), (.ref b9)] (fun t' k => XS.iload X15.here hx rfl (hb hby own_dI_159) rfl  k) ?_
  refine own_go (mkF m 164 #[rv t, rv w, iv (2 : Int32), rv b3, rv b4, jv (Int64.ofInt (A + B)), .second, rv b8, rv b9, rv b10, iv (1 : Int32), iv (1 : Int32), iv (1 : Int32), .unset] [(.int (0 : Int32)), (.ref b9)]) (fun t' k => XS.iinc X15.here hx rfl (hb hby own_dI_161) rfl rfl k) ?_
  refine own_gs 166 [(.int (1 : Int32)), (.int (0 : Int32)), (.ref b9)] (fun t' k => XS.iload X15.here hx rfl (hb hby own_dI_164) rfl  k) ?_
  refine X15.stI hx hZ e15 A_b9 g_b9 0 (by decide) (Nat.le_of_ble_eq_true rfl) (hb hby own_dI_166) ?_
  intro T16 h16 X16 e16 W16 A16
  replace A_b9 : own_A Z h16 .int b9 [(.int (1 : Int32)), (.int (0 : Int32))] := A16
  clear A16
  replace E_t := E_t.wr W16
  replace A_w := A_w.other W16 (Nat.ne_of_lt lt_w_b9)
  replace F_shift := F_shift.other W16 (Or.inl (Nat.ne_of_lt lt_t_b9))
  replace F_total := F_total.other W16 (Or.inl (Nat.ne_of_lt lt_t_b9))
  replace F_packed := F_packed.other W16 (Or.inl (Nat.ne_of_lt lt_t_b9))
  replace F_thresholds := F_thresholds.other W16 (Or.inl (Nat.ne_of_lt lt_t_b9))
  replace F_aliases := F_aliases.other W16 (Or.inl (Nat.ne_of_lt lt_t_b9))
  replace A_b3 := A_b3.other W16 (Nat.ne_of_lt lt_b3_b9)
  replace A_b4 := A_b4.other W16 (Nat.ne_of_lt lt_b4_b9)
  replace A_b8 := A_b8.other W16 (Nat.ne_of_lt lt_b8_b9)
  replace A_b10 := A_b10.other W16 (Ne.symm (Nat.ne_of_lt lt_b9_b10))
  replace hn := Nat.le_trans hn (Keep.of_wr W16).1
  clear W16 X15 e15
  refine own_gs 180 [] (fun t' k => XS.goto X16.here hx rfl (pc0 := 167) (pc' := 180) rfl (hb hby own_dI_167) (by decide) (by decide) k) ?_
  refine own_go (mkF m 183 #[rv t, rv w, iv (2 : Int32), rv b3, rv b4, jv (Int64.ofInt (A + B)), .second, rv b8, rv b9, rv b10, iv (1 : Int32), iv (1 : Int32), iv (2 : Int32), .unset] []) (fun t' k => XS.iinc X16.here hx rfl (hb hby own_dI_180) rfl rfl k) ?_
  refine own_gs 115 [] (fun t' k => XS.goto X16.here hx rfl (pc0 := 183) (pc' := 115) rfl (hb hby own_dI_183) (by decide) (by decide) k) ?_
  refine own_gs 117 [(.int (2 : Int32))] (fun t' k => XS.iload X16.here hx rfl (hb hby own_dI_115) rfl  k) ?_
  refine own_gs 118 [(.int (2 : Int32)), (.int (2 : Int32))] (fun t' k => XS.iloadN X16.here hx rfl (hb hby own_dI_117) rfl  k) ?_
  refine own_gs 186 [] (fun t' k => XS.icmpYes X16.here hx rfl (pc0 := 118) (pc' := 186) rfl (hb hby own_dI_118) rfl (flt (by decide)).2.1 (by decide) (by decide) k) ?_
  refine own_gs 188 [(.int (1 : Int32))] (fun t' k => XS.iload X16.here hx rfl (hb hby own_dI_186) rfl  k) ?_
  refine own_gs 191 [] (fun t' k => XS.ifNo X16.here hx rfl (hb hby own_dI_188) rfl ((if0 _ _).trans (tlt (by decide)).2.2.2) k) ?_
  refine own_gs 193 [(.int (1 : Int32))] (fun t' k => XS.iload X16.here hx rfl (hb hby own_dI_191) rfl  k) ?_
  refine own_gs 196 [] (fun t' k => XS.ifNo X16.here hx rfl (hb hby own_dI_193) rfl ((if0 _ _).trans (tlt (by decide)).2.2.2) k) ?_
  refine own_gs 198 [(.ref b9)] (fun t' k => XS.aload X16.here hx rfl (hb hby own_dI_196) rfl rfl  k) ?_
  refine own_go (mkF m 201 #[rv t, rv w, iv (2 : Int32), rv b3, rv b4, jv (Int64.ofInt (A + B)), .second, rv b8, rv b9, rv b10, iv (0 : Int32), iv (1 : Int32), iv (2 : Int32), .unset] [(.ref b9)]) (fun t' k => XS.iinc X16.here hx rfl (hb hby own_dI_198) rfl rfl k) ?_
  refine own_gs 203 [(.int (0 : Int32)), (.ref b9)] (fun t' k => XS.iload X16.here hx rfl (hb hby own_dI_201) rfl  k) ?_
  refine X16.ldI hx hZ e16 A_b9 (v := (.int (1 : Int32))) 0 (by decide) rfl (hb hby own_dI_203) ?_
  refine own_go (mkF m 206 #[rv t, rv w, iv (2 : Int32), rv b3, rv b4, jv (Int64.ofInt (A + B)), .second, rv b8, rv b9, rv b10, iv (0 : Int32), iv (1 : Int32), iv (1 : Int32), .unset] []) (fun t' k => XS.istore X16.here hx rfl (hb hby own_dI_204) rfl rfl k) ?_
  refine own_gs 208 [(.ref b10)] (fun t' k => XS.aload X16.here hx rfl (hb hby own_dI_206) rfl rfl  k) ?_
  refine own_gs 210 [(.int (1 : Int32)), (.ref b10)] (fun t' k => XS.iload X16.here hx rfl (hb hby own_dI_208) rfl  k) ?_
  refine own_gs 211 [(.int (1 : Int32)), (.int (1 : Int32)), (.ref b10)] (fun t' k => XS.iconst X16.here hx rfl (hb hby own_dI_210) k) ?_
  refine own_gs 212 [(.int (0 : Int32)), (.ref b10)] (fun t' k => XS.isub X16.here hx rfl (hb hby own_dI_211) rfl k) ?_
  refine X16.ldI hx hZ e16 A_b10 (v := (.int (0 : Int32))) 0 (by decide) rfl (hb hby own_dI_212) ?_
  refine own_go (mkF m 215 #[rv t, rv w, iv (2 : Int32), rv b3, rv b4, jv (Int64.ofInt (A + B)), .second, rv b8, rv b9, rv b10, iv (0 : Int32), iv (1 : Int32), iv (1 : Int32), iv (0 : Int32)] []) (fun t' k => XS.istore X16.here hx rfl (hb hby own_dI_213) rfl rfl k) ?_
  refine own_gs 216 [(.ref b3)] (fun t' k => XS.aloadN X16.here hx rfl (hb hby own_dI_215) rfl rfl  k) ?_
  refine own_gs 218 [(.int (1 : Int32)), (.ref b3)] (fun t' k => XS.iload X16.here hx rfl (hb hby own_dI_216) rfl  k) ?_
  refine own_gs 220 [(.ref b8), (.int (1 : Int32)), (.ref b3)] (fun t' k => XS.aload X16.here hx rfl (hb hby own_dI_218) rfl rfl  k) ?_
  refine own_gs 222 [(.int (1 : Int32)), (.ref b8), (.int (1 : Int32)), (.ref b3)] (fun t' k => XS.iload X16.here hx rfl (hb hby own_dI_220) rfl  k) ?_
  refine X16.ldJ hx hZ e16 A_b8 (v := (.long (Int64.ofInt (2 * B)))) 1 (by decide) rfl (hb hby own_dI_222) ?_
  refine X16.stJ hx hZ e16 A_b3 g_b3 1 (by decide) (Nat.le_of_ble_eq_true rfl) (hb hby own_dI_223) ?_
  intro T17 h17 X17 e17 W17 A17
  replace A_b3 : own_A Z h17 .long b3 [(.long (0 : Int64)), (.long (Int64.ofInt (2 * B)))] := A17
  clear A17
  replace E_t := E_t.wr W17
  replace A_w := A_w.other W17 (Nat.ne_of_lt lt_w_b3)
  replace F_shift := F_shift.other W17 (Or.inl (Nat.ne_of_lt lt_t_b3))
  replace F_total := F_total.other W17 (Or.inl (Nat.ne_of_lt lt_t_b3))
  replace F_packed := F_packed.other W17 (Or.inl (Nat.ne_of_lt lt_t_b3))
  replace F_thresholds := F_thresholds.other W17 (Or.inl (Nat.ne_of_lt lt_t_b3))
  replace F_aliases := F_aliases.other W17 (Or.inl (Nat.ne_of_lt lt_t_b3))
  replace A_b4 := A_b4.other W17 (Ne.symm (Nat.ne_of_lt lt_b3_b4))
  replace A_b8 := A_b8.other W17 (Ne.symm (Nat.ne_of_lt lt_b3_b8))
  replace A_b9 := A_b9.other W17 (Ne.symm (Nat.ne_of_lt lt_b3_b9))
  replace A_b10 := A_b10.other W17 (Ne.symm (Nat.ne_of_lt lt_b3_b10))
  replace hn := Nat.le_trans hn (Keep.of_wr W17).1
  clear W17 X16 e16
  refine own_gs 226 [(.ref b4)] (fun t' k => XS.aload X17.here hx rfl (hb hby own_dI_224) rfl rfl  k) ?_
  refine own_gs 228 [(.int (1 : Int32)), (.ref b4)] (fun t' k => XS.iload X17.here hx rfl (hb hby own_dI_226) rfl  k) ?_
  refine own_gs 230 [(.int (0 : Int32)), (.int (1 : Int32)), (.ref b4)] (fun t' k => XS.iload X17.here hx rfl (hb hby own_dI_228) rfl  k) ?_
  refine X17.stI hx hZ e17 A_b4 g_b4 1 (by decide) (Nat.le_of_ble_eq_true rfl) (hb hby own_dI_230) ?_
  intro T18 h18 X18 e18 W18 A18
  replace A_b4 : own_A Z h18 .int b4 [(.int (0 : Int32)), (.int (0 : Int32))] := A18
  clear A18
  replace E_t := E_t.wr W18
  replace A_w := A_w.other W18 (Nat.ne_of_lt lt_w_b4)
  replace F_shift := F_shift.other W18 (Or.inl (Nat.ne_of_lt lt_t_b4))
  replace F_total := F_total.other W18 (Or.inl (Nat.ne_of_lt lt_t_b4))
  replace F_packed := F_packed.other W18 (Or.inl (Nat.ne_of_lt lt_t_b4))
  replace F_thresholds := F_thresholds.other W18 (Or.inl (Nat.ne_of_lt lt_t_b4))
  replace F_aliases := F_aliases.other W18 (Or.inl (Nat.ne_of_lt lt_t_b4))
  replace A_b3 := A_b3.other W18 (Nat.ne_of_lt lt_b3_b4)
  replace A_b8 := A_b8.other W18 (Ne.symm (Nat.ne_of_lt lt_b4_b8))
  replace A_b9 := A_b9.other W18 (Ne.symm (Nat.ne_of_lt lt_b4_b9))
  replace A_b10 := A_b10.other W18 (Ne.symm (Nat.ne_of_lt lt_b4_b10))
  replace hn := Nat.le_trans hn (Keep.of_wr W18).1
  clear W18 X17 e17
  refine own_gs 233 [(.ref b8)] (fun t' k => XS.aload X18.here hx rfl (hb hby own_dI_231) rfl rfl  k) ?_
  refine own_gs 235 [(.int (0 : Int32)), (.ref b8)] (fun t' k => XS.iload X18.here hx rfl (hb hby own_dI_233) rfl  k) ?_
  refine own_gs 236 [(.int (0 : Int32)), (.ref b8), (.int (0 : Int32)), (.ref b8)] (fun t' k => Jvm.Free.XT.dup2 X18.here hx rfl (hb hby own_dI_235) rfl rfl rfl k) ?_
  refine X18.ldJ hx hZ e18 A_b8 (v := (.long (Int64.ofInt (2 * A)))) 0 (by decide) rfl (hb hby own_dI_236) ?_
  refine own_gs 238 [(.ref t), (.long (Int64.ofInt (2 * A))), (.int (0 : Int32)), (.ref b8)] (fun t' k => XS.aloadN X18.here hx rfl (hb hby own_dI_237) rfl rfl  k) ?_
  refine X18.getF hx hZ hown (hw _ (List.mem_of_getElem? (i := 19) rfl)) e18 F_total (hb hby own_dI_238) ?_
  intro T19 X19 e19
  refine own_gs 243 [(.ref b8), (.long (Int64.ofInt (A + B))), (.long (Int64.ofInt (2 * A))), (.int (0 : Int32)), (.ref b8)] (fun t' k => XS.aload X19.here hx rfl (hb hby own_dI_241) rfl rfl  k) ?_
  refine own_gs 245 [(.int (1 : Int32)), (.ref b8), (.long (Int64.ofInt (A + B))), (.long (Int64.ofInt (2 * A))), (.int (0 : Int32)), (.ref b8)] (fun t' k => XS.iload X19.here hx rfl (hb hby own_dI_243) rfl  k) ?_
  refine X19.ldJ hx hZ e19 A_b8 (v := (.long (Int64.ofInt (2 * B)))) 1 (by decide) rfl (hb hby own_dI_245) ?_
  refine own_gs 247 [(.long ((Int64.ofInt (A + B)) - (Int64.ofInt (2 * B)))), (.long (Int64.ofInt (2 * A))), (.int (0 : Int32)), (.ref b8)] (fun t' k => XS.lsub X19.here hx rfl (hb hby own_dI_246) rfl k) ?_
  rw [own_osub (z := A + -1 * B) (show (Int64.ofInt (A + B)) = (Int64.ofInt (A + B)) from rfl) (show (Int64.ofInt (2 * B)) = (Int64.ofInt (2 * B)) from rfl) (by omega)]
  refine own_gs 248 [(.long ((Int64.ofInt (2 * A)) - (Int64.ofInt (A + -1 * B)))), (.int (0 : Int32)), (.ref b8)] (fun t' k => XS.lsub X19.here hx rfl (hb hby own_dI_247) rfl k) ?_
  rw [own_osub (z := A + B) (show (Int64.ofInt (2 * A)) = (Int64.ofInt (2 * A)) from rfl) (show (Int64.ofInt (A + -1 * B)) = (Int64.ofInt (A + -1 * B)) from rfl) (by omega)]
  refine X19.stJ hx hZ e19 A_b8 g_b8 0 (by decide) (Nat.le_of_ble_eq_true rfl) (hb hby own_dI_248) ?_
  intro T20 h20 X20 e20 W20 A20
  replace A_b8 : own_A Z h20 .long b8 [(.long (Int64.ofInt (A + B))), (.long (Int64.ofInt (2 * B)))] := A20
  clear A20
  replace E_t := E_t.wr W20
  replace A_w := A_w.other W20 (Nat.ne_of_lt lt_w_b8)
  replace F_shift := F_shift.other W20 (Or.inl (Nat.ne_of_lt lt_t_b8))
  replace F_total := F_total.other W20 (Or.inl (Nat.ne_of_lt lt_t_b8))
  replace F_packed := F_packed.other W20 (Or.inl (Nat.ne_of_lt lt_t_b8))
  replace F_thresholds := F_thresholds.other W20 (Or.inl (Nat.ne_of_lt lt_t_b8))
  replace F_aliases := F_aliases.other W20 (Or.inl (Nat.ne_of_lt lt_t_b8))
  replace A_b3 := A_b3.other W20 (Nat.ne_of_lt lt_b3_b8)
  replace A_b4 := A_b4.other W20 (Nat.ne_of_lt lt_b4_b8)
  replace A_b9 := A_b9.other W20 (Ne.symm (Nat.ne_of_lt lt_b8_b9))
  replace A_b10 := A_b10.other W20 (Ne.symm (Nat.ne_of_lt lt_b8_b10))
  replace hn := Nat.le_trans hn (Keep.of_wr W20).1
  clear W20 X19 e19
  refine own_gs 251 [(.ref b8)] (fun t' k => XS.aload X20.here hx rfl (hb hby own_dI_249) rfl rfl  k) ?_
  refine own_gs 253 [(.int (0 : Int32)), (.ref b8)] (fun t' k => XS.iload X20.here hx rfl (hb hby own_dI_251) rfl  k) ?_
  refine X20.ldJ hx hZ e20 A_b8 (v := (.long (Int64.ofInt (A + B)))) 0 (by decide) rfl (hb hby own_dI_253) ?_
  refine own_gs 255 [(.ref t), (.long (Int64.ofInt (A + B)))] (fun t' k => XS.aloadN X20.here hx rfl (hb hby own_dI_254) rfl rfl  k) ?_
  refine X20.getF hx hZ hown (hw _ (List.mem_of_getElem? (i := 19) rfl)) e20 F_total (hb hby own_dI_255) ?_
  intro T21 X21 e21
  refine own_gs 259 [(.int (lcmpW (Int64.ofInt (A + B)) (Int64.ofInt (A + B))))] (fun t' k => XS.lcmp X21.here hx rfl (hb hby own_dI_258) rfl k) ?_
  refine own_gs 275 [] (fun t' k => XS.ifYes X21.here hx rfl (pc0 := 259) (pc' := 275) rfl (hb hby own_dI_259) rfl ((if0 _ _).trans (flt (fun q => (own_onl (show (Int64.ofInt (A + B)) = (Int64.ofInt (A + B)) from rfl) (show (Int64.ofInt (A + B)) = (Int64.ofInt (A + B)) from rfl) (by omega) (by omega) (by omega)) ((lw_lt (Int64.ofInt (A + B)) (Int64.ofInt (A + B))).mp q))).2.1) (by decide) (by decide) k) ?_
  refine own_gs 186 [] (fun t' k => XS.goto X21.here hx rfl (pc0 := 275) (pc' := 186) rfl (hb hby own_dI_275) (by decide) (by decide) k) ?_
  refine own_gs 188 [(.int (0 : Int32))] (fun t' k => XS.iload X21.here hx rfl (hb hby own_dI_186) rfl  k) ?_
  refine own_gs 278 [] (fun t' k => XS.ifYes X21.here hx rfl (pc0 := 188) (pc' := 278) rfl (hb hby own_dI_188) rfl ((if0 _ _).trans (flt (by decide)).2.2.2) (by decide) (by decide) k) ?_
  refine own_gs 280 [(.int (1 : Int32))] (fun t' k => XS.iload X21.here hx rfl (hb hby own_dI_278) rfl  k) ?_
  refine own_gs 283 [] (fun t' k => XS.ifNo X21.here hx rfl (hb hby own_dI_280) rfl ((if0 _ _).trans (tlt (by decide)).2.2.2) k) ?_
  refine own_gs 285 [(.ref b10)] (fun t' k => XS.aload X21.here hx rfl (hb hby own_dI_283) rfl rfl  k) ?_
  refine own_go (mkF m 288 #[rv t, rv w, iv (2 : Int32), rv b3, rv b4, jv (Int64.ofInt (A + B)), .second, rv b8, rv b9, rv b10, iv (0 : Int32), iv (0 : Int32), iv (1 : Int32), iv (0 : Int32)] [(.ref b10)]) (fun t' k => XS.iinc X21.here hx rfl (hb hby own_dI_285) rfl rfl k) ?_
  refine own_gs 290 [(.int (0 : Int32)), (.ref b10)] (fun t' k => XS.iload X21.here hx rfl (hb hby own_dI_288) rfl  k) ?_
  refine X21.ldI hx hZ e21 A_b10 (v := (.int (0 : Int32))) 0 (by decide) rfl (hb hby own_dI_290) ?_
  refine own_go (mkF m 293 #[rv t, rv w, iv (2 : Int32), rv b3, rv b4, jv (Int64.ofInt (A + B)), .second, rv b8, rv b9, rv b10, iv (0 : Int32), iv (0 : Int32), iv (0 : Int32), iv (0 : Int32)] []) (fun t' k => XS.istore X21.here hx rfl (hb hby own_dI_291) rfl rfl k) ?_
  refine own_gs 295 [(.ref b4)] (fun t' k => XS.aload X21.here hx rfl (hb hby own_dI_293) rfl rfl  k) ?_
  refine own_gs 297 [(.int (0 : Int32)), (.ref b4)] (fun t' k => XS.iload X21.here hx rfl (hb hby own_dI_295) rfl  k) ?_
  refine own_gs 299 [(.int (0 : Int32)), (.int (0 : Int32)), (.ref b4)] (fun t' k => XS.iload X21.here hx rfl (hb hby own_dI_297) rfl  k) ?_
  refine X21.stI hx hZ e21 A_b4 g_b4 0 (by decide) (Nat.le_of_ble_eq_true rfl) (hb hby own_dI_299) ?_
  intro T22 h22 X22 e22 W22 A22
  replace A_b4 : own_A Z h22 .int b4 [(.int (0 : Int32)), (.int (0 : Int32))] := A22
  clear A22
  replace E_t := E_t.wr W22
  replace A_w := A_w.other W22 (Nat.ne_of_lt lt_w_b4)
  replace F_shift := F_shift.other W22 (Or.inl (Nat.ne_of_lt lt_t_b4))
  replace F_total := F_total.other W22 (Or.inl (Nat.ne_of_lt lt_t_b4))
  replace F_packed := F_packed.other W22 (Or.inl (Nat.ne_of_lt lt_t_b4))
  replace F_thresholds := F_thresholds.other W22 (Or.inl (Nat.ne_of_lt lt_t_b4))
  replace F_aliases := F_aliases.other W22 (Or.inl (Nat.ne_of_lt lt_t_b4))
  replace A_b3 := A_b3.other W22 (Nat.ne_of_lt lt_b3_b4)
  replace A_b8 := A_b8.other W22 (Ne.symm (Nat.ne_of_lt lt_b4_b8))
  replace A_b9 := A_b9.other W22 (Ne.symm (Nat.ne_of_lt lt_b4_b9))
  replace A_b10 := A_b10.other W22 (Ne.symm (Nat.ne_of_lt lt_b4_b10))
  replace hn := Nat.le_trans hn (Keep.of_wr W22).1
  clear W22 X21 e21
  refine own_gs 278 [] (fun t' k => XS.goto X22.here hx rfl (pc0 := 300) (pc' := 278) rfl (hb hby own_dI_300) (by decide) (by decide) k) ?_
  refine own_gs 280 [(.int (0 : Int32))] (fun t' k => XS.iload X22.here hx rfl (hb hby own_dI_278) rfl  k) ?_
  refine own_gs 303 [] (fun t' k => XS.ifYes X22.here hx rfl (pc0 := 280) (pc' := 303) rfl (hb hby own_dI_280) rfl ((if0 _ _).trans (flt (by decide)).2.2.2) (by decide) (by decide) k) ?_
  refine own_gs 304 [(.ref t)] (fun t' k => XS.aloadN X22.here hx rfl (hb hby own_dI_303) rfl rfl  k) ?_
  refine X22.getF hx hZ hown (hw _ (List.mem_of_getElem? (i := 19) rfl)) e22 F_total (hb hby own_dI_304) ?_
  intro T23 X23 e23
  refine own_gs 310 [(.long (8589934592 : Int64)), (.long (Int64.ofInt (A + B)))] (fun t' k => X23.ldc2Long hx hown (mvT hZ (hw _ (List.mem_of_getElem? (i := 21) rfl))) (g := (mkF m 307 #[rv t, rv w, iv (2 : Int32), rv b3, rv b4, jv (Int64.ofInt (A + B)), .second, rv b8, rv b9, rv b10, iv (0 : Int32), iv (0 : Int32), iv (0 : Int32), iv (0 : Int32)] [(.long (Int64.ofInt (A + B)))])) rfl (hb hby own_dI_307) _ k) ?_
  refine own_gs 311 [(.int (lcmpW (Int64.ofInt (A + B)) (8589934592 : Int64)))] (fun t' k => XS.lcmp X23.here hx rfl (hb hby own_dI_310) rfl k) ?_
  refine own_gs 314 [] (fun t' k => XS.ifNo X23.here hx rfl (hb hby own_dI_311) rfl ((if0 _ _).trans (flt (fun q => (own_onl (show (8589934592 : Int64) = Int64.ofInt (8589934592) from rfl) (show (Int64.ofInt (A + B)) = (Int64.ofInt (A + B)) from rfl) (by omega) (by omega) (by omega)) ((lw_gt (Int64.ofInt (A + B)) (8589934592 : Int64)).mp q))).2.2.1) k) ?_
  refine own_gs 315 [(.ref t)] (fun t' k => XS.aloadN X23.here hx rfl (hb hby own_dI_314) rfl rfl  k) ?_
  refine own_gs 316 [(.int (2 : Int32)), (.ref t)] (fun t' k => XS.iloadN X23.here hx rfl (hb hby own_dI_315) rfl  k) ?_
  refine X23.newP hx hZ (hw _ (List.mem_of_getElem? (i := 2) rfl)) e23 2 (by decide) (hb hby own_dI_316) 2 (by decide) (by decide) (by decide) (by decide) ?_
  intro T24 h24 b24 X24 e24 q24 xt24 A_b24
  have g_b24 : n0 ≤ b24 := by rw [q24]; exact hn
  have lt_t_b24 : t < b24 := by rw [q24]; exact E_t.lt
  have lt_w_b24 : w < b24 := by rw [q24]; exact A_w.lt
  have lt_b3_b24 : b3 < b24 := by rw [q24]; exact A_b3.lt
  have lt_b4_b24 : b4 < b24 := by rw [q24]; exact A_b4.lt
  have lt_b8_b24 : b8 < b24 := by rw [q24]; exact A_b8.lt
  have lt_b9_b24 : b9 < b24 := by rw [q24]; exact A_b9.lt
  have lt_b10_b24 : b10 < b24 := by rw [q24]; exact A_b10.lt
  replace E_t := E_t.ext xt24
  replace A_w := A_w.ext xt24
  replace F_shift := F_shift.ext xt24
  replace F_total := F_total.ext xt24
  replace F_packed := F_packed.ext xt24
  replace F_thresholds := F_thresholds.ext xt24
  replace F_aliases := F_aliases.ext xt24
  replace A_b3 := A_b3.ext xt24
  replace A_b4 := A_b4.ext xt24
  replace A_b8 := A_b8.ext xt24
  replace A_b9 := A_b9.ext xt24
  replace A_b10 := A_b10.ext xt24
  replace hn := Nat.le_trans hn xt24.1
  replace A_b24 : own_A Z h24 .long b24 [(.long (0 : Int64)), (.long (0 : Int64))] := A_b24
  refine X24.putF hx hZ hown (hw _ (List.mem_of_getElem? (i := 22) rfl)) e24 F_packed E_t g_t (Or.inr ⟨(hw _ (List.mem_of_getElem? (i := 23) rfl)), rfl, hnm⟩) (hw _ (List.mem_of_getElem? (i := 4) rfl)) (ty := (.array .long)) (by decide) rfl rfl (hb hby own_dI_318) ?_
  intro T25 h25 X25 e25 W25
  replace E_t := E_t.wr W25
  replace A_w := A_w.other W25 (Ne.symm ne_t_w)
  replace F_shift := F_shift.other W25 (Or.inr (own_sn_AliasTable_shift_packed hw))
  replace F_total := F_total.other W25 (Or.inr (own_sn_AliasTable_total_packed hw))
  replace F_packed := F_packed.same W25
  replace F_thresholds := F_thresholds.other W25 (Or.inr (own_sn_AliasTable_thresholds_packed hw))
  replace F_aliases := F_aliases.other W25 (Or.inr (own_sn_AliasTable_aliases_packed hw))
  replace A_b3 := A_b3.other W25 (Ne.symm (Nat.ne_of_lt lt_t_b3))
  replace A_b4 := A_b4.other W25 (Ne.symm (Nat.ne_of_lt lt_t_b4))
  replace A_b8 := A_b8.other W25 (Ne.symm (Nat.ne_of_lt lt_t_b8))
  replace A_b9 := A_b9.other W25 (Ne.symm (Nat.ne_of_lt lt_t_b9))
  replace A_b10 := A_b10.other W25 (Ne.symm (Nat.ne_of_lt lt_t_b10))
  replace A_b24 := A_b24.other W25 (Ne.symm (Nat.ne_of_lt lt_t_b24))
  replace hn := Nat.le_trans hn (Keep.of_wr W25).1
  clear W25 X24 e24
  refine own_gs 322 [(.int (0 : Int32))] (fun t' k => XS.iconst X25.here hx rfl (hb hby own_dI_321) k) ?_
  refine own_gs 324 [] (fun t' k => XS.istore X25.here hx rfl (hb hby own_dI_322) rfl rfl k) ?_
  refine own_gs 326 [(.int (0 : Int32))] (fun t' k => XS.iload X25.here hx rfl (hb hby own_dI_324) rfl  k) ?_
  refine own_gs 327 [(.int (2 : Int32)), (.int (0 : Int32))] (fun t' k => XS.iloadN X25.here hx rfl (hb hby own_dI_326) rfl  k) ?_
  refine own_gs 330 [] (fun t' k => XS.icmpNo X25.here hx rfl (hb hby own_dI_327) rfl (tlt (by decide)).2.1 k) ?_
  refine own_gs 331 [(.ref t)] (fun t' k => XS.aloadN X25.here hx rfl (hb hby own_dI_330) rfl rfl  k) ?_
  refine X25.getF hx hZ hown (hw _ (List.mem_of_getElem? (i := 22) rfl)) e25 F_packed (hb hby own_dI_331) ?_
  intro T26 X26 e26
  refine own_gs 336 [(.int (0 : Int32)), (.ref b24)] (fun t' k => XS.iload X26.here hx rfl (hb hby own_dI_334) rfl  k) ?_
  refine own_gs 337 [(.ref b3), (.int (0 : Int32)), (.ref b24)] (fun t' k => XS.aloadN X26.here hx rfl (hb hby own_dI_336) rfl rfl  k) ?_
  refine own_gs 339 [(.int (0 : Int32)), (.ref b3), (.int (0 : Int32)), (.ref b24)] (fun t' k => XS.iload X26.here hx rfl (hb hby own_dI_337) rfl  k) ?_
  refine X26.ldJ hx hZ e26 A_b3 (v := (.long (0 : Int64))) 0 (by decide) rfl (hb hby own_dI_339) ?_
  refine own_gs 342 [(.int (31 : Int32)), (.long (0 : Int64)), (.int (0 : Int32)), (.ref b24)] (fun t' k => XS.bipush X26.here hx rfl (hb hby own_dI_340) k) ?_
  refine own_gs 343 [(.long (0 : Int64)), (.int (0 : Int32)), (.ref b24)] (fun t' k => XS.lshl X26.here hx rfl (hb hby own_dI_342) rfl k) ?_
  refine own_gs 345 [(.ref b4), (.long (0 : Int64)), (.int (0 : Int32)), (.ref b24)] (fun t' k => XS.aload X26.here hx rfl (hb hby own_dI_343) rfl rfl  k) ?_
  refine own_gs 347 [(.int (0 : Int32)), (.ref b4), (.long (0 : Int64)), (.int (0 : Int32)), (.ref b24)] (fun t' k => XS.iload X26.here hx rfl (hb hby own_dI_345) rfl  k) ?_
  refine X26.ldI hx hZ e26 A_b4 (v := (.int (0 : Int32))) 0 (by decide) rfl (hb hby own_dI_347) ?_
  refine own_gs 349 [(.long (0 : Int64)), (.long (0 : Int64)), (.int (0 : Int32)), (.ref b24)] (fun t' k => XS.i2l X26.here hx rfl (hb hby own_dI_348) rfl k) ?_
  refine own_gs 350 [(.long (0 : Int64)), (.int (0 : Int32)), (.ref b24)] (fun t' k => XS.lor X26.here hx rfl (hb hby own_dI_349) rfl k) ?_
  refine X26.stJ hx hZ e26 A_b24 g_b24 0 (by decide) (Nat.le_of_ble_eq_true rfl) (hb hby own_dI_350) ?_
  intro T27 h27 X27 e27 W27 A27
  replace A_b24 : own_A Z h27 .long b24 [(.long (0 : Int64)), (.long (0 : Int64))] := A27
  clear A27
  replace E_t := E_t.wr W27
  replace A_w := A_w.other W27 (Nat.ne_of_lt lt_w_b24)
  replace F_shift := F_shift.other W27 (Or.inl (Nat.ne_of_lt lt_t_b24))
  replace F_total := F_total.other W27 (Or.inl (Nat.ne_of_lt lt_t_b24))
  replace F_packed := F_packed.other W27 (Or.inl (Nat.ne_of_lt lt_t_b24))
  replace F_thresholds := F_thresholds.other W27 (Or.inl (Nat.ne_of_lt lt_t_b24))
  replace F_aliases := F_aliases.other W27 (Or.inl (Nat.ne_of_lt lt_t_b24))
  replace A_b3 := A_b3.other W27 (Nat.ne_of_lt lt_b3_b24)
  replace A_b4 := A_b4.other W27 (Nat.ne_of_lt lt_b4_b24)
  replace A_b8 := A_b8.other W27 (Nat.ne_of_lt lt_b8_b24)
  replace A_b9 := A_b9.other W27 (Nat.ne_of_lt lt_b9_b24)
  replace A_b10 := A_b10.other W27 (Nat.ne_of_lt lt_b10_b24)
  replace hn := Nat.le_trans hn (Keep.of_wr W27).1
  clear W27 X26 e26
  refine own_go (mkF m 354 #[rv t, rv w, iv (2 : Int32), rv b3, rv b4, jv (Int64.ofInt (A + B)), .second, rv b8, rv b9, rv b10, iv (0 : Int32), iv (0 : Int32), iv (1 : Int32), iv (0 : Int32)] []) (fun t' k => XS.iinc X27.here hx rfl (hb hby own_dI_351) rfl rfl k) ?_
  refine own_gs 324 [] (fun t' k => XS.goto X27.here hx rfl (pc0 := 354) (pc' := 324) rfl (hb hby own_dI_354) (by decide) (by decide) k) ?_
  refine own_gs 326 [(.int (1 : Int32))] (fun t' k => XS.iload X27.here hx rfl (hb hby own_dI_324) rfl  k) ?_
  refine own_gs 327 [(.int (2 : Int32)), (.int (1 : Int32))] (fun t' k => XS.iloadN X27.here hx rfl (hb hby own_dI_326) rfl  k) ?_
  refine own_gs 330 [] (fun t' k => XS.icmpNo X27.here hx rfl (hb hby own_dI_327) rfl (tlt (by decide)).2.1 k) ?_
  refine own_gs 331 [(.ref t)] (fun t' k => XS.aloadN X27.here hx rfl (hb hby own_dI_330) rfl rfl  k) ?_
  refine X27.getF hx hZ hown (hw _ (List.mem_of_getElem? (i := 22) rfl)) e27 F_packed (hb hby own_dI_331) ?_
  intro T28 X28 e28
  refine own_gs 336 [(.int (1 : Int32)), (.ref b24)] (fun t' k => XS.iload X28.here hx rfl (hb hby own_dI_334) rfl  k) ?_
  refine own_gs 337 [(.ref b3), (.int (1 : Int32)), (.ref b24)] (fun t' k => XS.aloadN X28.here hx rfl (hb hby own_dI_336) rfl rfl  k) ?_
  refine own_gs 339 [(.int (1 : Int32)), (.ref b3), (.int (1 : Int32)), (.ref b24)] (fun t' k => XS.iload X28.here hx rfl (hb hby own_dI_337) rfl  k) ?_
  refine X28.ldJ hx hZ e28 A_b3 (v := (.long (Int64.ofInt (2 * B)))) 1 (by decide) rfl (hb hby own_dI_339) ?_
  refine own_gs 342 [(.int (31 : Int32)), (.long (Int64.ofInt (2 * B))), (.int (1 : Int32)), (.ref b24)] (fun t' k => XS.bipush X28.here hx rfl (hb hby own_dI_340) k) ?_
  refine own_gs 343 [(.long ((Int64.ofInt (2 * B)) <<< ((31 : Int32) &&& 0x3f).toInt64)), (.int (1 : Int32)), (.ref b24)] (fun t' k => XS.lshl X28.here hx rfl (hb hby own_dI_342) rfl k) ?_
  refine own_gs 345 [(.ref b4), (.long ((Int64.ofInt (2 * B)) <<< ((31 : Int32) &&& 0x3f).toInt64)), (.int (1 : Int32)), (.ref b24)] (fun t' k => XS.aload X28.here hx rfl (hb hby own_dI_343) rfl rfl  k) ?_
  refine own_gs 347 [(.int (1 : Int32)), (.ref b4), (.long ((Int64.ofInt (2 * B)) <<< ((31 : Int32) &&& 0x3f).toInt64)), (.int (1 : Int32)), (.ref b24)] (fun t' k => XS.iload X28.here hx rfl (hb hby own_dI_345) rfl  k) ?_
  refine X28.ldI hx hZ e28 A_b4 (v := (.int (0 : Int32))) 1 (by decide) rfl (hb hby own_dI_347) ?_
  refine own_gs 349 [(.long (0 : Int64)), (.long ((Int64.ofInt (2 * B)) <<< ((31 : Int32) &&& 0x3f).toInt64)), (.int (1 : Int32)), (.ref b24)] (fun t' k => XS.i2l X28.here hx rfl (hb hby own_dI_348) rfl k) ?_
  refine own_gs 350 [(.long (((Int64.ofInt (2 * B)) <<< ((31 : Int32) &&& 0x3f).toInt64) ||| (0 : Int64))), (.int (1 : Int32)), (.ref b24)] (fun t' k => XS.lor X28.here hx rfl (hb hby own_dI_349) rfl k) ?_
  refine X28.stJ hx hZ e28 A_b24 g_b24 1 (by decide) (Nat.le_of_ble_eq_true rfl) (hb hby own_dI_350) ?_
  intro T29 h29 X29 e29 W29 A29
  replace A_b24 : own_A Z h29 .long b24 [(.long (0 : Int64)), (.long (((Int64.ofInt (2 * B)) <<< ((31 : Int32) &&& 0x3f).toInt64) ||| (0 : Int64)))] := A29
  clear A29
  replace E_t := E_t.wr W29
  replace A_w := A_w.other W29 (Nat.ne_of_lt lt_w_b24)
  replace F_shift := F_shift.other W29 (Or.inl (Nat.ne_of_lt lt_t_b24))
  replace F_total := F_total.other W29 (Or.inl (Nat.ne_of_lt lt_t_b24))
  replace F_packed := F_packed.other W29 (Or.inl (Nat.ne_of_lt lt_t_b24))
  replace F_thresholds := F_thresholds.other W29 (Or.inl (Nat.ne_of_lt lt_t_b24))
  replace F_aliases := F_aliases.other W29 (Or.inl (Nat.ne_of_lt lt_t_b24))
  replace A_b3 := A_b3.other W29 (Nat.ne_of_lt lt_b3_b24)
  replace A_b4 := A_b4.other W29 (Nat.ne_of_lt lt_b4_b24)
  replace A_b8 := A_b8.other W29 (Nat.ne_of_lt lt_b8_b24)
  replace A_b9 := A_b9.other W29 (Nat.ne_of_lt lt_b9_b24)
  replace A_b10 := A_b10.other W29 (Nat.ne_of_lt lt_b10_b24)
  replace hn := Nat.le_trans hn (Keep.of_wr W29).1
  clear W29 X28 e28
  refine own_go (mkF m 354 #[rv t, rv w, iv (2 : Int32), rv b3, rv b4, jv (Int64.ofInt (A + B)), .second, rv b8, rv b9, rv b10, iv (0 : Int32), iv (0 : Int32), iv (2 : Int32), iv (0 : Int32)] []) (fun t' k => XS.iinc X29.here hx rfl (hb hby own_dI_351) rfl rfl k) ?_
  refine own_gs 324 [] (fun t' k => XS.goto X29.here hx rfl (pc0 := 354) (pc' := 324) rfl (hb hby own_dI_354) (by decide) (by decide) k) ?_
  refine own_gs 326 [(.int (2 : Int32))] (fun t' k => XS.iload X29.here hx rfl (hb hby own_dI_324) rfl  k) ?_
  refine own_gs 327 [(.int (2 : Int32)), (.int (2 : Int32))] (fun t' k => XS.iloadN X29.here hx rfl (hb hby own_dI_326) rfl  k) ?_
  refine own_gs 357 [] (fun t' k => XS.icmpYes X29.here hx rfl (pc0 := 327) (pc' := 357) rfl (hb hby own_dI_327) rfl (flt (by decide)).2.1 (by decide) (by decide) k) ?_
  refine own_gs 358 [(.ref t)] (fun t' k => XS.aloadN X29.here hx rfl (hb hby own_dI_357) rfl rfl  k) ?_
  refine own_gs 359 [.null, (.ref t)] (fun t' k => XS.aconstNull X29.here hx rfl (hb hby own_dI_358) k) ?_
  refine X29.putF hx hZ hown (hw _ (List.mem_of_getElem? (i := 24) rfl)) e29 F_thresholds E_t g_t (Or.inr ⟨(hw _ (List.mem_of_getElem? (i := 25) rfl)), rfl, hnm⟩) (hw _ (List.mem_of_getElem? (i := 4) rfl)) (ty := (.array .long)) (by decide) rfl rfl (hb hby own_dI_359) ?_
  intro T30 h30 X30 e30 W30
  replace E_t := E_t.wr W30
  replace A_w := A_w.other W30 (Ne.symm ne_t_w)
  replace F_shift := F_shift.other W30 (Or.inr (own_sn_AliasTable_shift_thresholds hw))
  replace F_total := F_total.other W30 (Or.inr (own_sn_AliasTable_total_thresholds hw))
  replace F_packed := F_packed.other W30 (Or.inr (own_sn_AliasTable_packed_thresholds hw))
  replace F_thresholds := F_thresholds.same W30
  replace F_aliases := F_aliases.other W30 (Or.inr (own_sn_AliasTable_aliases_thresholds hw))
  replace A_b3 := A_b3.other W30 (Ne.symm (Nat.ne_of_lt lt_t_b3))
  replace A_b4 := A_b4.other W30 (Ne.symm (Nat.ne_of_lt lt_t_b4))
  replace A_b8 := A_b8.other W30 (Ne.symm (Nat.ne_of_lt lt_t_b8))
  replace A_b9 := A_b9.other W30 (Ne.symm (Nat.ne_of_lt lt_t_b9))
  replace A_b10 := A_b10.other W30 (Ne.symm (Nat.ne_of_lt lt_t_b10))
  replace A_b24 := A_b24.other W30 (Ne.symm (Nat.ne_of_lt lt_t_b24))
  replace hn := Nat.le_trans hn (Keep.of_wr W30).1
  clear W30 X29 e29
  refine own_gs 363 [(.ref t)] (fun t' k => XS.aloadN X30.here hx rfl (hb hby own_dI_362) rfl rfl  k) ?_
  refine own_gs 364 [.null, (.ref t)] (fun t' k => XS.aconstNull X30.here hx rfl (hb hby own_dI_363) k) ?_
  refine X30.putF hx hZ hown (hw _ (List.mem_of_getElem? (i := 26) rfl)) e30 F_aliases E_t g_t (Or.inr ⟨(hw _ (List.mem_of_getElem? (i := 27) rfl)), rfl, hnm⟩) (hw _ (List.mem_of_getElem? (i := 4) rfl)) (ty := (.array .int)) (by decide) rfl rfl (hb hby own_dI_364) ?_
  intro T31 h31 X31 e31 W31
  replace E_t := E_t.wr W31
  replace A_w := A_w.other W31 (Ne.symm ne_t_w)
  replace F_shift := F_shift.other W31 (Or.inr (own_sn_AliasTable_shift_aliases hw))
  replace F_total := F_total.other W31 (Or.inr (own_sn_AliasTable_total_aliases hw))
  replace F_packed := F_packed.other W31 (Or.inr (own_sn_AliasTable_packed_aliases hw))
  replace F_thresholds := F_thresholds.other W31 (Or.inr (own_sn_AliasTable_thresholds_aliases hw))
  replace F_aliases := F_aliases.same W31
  replace A_b3 := A_b3.other W31 (Ne.symm (Nat.ne_of_lt lt_t_b3))
  replace A_b4 := A_b4.other W31 (Ne.symm (Nat.ne_of_lt lt_t_b4))
  replace A_b8 := A_b8.other W31 (Ne.symm (Nat.ne_of_lt lt_t_b8))
  replace A_b9 := A_b9.other W31 (Ne.symm (Nat.ne_of_lt lt_t_b9))
  replace A_b10 := A_b10.other W31 (Ne.symm (Nat.ne_of_lt lt_t_b10))
  replace A_b24 := A_b24.other W31 (Ne.symm (Nat.ne_of_lt lt_t_b24))
  replace hn := Nat.le_trans hn (Keep.of_wr W31).1
  clear W31 X30 e30
  refine own_gs 386 [] (fun t' k => XS.goto X31.here hx rfl (pc0 := 367) (pc' := 386) rfl (hb hby own_dI_367) (by decide) (by decide) k) ?_
  refine X31.retV hx hlk hret (hb hby own_dI_386) ?_ (by decide) (by decide)
  rw [e31]
  exact ⟨rfl, hn, E_t, ⟨_, F_packed, A_b24⟩⟩

theorem own_dI_142 : decode prog_10_method_1_code 142 = .ok (.lconst 0, 1) := by decide +kernel
theorem own_dI_262 : decode prog_10_method_1_code 262 = .ok (.iinc 11 (-1), 3) := by decide +kernel
theorem own_dI_265 : decode prog_10_method_1_code 265 = .ok (.aload 8, 2) := by decide +kernel
theorem own_dI_267 : decode prog_10_method_1_code 267 = .ok (.iload 10, 2) := by decide +kernel
theorem own_dI_269 : decode prog_10_method_1_code 269 = .ok (.iinc 10 1, 3) := by decide +kernel
theorem own_dI_272 : decode prog_10_method_1_code 272 = .ok (.iload 13, 2) := by decide +kernel
theorem own_dI_274 : decode prog_10_method_1_code 274 = .ok (.iastore, 1) := by decide +kernel
theorem own_dI_370 : decode prog_10_method_1_code 370 = .ok (.aload_n 0, 1) := by decide +kernel
theorem own_dI_371 : decode prog_10_method_1_code 371 = .ok (.aconst_null, 1) := by decide +kernel
theorem own_dI_372 : decode prog_10_method_1_code 372 = .ok (.putfield 30, 3) := by decide +kernel
theorem own_dI_375 : decode prog_10_method_1_code 375 = .ok (.aload_n 0, 1) := by decide +kernel
theorem own_dI_376 : decode prog_10_method_1_code 376 = .ok (.aload_n 3, 1) := by decide +kernel
theorem own_dI_377 : decode prog_10_method_1_code 377 = .ok (.putfield 34, 3) := by decide +kernel
theorem own_dI_380 : decode prog_10_method_1_code 380 = .ok (.aload_n 0, 1) := by decide +kernel
theorem own_dI_381 : decode prog_10_method_1_code 381 = .ok (.aload 4, 2) := by decide +kernel
theorem own_dI_383 : decode prog_10_method_1_code 383 = .ok (.putfield 37, 3) := by decide +kernel
theorem own_pn_own_rmI5 : plainFor (⟨"com/example/load_across_peers/loadacrosspeers/internal/pick/AliasTable", "<init>", "([J)V"⟩ : MethodName) = true := plainFor_of_name (show plainName "com/example/load_across_peers/loadacrosspeers/internal/pick/AliasTable" = true by first | (simp [plainName, overriddenIn]; done) | decide +kernel)
set_option maxRecDepth 65536 in
set_option maxHeartbeats 40000000 in
theorem own_rmI5 (l : Launch) (Z : State) (a0 : Array Value) (hw : ∀ d ∈ tables_1, d.before a0 Z = true) (ws : List Jvm.Cond) (h0 : Heap) (n0 : Nat) (Z0 : n0 ≤ h0.size) (t w : Addr) (g_t : n0 ≤ t) (ne_t_w : t ≠ w) (A : Int) (hA1 : 1 ≤ A) (hA2 : A ≤ 2147483647) (E_t : Exa Z h0 t "com/example/load_across_peers/loadacrosspeers/internal/pick/AliasTable") (A_w : own_A Z h0 .long w [(.long (Int64.ofInt (A))), (.long (Int64.ofInt (A))), (.long (Int64.ofInt (A))), (.long (Int64.ofInt (A))), (.long (Int64.ofInt (A)))]) (F_shift : Fld Z h0 t "com/example/load_across_peers/loadacrosspeers/internal/pick/AliasTable" "shift" "I" (.int (0 : Int32))) (F_total : Fld Z h0 t "com/example/load_across_peers/loadacrosspeers/internal/pick/AliasTable" "total" "J" (.long (0 : Int64))) (F_packed : Fld Z h0 t "com/example/load_across_peers/loadacrosspeers/internal/pick/AliasTable" "packed" "[J" .null) (F_thresholds : Fld Z h0 t "com/example/load_across_peers/loadacrosspeers/internal/pick/AliasTable" "thresholds" "[J" .null) (F_aliases : Fld Z h0 t "com/example/load_across_peers/loadacrosspeers/internal/pick/AliasTable" "aliases" "[I" .null)  :
    own_C l Z (⟨"com/example/load_across_peers/loadacrosspeers/internal/pick/AliasTable", "<init>", "([J)V"⟩ : MethodName) prog_10_method_1_code 14 none ws ({ frames := 2, cells := 6, slots := 48, locals := 27 } : Room) #[(.ref t), (.ref w)] h0 (own_Q n0 (fun v h => v = none ∧ n0 ≤ h.size ∧ Exa Z h t "com/example/load_across_peers/loadacrosspeers/internal/pick/AliasTable" ∧ ((5 * A ≤ 8589934592 ∧ ∃ b, Fld Z h t "com/example/load_across_peers/loadacrosspeers/internal/pick/AliasTable" "packed" "[J" (.ref b) ∧ own_A Z h .long b [(.long (own_pw (0 : Int64) (0 : Int64))), (.long (own_pw (Int64.ofInt (2 * A)) (0 : Int64))), (.long (own_pw (Int64.ofInt (4 * A)) (1 : Int64))), (.long (own_pw (Int64.ofInt (A)) (2 : Int64))), (.long (own_pw (Int64.ofInt (3 * A)) (3 : Int64))), (.long (own_pw (0 : Int64) (1 : Int64))), (.long (own_pw (0 : Int64) (3 : Int64))), (.long (own_pw (0 : Int64) (4 : Int64)))]) ∨ (Fld Z h t "com/example/load_across_peers/loadacrosspeers/internal/pick/AliasTable" "packed" "[J" .null ∧ ∃ b b', Fld Z h t "com/example/load_across_peers/loadacrosspeers/internal/pick/AliasTable" "thresholds" "[J" (.ref b) ∧ Fld Z h t "com/example/load_across_peers/loadacrosspeers/internal/pick/AliasTable" "aliases" "[I" (.ref b') ∧ own_A Z h .long b [(.long (0 : Int64)), (.long (Int64.ofInt (2 * A))), (.long (Int64.ofInt (4 * A))), (.long (Int64.ofInt (A))), (.long (Int64.ofInt (3 * A))), (.long (0 : Int64)), (.long (0 : Int64)), (.long (0 : Int64))] ∧ own_A Z h .int b' [(.int (0 : Int32)), (.int (0 : Int32)), (.int (1 : Int32)), (.int (2 : Int32)), (.int (3 : Int32)), (.int (1 : Int32)), (.int (3 : Int32)), (.int (4 : Int32))])))) := by
  refine own_met own_pn_own_rmI5 #[rv t, rv w, .unset, .unset, .unset, .unset, .unset, .unset, .unset, .unset, .unset, .unset, .unset, .unset] (fun m => by first | (simp [entryFrame, mkF, argsToLocals, Value.category]; done) | rfl) ?_
  intro p e s m below meth c s₁ hx hby hml hown hret hlk hZ hnm X0 e0
  replace X0 := own_S.of X0 (n0)
  have hn : n0 ≤ h0.size := Z0
  refine own_gs 1 [(.ref t)] (fun t' k => XS.aloadN X0.here hx rfl (hb hby own_dI_0) rfl rfl  k) ?_
  refine X0.initO hx hZ hown (hw _ (List.mem_of_getElem? (i := 9) rfl)) (hw _ (List.mem_of_getElem? (i := 10) rfl)) (hw _ (List.mem_of_getElem? (i := 11) rfl)) e0 (by rw [hml]; rfl) (hb hby own_dI_1) (by decide) 0 (Nat.le_of_eq rfl) (by decide) ?_
  intro T1 X1 e1
  refine own_gs 5 [(.ref w)] (fun t' k => XS.aloadN X1.here hx rfl (hb hby own_dI_4) rfl rfl  k) ?_
  refine X1.alen hx hZ e1 A_w (hb hby own_dI_5) ?_
  show own_G p e below s _ _ _ T1 (mkF m 6 #[rv t, rv w, .unset, .unset, .unset, .unset, .unset, .unset, .unset, .unset, .unset, .unset, .unset, .unset] [(.int (5 : Int32))])
  refine own_gs 7 [(.int (1 : Int32)), (.int (5 : Int32))] (fun t' k => XS.iconst X1.here hx rfl (hb hby own_dI_6) k) ?_
  refine own_gs 14 [] (fun t' k => XS.icmpYes X1.here hx rfl (pc0 := 7) (pc' := 14) rfl (hb hby own_dI_7) rfl (tlt (by decide)).2.2.1 (by decide) (by decide) k) ?_
  refine own_gs 15 [(.ref w)] (fun t' k => XS.aloadN X1.here hx rfl (hb hby own_dI_14) rfl rfl  k) ?_
  refine X1.alen hx hZ e1 A_w (hb hby own_dI_15) ?_
  show own_G p e below s _ _ _ T1 (mkF m 16 #[rv t, rv w, .unset, .unset, .unset, .unset, .unset, .unset, .unset, .unset, .unset, .unset, .unset, .unset] [(.int (5 : Int32))])
  refine own_gs 17 [(.int (1 : Int32)), (.int (5 : Int32))] (fun t' k => XS.iconst X1.here hx rfl (hb hby own_dI_16) k) ?_
  refine own_gs 18 [(.int (4 : Int32))] (fun t' k => XS.isub X1.here hx rfl (hb hby own_dI_17) rfl k) ?_
  refine X1.callP hx hZ (y := (⟨"java/lang/Integer", "highestOneBit", "(I)I"⟩ : MethodName)) (fr := 1) (lo := 15) (r := (.int (4 : Int32))) hown (hw _ (List.mem_of_getElem? (i := 38) rfl)) (hw _ (List.mem_of_getElem? (i := 39) rfl)) (hw _ (List.mem_of_getElem? (i := 15) rfl)) (hw _ (List.mem_of_getElem? (i := 40) rfl)) (by decide) e1 [(.int (4 : Int32))] [] (own_hob4 l Z a0 hw [] h0 ) 0 (by decide) (by decide) (Nat.le_of_eq rfl) (by decide) (by decide) (by rw [hml]; rfl) (lenOf own_pd0 rfl) rfl (hb hby own_dI_18) ?_
  intro T2 X2 e2
  refine own_gs 22 [(.int (1 : Int32)), (.int (4 : Int32))] (fun t' k => XS.iconst X2.here hx rfl (hb hby own_dI_21) k) ?_
  refine own_gs 23 [(.int (8 : Int32))] (fun t' k => XS.ishl X2.here hx rfl (hb hby own_dI_22) rfl k) ?_
  refine own_go (mkF m 24 #[rv t, rv w, iv (8 : Int32), .unset, .unset, .unset, .unset, .unset, .unset, .unset, .unset, .unset, .unset, .unset] []) (fun t' k => XS.istoreN X2.here hx rfl (hb hby own_dI_23) rfl rfl k) ?_
  refine own_gs 25 [(.int (8 : Int32))] (fun t' k => XS.iloadN X2.here hx rfl (hb hby own_dI_24) rfl  k) ?_
  refine X2.newP hx hZ (hw _ (List.mem_of_getElem? (i := 2) rfl)) e2 8 (by decide) (hb hby own_dI_25) 8 (by decide) (by decide) (by decide) (by decide) ?_
  intro T3 h3 b3 X3 e3 q3 xt3 A_b3
  have g_b3 : n0 ≤ b3 := by rw [q3]; exact hn
  have lt_t_b3 : t < b3 := by rw [q3]; exact E_t.lt
  have lt_w_b3 : w < b3 := by rw [q3]; exact A_w.lt
  replace E_t := E_t.ext xt3
  replace A_w := A_w.ext xt3
  replace F_shift := F_shift.ext xt3
  replace F_total := F_total.ext xt3
  replace F_packed := F_packed.ext xt3
  replace F_thresholds := F_thresholds.ext xt3
  replace F_aliases := F_aliases.ext xt3
  replace hn := Nat.le_trans hn xt3.1
  replace A_b3 : own_A Z h3 .long b3 [(.long (0 : Int64)), (.long (0 : Int64)), (.long (0 : Int64)), (.long (0 : Int64)), (.long (0 : Int64)), (.long (0 : Int64)), (.long (0 : Int64)), (.long (0 : Int64))] := A_b3
  refine own_go (mkF m 28 #[rv t, rv w, iv (8 : Int32), rv b3, .unset, .unset, .unset, .unset, .unset, .unset, .unset, .unset, .unset, .unset] []) (fun t' k => XS.astoreN X3.here hx rfl (hb hby own_dI_27) rfl rfl rfl k) ?_
  refine own_gs 29 [(.int (8 : Int32))] (fun t' k => XS.iloadN X3.here hx rfl (hb hby own_dI_28) rfl  k) ?_
  refine X3.newP hx hZ (hw _ (List.mem_of_getElem? (i := 12) rfl)) e3 8 (by decide) (hb hby own_dI_29) 8 (by decide) (by decide) (by decide) (by decide) ?_
  intro T4 h4 b4 X4 e4 q4 xt4 A_b4
  have g_b4 : n0 ≤ b4 := by rw [q4]; exact hn
  have lt_t_b4 : t < b4 := by rw [q4]; exact E_t.lt
  have lt_w_b4 : w < b4 := by rw [q4]; exact A_w.lt
  have lt_b3_b4 : b3 < b4 := by rw [q4]; exact A_b3.lt
  replace E_t := E_t.ext xt4
  replace A_w := A_w.ext xt4
  replace F_shift := F_shift.ext xt4
  replace F_total := F_total.ext xt4
  replace F_packed := F_packed.ext xt4
  replace F_thresholds := F_thresholds.ext xt4
  replace F_aliases := F_aliases.ext xt4
  replace A_b3 := A_b3.ext xt4
  replace hn := Nat.le_trans hn xt4.1
  replace A_b4 : own_A Z h4 .int b4 [(.int (0 : Int32)), (.int (0 : Int32)), (.int (0 : Int32)), (.int (0 : Int32)), (.int (0 : Int32)), (.int (0 : Int32)), (.int (0 : Int32)), (.int (0 : Int32))] := A_b4
  refine own_go (mkF m 33 #[rv t, rv w, iv (8 : Int32), rv b3, rv b4, .unset, .unset, .unset, .unset, .unset, .unset, .unset, .unset, .unset] []) (fun t' k => XS.astore X4.here hx rfl (hb hby own_dI_31) rfl rfl rfl k) ?_
  refine own_gs 34 [(.ref t)] (fun t' k => XS.aloadN X4.here hx rfl (hb hby own_dI_33) rfl rfl  k) ?_
  refine own_gs 36 [(.int (64 : Int32)), (.ref t)] (fun t' k => XS.bipush X4.here hx rfl (hb hby own_dI_34) k) ?_
  refine own_gs 37 [(.int (8 : Int32)), (.int (64 : Int32)), (.ref t)] (fun t' k => XS.iloadN X4.here hx rfl (hb hby own_dI_36) rfl  k) ?_
  refine X4.callP hx hZ (y := (⟨"java/lang/Integer", "numberOfTrailingZeros", "(I)I"⟩ : MethodName)) (fr := 0) (lo := 0) (r := (.int (3 : Int32))) hown (hw _ (List.mem_of_getElem? (i := 13) rfl)) (hw _ (List.mem_of_getElem? (i := 14) rfl)) (hw _ (List.mem_of_getElem? (i := 15) rfl)) (hw _ (List.mem_of_getElem? (i := 16) rfl)) (by decide) e4 [(.int (8 : Int32))] [(.int (64 : Int32)), (.ref t)] (own_ntz8 l Z a0 hw [] h4 ) 2 (by decide) (by decide) (Nat.le_of_eq rfl) (by decide) (by decide) (by rw [hml]; rfl) (lenOf own_pd0 rfl) rfl (hb hby own_dI_37) ?_
  intro T5 X5 e5
  refine own_gs 41 [(.int (61 : Int32)), (.ref t)] (fun t' k => XS.isub X5.here hx rfl (hb hby own_dI_40) rfl k) ?_
  refine X5.putF hx hZ hown (hw _ (List.mem_of_getElem? (i := 17) rfl)) e5 F_shift E_t g_t (Or.inr ⟨(hw _ (List.mem_of_getElem? (i := 18) rfl)), rfl, hnm⟩) (hw _ (List.mem_of_getElem? (i := 4) rfl)) (ty := .int) (by decide) rfl rfl (hb hby own_dI_41) ?_
  intro T6 h6 X6 e6 W6
  replace E_t := E_t.wr W6
  replace A_w := A_w.other W6 (Ne.symm ne_t_w)
  replace F_shift := F_shift.same W6
  replace F_total := F_total.other W6 (Or.inr (own_sn_AliasTable_total_shift hw))
  replace F_packed := F_packed.other W6 (Or.inr (own_sn_AliasTable_packed_shift hw))
  replace F_thresholds := F_thresholds.other W6 (Or.inr (own_sn_AliasTable_thresholds_shift hw))
  replace F_aliases := F_aliases.other W6 (Or.inr (own_sn_AliasTable_aliases_shift hw))
  replace A_b3 := A_b3.other W6 (Ne.symm (Nat.ne_of_lt lt_t_b3))
  replace A_b4 := A_b4.other W6 (Ne.symm (Nat.ne_of_lt lt_t_b4))
  replace hn := Nat.le_trans hn (Keep.of_wr W6).1
  clear W6 X5 e5
  refine own_gs 45 [(.long (0 : Int64))] (fun t' k => XS.lconst X6.here hx rfl (hb hby own_dI_44) k) ?_
  refine own_go (mkF m 47 #[rv t, rv w, iv (8 : Int32), rv b3, rv b4, jv (0 : Int64), .second, .unset, .unset, .unset, .unset, .unset, .unset, .unset] []) (fun t' k => XS.lstore X6.here hx rfl (hb hby own_dI_45) rfl rfl k) ?_
  refine own_gs 48 [(.ref w)] (fun t' k => XS.aloadN X6.here hx rfl (hb hby own_dI_47) rfl rfl  k) ?_
  refine own_go (mkF m 50 #[rv t, rv w, iv (8 : Int32), rv b3, rv b4, jv (0 : Int64), .second, rv w, .unset, .unset, .unset, .unset, .unset, .unset] []) (fun t' k => XS.astore X6.here hx rfl (hb hby own_dI_48) rfl rfl rfl k) ?_
  refine own_gs 52 [(.ref w)] (fun t' k => XS.aload X6.here hx rfl (hb hby own_dI_50) rfl rfl  k) ?_
  refine X6.alen hx hZ e6 A_w (hb hby own_dI_52) ?_
  show own_G p e below s _ _ _ T6 (mkF m 53 #[rv t, rv w, iv (8 : Int32), rv b3, rv b4, jv (0 : Int64), .second, rv w, .unset, .unset, .unset, .unset, .unset, .unset] [(.int (5 : Int32))])
  refine own_go (mkF m 55 #[rv t, rv w, iv (8 : Int32), rv b3, rv b4, jv (0 : Int64), .second, rv w, iv (5 : Int32), .unset, .unset, .unset, .unset, .unset] []) (fun t' k => XS.istore X6.here hx rfl (hb hby own_dI_53) rfl rfl k) ?_
  refine own_gs 56 [(.int (0 : Int32))] (fun t' k => XS.iconst X6.here hx rfl (hb hby own_dI_55) k) ?_
  refine own_go (mkF m 58 #[rv t, rv w, iv (8 : Int32), rv b3, rv b4, jv (0 : Int64), .second, rv w, iv (5 : Int32), iv (0 : Int32), .unset, .unset, .unset, .unset] []) (fun t' k => XS.istore X6.here hx rfl (hb hby own_dI_56) rfl rfl k) ?_
  refine own_gs 60 [(.int (0 : Int32))] (fun t' k => XS.iload X6.here hx rfl (hb hby own_dI_58) rfl  k) ?_
  refine own_gs 62 [(.int (5 : Int32)), (.int (0 : Int32))] (fun t' k => XS.iload X6.here hx rfl (hb hby own_dI_60) rfl  k) ?_
  refine own_gs 65 [] (fun t' k => XS.icmpNo X6.here hx rfl (hb hby own_dI_62) rfl (tlt (by decide)).2.1 k) ?_
  refine own_gs 67 [(.ref w)] (fun t' k => XS.aload X6.here hx rfl (hb hby own_dI_65) rfl rfl  k) ?_
  refine own_gs 69 [(.int (0 : Int32)), (.ref w)] (fun t' k => XS.iload X6.here hx rfl (hb hby own_dI_67) rfl  k) ?_
  refine X6.ldJ hx hZ e6 A_w (v := (.long (Int64.ofInt (A)))) 0 (by decide) rfl (hb hby own_dI_69) ?_
  refine own_go (mkF m 72 #[rv t, rv w, iv (8 : Int32), rv b3, rv b4, jv (0 : Int64), .second, rv w, iv (5 : Int32), iv (0 : Int32), jv (Int64.ofInt (A)), .second, .unset, .unset] []) (fun t' k => XS.lstore X6.here hx rfl (hb hby own_dI_70) rfl rfl k) ?_
  refine own_gs 74 [(.long (0 : Int64))] (fun t' k => XS.lload X6.here hx rfl (hb hby own_dI_72) rfl  k) ?_
  refine own_gs 76 [(.long (Int64.ofInt (A))), (.long (0 : Int64))] (fun t' k => XS.lload X6.here hx rfl (hb hby own_dI_74) rfl  k) ?_
  refine own_gs 77 [(.long ((0 : Int64) + (Int64.ofInt (A))))] (fun t' k => XS.ladd X6.here hx rfl (hb hby own_dI_76) rfl k) ?_
  rw [own_oadd (z := A) (show (0 : Int64) = Int64.ofInt (0) from rfl) (show (Int64.ofInt (A)) = (Int64.ofInt (A)) from rfl) (by omega)]
  refine own_go (mkF m 79 #[rv t, rv w, iv (8 : Int32), rv b3, rv b4, jv (Int64.ofInt (A)), .second, rv w, iv (5 : Int32), iv (0 : Int32), jv (Int64.ofInt (A)), .second, .unset, .unset] []) (fun t' k => XS.lstore X6.here hx rfl (hb hby own_dI_77) rfl rfl k) ?_
  refine own_go (mkF m 82 #[rv t, rv w, iv (8 : Int32), rv b3, rv b4, jv (Int64.ofInt (A)), .second, rv w, iv (5 : Int32), iv (1 : Int32), jv (Int64.ofInt (A)), .second, .unset, .unset] []) (fun t' k => XS.iinc X6.here hx rfl (hb hby own_dI_79) rfl rfl k) ?_
  refine own_gs 58 [] (fun t' k => XS.goto X6.here hx rfl (pc0 := 82) (pc' := 58) rfl (hb hby own_dI_82) (by decide) (by decide) k) ?_
  refine own_gs 60 [(.int (1 : Int32))] (fun t' k => XS.iload X6.here hx rfl (hb hby own_dI_58) rfl  k) ?_
  refine own_gs 62 [(.int (5 : Int32)), (.int (1 : Int32))] (fun t' k => XS.iload X6.here hx rfl (hb hby own_dI_60) rfl  k) ?_
  refine own_gs 65 [] (fun t' k => XS.icmpNo X6.here hx rfl (hb hby own_dI_62) rfl (tlt (by decide)).2.1 k) ?_
  refine own_gs 67 [(.ref w)] (fun t' k => XS.aload X6.here hx rfl (hb hby own_dI_65) rfl rfl  k) ?_
  refine own_gs 69 [(.int (1 : Int32)), (.ref w)] (fun t' k => XS.iload X6.here hx rfl (hb hby own_dI_67) rfl  k) ?_
  refine X6.ldJ hx hZ e6 A_w (v := (.long (Int64.ofInt (A)))) 1 (by decide) rfl (hb hby own_dI_69) ?_
  refine own_gs 72 [] (fun t' k => XS.lstore X6.here hx rfl (hb hby own_dI_70) rfl rfl k) ?_
  refine own_gs 74 [(.long (Int64.ofInt (A)))] (fun t' k => XS.lload X6.here hx rfl (hb hby own_dI_72) rfl  k) ?_
  refine own_gs 76 [(.long (Int64.ofInt (A))), (.long (Int64.ofInt (A)))] (fun t' k => XS.lload X6.here hx rfl (hb hby own_dI_74) rfl  k) ?_
  refine own_gs 77 [(.long ((Int64.ofInt (A)) + (Int64.ofInt (A))))] (fun t' k => XS.ladd X6.here hx rfl (hb hby own_dI_76) rfl k) ?_
  rw [own_oadd (z := 2 * A) (show (Int64.ofInt (A)) = (Int64.ofInt (A)) from rfl) (show (Int64.ofInt (A)) = (Int64.ofInt (A)) from rfl) (by omega)]
  refine own_go (mkF m 79 #[rv t, rv w, iv (8 : Int32), rv b3, rv b4, jv (Int64.ofInt (2 * A)), .second, rv w, iv (5 : Int32), iv (1 : Int32), jv (Int64.ofInt (A)), .second, .unset, .unset] []) (fun t' k => XS.lstore X6.here hx rfl (hb hby own_dI_77) rfl rfl k) ?_
  refine own_go (mkF m 82 #[rv t, rv w, iv (8 : Int32), rv b3, rv b4, jv (Int64.ofInt (2 * A)), .second, rv w, iv (5 : Int32), iv (2 : Int32), jv (Int64.ofInt (A)), .second, .unset, .unset] []) (fun t' k => XS.iinc X6.here hx rfl (hb hby own_dI_79) rfl rfl k) ?_
  refine own_gs 58 [] (fun t' k => XS.goto X6.here hx rfl (pc0 := 82) (pc' := 58) rfl (hb hby own_dI_82) (by decide) (by decide) k) ?_
  refine own_gs 60 [(.int (2 : Int32))] (fun t' k => XS.iload X6.here hx rfl (hb hby own_dI_58) rfl  k) ?_
  refine own_gs 62 [(.int (5 : Int32)), (.int (2 : Int32))] (fun t' k => XS.iload X6.here hx rfl (hb hby own_dI_60) rfl  k) ?_
  refine own_gs 65 [] (fun t' k => XS.icmpNo X6.here hx rfl (hb hby own_dI_62) rfl (tlt (by decide)).2.1 k) ?_
  refine own_gs 67 [(.ref w)] (fun t' k => XS.aload X6.here hx rfl (hb hby own_dI_65) rfl rfl  k) ?_
  refine own_gs 69 [(.int (2 : Int32)), (.ref w)] (fun t' k => XS.iload X6.here hx rfl (hb hby own_dI_67) rfl  k) ?_
  refine X6.ldJ hx hZ e6 A_w (v := (.long (Int64.ofInt (A)))) 2 (by decide) rfl (hb hby own_dI_69) ?_
  refine own_gs 72 [] (fun t' k => XS.lstore X6.here hx rfl (hb hby own_dI_70) rfl rfl k) ?_
  refine own_gs 74 [(.long (Int64.ofInt (2 * A)))] (fun t' k => XS.lload X6.here hx rfl (hb hby own_dI_72) rfl  k) ?_
  refine own_gs 76 [(.long (Int64.ofInt (A))), (.long (Int64.ofInt (2 * A)))] (fun t' k => XS.lload X6.here hx rfl (hb hby own_dI_74) rfl  k) ?_
  refine own_gs 77 [(.long ((Int64.ofInt (2 * A)) + (Int64.ofInt (A))))] (fun t' k => XS.ladd X6.here hx rfl (hb hby own_dI_76) rfl k) ?_
  rw [own_oadd (z := 3 * A) (show (Int64.ofInt (2 * A)) = (Int64.ofInt (2 * A)) from rfl) (show (Int64.ofInt (A)) = (Int64.ofInt (A)) from rfl) (by omega)]
  refine own_go (mkF m 79 #[rv t, rv w, iv (8 : Int32), rv b3, rv b4, jv (Int64.ofInt (3 * A)), .second, rv w, iv (5 : Int32), iv (2 : Int32), jv (Int64.ofInt (A)), .second, .unset, .unset] []) (fun t' k => XS.lstore X6.here hx rfl (hb hby own_dI_77) rfl rfl k) ?_
  refine own_go (mkF m 82 #[rv t, rv w, iv (8 : Int32), rv b3, rv b4, jv (Int64.ofInt (3 * A)), .second, rv w, iv (5 : Int32), iv (3 : Int32), jv (Int64.ofInt (A)), .second, .unset, .unset] []) (fun t' k => XS.iinc X6.here hx rfl (hb hby own_dI_79) rfl rfl k) ?_
  refine own_gs 58 [] (fun t' k => XS.goto X6.here hx rfl (pc0 := 82) (pc' := 58) rfl (hb hby own_dI_82) (by decide) (by decide) k) ?_
  refine own_gs 60 [(.int (3 : Int32))] (fun t' k => XS.iload X6.here hx rfl (hb hby own_dI_58) rfl  k) ?_
  refine own_gs 62 [(.int (5 : Int32)), (.int (3 : Int32))] (fun t' k => XS.iload X6.here hx rfl (hb hby own_dI_60) rfl  k) ?_
  refine own_gs 65 [] (fun t' k => XS.icmpNo X6.here hx rfl (hb hby own_dI_62) rfl (tlt (by decide)).2.1 k) ?_
  refine own_gs 67 [(.ref w)] (fun t' k => XS.aload X6.here hx rfl (hb hby own_dI_65) rfl rfl  k) ?_
  refine own_gs 69 [(.int (3 : Int32)), (.ref w)] (fun t' k => XS.iload X6.here hx rfl (hb hby own_dI_67) rfl  k) ?_
  refine X6.ldJ hx hZ e6 A_w (v := (.long (Int64.ofInt (A)))) 3 (by decide) rfl (hb hby own_dI_69) ?_
  refine own_gs 72 [] (fun t' k => XS.lstore X6.here hx rfl (hb hby own_dI_70) rfl rfl k) ?_
  refine own_gs 74 [(.long (Int64.ofInt (3 * A)))] (fun t' k => XS.lload X6.here hx rfl (hb hby own_dI_72) rfl  k) ?_
  refine own_gs 76 [(.long (Int64.ofInt (A))), (.long (Int64.ofInt (3 * A)))] (fun t' k => XS.lload X6.here hx rfl (hb hby own_dI_74) rfl  k) ?_
  refine own_gs 77 [(.long ((Int64.ofInt (3 * A)) + (Int64.ofInt (A))))] (fun t' k => XS.ladd X6.here hx rfl (hb hby own_dI_76) rfl k) ?_
  rw [own_oadd (z := 4 * A) (show (Int64.ofInt (3 * A)) = (Int64.ofInt (3 * A)) from rfl) (show (Int64.ofInt (A)) = (Int64.ofInt (A)) from rfl) (by omega)]
  refine own_go (mkF m 79 #[rv t, rv w, iv (8 : Int32), rv b3, rv b4, jv (Int64.ofInt (4 * A)), .second, rv w, iv (5 : Int32), iv (3 : Int32), jv (Int64.ofInt (A)), .second, .unset, .unset] []) (fun t' k => XS.lstore X6.here hx rfl (hb hby own_dI_77) rfl rfl k) ?_
  refine own_go (mkF m 82 #[rv t, rv w, iv (8 : Int32), rv b3, rv b4, jv (Int64.ofInt (4 * A)), .second, rv w, iv (5 : Int32), iv (4 : Int32), jv (Int64.ofInt (A)), .second, .unset, .unset] []) (fun t' k => XS.iinc X6.here hx rfl (hb hby own_dI_79) rfl rfl k) ?_
  refine own_gs 58 [] (fun t' k => XS.goto X6.here hx rfl (pc0 := 82) (pc' := 58) rfl (hb hby own_dI_82) (by decide) (by decide) k) ?_
  refine own_gs 60 [(.int (4 : Int32))] (fun t' k => XS.iload X6.here hx rfl (hb hby own_dI_58) rfl  k) ?_
  refine own_gs 62 [(.int (5 : Int32)), (.int (4 : Int32))] (fun t' k => XS.iload X6.here hx rfl (hb hby own_dI_60) rfl  k) ?_
  refine own_gs 65 [] (fun t' k => XS.icmpNo X6.here hx rfl (hb hby own_dI_62) rfl (tlt (by decide)).2.1 k) ?_
  refine own_gs 67 [(.ref w)] (fun t' k => XS.aload X6.here hx rfl (hb hby own_dI_65) rfl rfl  k) ?_
  refine own_gs 69 [(.int (4 : Int32)), (.ref w)] (fun t' k => XS.iload X6.here hx rfl (hb hby own_dI_67) rfl  k) ?_
  refine X6.ldJ hx hZ e6 A_w (v := (.long (Int64.ofInt (A)))) 4 (by decide) rfl (hb hby own_dI_69) ?_
  refine own_gs 72 [] (fun t' k => XS.lstore X6.here hx rfl (hb hby own_dI_70) rfl rfl k) ?_
  refine own_gs 74 [(.long (Int64.ofInt (4 * A)))] (fun t' k => XS.lload X6.here hx rfl (hb hby own_dI_72) rfl  k) ?_
  refine own_gs 76 [(.long (Int64.ofInt (A))), (.long (Int64.ofInt (4 * A)))] (fun t' k => XS.lload X6.here hx rfl (hb hby own_dI_74) rfl  k) ?_
  refine own_gs 77 [(.long ((Int64.ofInt (4 * A)) + (Int64.ofInt (A))))] (fun t' k => XS.ladd X6.here hx rfl (hb hby own_dI_76) rfl k) ?_
  rw [own_oadd (z := 5 * A) (show (Int64.ofInt (4 * A)) = (Int64.ofInt (4 * A)) from rfl) (show (Int64.ofInt (A)) = (Int64.ofInt (A)) from rfl) (by omega)]
  refine own_go (mkF m 79 #[rv t, rv w, iv (8 : Int32), rv b3, rv b4, jv (Int64.ofInt (5 * A)), .second, rv w, iv (5 : Int32), iv (4 : Int32), jv (Int64.ofInt (A)), .second, .unset, .unset] []) (fun t' k => XS.lstore X6.here hx rfl (hb hby own_dI_77) rfl rfl k) ?_
  refine own_go (mkF m 82 #[rv t, rv w, iv (8 : Int32), rv b3, rv b4, jv (Int64.ofInt (5 * A)), .second, rv w, iv (5 : Int32), iv (5 : Int32), jv (Int64.ofInt (A)), .second, .unset, .unset] []) (fun t' k => XS.iinc X6.here hx rfl (hb hby own_dI_79) rfl rfl k) ?_
  refine own_gs 58 [] (fun t' k => XS.goto X6.here hx rfl (pc0 := 82) (pc' := 58) rfl (hb hby own_dI_82) (by decide) (by decide) k) ?_
  refine own_gs 60 [(.int (5 : Int32))] (fun t' k => XS.iload X6.here hx rfl (hb hby own_dI_58) rfl  k) ?_
  refine own_gs 62 [(.int (5 : Int32)), (.int (5 : Int32))] (fun t' k => XS.iload X6.here hx rfl (hb hby own_dI_60) rfl  k) ?_
  refine own_gs 85 [] (fun t' k => XS.icmpYes X6.here hx rfl (pc0 := 62) (pc' := 85) rfl (hb hby own_dI_62) rfl (flt (by decide)).2.1 (by decide) (by decide) k) ?_
  refine own_gs 86 [(.ref t)] (fun t' k => XS.aloadN X6.here hx rfl (hb hby own_dI_85) rfl rfl  k) ?_
  refine own_gs 88 [(.long (Int64.ofInt (5 * A))), (.ref t)] (fun t' k => XS.lload X6.here hx rfl (hb hby own_dI_86) rfl  k) ?_
  refine X6.putF hx hZ hown (hw _ (List.mem_of_getElem? (i := 19) rfl)) e6 F_total E_t g_t (Or.inr ⟨(hw _ (List.mem_of_getElem? (i := 20) rfl)), rfl, hnm⟩) (hw _ (List.mem_of_getElem? (i := 4) rfl)) (ty := .long) (by decide) rfl rfl (hb hby own_dI_88) ?_
  intro T7 h7 X7 e7 W7
  replace E_t := E_t.wr W7
  replace A_w := A_w.other W7 (Ne.symm ne_t_w)
  replace F_shift := F_shift.other W7 (Or.inr (own_sn_AliasTable_shift_total hw))
  replace F_total := F_total.same W7
  replace F_packed := F_packed.other W7 (Or.inr (own_sn_AliasTable_packed_total hw))
  replace F_thresholds := F_thresholds.other W7 (Or.inr (own_sn_AliasTable_thresholds_total hw))
  replace F_aliases := F_aliases.other W7 (Or.inr (own_sn_AliasTable_aliases_total hw))
  replace A_b3 := A_b3.other W7 (Ne.symm (Nat.ne_of_lt lt_t_b3))
  replace A_b4 := A_b4.other W7 (Ne.symm (Nat.ne_of_lt lt_t_b4))
  replace hn := Nat.le_trans hn (Keep.of_wr W7).1
  clear W7 X6 e6
  refine own_gs 92 [(.int (8 : Int32))] (fun t' k => XS.iloadN X7.here hx rfl (hb hby own_dI_91) rfl  k) ?_
  refine X7.newP hx hZ (hw _ (List.mem_of_getElem? (i := 2) rfl)) e7 8 (by decide) (hb hby own_dI_92) 8 (by decide) (by decide) (by decide) (by decide) ?_
  intro T8 h8 b8 X8 e8 q8 xt8 A_b8
  have g_b8 : n0 ≤ b8 := by rw [q8]; exact hn
  have lt_t_b8 : t < b8 := by rw [q8]; exact E_t.lt
  have lt_w_b8 : w < b8 := by rw [q8]; exact A_w.lt
  have lt_b3_b8 : b3 < b8 := by rw [q8]; exact A_b3.lt
  have lt_b4_b8 : b4 < b8 := by rw [q8]; exact A_b4.lt
  replace E_t := E_t.ext xt8
  replace A_w := A_w.ext xt8
  replace F_shift := F_shift.ext xt8
  replace F_total := F_total.ext xt8
  replace F_packed := F_packed.ext xt8
  replace F_thresholds := F_thresholds.ext xt8
  replace F_aliases := F_aliases.ext xt8
  replace A_b3 := A_b3.ext xt8
  replace A_b4 := A_b4.ext xt8
  replace hn := Nat.le_trans hn xt8.1
  replace A_b8 : own_A Z h8 .long b8 [(.long (0 : Int64)), (.long (0 : Int64)), (.long (0 : Int64)), (.long (0 : Int64)), (.long (0 : Int64)), (.long (0 : Int64)), (.long (0 : Int64)), (.long (0 : Int64))] := A_b8
  refine own_go (mkF m 96 #[rv t, rv w, iv (8 : Int32), rv b3, rv b4, jv (Int64.ofInt (5 * A)), .second, rv b8, iv (5 : Int32), iv (5 : Int32), jv (Int64.ofInt (A)), .second, .unset, .unset] []) (fun t' k => XS.astore X8.here hx rfl (hb hby own_dI_94) rfl rfl rfl k) ?_
  refine own_gs 97 [(.int (8 : Int32))] (fun t' k => XS.iloadN X8.here hx rfl (hb hby own_dI_96) rfl  k) ?_
  refine X8.newP hx hZ (hw _ (List.mem_of_getElem? (i := 12) rfl)) e8 8 (by decide) (hb hby own_dI_97) 8 (by decide) (by decide) (by decide) (by decide) ?_
  intro T9 h9 b9 X9 e9 q9 xt9 A_b9
  have g_b9 : n0 ≤ b9 := by rw [q9]; exact hn
  have lt_t_b9 : t < b9 := by rw [q9]; exact E_t.lt
  have lt_w_b9 : w < b9 := by rw [q9]; exact A_w.lt
  have lt_b3_b9 : b3 < b9 := by rw [q9]; exact A_b3.lt
  have lt_b4_b9 : b4 < b9 := by rw [q9]; exact A_b4.lt
  have lt_b8_b9 : b8 < b9 := by rw [q9]; exact A_b8.lt
  replace E_t := E_t.ext xt9
  replace A_w := A_w.ext xt9
  replace F_shift := F_shift.ext xt9
  replace F_total := F_total.ext xt9
  replace F_packed := F_packed.ext xt9
  replace F_thresholds := F_thresholds.ext xt9
  replace F_aliases := F_aliases.ext xt9
  replace A_b3 := A_b3.ext xt9
  replace A_b4 := A_b4.ext xt9
  replace A_b8 := A_b8.ext xt9
  replace hn := Nat.le_trans hn xt9.1
  replace A_b9 : own_A Z h9 .int b9 [(.int (0 : Int32)), (.int (0 : Int32)), (.int (0 : Int32)), (.int (0 : Int32)), (.int (0 : Int32)), (.int (0 : Int32)), (.int (0 : Int32)), (.int (0 : Int32))] := A_b9
  refine own_go (mkF m 101 #[rv t, rv w, iv (8 : Int32), rv b3, rv b4, jv (Int64.ofInt (5 * A)), .second, rv b8, rv b9, iv (5 : Int32), jv (Int64.ofInt (A)), .second, .unset, .unset] []) (fun t' k => XS.astore X9.here hx rfl (hb hby own_dI_99) rfl rfl rfl k) ?_
  refine own_gs 102 [(.int (8 : Int32))] (fun t' k => XS.iloadN X9.here hx rfl (hb hby own_dI_101) rfl  k) ?_
  refine X9.newP hx hZ (hw _ (List.mem_of_getElem? (i := 12) rfl)) e9 8 (by decide) (hb hby own_dI_102) 8 (by decide) (by decide) (by decide) (by decide) ?_
  intro T10 h10 b10 X10 e10 q10 xt10 A_b10
  have g_b10 : n0 ≤ b10 := by rw [q10]; exact hn
  have lt_t_b10 : t < b10 := by rw [q10]; exact E_t.lt
  have lt_w_b10 : w < b10 := by rw [q10]; exact A_w.lt
  have lt_b3_b10 : b3 < b10 := by rw [q10]; exact A_b3.lt
  have lt_b4_b10 : b4 < b10 := by rw [q10]; exact A_b4.lt
  have lt_b8_b10 : b8 < b10 := by rw [q10]; exact A_b8.lt
  have lt_b9_b10 : b9 < b10 := by rw [q10]; exact A_b9.lt
  replace E_t := E_t.ext xt10
  replace A_w := A_w.ext xt10
  replace F_shift := F_shift.ext xt10
  replace F_total := F_total.ext xt10
  replace F_packed := F_packed.ext xt10
  replace F_thresholds := F_thresholds.ext xt10
  replace F_aliases := F_aliases.ext xt10
  replace A_b3 := A_b3.ext xt10
  replace A_b4 := A_b4.ext xt10
  replace A_b8 := A_b8.ext xt10
  replace A_b9 := A_b9.ext xt10
  replace hn := Nat.le_trans hn xt10.1
  replace A_b10 : own_A Z h10 .int b10 [(.int (0 : Int32)), (.int (0 : Int32)), (.int (0 : Int32)), (.int (0 : Int32)), (.int (0 : Int32)), (.int (0 : Int32)), (.int (0 : Int32)), (.int (0 : Int32))] := A_b10
  refine own_go (mkF m 106 #[rv t, rv w, iv (8 : Int32), rv b3, rv b4, jv (Int64.ofInt (5 * A)), .second, rv b8, rv b9, rv b10, jv (Int64.ofInt (A)), .second, .unset, .unset] []) (fun t' k => XS.astore X10.here hx rfl (hb hby own_dI_104) rfl rfl rfl k) ?_
  refine own_gs 107 [(.int (0 : Int32))] (fun t' k => XS.iconst X10.here hx rfl (hb hby own_dI_106) k) ?_
  refine own_go (mkF m 109 #[rv t, rv w, iv (8 : Int32), rv b3, rv b4, jv (Int64.ofInt (5 * A)), .second, rv b8, rv b9, rv b10, iv (0 : Int32), .unset, .unset, .unset] []) (fun t' k => XS.istore X10.here hx rfl (hb hby own_dI_107) rfl rfl k) ?_
  refine own_gs 110 [(.int (0 : Int32))] (fun t' k => XS.iconst X10.here hx rfl (hb hby own_dI_109) k) ?_
  refine own_go (mkF m 112 #[rv t, rv w, iv (8 : Int32), rv b3, rv b4, jv (Int64.ofInt (5 * A)), .second, rv b8, rv b9, rv b10, iv (0 : Int32), iv (0 : Int32), .unset, .unset] []) (fun t' k => XS.istore X10.here hx rfl (hb hby own_dI_110) rfl rfl k) ?_
  refine own_gs 113 [(.int (0 : Int32))] (fun t' k => XS.iconst X10.here hx rfl (hb hby own_dI_112) k) ?_
  refine own_go (mkF m 115 #[rv t, rv w, iv (8 : Int32), rv b3, rv b4, jv (Int64.ofInt (5 * A)), .second, rv b8, rv b9, rv b10, iv (0 : Int32), iv (0 : Int32), iv (0 : Int32), .unset] []) (fun t' k => XS.istore X10.here hx rfl (hb hby own_dI_113) rfl rfl k) ?_
  refine own_gs 117 [(.int (0 : Int32))] (fun t' k => XS.iload X10.here hx rfl (hb hby own_dI_115) rfl  k) ?_
  refine own_gs 118 [(.int (8 : Int32)), (.int (0 : Int32))] (fun t' k => XS.iloadN X10.here hx rfl (hb hby own_dI_117) rfl  k) ?_
  refine own_gs 121 [] (fun t' k => XS.icmpNo X10.here hx rfl (hb hby own_dI_118) rfl (tlt (by decide)).2.1 k) ?_
  refine own_gs 123 [(.ref b8)] (fun t' k => XS.aload X10.here hx rfl (hb hby own_dI_121) rfl rfl  k) ?_
  refine own_gs 125 [(.int (0 : Int32)), (.ref b8)] (fun t' k => XS.iload X10.here hx rfl (hb hby own_dI_123) rfl  k) ?_
  refine own_gs 127 [(.int (0 : Int32)), (.int (0 : Int32)), (.ref b8)] (fun t' k => XS.iload X10.here hx rfl (hb hby own_dI_125) rfl  k) ?_
  refine own_gs 128 [(.ref w), (.int (0 : Int32)), (.int (0 : Int32)), (.ref b8)] (fun t' k => XS.aloadN X10.here hx rfl (hb hby own_dI_127) rfl rfl  k) ?_
  refine X10.alen hx hZ e10 A_w (hb hby own_dI_128) ?_
  show own_G p e below s _ _ _ T10 (mkF m 129 #[rv t, rv w, iv (8 : Int32), rv b3, rv b4, jv (Int64.ofInt (5 * A)), .second, rv b8, rv b9, rv b10, iv (0 : Int32), iv (0 : Int32), iv (0 : Int32), .unset] [(.int (5 : Int32)), (.int (0 : Int32)), (.int (0 : Int32)), (.ref b8)])
  refine own_gs 132 [(.int (0 : Int32)), (.ref b8)] (fun t' k => XS.icmpNo X10.here hx rfl (hb hby own_dI_129) rfl (tlt (by decide)).2.1 k) ?_
  refine own_gs 133 [(.ref w), (.int (0 : Int32)), (.ref b8)] (fun t' k => XS.aloadN X10.here hx rfl (hb hby own_dI_132) rfl rfl  k) ?_
  refine own_gs 135 [(.int (0 : Int32)), (.ref w), (.int (0 : Int32)), (.ref b8)] (fun t' k => XS.iload X10.here hx rfl (hb hby own_dI_133) rfl  k) ?_
  refine X10.ldJ hx hZ e10 A_w (v := (.long (Int64.ofInt (A)))) 0 (by decide) rfl (hb hby own_dI_135) ?_
  refine own_gs 137 [(.int (8 : Int32)), (.long (Int64.ofInt (A))), (.int (0 : Int32)), (.ref b8)] (fun t' k => XS.iloadN X10.here hx rfl (hb hby own_dI_136) rfl  k) ?_
  refine own_gs 138 [(.long (8 : Int64)), (.long (Int64.ofInt (A))), (.int (0 : Int32)), (.ref b8)] (fun t' k => XS.i2l X10.here hx rfl (hb hby own_dI_137) rfl k) ?_
  refine own_gs 139 [(.long ((Int64.ofInt (A)) * (8 : Int64))), (.int (0 : Int32)), (.ref b8)] (fun t' k => XS.lmul X10.here hx rfl (hb hby own_dI_138) rfl k) ?_
  rw [own_omul (z := 8 * A) (show (Int64.ofInt (A)) = (Int64.ofInt (A)) from rfl) (show (8 : Int64) = Int64.ofInt (8) from rfl) (by omega)]
  refine own_gs 143 [(.long (Int64.ofInt (8 * A))), (.int (0 : Int32)), (.ref b8)] (fun t' k => XS.goto X10.here hx rfl (pc0 := 139) (pc' := 143) rfl (hb hby own_dI_139) (by decide) (by decide) k) ?_
  refine X10.stJ hx hZ e10 A_b8 g_b8 0 (by decide) (Nat.le_of_ble_eq_true rfl) (hb hby own_dI_143) ?_
  intro T11 h11 X11 e11 W11 A11
  replace A_b8 : own_A Z h11 .long b8 [(.long (Int64.ofInt (8 * A))), (.long (0 : Int64)), (.long (0 : Int64)), (.long (0 : Int64)), (.long (0 : Int64)), (.long (0 : Int64)), (.long (0 : Int64)), (.long (0 : Int64))] := A11
  clear A11
  replace E_t := E_t.wr W11
  replace A_w := A_w.other W11 (Nat.ne_of_lt lt_w_b8)
  replace F_shift := F_shift.other W11 (Or.inl (Nat.ne_of_lt lt_t_b8))
  replace F_total := F_total.other W11 (Or.inl (Nat.ne_of_lt lt_t_b8))
  replace F_packed := F_packed.other W11 (Or.inl (Nat.ne_of_lt lt_t_b8))
  replace F_thresholds := F_thresholds.other W11 (Or.inl (Nat.ne_of_lt lt_t_b8))
  replace F_aliases := F_aliases.other W11 (Or.inl (Nat.ne_of_lt lt_t_b8))
  replace A_b3 := A_b3.other W11 (Nat.ne_of_lt lt_b3_b8)
  replace A_b4 := A_b4.other W11 (Nat.ne_of_lt lt_b4_b8)
  replace A_b9 := A_b9.other W11 (Ne.symm (Nat.ne_of_lt lt_b8_b9))
  replace A_b10 := A_b10.other W11 (Ne.symm (Nat.ne_of_lt lt_b8_b10))
  replace hn := Nat.le_trans hn (Keep.of_wr W11).1
  clear W11 X10 e10
  refine own_gs 146 [(.ref b8)] (fun t' k => XS.aload X11.here hx rfl (hb hby own_dI_144) rfl rfl  k) ?_
  refine own_gs 148 [(.int (0 : Int32)), (.ref b8)] (fun t' k => XS.iload X11.here hx rfl (hb hby own_dI_146) rfl  k) ?_
  refine X11.ldJ hx hZ e11 A_b8 (v := (.long (Int64.ofInt (8 * A)))) 0 (by decide) rfl (hb hby own_dI_148) ?_
  refine own_gs 150 [(.ref t), (.long (Int64.ofInt (8 * A)))] (fun t' k => XS.aloadN X11.here hx rfl (hb hby own_dI_149) rfl rfl  k) ?_
  refine X11.getF hx hZ hown (hw _ (List.mem_of_getElem? (i := 19) rfl)) e11 F_total (hb hby own_dI_150) ?_
  intro T12 X12 e12
  refine own_gs 154 [(.int (lcmpW (Int64.ofInt (8 * A)) (Int64.ofInt (5 * A))))] (fun t' k => XS.lcmp X12.here hx rfl (hb hby own_dI_153) rfl k) ?_
  refine own_gs 170 [] (fun t' k => XS.ifYes X12.here hx rfl (pc0 := 154) (pc' := 170) rfl (hb hby own_dI_154) rfl ((if0 _ _).trans (flt (fun q => (own_onl (show (Int64.ofInt (8 * A)) = (Int64.ofInt (8 * A)) from rfl) (show (Int64.ofInt (5 * A)) = (Int64.ofInt (5 * A)) from rfl) (by omega) (by omega) (by omega)) ((lw_lt (Int64.ofInt (8 * A)) (Int64.ofInt (5 * A))).mp q))).2.1) (by decide) (by decide) k) ?_
  refine own_gs 172 [(.ref b10)] (fun t' k => XS.aload X12.here hx rfl (hb hby own_dI_170) rfl rfl  k) ?_
  refine own_gs 174 [(.int (0 : Int32)), (.ref b10)] (fun t' k => XS.iload X12.here hx rfl (hb hby own_dI_172) rfl  k) ?_
  refine own_go (mkF m 177 #[rv t, rv w, iv (8 : Int32), rv b3, rv b4, jv (Int64.ofInt (5 * A)), .second, rv b8, rv b9, rv b10, iv (0 : Int32), iv (1 : Int32), iv (0 : Int32), .unset] [(.int (0 : Int32)), (.ref b10)]) (fun t' k => XS.iinc X12.here hx rfl (hb hby own_dI_174) rfl rfl k) ?_
  refine own_gs 179 [(.int (0 : Int32)), (.int (0 : Int32)), (.ref b10)] (fun t' k => XS.iload X12.here hx rfl (hb hby own_dI_177) rfl  k) ?_
  refine X12.stI hx hZ e12 A_b10 g_b10 0 (by decide) (Nat.le_of_ble_eq_true rfl) (hb hby own_dI_179) ?_
  intro T13 h13 X13 e13 W13 A13
  replace A_b10 : own_A Z h13 .int b10 [(.int (0 : Int32)), (.int (0 : Int32)), (.int (0 : Int32)), (.int (0 : Int32)), (.int (0 : Int32)), (.int (0 : Int32)), (.int (0 : Int32)), (.int (0 : Int32))] := A13
  clear A13
  replace E_t := E_t.wr W13
  replace A_w := A_w.other W13 (Nat.ne_of_lt lt_w_b10)
  replace F_shift := F_shift.other W13 (Or.inl (Nat.ne_of_lt lt_t_b10))
  replace F_total := F_total.other W13 (Or.inl (Nat.ne_of_lt lt_t_b10))
  replace F_packed := F_packed.other W13 (Or.inl (Nat.ne_of_lt lt_t_b10))
  replace F_thresholds := F_thresholds.other W13 (Or.inl (Nat.ne_of_lt lt_t_b10))
  replace F_aliases := F_aliases.other W13 (Or.inl (Nat.ne_of_lt lt_t_b10))
  replace A_b3 := A_b3.other W13 (Nat.ne_of_lt lt_b3_b10)
  replace A_b4 := A_b4.other W13 (Nat.ne_of_lt lt_b4_b10)
  replace A_b8 := A_b8.other W13 (Nat.ne_of_lt lt_b8_b10)
  replace A_b9 := A_b9.other W13 (Nat.ne_of_lt lt_b9_b10)
  replace hn := Nat.le_trans hn (Keep.of_wr W13).1
  clear W13 X12 e12
  refine own_go (mkF m 183 #[rv t, rv w, iv (8 : Int32), rv b3, rv b4, jv (Int64.ofInt (5 * A)), .second, rv b8, rv b9, rv b10, iv (0 : Int32), iv (1 : Int32), iv (1 : Int32), .unset] []) (fun t' k => XS.iinc X13.here hx rfl (hb hby own_dI_180) rfl rfl k) ?_
  refine own_gs 115 [] (fun t' k => XS.goto X13.here hx rfl (pc0 := 183) (pc' := 115) rfl (hb hby own_dI_183) (by decide) (by decide) k) ?_
  refine own_gs 117 [(.int (1 : Int32))] (fun t' k => XS.iload X13.here hx rfl (hb hby own_dI_115) rfl  k) ?_
  refine own_gs 118 [(.int (8 : Int32)), (.int (1 : Int32))] (fun t' k => XS.iloadN X13.here hx rfl (hb hby own_dI_117) rfl  k) ?_
  refine own_gs 121 [] (fun t' k => XS.icmpNo X13.here hx rfl (hb hby own_dI_118) rfl (tlt (by decide)).2.1 k) ?_
  refine own_gs 123 [(.ref b8)] (fun t' k => XS.aload X13.here hx rfl (hb hby own_dI_121) rfl rfl  k) ?_
  refine own_gs 125 [(.int (1 : Int32)), (.ref b8)] (fun t' k => XS.iload X13.here hx rfl (hb hby own_dI_123) rfl  k) ?_
  refine own_gs 127 [(.int (1 : Int32)), (.int (1 : Int32)), (.ref b8)] (fun t' k => XS.iload X13.here hx rfl (hb hby own_dI_125) rfl  k) ?_
  refine own_gs 128 [(.ref w), (.int (1 : Int32)), (.int (1 : Int32)), (.ref b8)] (fun t' k => XS.aloadN X13.here hx rfl (hb hby own_dI_127) rfl rfl  k) ?_
  refine X13.alen hx hZ e13 A_w (hb hby own_dI_128) ?_
  show own_G p e below s _ _ _ T13 (mkF m 129 #[rv t, rv w, iv (8 : Int32), rv b3, rv b4, jv (Int64.ofInt (5 * A)), .second, rv b8, rv b9, rv b10, iv (0 : Int32), iv (1 : Int32), iv (1 : Int32), .unset] [(.int (5 : Int32)), (.int (1 : Int32)), (.int (1 : Int32)), (.ref b8)])
  refine own_gs 132 [(.int (1 : Int32)), (.ref b8)] (fun t' k => XS.icmpNo X13.here hx rfl (hb hby own_dI_129) rfl (tlt (by decide)).2.1 k) ?_
  refine own_gs 133 [(.ref w), (.int (1 : Int32)), (.ref b8)] (fun t' k => XS.aloadN X13.here hx rfl (hb hby own_dI_132) rfl rfl  k) ?_
  refine own_gs 135 [(.int (1 : Int32)), (.ref w), (.int (1 : Int32)), (.ref b8)] (fun t' k => XS.iload X13.here hx rfl (hb hby own_dI_133) rfl  k) ?_
  refine X13.ldJ hx hZ e13 A_w (v := (.long (Int64.ofInt (A)))) 1 (by decide) rfl (hb hby own_dI_135) ?_
  refine own_gs 137 [(.int (8 : Int32)), (.long (Int64.ofInt (A))), (.int (1 : Int32)), (.ref b8)] (fun t' k => XS.iloadN X13.here hx rfl (hb hby own_dI_136) rfl  k) ?_
  refine own_gs 138 [(.long (8 : Int64)), (.long (Int64.ofInt (A))), (.int (1 : Int32)), (.ref b8)] (fun t' k => XS.i2l X13.here hx rfl (hb hby own_dI_137) rfl k) ?_
  refine own_gs 139 [(.long ((Int64.ofInt (A)) * (8 : Int64))), (.int (1 : Int32)), (.ref b8)] (fun t' k => XS.lmul X13.here hx rfl (hb hby own_dI_138) rfl k) ?_
  rw [own_omul (z := 8 * A) (show (Int64.ofInt (A)) = (Int64.ofInt (A)) from rfl) (show (8 : Int64) = Int64.ofInt (8) from rfl) (by omega)]
  refine own_gs 143 [(.long (Int64.ofInt (8 * A))), (.int (1 : Int32)), (.ref b8)] (fun t' k => XS.goto X13.here hx rfl (pc0 := 139) (pc' := 143) rfl (hb hby own_dI_139) (by decide) (by decide) k) ?_
  refine X13.stJ hx hZ e13 A_b8 g_b8 1 (by decide) (Nat.le_of_ble_eq_true rfl) (hb hby own_dI_143) ?_
  intro T14 h14 X14 e14 W14 A14
  replace A_b8 : own_A Z h14 .long b8 [(.long (Int64.ofInt (8 * A))), (.long (Int64.ofInt (8 * A))), (.long (0 : Int64)), (.long (0 : Int64)), (.long (0 : Int64)), (.long (0 : Int64)), (.long (0 : Int64)), (.long (0 : Int64))] := A14
  clear A14
  replace E_t := E_t.wr W14
  replace A_w := A_w.other W14 (Nat.ne_of_lt lt_w_b8)
  replace F_shift := F_shift.other W14 (Or.inl (Nat.ne_of_lt lt_t_b8))
  replace F_total := F_total.other W14 (Or.inl (Nat.ne_of_lt lt_t_b8))
  replace F_packed := F_packed.other W14 (Or.inl (Nat.ne_of_lt lt_t_b8))
  replace F_thresholds := F_thresholds.other W14 (Or.inl (Nat.ne_of_lt lt_t_b8))
  replace F_aliases := F_aliases.other W14 (Or.inl (Nat.ne_of_lt lt_t_b8))
  replace A_b3 := A_b3.other W14 (Nat.ne_of_lt lt_b3_b8)
  replace A_b4 := A_b4.other W14 (Nat.ne_of_lt lt_b4_b8)
  replace A_b9 := A_b9.other W14 (Ne.symm (Nat.ne_of_lt lt_b8_b9))
  replace A_b10 := A_b10.other W14 (Ne.symm (Nat.ne_of_lt lt_b8_b10))
  replace hn := Nat.le_trans hn (Keep.of_wr W14).1
  clear W14 X13 e13
  refine own_gs 146 [(.ref b8)] (fun t' k => XS.aload X14.here hx rfl (hb hby own_dI_144) rfl rfl  k) ?_
  refine own_gs 148 [(.int (1 : Int32)), (.ref b8)] (fun t' k => XS.iload X14.here hx rfl (hb hby own_dI_146) rfl  k) ?_
  refine X14.ldJ hx hZ e14 A_b8 (v := (.long (Int64.ofInt (8 * A)))) 1 (by decide) rfl (hb hby own_dI_148) ?_
  refine own_gs 150 [(.ref t), (.long (Int64.ofInt (8 * A)))] (fun t' k => XS.aloadN X14.here hx rfl (hb hby own_dI_149) rfl rfl  k) ?_
  refine X14.getF hx hZ hown (hw _ (List.mem_of_getElem? (i := 19) rfl)) e14 F_total (hb hby own_dI_150) ?_
  intro T15 X15 e15
  refine own_gs 154 [(.int (lcmpW (Int64.ofInt (8 * A)) (Int64.ofInt (5 * A))))] (fun t' k => XS.lcmp X15.here hx rfl (hb hby own_dI_153) rfl k) ?_
  refine own_gs 170 [] (fun t' k => XS.ifYes X15.here hx rfl (pc0 := 154) (pc' := 170) rfl (hb hby own_dI_154) rfl ((if0 _ _).trans (flt (fun q => (own_onl (show (Int64.ofInt (8 * A)) = (Int64.ofInt (8 * A)) from rfl) (show (Int64.ofInt (5 * A)) = (Int64.ofInt (5 * A)) from rfl) (by omega) (by omega) (by omega)) ((lw_lt (Int64.ofInt (8 * A)) (Int64.ofInt (5 * A))).mp q))).2.1) (by decide) (by decide) k) ?_
  refine own_gs 172 [(.ref b10)] (fun t' k => XS.aload X15.here hx rfl (hb hby own_dI_170) rfl rfl  k) ?_
  refine own_gs 174 [(.int (1 : Int32)), (.ref b10)] (fun t' k => XS.iload X15.here hx rfl (hb hby own_dI_172) rfl  k) ?_
  refine own_go (mkF m 177 #[rv t, rv w, iv (8 : Int32), rv b3, rv b4, jv (Int64.ofInt (5 * A)), .second, rv b8, rv b9, rv b10, iv (0 : Int32), iv (2 : Int32), iv (1 : Int32), .unset] [(.int (1 : Int32)), (.ref b10)]) (fun t' k => XS.iinc X15.here hx rfl (hb hby own_dI_174) rfl rfl k) ?_
  refine own_gs 179 [(.int (1 : Int32)), (.int (1 : Int32)), (.ref b10)] (fun t' k => XS.iload X15.here hx rfl (hb hby own_dI_177) rfl  k) ?_
  refine X15.stI hx hZ e15 A_b10 g_b10 1 (by decide) (Nat.le_of_ble_eq_true rfl) (hb hby own_dI_179) ?_
  intro T16 h16 X16 e16 W16 A16
  replace A_b10 : own_A Z h16 .int b10 [(.int (0 : Int32)), (.int (1 : Int32)), (.int (0 : Int32)), (.int (0 : Int32)), (.int (0 : Int32)), (.int (0 : Int32)), (.int (0 : Int32)), (.int (0 : Int32))] := A16
  clear A16
  replace E_t := E_t.wr W16
  replace A_w := A_w.other W16 (Nat.ne_of_lt lt_w_b10)
  replace F_shift := F_shift.other W16 (Or.inl (Nat.ne_of_lt lt_t_b10))
  replace F_total := F_total.other W16 (Or.inl (Nat.ne_of_lt lt_t_b10))
  replace F_packed := F_packed.other W16 (Or.inl (Nat.ne_of_lt lt_t_b10))
  replace F_thresholds := F_thresholds.other W16 (Or.inl (Nat.ne_of_lt lt_t_b10))
  replace F_aliases := F_aliases.other W16 (Or.inl (Nat.ne_of_lt lt_t_b10))
  replace A_b3 := A_b3.other W16 (Nat.ne_of_lt lt_b3_b10)
  replace A_b4 := A_b4.other W16 (Nat.ne_of_lt lt_b4_b10)
  replace A_b8 := A_b8.other W16 (Nat.ne_of_lt lt_b8_b10)
  replace A_b9 := A_b9.other W16 (Nat.ne_of_lt lt_b9_b10)
  replace hn := Nat.le_trans hn (Keep.of_wr W16).1
  clear W16 X15 e15
  refine own_go (mkF m 183 #[rv t, rv w, iv (8 : Int32), rv b3, rv b4, jv (Int64.ofInt (5 * A)), .second, rv b8, rv b9, rv b10, iv (0 : Int32), iv (2 : Int32), iv (2 : Int32), .unset] []) (fun t' k => XS.iinc X16.here hx rfl (hb hby own_dI_180) rfl rfl k) ?_
  refine own_gs 115 [] (fun t' k => XS.goto X16.here hx rfl (pc0 := 183) (pc' := 115) rfl (hb hby own_dI_183) (by decide) (by decide) k) ?_
  refine own_gs 117 [(.int (2 : Int32))] (fun t' k => XS.iload X16.here hx rfl (hb hby own_dI_115) rfl  k) ?_
  refine own_gs 118 [(.int (8 : Int32)), (.int (2 : Int32))] (fun t' k => XS.iloadN X16.here hx rfl (hb hby own_dI_117) rfl  k) ?_
  refine own_gs 121 [] (fun t' k => XS.icmpNo X16.here hx rfl (hb hby own_dI_118) rfl (tlt (by decide)).2.1 k) ?_
  refine own_gs 123 [(.ref b8)] (fun t' k => XS.aload X16.here hx rfl (hb hby own_dI_121) rfl rfl  k) ?_
  refine own_gs 125 [(.int (2 : Int32)), (.ref b8)] (fun t' k => XS.iload X16.here hx rfl (hb hby own_dI_123) rfl  k) ?_
  refine own_gs 127 [(.int (2 : Int32)), (.int (2 : Int32)), (.ref b8)] (fun t' k => XS.iload X16.here hx rfl (hb hby own_dI_125) rfl  k) ?_
  refine own_gs 128 [(.ref w), (.int (2 : Int32)), (.int (2 : Int32)), (.ref b8)] (fun t' k => XS.aloadN X16.here hx rfl (hb hby own_dI_127) rfl rfl  k) ?_
  refine X16.alen hx hZ e16 A_w (hb hby own_dI_128) ?_
  show own_G p e below s _ _ _ T16 (mkF m 129 #[rv t, rv w, iv (8 : Int32), rv b3, rv b4, jv (Int64.ofInt (5 * A)), .second, rv b8, rv b9, rv b10, iv (0 : Int32), iv (2 : Int32), iv (2 : Int32), .unset] [(.int (5 : Int32)), (.int (2 : Int32)), (.int (2 : Int32)), (.ref b8)])
  refine own_gs 132 [(.int (2 : Int32)), (.ref b8)] (fun t' k => XS.icmpNo X16.here hx rfl (hb hby own_dI_129) rfl (tlt (by decide)).2.1 k) ?_
  refine own_gs 133 [(.ref w), (.int (2 : Int32)), (.ref b8)] (fun t' k => XS.aloadN X16.here hx rfl (hb hby own_dI_132) rfl rfl  k) ?_
  refine own_gs 135 [(.int (2 : Int32)), (.ref w), (.int (2 : Int32)), (.ref b8)] (fun t' k => XS.iload X16.here hx rfl (hb hby own_dI_133) rfl  k) ?_
  refine X16.ldJ hx hZ e16 A_w (v := (.long (Int64.ofInt (A)))) 2 (by decide) rfl (hb hby own_dI_135) ?_
  refine own_gs 137 [(.int (8 : Int32)), (.long (Int64.ofInt (A))), (.int (2 : Int32)), (.ref b8)] (fun t' k => XS.iloadN X16.here hx rfl (hb hby own_dI_136) rfl  k) ?_
  refine own_gs 138 [(.long (8 : Int64)), (.long (Int64.ofInt (A))), (.int (2 : Int32)), (.ref b8)] (fun t' k => XS.i2l X16.here hx rfl (hb hby own_dI_137) rfl k) ?_
  refine own_gs 139 [(.long ((Int64.ofInt (A)) * (8 : Int64))), (.int (2 : Int32)), (.ref b8)] (fun t' k => XS.lmul X16.here hx rfl (hb hby own_dI_138) rfl k) ?_
  rw [own_omul (z := 8 * A) (show (Int64.ofInt (A)) = (Int64.ofInt (A)) from rfl) (show (8 : Int64) = Int64.ofInt (8) from rfl) (by omega)]
  refine own_gs 143 [(.long (Int64.ofInt (8 * A))), (.int (2 : Int32)), (.ref b8)] (fun t' k => XS.goto X16.here hx rfl (pc0 := 139) (pc' := 143) rfl (hb hby own_dI_139) (by decide) (by decide) k) ?_
  refine X16.stJ hx hZ e16 A_b8 g_b8 2 (by decide) (Nat.le_of_ble_eq_true rfl) (hb hby own_dI_143) ?_
  intro T17 h17 X17 e17 W17 A17
  replace A_b8 : own_A Z h17 .long b8 [(.long (Int64.ofInt (8 * A))), (.long (Int64.ofInt (8 * A))), (.long (Int64.ofInt (8 * A))), (.long (0 : Int64)), (.long (0 : Int64)), (.long (0 : Int64)), (.long (0 : Int64)), (.long (0 : Int64))] := A17
  clear A17
  replace E_t := E_t.wr W17
  replace A_w := A_w.other W17 (Nat.ne_of_lt lt_w_b8)
  replace F_shift := F_shift.other W17 (Or.inl (Nat.ne_of_lt lt_t_b8))
  replace F_total := F_total.other W17 (Or.inl (Nat.ne_of_lt lt_t_b8))
  replace F_packed := F_packed.other W17 (Or.inl (Nat.ne_of_lt lt_t_b8))
  replace F_thresholds := F_thresholds.other W17 (Or.inl (Nat.ne_of_lt lt_t_b8))
  replace F_aliases := F_aliases.other W17 (Or.inl (Nat.ne_of_lt lt_t_b8))
  replace A_b3 := A_b3.other W17 (Nat.ne_of_lt lt_b3_b8)
  replace A_b4 := A_b4.other W17 (Nat.ne_of_lt lt_b4_b8)
  replace A_b9 := A_b9.other W17 (Ne.symm (Nat.ne_of_lt lt_b8_b9))
  replace A_b10 := A_b10.other W17 (Ne.symm (Nat.ne_of_lt lt_b8_b10))
  replace hn := Nat.le_trans hn (Keep.of_wr W17).1
  clear W17 X16 e16
  refine own_gs 146 [(.ref b8)] (fun t' k => XS.aload X17.here hx rfl (hb hby own_dI_144) rfl rfl  k) ?_
  refine own_gs 148 [(.int (2 : Int32)), (.ref b8)] (fun t' k => XS.iload X17.here hx rfl (hb hby own_dI_146) rfl  k) ?_
  refine X17.ldJ hx hZ e17 A_b8 (v := (.long (Int64.ofInt (8 * A)))) 2 (by decide) rfl (hb hby own_dI_148) ?_
  refine own_gs 150 [(.ref t), (.long (Int64.ofInt (8 * A)))] (fun t' k => XS.aloadN X17.here hx rfl (hb hby own_dI_149) rfl rfl  k) ?_
  refine X17.getF hx hZ hown (hw _ (List.mem_of_getElem? (i := 19) rfl)) e17 F_total (hb hby own_dI_150) ?_
  intro T18 X18 e18
  refine own_gs 154 [(.int (lcmpW (Int64.ofInt (8 * A)) (Int64.ofInt (5 * A))))] (fun t' k => XS.lcmp X18.here hx rfl (hb hby own_dI_153) rfl k) ?_
  refine own_gs 170 [] (fun t' k => XS.ifYes X18.here hx rfl (pc0 := 154) (pc' := 170) rfl (hb hby own_dI_154) rfl ((if0 _ _).trans (flt (fun q => (own_onl (show (Int64.ofInt (8 * A)) = (Int64.ofInt (8 * A)) from rfl) (show (Int64.ofInt (5 * A)) = (Int64.ofInt (5 * A)) from rfl) (by omega) (by omega) (by omega)) ((lw_lt (Int64.ofInt (8 * A)) (Int64.ofInt (5 * A))).mp q))).2.1) (by decide) (by decide) k) ?_
  refine own_gs 172 [(.ref b10)] (fun t' k => XS.aload X18.here hx rfl (hb hby own_dI_170) rfl rfl  k) ?_
  refine own_gs 174 [(.int (2 : Int32)), (.ref b10)] (fun t' k => XS.iload X18.here hx rfl (hb hby own_dI_172) rfl  k) ?_
  refine own_go (mkF m 177 #[rv t, rv w, iv (8 : Int32), rv b3, rv b4, jv (Int64.ofInt (5 * A)), .second, rv b8, rv b9, rv b10, iv (0 : Int32), iv (3 : Int32), iv (2 : Int32), .unset] [(.int (2 : Int32)), (.ref b10)]) (fun t' k => XS.iinc X18.here hx rfl (hb hby own_dI_174) rfl rfl k) ?_
  refine own_gs 179 [(.int (2 : Int32)), (.int (2 : Int32)), (.ref b10)] (fun t' k => XS.iload X18.here hx rfl (hb hby own_dI_177) rfl  k) ?_
  refine X18.stI hx hZ e18 A_b10 g_b10 2 (by decide) (Nat.le_of_ble_eq_true rfl) (hb hby own_dI_179) ?_
  intro T19 h19 X19 e19 W19 A19
  replace A_b10 : own_A Z h19 .int b10 [(.int (0 : Int32)), (.int (1 : Int32)), (.int (2 : Int32)), (.int (0 : Int32)), (.int (0 : Int32)), (.int (0 : Int32)), (.int (0 : Int32)), (.int (0 : Int32))] := A19
  clear A19
  replace E_t := E_t.wr W19
  replace A_w := A_w.other W19 (Nat.ne_of_lt lt_w_b10)
  replace F_shift := F_shift.other W19 (Or.inl (Nat.ne_of_lt lt_t_b10))
  replace F_total := F_total.other W19 (Or.inl (Nat.ne_of_lt lt_t_b10))
  replace F_packed := F_packed.other W19 (Or.inl (Nat.ne_of_lt lt_t_b10))
  replace F_thresholds := F_thresholds.other W19 (Or.inl (Nat.ne_of_lt lt_t_b10))
  replace F_aliases := F_aliases.other W19 (Or.inl (Nat.ne_of_lt lt_t_b10))
  replace A_b3 := A_b3.other W19 (Nat.ne_of_lt lt_b3_b10)
  replace A_b4 := A_b4.other W19 (Nat.ne_of_lt lt_b4_b10)
  replace A_b8 := A_b8.other W19 (Nat.ne_of_lt lt_b8_b10)
  replace A_b9 := A_b9.other W19 (Nat.ne_of_lt lt_b9_b10)
  replace hn := Nat.le_trans hn (Keep.of_wr W19).1
  clear W19 X18 e18
  refine own_go (mkF m 183 #[rv t, rv w, iv (8 : Int32), rv b3, rv b4, jv (Int64.ofInt (5 * A)), .second, rv b8, rv b9, rv b10, iv (0 : Int32), iv (3 : Int32), iv (3 : Int32), .unset] []) (fun t' k => XS.iinc X19.here hx rfl (hb hby own_dI_180) rfl rfl k) ?_
  refine own_gs 115 [] (fun t' k => XS.goto X19.here hx rfl (pc0 := 183) (pc' := 115) rfl (hb hby own_dI_183) (by decide) (by decide) k) ?_
  refine own_gs 117 [(.int (3 : Int32))] (fun t' k => XS.iload X19.here hx rfl (hb hby own_dI_115) rfl  k) ?_
  refine own_gs 118 [(.int (8 : Int32)), (.int (3 : Int32))] (fun t' k => XS.iloadN X19.here hx rfl (hb hby own_dI_117) rfl  k) ?_
  refine own_gs 121 [] (fun t' k => XS.icmpNo X19.here hx rfl (hb hby own_dI_118) rfl (tlt (by decide)).2.1 k) ?_
  refine own_gs 123 [(.ref b8)] (fun t' k => XS.aload X19.here hx rfl (hb hby own_dI_121) rfl rfl  k) ?_
  refine own_gs 125 [(.int (3 : Int32)), (.ref b8)] (fun t' k => XS.iload X19.here hx rfl (hb hby own_dI_123) rfl  k) ?_
  refine own_gs 127 [(.int (3 : Int32)), (.int (3 : Int32)), (.ref b8)] (fun t' k => XS.iload X19.here hx rfl (hb hby own_dI_125) rfl  k) ?_
  refine own_gs 128 [(.ref w), (.int (3 : Int32)), (.int (3 : Int32)), (.ref b8)] (fun t' k => XS.aloadN X19.here hx rfl (hb hby own_dI_127) rfl rfl  k) ?_
  refine X19.alen hx hZ e19 A_w (hb hby own_dI_128) ?_
  show own_G p e below s _ _ _ T19 (mkF m 129 #[rv t, rv w, iv (8 : Int32), rv b3, rv b4, jv (Int64.ofInt (5 * A)), .second, rv b8, rv b9, rv b10, iv (0 : Int32), iv (3 : Int32), iv (3 : Int32), .unset] [(.int (5 : Int32)), (.int (3 : Int32)), (.int (3 : Int32)), (.ref b8)])
  refine own_gs 132 [(.int (3 : Int32)), (.ref b8)] (fun t' k => XS.icmpNo X19.here hx rfl (hb hby own_dI_129) rfl (tlt (by decide)).2.1 k) ?_
  refine own_gs 133 [(.ref w), (.int (3 : Int32)), (.ref b8)] (fun t' k => XS.aloadN X19.here hx rfl (hb hby own_dI_132) rfl rfl  k) ?_
  refine own_gs 135 [(.int (3 : Int32)), (.ref w), (.int (3 : Int32)), (.ref b8)] (fun t' k => XS.iload X19.here hx rfl (hb hby own_dI_133) rfl  k) ?_
  refine X19.ldJ hx hZ e19 A_w (v := (.long (Int64.ofInt (A)))) 3 (by decide) rfl (hb hby own_dI_135) ?_
  refine own_gs 137 [(.int (8 : Int32)), (.long (Int64.ofInt (A))), (.int (3 : Int32)), (.ref b8)] (fun t' k => XS.iloadN X19.here hx rfl (hb hby own_dI_136) rfl  k) ?_
  refine own_gs 138 [(.long (8 : Int64)), (.long (Int64.ofInt (A))), (.int (3 : Int32)), (.ref b8)] (fun t' k => XS.i2l X19.here hx rfl (hb hby own_dI_137) rfl k) ?_
  refine own_gs 139 [(.long ((Int64.ofInt (A)) * (8 : Int64))), (.int (3 : Int32)), (.ref b8)] (fun t' k => XS.lmul X19.here hx rfl (hb hby own_dI_138) rfl k) ?_
  rw [own_omul (z := 8 * A) (show (Int64.ofInt (A)) = (Int64.ofInt (A)) from rfl) (show (8 : Int64) = Int64.ofInt (8) from rfl) (by omega)]
  refine own_gs 143 [(.long (Int64.ofInt (8 * A))), (.int (3 : Int32)), (.ref b8)] (fun t' k => XS.goto X19.here hx rfl (pc0 := 139) (pc' := 143) rfl (hb hby own_dI_139) (by decide) (by decide) k) ?_
  refine X19.stJ hx hZ e19 A_b8 g_b8 3 (by decide) (Nat.le_of_ble_eq_true rfl) (hb hby own_dI_143) ?_
  intro T20 h20 X20 e20 W20 A20
  replace A_b8 : own_A Z h20 .long b8 [(.long (Int64.ofInt (8 * A))), (.long (Int64.ofInt (8 * A))), (.long (Int64.ofInt (8 * A))), (.long (Int64.ofInt (8 * A))), (.long (0 : Int64)), (.long (0 : Int64)), (.long (0 : Int64)), (.long (0 : Int64))] := A20
  clear A20
  replace E_t := E_t.wr W20
  replace A_w := A_w.other W20 (Nat.ne_of_lt lt_w_b8)
  replace F_shift := F_shift.other W20 (Or.inl (Nat.ne_of_lt lt_t_b8))
  replace F_total := F_total.other W20 (Or.inl (Nat.ne_of_lt lt_t_b8))
  replace F_packed := F_packed.other W20 (Or.inl (Nat.ne_of_lt lt_t_b8))
  replace F_thresholds := F_thresholds.other W20 (Or.inl (Nat.ne_of_lt lt_t_b8))
  replace F_aliases := F_aliases.other W20 (Or.inl (Nat.ne_of_lt lt_t_b8))
  replace A_b3 := A_b3.other W20 (Nat.ne_of_lt lt_b3_b8)
  replace A_b4 := A_b4.other W20 (Nat.ne_of_lt lt_b4_b8)
  replace A_b9 := A_b9.other W20 (Ne.symm (Nat.ne_of_lt lt_b8_b9))
  replace A_b10 := A_b10.other W20 (Ne.symm (Nat.ne_of_lt lt_b8_b10))
  replace hn := Nat.le_trans hn (Keep.of_wr W20).1
  clear W20 X19 e19
  refine own_gs 146 [(.ref b8)] (fun t' k => XS.aload X20.here hx rfl (hb hby own_dI_144) rfl rfl  k) ?_
  refine own_gs 148 [(.int (3 : Int32)), (.ref b8)] (fun t' k => XS.iload X20.here hx rfl (hb hby own_dI_146) rfl  k) ?_
  refine X20.ldJ hx hZ e20 A_b8 (v := (.long (Int64.ofInt (8 * A)))) 3 (by decide) rfl (hb hby own_dI_148) ?_
  refine own_gs 150 [(.ref t), (.long (Int64.ofInt (8 * A)))] (fun t' k => XS.aloadN X20.here hx rfl (hb hby own_dI_149) rfl rfl  k) ?_
  refine X20.getF hx hZ hown (hw _ (List.mem_of_getElem? (i := 19) rfl)) e20 F_total (hb hby own_dI_150) ?_
  intro T21 X21 e21
  refine own_gs 154 [(.int (lcmpW (Int64.ofInt (8 * A)) (Int64.ofInt (5 * A))))] (fun t' k => XS.lcmp X21.here hx rfl (hb hby own_dI_153) rfl k) ?_
  refine own_gs 170 [] (fun t' k => XS.ifYes X21.here hx rfl (pc0 := 154) (pc' := 170) rfl (hb hby own_dI_154) rfl ((if0 _ _).trans (flt (fun q => (own_onl (show (Int64.ofInt (8 * A)) = (Int64.ofInt (8 * A)) from rfl) (show (Int64.ofInt (5 * A)) = (Int64.ofInt (5 * A)) from rfl) (by omega) (by omega) (by omega)) ((lw_lt (Int64.ofInt (8 * A)) (Int64.ofInt (5 * A))).mp q))).2.1) (by decide) (by decide) k) ?_
  refine own_gs 172 [(.ref b10)] (fun t' k => XS.aload X21.here hx rfl (hb hby own_dI_170) rfl rfl  k) ?_
  refine own_gs 174 [(.int (3 : Int32)), (.ref b10)] (fun t' k => XS.iload X21.here hx rfl (hb hby own_dI_172) rfl  k) ?_
  refine own_go (mkF m 177 #[rv t, rv w, iv (8 : Int32), rv b3, rv b4, jv (Int64.ofInt (5 * A)), .second, rv b8, rv b9, rv b10, iv (0 : Int32), iv (4 : Int32), iv (3 : Int32), .unset] [(.int (3 : Int32)), (.ref b10)]) (fun t' k => XS.iinc X21.here hx rfl (hb hby own_dI_174) rfl rfl k) ?_
  refine own_gs 179 [(.int (3 : Int32)), (.int (3 : Int32)), (.ref b10)] (fun t' k => XS.iload X21.here hx rfl (hb hby own_dI_177) rfl  k) ?_
  refine X21.stI hx hZ e21 A_b10 g_b10 3 (by decide) (Nat.le_of_ble_eq_true rfl) (hb hby own_dI_179) ?_
  intro T22 h22 X22 e22 W22 A22
  replace A_b10 : own_A Z h22 .int b10 [(.int (0 : Int32)), (.int (1 : Int32)), (.int (2 : Int32)), (.int (3 : Int32)), (.int (0 : Int32)), (.int (0 : Int32)), (.int (0 : Int32)), (.int (0 : Int32))] := A22
  clear A22
  replace E_t := E_t.wr W22
  replace A_w := A_w.other W22 (Nat.ne_of_lt lt_w_b10)
  replace F_shift := F_shift.other W22 (Or.inl (Nat.ne_of_lt lt_t_b10))
  replace F_total := F_total.other W22 (Or.inl (Nat.ne_of_lt lt_t_b10))
  replace F_packed := F_packed.other W22 (Or.inl (Nat.ne_of_lt lt_t_b10))
  replace F_thresholds := F_thresholds.other W22 (Or.inl (Nat.ne_of_lt lt_t_b10))
  replace F_aliases := F_aliases.other W22 (Or.inl (Nat.ne_of_lt lt_t_b10))
  replace A_b3 := A_b3.other W22 (Nat.ne_of_lt lt_b3_b10)
  replace A_b4 := A_b4.other W22 (Nat.ne_of_lt lt_b4_b10)
  replace A_b8 := A_b8.other W22 (Nat.ne_of_lt lt_b8_b10)
  replace A_b9 := A_b9.other W22 (Nat.ne_of_lt lt_b9_b10)
  replace hn := Nat.le_trans hn (Keep.of_wr W22).1
  clear W22 X21 e21
  refine own_go (mkF m 183 #[rv t, rv w, iv (8 : Int32), rv b3, rv b4, jv (Int64.ofInt (5 * A)), .second, rv b8, rv b9, rv b10, iv (0 : Int32), iv (4 : Int32), iv (4 : Int32), .unset] []) (fun t' k => XS.iinc X22.here hx rfl (hb hby own_dI_180) rfl rfl k) ?_
  refine own_gs 115 [] (fun t' k => XS.goto X22.here hx rfl (pc0 := 183) (pc' := 115) rfl (hb hby own_dI_183) (by decide) (by decide) k) ?_
  refine own_gs 117 [(.int (4 : Int32))] (fun t' k => XS.iload X22.here hx rfl (hb hby own_dI_115) rfl  k) ?_
  refine own_gs 118 [(.int (8 : Int32)), (.int (4 : Int32))] (fun t' k => XS.iloadN X22.here hx rfl (hb hby own_dI_117) rfl  k) ?_
  refine own_gs 121 [] (fun t' k => XS.icmpNo X22.here hx rfl (hb hby own_dI_118) rfl (tlt (by decide)).2.1 k) ?_
  refine own_gs 123 [(.ref b8)] (fun t' k => XS.aload X22.here hx rfl (hb hby own_dI_121) rfl rfl  k) ?_
  refine own_gs 125 [(.int (4 : Int32)), (.ref b8)] (fun t' k => XS.iload X22.here hx rfl (hb hby own_dI_123) rfl  k) ?_
  refine own_gs 127 [(.int (4 : Int32)), (.int (4 : Int32)), (.ref b8)] (fun t' k => XS.iload X22.here hx rfl (hb hby own_dI_125) rfl  k) ?_
  refine own_gs 128 [(.ref w), (.int (4 : Int32)), (.int (4 : Int32)), (.ref b8)] (fun t' k => XS.aloadN X22.here hx rfl (hb hby own_dI_127) rfl rfl  k) ?_
  refine X22.alen hx hZ e22 A_w (hb hby own_dI_128) ?_
  show own_G p e below s _ _ _ T22 (mkF m 129 #[rv t, rv w, iv (8 : Int32), rv b3, rv b4, jv (Int64.ofInt (5 * A)), .second, rv b8, rv b9, rv b10, iv (0 : Int32), iv (4 : Int32), iv (4 : Int32), .unset] [(.int (5 : Int32)), (.int (4 : Int32)), (.int (4 : Int32)), (.ref b8)])
  refine own_gs 132 [(.int (4 : Int32)), (.ref b8)] (fun t' k => XS.icmpNo X22.here hx rfl (hb hby own_dI_129) rfl (tlt (by decide)).2.1 k) ?_
  refine own_gs 133 [(.ref w), (.int (4 : Int32)), (.ref b8)] (fun t' k => XS.aloadN X22.here hx rfl (hb hby own_dI_132) rfl rfl  k) ?_
  refine own_gs 135 [(.int (4 : Int32)), (.ref w), (.int (4 : Int32)), (.ref b8)] (fun t' k => XS.iload X22.here hx rfl (hb hby own_dI_133) rfl  k) ?_
  refine X22.ldJ hx hZ e22 A_w (v := (.long (Int64.ofInt (A)))) 4 (by decide) rfl (hb hby own_dI_135) ?_
  refine own_gs 137 [(.int (8 : Int32)), (.long (Int64.ofInt (A))), (.int (4 : Int32)), (.ref b8)] (fun t' k => XS.iloadN X22.here hx rfl (hb hby own_dI_136) rfl  k) ?_
  refine own_gs 138 [(.long (8 : Int64)), (.long (Int64.ofInt (A))), (.int (4 : Int32)), (.ref b8)] (fun t' k => XS.i2l X22.here hx rfl (hb hby own_dI_137) rfl k) ?_
  refine own_gs 139 [(.long ((Int64.ofInt (A)) * (8 : Int64))), (.int (4 : Int32)), (.ref b8)] (fun t' k => XS.lmul X22.here hx rfl (hb hby own_dI_138) rfl k) ?_
  rw [own_omul (z := 8 * A) (show (Int64.ofInt (A)) = (Int64.ofInt (A)) from rfl) (show (8 : Int64) = Int64.ofInt (8) from rfl) (by omega)]
  refine own_gs 143 [(.long (Int64.ofInt (8 * A))), (.int (4 : Int32)), (.ref b8)] (fun t' k => XS.goto X22.here hx rfl (pc0 := 139) (pc' := 143) rfl (hb hby own_dI_139) (by decide) (by decide) k) ?_
  refine X22.stJ hx hZ e22 A_b8 g_b8 4 (by decide) (Nat.le_of_ble_eq_true rfl) (hb hby own_dI_143) ?_
  intro T23 h23 X23 e23 W23 A23
  replace A_b8 : own_A Z h23 .long b8 [(.long (Int64.ofInt (8 * A))), (.long (Int64.ofInt (8 * A))), (.long (Int64.ofInt (8 * A))), (.long (Int64.ofInt (8 * A))), (.long (Int64.ofInt (8 * A))), (.long (0 : Int64)), (.long (0 : Int64)), (.long (0 : Int64))] := A23
  clear A23
  replace E_t := E_t.wr W23
  replace A_w := A_w.other W23 (Nat.ne_of_lt lt_w_b8)
  replace F_shift := F_shift.other W23 (Or.inl (Nat.ne_of_lt lt_t_b8))
  replace F_total := F_total.other W23 (Or.inl (Nat.ne_of_lt lt_t_b8))
  replace F_packed := F_packed.other W23 (Or.inl (Nat.ne_of_lt lt_t_b8))
  replace F_thresholds := F_thresholds.other W23 (Or.inl (Nat.ne_of_lt lt_t_b8))
  replace F_aliases := F_aliases.other W23 (Or.inl (Nat.ne_of_lt lt_t_b8))
  replace A_b3 := A_b3.other W23 (Nat.ne_of_lt lt_b3_b8)
  replace A_b4 := A_b4.other W23 (Nat.ne_of_lt lt_b4_b8)
  replace A_b9 := A_b9.other W23 (Ne.symm (Nat.ne_of_lt lt_b8_b9))
  replace A_b10 := A_b10.other W23 (Ne.symm (Nat.ne_of_lt lt_b8_b10))
  replace hn := Nat.le_trans hn (Keep.of_wr W23).1
  clear W23 X22 e22
  refine own_gs 146 [(.ref b8)] (fun t' k => XS.aload X23.here hx rfl (hb hby own_dI_144) rfl rfl  k) ?_
  refine own_gs 148 [(.int (4 : Int32)), (.ref b8)] (fun t' k => XS.iload X23.here hx rfl (hb hby own_dI_146) rfl  k) ?_
  refine X23.ldJ hx hZ e23 A_b8 (v := (.long (Int64.ofInt (8 * A)))) 4 (by decide) rfl (hb hby own_dI_148) ?_
  refine own_gs 150 [(.ref t), (.long (Int64.ofInt (8 * A)))] (fun t' k => XS.aloadN X23.here hx rfl (hb hby own_dI_149) rfl rfl  k) ?_
  refine X23.getF hx hZ hown (hw _ (List.mem_of_getElem? (i := 19) rfl)) e23 F_total (hb hby own_dI_150) ?_
  intro T24 X24 e24
  refine own_gs 154 [(.int (lcmpW (Int64.ofInt (8 * A)) (Int64.ofInt (5 * A))))] (fun t' k => XS.lcmp X24.here hx rfl (hb hby own_dI_153) rfl k) ?_
  refine own_gs 170 [] (fun t' k => XS.ifYes X24.here hx rfl (pc0 := 154) (pc' := 170) rfl (hb hby own_dI_154) rfl ((if0 _ _).trans (flt (fun q => (own_onl (show (Int64.ofInt (8 * A)) = (Int64.ofInt (8 * A)) from rfl) (show (Int64.ofInt (5 * A)) = (Int64.ofInt (5 * A)) from rfl) (by omega) (by omega) (by omega)) ((lw_lt (Int64.ofInt (8 * A)) (Int64.ofInt (5 * A))).mp q))).2.1) (by decide) (by decide) k) ?_
  refine own_gs 172 [(.ref b10)] (fun t' k => XS.aload X24.here hx rfl (hb hby own_dI_170) rfl rfl  k) ?_
  refine own_gs 174 [(.int (4 : Int32)), (.ref b10)] (fun t' k => XS.iload X24.here hx rfl (hb hby own_dI_172) rfl  k) ?_
  refine own_go (mkF m 177 #[rv t, rv w, iv (8 : Int32), rv b3, rv b4, jv (Int64.ofInt (5 * A)), .second, rv b8, rv b9, rv b10, iv (0 : Int32), iv (5 : Int32), iv (4 : Int32), .unset] [(.int (4 : Int32)), (.ref b10)]) (fun t' k => XS.iinc X24.here hx rfl (hb hby own_dI_174) rfl rfl k) ?_
  refine own_gs 179 [(.int (4 : Int32)), (.int (4 : Int32)), (.ref b10)] (fun t' k => XS.iload X24.here hx rfl (hb hby own_dI_177) rfl  k) ?_
  refine X24.stI hx hZ e24 A_b10 g_b10 4 (by decide) (Nat.le_of_ble_eq_true rfl) (hb hby own_dI_179) ?_
  intro T25 h25 X25 e25 W25 A25
  replace A_b10 : own_A Z h25 .int b10 [(.int (0 : Int32)), (.int (1 : Int32)), (.int (2 : Int32)), (.int (3 : Int32)), (.int (4 : Int32)), (.int (0 : Int32)), (.int (0 : Int32)), (.int (0 : Int32))] := A25
  clear A25
  replace E_t := E_t.wr W25
  replace A_w := A_w.other W25 (Nat.ne_of_lt lt_w_b10)
  replace F_shift := F_shift.other W25 (Or.inl (Nat.ne_of_lt lt_t_b10))
  replace F_total := F_total.other W25 (Or.inl (Nat.ne_of_lt lt_t_b10))
  replace F_packed := F_packed.other W25 (Or.inl (Nat.ne_of_lt lt_t_b10))
  replace F_thresholds := F_thresholds.other W25 (Or.inl (Nat.ne_of_lt lt_t_b10))
  replace F_aliases := F_aliases.other W25 (Or.inl (Nat.ne_of_lt lt_t_b10))
  replace A_b3 := A_b3.other W25 (Nat.ne_of_lt lt_b3_b10)
  replace A_b4 := A_b4.other W25 (Nat.ne_of_lt lt_b4_b10)
  replace A_b8 := A_b8.other W25 (Nat.ne_of_lt lt_b8_b10)
  replace A_b9 := A_b9.other W25 (Nat.ne_of_lt lt_b9_b10)
  replace hn := Nat.le_trans hn (Keep.of_wr W25).1
  clear W25 X24 e24
  refine own_go (mkF m 183 #[rv t, rv w, iv (8 : Int32), rv b3, rv b4, jv (Int64.ofInt (5 * A)), .second, rv b8, rv b9, rv b10, iv (0 : Int32), iv (5 : Int32), iv (5 : Int32), .unset] []) (fun t' k => XS.iinc X25.here hx rfl (hb hby own_dI_180) rfl rfl k) ?_
  refine own_gs 115 [] (fun t' k => XS.goto X25.here hx rfl (pc0 := 183) (pc' := 115) rfl (hb hby own_dI_183) (by decide) (by decide) k) ?_
  refine own_gs 117 [(.int (5 : Int32))] (fun t' k => XS.iload X25.here hx rfl (hb hby own_dI_115) rfl  k) ?_
  refine own_gs 118 [(.int (8 : Int32)), (.int (5 : Int32))] (fun t' k => XS.iloadN X25.here hx rfl (hb hby own_dI_117) rfl  k) ?_
  refine own_gs 121 [] (fun t' k => XS.icmpNo X25.here hx rfl (hb hby own_dI_118) rfl (tlt (by decide)).2.1 k) ?_
  refine own_gs 123 [(.ref b8)] (fun t' k => XS.aload X25.here hx rfl (hb hby own_dI_121) rfl rfl  k) ?_
  refine own_gs 125 [(.int (5 : Int32)), (.ref b8)] (fun t' k => XS.iload X25.here hx rfl (hb hby own_dI_123) rfl  k) ?_
  refine own_gs 127 [(.int (5 : Int32)), (.int (5 : Int32)), (.ref b8)] (fun t' k => XS.iload X25.here hx rfl (hb hby own_dI_125) rfl  k) ?_
  refine own_gs 128 [(.ref w), (.int (5 : Int32)), (.int (5 : Int32)), (.ref b8)] (fun t' k => XS.aloadN X25.here hx rfl (hb hby own_dI_127) rfl rfl  k) ?_
  refine X25.alen hx hZ e25 A_w (hb hby own_dI_128) ?_
  show own_G p e below s _ _ _ T25 (mkF m 129 #[rv t, rv w, iv (8 : Int32), rv b3, rv b4, jv (Int64.ofInt (5 * A)), .second, rv b8, rv b9, rv b10, iv (0 : Int32), iv (5 : Int32), iv (5 : Int32), .unset] [(.int (5 : Int32)), (.int (5 : Int32)), (.int (5 : Int32)), (.ref b8)])
  refine own_gs 142 [(.int (5 : Int32)), (.ref b8)] (fun t' k => XS.icmpYes X25.here hx rfl (pc0 := 129) (pc' := 142) rfl (hb hby own_dI_129) rfl (flt (by decide)).2.1 (by decide) (by decide) k) ?_
  refine own_gs 143 [(.long (0 : Int64)), (.int (5 : Int32)), (.ref b8)] (fun t' k => XS.lconst X25.here hx rfl (hb hby own_dI_142) k) ?_
  refine X25.stJ hx hZ e25 A_b8 g_b8 5 (by decide) (Nat.le_of_ble_eq_true rfl) (hb hby own_dI_143) ?_
  intro T26 h26 X26 e26 W26 A26
  replace A_b8 : own_A Z h26 .long b8 [(.long (Int64.ofInt (8 * A))), (.long (Int64.ofInt (8 * A))), (.long (Int64.ofInt (8 * A))), (.long (Int64.ofInt (8 * A))), (.long (Int64.ofInt (8 * A))), (.long (0 : Int64)), (.long (0 : Int64)), (.long (0 : Int64))] := A26
  clear A26
  replace E_t := E_t.wr W26
  replace A_w := A_w.other W26 (Nat.ne_of_lt lt_w_b8)
  replace F_shift := F_shift.other W26 (Or.inl (Nat.ne_of_lt lt_t_b8))
  replace F_total := F_total.other W26 (Or.inl (Nat.ne_of_lt lt_t_b8))
  replace F_packed := F_packed.other W26 (Or.inl (Nat.ne_of_lt lt_t_b8))
  replace F_thresholds := F_thresholds.other W26 (Or.inl (Nat.ne_of_lt lt_t_b8))
  replace F_aliases := F_aliases.other W26 (Or.inl (Nat.ne_of_lt lt_t_b8))
  replace A_b3 := A_b3.other W26 (Nat.ne_of_lt lt_b3_b8)
  replace A_b4 := A_b4.other W26 (Nat.ne_of_lt lt_b4_b8)
  replace A_b9 := A_b9.other W26 (Ne.symm (Nat.ne_of_lt lt_b8_b9))
  replace A_b10 := A_b10.other W26 (Ne.symm (Nat.ne_of_lt lt_b8_b10))
  replace hn := Nat.le_trans hn (Keep.of_wr W26).1
  clear W26 X25 e25
  refine own_gs 146 [(.ref b8)] (fun t' k => XS.aload X26.here hx rfl (hb hby own_dI_144) rfl rfl  k) ?_
  refine own_gs 148 [(.int (5 : Int32)), (.ref b8)] (fun t' k => XS.iload X26.here hx rfl (hb hby own_dI_146) rfl  k) ?_
  refine X26.ldJ hx hZ e26 A_b8 (v := (.long (0 : Int64))) 5 (by decide) rfl (hb hby own_dI_148) ?_
  refine own_gs 150 [(.ref t), (.long (0 : Int64))] (fun t' k => XS.aloadN X26.here hx rfl (hb hby own_dI_149) rfl rfl  k) ?_
  refine X26.getF hx hZ hown (hw _ (List.mem_of_getElem? (i := 19) rfl)) e26 F_total (hb hby own_dI_150) ?_
  intro T27 X27 e27
  refine own_gs 154 [(.int (lcmpW (0 : Int64) (Int64.ofInt (5 * A))))] (fun t' k => XS.lcmp X27.here hx rfl (hb hby own_dI_153) rfl k) ?_
  refine own_gs 157 [] (fun t' k => XS.ifNo X27.here hx rfl (hb hby own_dI_154) rfl ((if0 _ _).trans (tlt ((lw_lt (0 : Int64) (Int64.ofInt (5 * A))).mpr (own_olt (show (0 : Int64) = Int64.ofInt (0) from rfl) (show (Int64.ofInt (5 * A)) = (Int64.ofInt (5 * A)) from rfl) (by omega) (by omega) (by omega)))).2.1) k) ?_
  refine own_gs 159 [(.ref b9)] (fun t' k => XS.aload X27.here hx rfl (hb hby own_dI_157) rfl rfl  k) ?_
  refine own_gs 161 [(.int (0 : Int32)), (.ref b9)] (fun t' k => XS.iload X27.here hx rfl (hb hby own_dI_159) rfl  k) ?_
  refine own_go (mkF m 164 #[rv t, rv w, iv (8 : Int32), rv b3, rv b4, jv (Int64.ofInt (5 * A)), .second, rv b8, rv b9, rv b10, iv (1 : Int32), iv (5 : Int32), iv (5 : Int32), .unset] [(.int (0 : Int32)), (.ref b9)]) (fun t' k => XS.iinc X27.here hx rfl (hb hby own_dI_161) rfl rfl k) ?_
  refine own_gs 166 [(.int (5 : Int32)), (.int (0 : Int32)), (.ref b9)] (fun t' k => XS.iload X27.here hx rfl (hb hby own_dI_164) rfl  k) ?_
  refine X27.stI hx hZ e27 A_b9 g_b9 0 (by decide) (Nat.le_of_ble_eq_true rfl) (hb hby own_dI_166) ?_
  intro T28 h28 X28 e28 W28 A28
  replace A_b9 : own_A Z h28 .int b9 [(.int (5 : Int32)), (.int (0 : Int32)), (.int (0 : Int32)), (.int (0 : Int32)), (.int (0 : Int32)), (.int (0 : Int32)), (.int (0 : Int32)), (.int (0 : Int32))] := A28
  clear A28
  replace E_t := E_t.wr W28
  replace A_w := A_w.other W28 (Nat.ne_of_lt lt_w_b9)
  replace F_shift := F_shift.other W28 (Or.inl (Nat.ne_of_lt lt_t_b9))
  replace F_total := F_total.other W28 (Or.inl (Nat.ne_of_lt lt_t_b9))
  replace F_packed := F_packed.other W28 (Or.inl (Nat.ne_of_lt lt_t_b9))
  replace F_thresholds := F_thresholds.other W28 (Or.inl (Nat.ne_of_lt lt_t_b9))
  replace F_aliases := F_aliases.other W28 (Or.inl (Nat.ne_of_lt lt_t_b9))
  replace A_b3 := A_b3.other W28 (Nat.ne_of_lt lt_b3_b9)
  replace A_b4 := A_b4.other W28 (Nat.ne_of_lt lt_b4_b9)
  replace A_b8 := A_b8.other W28 (Nat.ne_of_lt lt_b8_b9)
  replace A_b10 := A_b10.other W28 (Ne.symm (Nat.ne_of_lt lt_b9_b10))
  replace hn := Nat.le_trans hn (Keep.of_wr W28).1
  clear W28 X27 e27
  refine own_gs 180 [] (fun t' k => XS.goto X28.here hx rfl (pc0 := 167) (pc' := 180) rfl (hb hby own_dI_167) (by decide) (by decide) k) ?_
  refine own_go (mkF m 183 #[rv t, rv w, iv (8 : Int32), rv b3, rv b4, jv (Int64.ofInt (5 * A)), .second, rv b8, rv b9, rv b10, iv (1 : Int32), iv (5 : Int32), iv (6 : Int32), .unset] []) (fun t' k => XS.iinc X28.here hx rfl (hb hby own_dI_180) rfl rfl k) ?_
  refine own_gs 115 [] (fun t' k => XS.goto X28.here hx rfl (pc0 := 183) (pc' := 115) rfl (hb hby own_dI_183) (by decide) (by decide) k) ?_
  refine own_gs 117 [(.int (6 : Int32))] (fun t' k => XS.iload X28.here hx rfl (hb hby own_dI_115) rfl  k) ?_
  refine own_gs 118 [(.int (8 : Int32)), (.int (6 : Int32))] (fun t' k => XS.iloadN X28.here hx rfl (hb hby own_dI_117) rfl  k) ?_
  refine own_gs 121 [] (fun t' k => XS.icmpNo X28.here hx rfl (hb hby own_dI_118) rfl (tlt (by decide)).2.1 k) ?_
  refine own_gs 123 [(.ref b8)] (fun t' k => XS.aload X28.here hx rfl (hb hby own_dI_121) rfl rfl  k) ?_
  refine own_gs 125 [(.int (6 : Int32)), (.ref b8)] (fun t' k => XS.iload X28.here hx rfl (hb hby own_dI_123) rfl  k) ?_
  refine own_gs 127 [(.int (6 : Int32)), (.int (6 : Int32)), (.ref b8)] (fun t' k => XS.iload X28.here hx rfl (hb hby own_dI_125) rfl  k) ?_
  refine own_gs 128 [(.ref w), (.int (6 : Int32)), (.int (6 : Int32)), (.ref b8)] (fun t' k => XS.aloadN X28.here hx rfl (hb hby own_dI_127) rfl rfl  k) ?_
  refine X28.alen hx hZ e28 A_w (hb hby own_dI_128) ?_
  show own_G p e below s _ _ _ T28 (mkF m 129 #[rv t, rv w, iv (8 : Int32), rv b3, rv b4, jv (Int64.ofInt (5 * A)), .second, rv b8, rv b9, rv b10, iv (1 : Int32), iv (5 : Int32), iv (6 : Int32), .unset] [(.int (5 : Int32)), (.int (6 : Int32)), (.int (6 : Int32)), (.ref b8)])
  refine own_gs 142 [(.int (6 : Int32)), (.ref b8)] (fun t' k => XS.icmpYes X28.here hx rfl (pc0 := 129) (pc' := 142) rfl (hb hby own_dI_129) rfl (flt (by decide)).2.1 (by decide) (by decide) k) ?_
  refine own_gs 143 [(.long (0 : Int64)), (.int (6 : Int32)), (.ref b8)] (fun t' k => XS.lconst X28.here hx rfl (hb hby own_dI_142) k) ?_
  refine X28.stJ hx hZ e28 A_b8 g_b8 6 (by decide) (Nat.le_of_ble_eq_true rfl) (hb hby own_dI_143) ?_
  intro T29 h29 X29 e29 W29 A29
  replace A_b8 : own_A Z h29 .long b8 [(.long (Int64.ofInt (8 * A))), (.long (Int64.ofInt (8 * A))), (.long (Int64.ofInt (8 * A))), (.long (Int64.ofInt (8 * A))), (.long (Int64.ofInt (8 * A))), (.long (0 : Int64)), (.long (0 : Int64)), (.long (0 : Int64))] := A29
  clear A29
  replace E_t := E_t.wr W29
  replace A_w := A_w.other W29 (Nat.ne_of_lt lt_w_b8)
  replace F_shift := F_shift.other W29 (Or.inl (Nat.ne_of_lt lt_t_b8))
  replace F_total := F_total.other W29 (Or.inl (Nat.ne_of_lt lt_t_b8))
  replace F_packed := F_packed.other W29 (Or.inl (Nat.ne_of_lt lt_t_b8))
  replace F_thresholds := F_thresholds.other W29 (Or.inl (Nat.ne_of_lt lt_t_b8))
  replace F_aliases := F_aliases.other W29 (Or.inl (Nat.ne_of_lt lt_t_b8))
  replace A_b3 := A_b3.other W29 (Nat.ne_of_lt lt_b3_b8)
  replace A_b4 := A_b4.other W29 (Nat.ne_of_lt lt_b4_b8)
  replace A_b9 := A_b9.other W29 (Ne.symm (Nat.ne_of_lt lt_b8_b9))
  replace A_b10 := A_b10.other W29 (Ne.symm (Nat.ne_of_lt lt_b8_b10))
  replace hn := Nat.le_trans hn (Keep.of_wr W29).1
  clear W29 X28 e28
  refine own_gs 146 [(.ref b8)] (fun t' k => XS.aload X29.here hx rfl (hb hby own_dI_144) rfl rfl  k) ?_
  refine own_gs 148 [(.int (6 : Int32)), (.ref b8)] (fun t' k => XS.iload X29.here hx rfl (hb hby own_dI_146) rfl  k) ?_
  refine X29.ldJ hx hZ e29 A_b8 (v := (.long (0 : Int64))) 6 (by decide) rfl (hb hby own_dI_148) ?_
  refine own_gs 150 [(.ref t), (.long (0 : Int64))] (fun t' k => XS.aloadN X29.here hx rfl (hb hby own_dI_149) rfl rfl  k) ?_
  refine X29.getF hx hZ hown (hw _ (List.mem_of_getElem? (i := 19) rfl)) e29 F_total (hb hby own_dI_150) ?_
  intro T30 X30 e30
  refine own_gs 154 [(.int (lcmpW (0 : Int64) (Int64.ofInt (5 * A))))] (fun t' k => XS.lcmp X30.here hx rfl (hb hby own_dI_153) rfl k) ?_
  refine own_gs 157 [] (fun t' k => XS.ifNo X30.here hx rfl (hb hby own_dI_154) rfl ((if0 _ _).trans (tlt ((lw_lt (0 : Int64) (Int64.ofInt (5 * A))).mpr (own_olt (show (0 : Int64) = Int64.ofInt (0) from rfl) (show (Int64.ofInt (5 * A)) = (Int64.ofInt (5 * A)) from rfl) (by omega) (by omega) (by omega)))).2.1) k) ?_
  refine own_gs 159 [(.ref b9)] (fun t' k => XS.aload X30.here hx rfl (hb hby own_dI_157) rfl rfl  k) ?_
  refine own_gs 161 [(.int (1 : Int32)), (.ref b9)] (fun t' k => XS.iload X30.here hx rfl (hb hby own_dI_159) rfl  k) ?_
  refine own_go (mkF m 164 #[rv t, rv w, iv (8 : Int32), rv b3, rv b4, jv (Int64.ofInt (5 * A)), .second, rv b8, rv b9, rv b10, iv (2 : Int32), iv (5 : Int32), iv (6 : Int32), .unset] [(.int (1 : Int32)), (.ref b9)]) (fun t' k => XS.iinc X30.here hx rfl (hb hby own_dI_161) rfl rfl k) ?_
  refine own_gs 166 [(.int (6 : Int32)), (.int (1 : Int32)), (.ref b9)] (fun t' k => XS.iload X30.here hx rfl (hb hby own_dI_164) rfl  k) ?_
  refine X30.stI hx hZ e30 A_b9 g_b9 1 (by decide) (Nat.le_of_ble_eq_true rfl) (hb hby own_dI_166) ?_
  intro T31 h31 X31 e31 W31 A31
  replace A_b9 : own_A Z h31 .int b9 [(.int (5 : Int32)), (.int (6 : Int32)), (.int (0 : Int32)), (.int (0 : Int32)), (.int (0 : Int32)), (.int (0 : Int32)), (.int (0 : Int32)), (.int (0 : Int32))] := A31
  clear A31
  replace E_t := E_t.wr W31
  replace A_w := A_w.other W31 (Nat.ne_of_lt lt_w_b9)
  replace F_shift := F_shift.other W31 (Or.inl (Nat.ne_of_lt lt_t_b9))
  replace F_total := F_total.other W31 (Or.inl (Nat.ne_of_lt lt_t_b9))
  replace F_packed := F_packed.other W31 (Or.inl (Nat.ne_of_lt lt_t_b9))
  replace F_thresholds := F_thresholds.other W31 (Or.inl (Nat.ne_of_lt lt_t_b9))
  replace F_aliases := F_aliases.other W31 (Or.inl (Nat.ne_of_lt lt_t_b9))
  replace A_b3 := A_b3.other W31 (Nat.ne_of_lt lt_b3_b9)
  replace A_b4 := A_b4.other W31 (Nat.ne_of_lt lt_b4_b9)
  replace A_b8 := A_b8.other W31 (Nat.ne_of_lt lt_b8_b9)
  replace A_b10 := A_b10.other W31 (Ne.symm (Nat.ne_of_lt lt_b9_b10))
  replace hn := Nat.le_trans hn (Keep.of_wr W31).1
  clear W31 X30 e30
  refine own_gs 180 [] (fun t' k => XS.goto X31.here hx rfl (pc0 := 167) (pc' := 180) rfl (hb hby own_dI_167) (by decide) (by decide) k) ?_
  refine own_go (mkF m 183 #[rv t, rv w, iv (8 : Int32), rv b3, rv b4, jv (Int64.ofInt (5 * A)), .second, rv b8, rv b9, rv b10, iv (2 : Int32), iv (5 : Int32), iv (7 : Int32), .unset] []) (fun t' k => XS.iinc X31.here hx rfl (hb hby own_dI_180) rfl rfl k) ?_
  refine own_gs 115 [] (fun t' k => XS.goto X31.here hx rfl (pc0 := 183) (pc' := 115) rfl (hb hby own_dI_183) (by decide) (by decide) k) ?_
  refine own_gs 117 [(.int (7 : Int32))] (fun t' k => XS.iload X31.here hx rfl (hb hby own_dI_115) rfl  k) ?_
  refine own_gs 118 [(.int (8 : Int32)), (.int (7 : Int32))] (fun t' k => XS.iloadN X31.here hx rfl (hb hby own_dI_117) rfl  k) ?_
  refine own_gs 121 [] (fun t' k => XS.icmpNo X31.here hx rfl (hb hby own_dI_118) rfl (tlt (by decide)).2.1 k) ?_
  refine own_gs 123 [(.ref b8)] (fun t' k => XS.aload X31.here hx rfl (hb hby own_dI_121) rfl rfl  k) ?_
  refine own_gs 125 [(.int (7 : Int32)), (.ref b8)] (fun t' k => XS.iload X31.here hx rfl (hb hby own_dI_123) rfl  k) ?_
  refine own_gs 127 [(.int (7 : Int32)), (.int (7 : Int32)), (.ref b8)] (fun t' k => XS.iload X31.here hx rfl (hb hby own_dI_125) rfl  k) ?_
  refine own_gs 128 [(.ref w), (.int (7 : Int32)), (.int (7 : Int32)), (.ref b8)] (fun t' k => XS.aloadN X31.here hx rfl (hb hby own_dI_127) rfl rfl  k) ?_
  refine X31.alen hx hZ e31 A_w (hb hby own_dI_128) ?_
  show own_G p e below s _ _ _ T31 (mkF m 129 #[rv t, rv w, iv (8 : Int32), rv b3, rv b4, jv (Int64.ofInt (5 * A)), .second, rv b8, rv b9, rv b10, iv (2 : Int32), iv (5 : Int32), iv (7 : Int32), .unset] [(.int (5 : Int32)), (.int (7 : Int32)), (.int (7 : Int32)), (.ref b8)])
  refine own_gs 142 [(.int (7 : Int32)), (.ref b8)] (fun t' k => XS.icmpYes X31.here hx rfl (pc0 := 129) (pc' := 142) rfl (hb hby own_dI_129) rfl (flt (by decide)).2.1 (by decide) (by decide) k) ?_
  refine own_gs 143 [(.long (0 : Int64)), (.int (7 : Int32)), (.ref b8)] (fun t' k => XS.lconst X31.here hx rfl (hb hby own_dI_142) k) ?_
  refine X31.stJ hx hZ e31 A_b8 g_b8 7 (by decide) (Nat.le_of_ble_eq_true rfl) (hb hby own_dI_143) ?_
  intro T32 h32 X32 e32 W32 A32
  replace A_b8 : own_A Z h32 .long b8 [(.long (Int64.ofInt (8 * A))), (.long (Int64.ofInt (8 * A))), (.long (Int64.ofInt (8 * A))), (.long (Int64.ofInt (8 * A))), (.long (Int64.ofInt (8 * A))), (.long (0 : Int64)), (.long (0 : Int64)), (.long (0 : Int64))] := A32
  clear A32
  replace E_t := E_t.wr W32
  replace A_w := A_w.other W32 (Nat.ne_of_lt lt_w_b8)
  replace F_shift := F_shift.other W32 (Or.inl (Nat.ne_of_lt lt_t_b8))
  replace F_total := F_total.other W32 (Or.inl (Nat.ne_of_lt lt_t_b8))
  replace F_packed := F_packed.other W32 (Or.inl (Nat.ne_of_lt lt_t_b8))
  replace F_thresholds := F_thresholds.other W32 (Or.inl (Nat.ne_of_lt lt_t_b8))
  replace F_aliases := F_aliases.other W32 (Or.inl (Nat.ne_of_lt lt_t_b8))
  replace A_b3 := A_b3.other W32 (Nat.ne_of_lt lt_b3_b8)
  replace A_b4 := A_b4.other W32 (Nat.ne_of_lt lt_b4_b8)
  replace A_b9 := A_b9.other W32 (Ne.symm (Nat.ne_of_lt lt_b8_b9))
  replace A_b10 := A_b10.other W32 (Ne.symm (Nat.ne_of_lt lt_b8_b10))
  replace hn := Nat.le_trans hn (Keep.of_wr W32).1
  clear W32 X31 e31
  refine own_gs 146 [(.ref b8)] (fun t' k => XS.aload X32.here hx rfl (hb hby own_dI_144) rfl rfl  k) ?_
  refine own_gs 148 [(.int (7 : Int32)), (.ref b8)] (fun t' k => XS.iload X32.here hx rfl (hb hby own_dI_146) rfl  k) ?_
  refine X32.ldJ hx hZ e32 A_b8 (v := (.long (0 : Int64))) 7 (by decide) rfl (hb hby own_dI_148) ?_
  refine own_gs 150 [(.ref t), (.long (0 : Int64))] (fun t' k => XS.aloadN X32.here hx rfl (hb hby own_dI_149) rfl rfl  k) ?_
  refine X32.getF hx hZ hown (hw _ (List.mem_of_getElem? (i := 19) rfl)) e32 F_total (hb hby own_dI_150) ?_
  intro T33 X33 e33
  refine own_gs 154 [(.int (lcmpW (0 : Int64) (Int64.ofInt (5 * A))))] (fun t' k => XS.lcmp X33.here hx rfl (hb hby own_dI_153) rfl k) ?_
  refine own_gs 157 [] (fun t' k => XS.ifNo X33.here hx rfl (hb hby own_dI_154) rfl ((if0 _ _).trans (tlt ((lw_lt (0 : Int64) (Int64.ofInt (5 * A))).mpr (own_olt (show (0 : Int64) = Int64.ofInt (0) from rfl) (show (Int64.ofInt (5 * A)) = (Int64.ofInt (5 * A)) from rfl) (by omega) (by omega) (by omega)))).2.1) k) ?_
  refine own_gs 159 [(.ref b9)] (fun t' k => XS.aload X33.here hx rfl (hb hby own_dI_157) rfl rfl  k) ?_
  refine own_gs 161 [(.int (2 : Int32)), (.ref b9)] (fun t' k => XS.iload X33.here hx rfl (hb hby own_dI_159) rfl  k) ?_
  refine own_go (mkF m 164 #[rv t, rv w, iv (8 : Int32), rv b3, rv b4, jv (Int64.ofInt (5 * A)), .second, rv b8, rv b9, rv b10, iv (3 : Int32), iv (5 : Int32), iv (7 : Int32), .unset] [(.int (2 : Int32)), (.ref b9)]) (fun t' k => XS.iinc X33.here hx rfl (hb hby own_dI_161) rfl rfl k) ?_
  refine own_gs 166 [(.int (7 : Int32)), (.int (2 : Int32)), (.ref b9)] (fun t' k => XS.iload X33.here hx rfl (hb hby own_dI_164) rfl  k) ?_
  refine X33.stI hx hZ e33 A_b9 g_b9 2 (by decide) (Nat.le_of_ble_eq_true rfl) (hb hby own_dI_166) ?_
  intro T34 h34 X34 e34 W34 A34
  replace A_b9 : own_A Z h34 .int b9 [(.int (5 : Int32)), (.int (6 : Int32)), (.int (7 : Int32)), (.int (0 : Int32)), (.int (0 : Int32)), (.int (0 : Int32)), (.int (0 : Int32)), (.int (0 : Int32))] := A34
  clear A34
  replace E_t := E_t.wr W34
  replace A_w := A_w.other W34 (Nat.ne_of_lt lt_w_b9)
  replace F_shift := F_shift.other W34 (Or.inl (Nat.ne_of_lt lt_t_b9))
  replace F_total := F_total.other W34 (Or.inl (Nat.ne_of_lt lt_t_b9))
  replace F_packed := F_packed.other W34 (Or.inl (Nat.ne_of_lt lt_t_b9))
  replace F_thresholds := F_thresholds.other W34 (Or.inl (Nat.ne_of_lt lt_t_b9))
  replace F_aliases := F_aliases.other W34 (Or.inl (Nat.ne_of_lt lt_t_b9))
  replace A_b3 := A_b3.other W34 (Nat.ne_of_lt lt_b3_b9)
  replace A_b4 := A_b4.other W34 (Nat.ne_of_lt lt_b4_b9)
  replace A_b8 := A_b8.other W34 (Nat.ne_of_lt lt_b8_b9)
  replace A_b10 := A_b10.other W34 (Ne.symm (Nat.ne_of_lt lt_b9_b10))
  replace hn := Nat.le_trans hn (Keep.of_wr W34).1
  clear W34 X33 e33
  refine own_gs 180 [] (fun t' k => XS.goto X34.here hx rfl (pc0 := 167) (pc' := 180) rfl (hb hby own_dI_167) (by decide) (by decide) k) ?_
  refine own_go (mkF m 183 #[rv t, rv w, iv (8 : Int32), rv b3, rv b4, jv (Int64.ofInt (5 * A)), .second, rv b8, rv b9, rv b10, iv (3 : Int32), iv (5 : Int32), iv (8 : Int32), .unset] []) (fun t' k => XS.iinc X34.here hx rfl (hb hby own_dI_180) rfl rfl k) ?_
  refine own_gs 115 [] (fun t' k => XS.goto X34.here hx rfl (pc0 := 183) (pc' := 115) rfl (hb hby own_dI_183) (by decide) (by decide) k) ?_
  refine own_gs 117 [(.int (8 : Int32))] (fun t' k => XS.iload X34.here hx rfl (hb hby own_dI_115) rfl  k) ?_
  refine own_gs 118 [(.int (8 : Int32)), (.int (8 : Int32))] (fun t' k => XS.iloadN X34.here hx rfl (hb hby own_dI_117) rfl  k) ?_
  refine own_gs 186 [] (fun t' k => XS.icmpYes X34.here hx rfl (pc0 := 118) (pc' := 186) rfl (hb hby own_dI_118) rfl (flt (by decide)).2.1 (by decide) (by decide) k) ?_
  refine own_gs 188 [(.int (3 : Int32))] (fun t' k => XS.iload X34.here hx rfl (hb hby own_dI_186) rfl  k) ?_
  refine own_gs 191 [] (fun t' k => XS.ifNo X34.here hx rfl (hb hby own_dI_188) rfl ((if0 _ _).trans (tlt (by decide)).2.2.2) k) ?_
  refine own_gs 193 [(.int (5 : Int32))] (fun t' k => XS.iload X34.here hx rfl (hb hby own_dI_191) rfl  k) ?_
  refine own_gs 196 [] (fun t' k => XS.ifNo X34.here hx rfl (hb hby own_dI_193) rfl ((if0 _ _).trans (tlt (by decide)).2.2.2) k) ?_
  refine own_gs 198 [(.ref b9)] (fun t' k => XS.aload X34.here hx rfl (hb hby own_dI_196) rfl rfl  k) ?_
  refine own_go (mkF m 201 #[rv t, rv w, iv (8 : Int32), rv b3, rv b4, jv (Int64.ofInt (5 * A)), .second, rv b8, rv b9, rv b10, iv (2 : Int32), iv (5 : Int32), iv (8 : Int32), .unset] [(.ref b9)]) (fun t' k => XS.iinc X34.here hx rfl (hb hby own_dI_198) rfl rfl k) ?_
  refine own_gs 203 [(.int (2 : Int32)), (.ref b9)] (fun t' k => XS.iload X34.here hx rfl (hb hby own_dI_201) rfl  k) ?_
  refine X34.ldI hx hZ e34 A_b9 (v := (.int (7 : Int32))) 2 (by decide) rfl (hb hby own_dI_203) ?_
  refine own_go (mkF m 206 #[rv t, rv w, iv (8 : Int32), rv b3, rv b4, jv (Int64.ofInt (5 * A)), .second, rv b8, rv b9, rv b10, iv (2 : Int32), iv (5 : Int32), iv (7 : Int32), .unset] []) (fun t' k => XS.istore X34.here hx rfl (hb hby own_dI_204) rfl rfl k) ?_
  refine own_gs 208 [(.ref b10)] (fun t' k => XS.aload X34.here hx rfl (hb hby own_dI_206) rfl rfl  k) ?_
  refine own_gs 210 [(.int (5 : Int32)), (.ref b10)] (fun t' k => XS.iload X34.here hx rfl (hb hby own_dI_208) rfl  k) ?_
  refine own_gs 211 [(.int (1 : Int32)), (.int (5 : Int32)), (.ref b10)] (fun t' k => XS.iconst X34.here hx rfl (hb hby own_dI_210) k) ?_
  refine own_gs 212 [(.int (4 : Int32)), (.ref b10)] (fun t' k => XS.isub X34.here hx rfl (hb hby own_dI_211) rfl k) ?_
  refine X34.ldI hx hZ e34 A_b10 (v := (.int (4 : Int32))) 4 (by decide) rfl (hb hby own_dI_212) ?_
  refine own_go (mkF m 215 #[rv t, rv w, iv (8 : Int32), rv b3, rv b4, jv (Int64.ofInt (5 * A)), .second, rv b8, rv b9, rv b10, iv (2 : Int32), iv (5 : Int32), iv (7 : Int32), iv (4 : Int32)] []) (fun t' k => XS.istore X34.here hx rfl (hb hby own_dI_213) rfl rfl k) ?_
  refine own_gs 216 [(.ref b3)] (fun t' k => XS.aloadN X34.here hx rfl (hb hby own_dI_215) rfl rfl  k) ?_
  refine own_gs 218 [(.int (7 : Int32)), (.ref b3)] (fun t' k => XS.iload X34.here hx rfl (hb hby own_dI_216) rfl  k) ?_
  refine own_gs 220 [(.ref b8), (.int (7 : Int32)), (.ref b3)] (fun t' k => XS.aload X34.here hx rfl (hb hby own_dI_218) rfl rfl  k) ?_
  refine own_gs 222 [(.int (7 : Int32)), (.ref b8), (.int (7 : Int32)), (.ref b3)] (fun t' k => XS.iload X34.here hx rfl (hb hby own_dI_220) rfl  k) ?_
  refine X34.ldJ hx hZ e34 A_b8 (v := (.long (0 : Int64))) 7 (by decide) rfl (hb hby own_dI_222) ?_
  refine X34.stJ hx hZ e34 A_b3 g_b3 7 (by decide) (Nat.le_of_ble_eq_true rfl) (hb hby own_dI_223) ?_
  intro T35 h35 X35 e35 W35 A35
  replace A_b3 : own_A Z h35 .long b3 [(.long (0 : Int64)), (.long (0 : Int64)), (.long (0 : Int64)), (.long (0 : Int64)), (.long (0 : Int64)), (.long (0 : Int64)), (.long (0 : Int64)), (.long (0 : Int64))] := A35
  clear A35
  replace E_t := E_t.wr W35
  replace A_w := A_w.other W35 (Nat.ne_of_lt lt_w_b3)
  replace F_shift := F_shift.other W35 (Or.inl (Nat.ne_of_lt lt_t_b3))
  replace F_total := F_total.other W35 (Or.inl (Nat.ne_of_lt lt_t_b3))
  replace F_packed := F_packed.other W35 (Or.inl (Nat.ne_of_lt lt_t_b3))
  replace F_thresholds := F_thresholds.other W35 (Or.inl (Nat.ne_of_lt lt_t_b3))
  replace F_aliases := F_aliases.other W35 (Or.inl (Nat.ne_of_lt lt_t_b3))
  replace A_b4 := A_b4.other W35 (Ne.symm (Nat.ne_of_lt lt_b3_b4))
  replace A_b8 := A_b8.other W35 (Ne.symm (Nat.ne_of_lt lt_b3_b8))
  replace A_b9 := A_b9.other W35 (Ne.symm (Nat.ne_of_lt lt_b3_b9))
  replace A_b10 := A_b10.other W35 (Ne.symm (Nat.ne_of_lt lt_b3_b10))
  replace hn := Nat.le_trans hn (Keep.of_wr W35).1
  clear W35 X34 e34
  refine own_gs 226 [(.ref b4)] (fun t' k => XS.aload X35.here hx rfl (hb hby own_dI_224) rfl rfl  k) ?_
  refine own_gs 228 [(.int (7 : Int32)), (.ref b4)] (fun t' k => XS.iload X35.here hx rfl (hb hby own_dI_226) rfl  k) ?_
  refine own_gs 230 [(.int (4 : Int32)), (.int (7 : Int32)), (.ref b4)] (fun t' k => XS.iload X35.here hx rfl (hb hby own_dI_228) rfl  k) ?_
  refine X35.stI hx hZ e35 A_b4 g_b4 7 (by decide) (Nat.le_of_ble_eq_true rfl) (hb hby own_dI_230) ?_
  intro T36 h36 X36 e36 W36 A36
  replace A_b4 : own_A Z h36 .int b4 [(.int (0 : Int32)), (.int (0 : Int32)), (.int (0 : Int32)), (.int (0 : Int32)), (.int (0 : Int32)), (.int (0 : Int32)), (.int (0 : Int32)), (.int (4 : Int32))] := A36
  clear A36
  replace E_t := E_t.wr W36
  replace A_w := A_w.other W36 (Nat.ne_of_lt lt_w_b4)
  replace F_shift := F_shift.other W36 (Or.inl (Nat.ne_of_lt lt_t_b4))
  replace F_total := F_total.other W36 (Or.inl (Nat.ne_of_lt lt_t_b4))
  replace F_packed := F_packed.other W36 (Or.inl (Nat.ne_of_lt lt_t_b4))
  replace F_thresholds := F_thresholds.other W36 (Or.inl (Nat.ne_of_lt lt_t_b4))
  replace F_aliases := F_aliases.other W36 (Or.inl (Nat.ne_of_lt lt_t_b4))
  replace A_b3 := A_b3.other W36 (Nat.ne_of_lt lt_b3_b4)
  replace A_b8 := A_b8.other W36 (Ne.symm (Nat.ne_of_lt lt_b4_b8))
  replace A_b9 := A_b9.other W36 (Ne.symm (Nat.ne_of_lt lt_b4_b9))
  replace A_b10 := A_b10.other W36 (Ne.symm (Nat.ne_of_lt lt_b4_b10))
  replace hn := Nat.le_trans hn (Keep.of_wr W36).1
  clear W36 X35 e35
  refine own_gs 233 [(.ref b8)] (fun t' k => XS.aload X36.here hx rfl (hb hby own_dI_231) rfl rfl  k) ?_
  refine own_gs 235 [(.int (4 : Int32)), (.ref b8)] (fun t' k => XS.iload X36.here hx rfl (hb hby own_dI_233) rfl  k) ?_
  refine own_gs 236 [(.int (4 : Int32)), (.ref b8), (.int (4 : Int32)), (.ref b8)] (fun t' k => Jvm.Free.XT.dup2 X36.here hx rfl (hb hby own_dI_235) rfl rfl rfl k) ?_
  refine X36.ldJ hx hZ e36 A_b8 (v := (.long (Int64.ofInt (8 * A)))) 4 (by decide) rfl (hb hby own_dI_236) ?_
  refine own_gs 238 [(.ref t), (.long (Int64.ofInt (8 * A))), (.int (4 : Int32)), (.ref b8)] (fun t' k => XS.aloadN X36.here hx rfl (hb hby own_dI_237) rfl rfl  k) ?_
  refine X36.getF hx hZ hown (hw _ (List.mem_of_getElem? (i := 19) rfl)) e36 F_total (hb hby own_dI_238) ?_
  intro T37 X37 e37
  refine own_gs 243 [(.ref b8), (.long (Int64.ofInt (5 * A))), (.long (Int64.ofInt (8 * A))), (.int (4 : Int32)), (.ref b8)] (fun t' k => XS.aload X37.here hx rfl (hb hby own_dI_241) rfl rfl  k) ?_
  refine own_gs 245 [(.int (7 : Int32)), (.ref b8), (.long (Int64.ofInt (5 * A))), (.long (Int64.ofInt (8 * A))), (.int (4 : Int32)), (.ref b8)] (fun t' k => XS.iload X37.here hx rfl (hb hby own_dI_243) rfl  k) ?_
  refine X37.ldJ hx hZ e37 A_b8 (v := (.long (0 : Int64))) 7 (by decide) rfl (hb hby own_dI_245) ?_
  refine own_gs 247 [(.long ((Int64.ofInt (5 * A)) - (0 : Int64))), (.long (Int64.ofInt (8 * A))), (.int (4 : Int32)), (.ref b8)] (fun t' k => XS.lsub X37.here hx rfl (hb hby own_dI_246) rfl k) ?_
  rw [own_osub (z := 5 * A) (show (Int64.ofInt (5 * A)) = (Int64.ofInt (5 * A)) from rfl) (show (0 : Int64) = Int64.ofInt (0) from rfl) (by omega)]
  refine own_gs 248 [(.long ((Int64.ofInt (8 * A)) - (Int64.ofInt (5 * A)))), (.int (4 : Int32)), (.ref b8)] (fun t' k => XS.lsub X37.here hx rfl (hb hby own_dI_247) rfl k) ?_
  rw [own_osub (z := 3 * A) (show (Int64.ofInt (8 * A)) = (Int64.ofInt (8 * A)) from rfl) (show (Int64.ofInt (5 * A)) = (Int64.ofInt (5 * A)) from rfl) (by omega)]
  refine X37.stJ hx hZ e37 A_b8 g_b8 4 (by decide) (Nat.le_of_ble_eq_true rfl) (hb hby own_dI_248) ?_
  intro T38 h38 X38 e38 W38 A38
  replace A_b8 : own_A Z h38 .long b8 [(.long (Int64.ofInt (8 * A))), (.long (Int64.ofInt (8 * A))), (.long (Int64.ofInt (8 * A))), (.long (Int64.ofInt (8 * A))), (.long (Int64.ofInt (3 * A))), (.long (0 : Int64)), (.long (0 : Int64)), (.long (0 : Int64))] := A38
  clear A38
  replace E_t := E_t.wr W38
  replace A_w := A_w.other W38 (Nat.ne_of_lt lt_w_b8)
  replace F_shift := F_shift.other W38 (Or.inl (Nat.ne_of_lt lt_t_b8))
  replace F_total := F_total.other W38 (Or.inl (Nat.ne_of_lt lt_t_b8))
  replace F_packed := F_packed.other W38 (Or.inl (Nat.ne_of_lt lt_t_b8))
  replace F_thresholds := F_thresholds.other W38 (Or.inl (Nat.ne_of_lt lt_t_b8))
  replace F_aliases := F_aliases.other W38 (Or.inl (Nat.ne_of_lt lt_t_b8))
  replace A_b3 := A_b3.other W38 (Nat.ne_of_lt lt_b3_b8)
  replace A_b4 := A_b4.other W38 (Nat.ne_of_lt lt_b4_b8)
  replace A_b9 := A_b9.other W38 (Ne.symm (Nat.ne_of_lt lt_b8_b9))
  replace A_b10 := A_b10.other W38 (Ne.symm (Nat.ne_of_lt lt_b8_b10))
  replace hn := Nat.le_trans hn (Keep.of_wr W38).1
  clear W38 X37 e37
  refine own_gs 251 [(.ref b8)] (fun t' k => XS.aload X38.here hx rfl (hb hby own_dI_249) rfl rfl  k) ?_
  refine own_gs 253 [(.int (4 : Int32)), (.ref b8)] (fun t' k => XS.iload X38.here hx rfl (hb hby own_dI_251) rfl  k) ?_
  refine X38.ldJ hx hZ e38 A_b8 (v := (.long (Int64.ofInt (3 * A)))) 4 (by decide) rfl (hb hby own_dI_253) ?_
  refine own_gs 255 [(.ref t), (.long (Int64.ofInt (3 * A)))] (fun t' k => XS.aloadN X38.here hx rfl (hb hby own_dI_254) rfl rfl  k) ?_
  refine X38.getF hx hZ hown (hw _ (List.mem_of_getElem? (i := 19) rfl)) e38 F_total (hb hby own_dI_255) ?_
  intro T39 X39 e39
  refine own_gs 259 [(.int (lcmpW (Int64.ofInt (3 * A)) (Int64.ofInt (5 * A))))] (fun t' k => XS.lcmp X39.here hx rfl (hb hby own_dI_258) rfl k) ?_
  refine own_gs 262 [] (fun t' k => XS.ifNo X39.here hx rfl (hb hby own_dI_259) rfl ((if0 _ _).trans (tlt ((lw_lt (Int64.ofInt (3 * A)) (Int64.ofInt (5 * A))).mpr (own_olt (show (Int64.ofInt (3 * A)) = (Int64.ofInt (3 * A)) from rfl) (show (Int64.ofInt (5 * A)) = (Int64.ofInt (5 * A)) from rfl) (by omega) (by omega) (by omega)))).2.1) k) ?_
  refine own_go (mkF m 265 #[rv t, rv w, iv (8 : Int32), rv b3, rv b4, jv (Int64.ofInt (5 * A)), .second, rv b8, rv b9, rv b10, iv (2 : Int32), iv (4 : Int32), iv (7 : Int32), iv (4 : Int32)] []) (fun t' k => XS.iinc X39.here hx rfl (hb hby own_dI_262) rfl rfl k) ?_
  refine own_gs 267 [(.ref b9)] (fun t' k => XS.aload X39.here hx rfl (hb hby own_dI_265) rfl rfl  k) ?_
  refine own_gs 269 [(.int (2 : Int32)), (.ref b9)] (fun t' k => XS.iload X39.here hx rfl (hb hby own_dI_267) rfl  k) ?_
  refine own_go (mkF m 272 #[rv t, rv w, iv (8 : Int32), rv b3, rv b4, jv (Int64.ofInt (5 * A)), .second, rv b8, rv b9, rv b10, iv (3 : Int32), iv (4 : Int32), iv (7 : Int32), iv (4 : Int32)] [(.int (2 : Int32)), (.ref b9)]) (fun t' k => XS.iinc X39.here hx rfl (hb hby own_dI_269) rfl rfl k) ?_
  refine own_gs 274 [(.int (4 : Int32)), (.int (2 : Int32)), (.ref b9)] (fun t' k => XS.iload X39.here hx rfl (hb hby own_dI_272) rfl  k) ?_
  refine X39.stI hx hZ e39 A_b9 g_b9 2 (by decide) (Nat.le_of_ble_eq_true rfl) (hb hby own_dI_274) ?_
  intro T40 h40 X40 e40 W40 A40
  replace A_b9 : own_A Z h40 .int b9 [(.int (5 : Int32)), (.int (6 : Int32)), (.int (4 : Int32)), (.int (0 : Int32)), (.int (0 : Int32)), (.int (0 : Int32)), (.int (0 : Int32)), (.int (0 : Int32))] := A40
  clear A40
  replace E_t := E_t.wr W40
  replace A_w := A_w.other W40 (Nat.ne_of_lt lt_w_b9)
  replace F_shift := F_shift.other W40 (Or.inl (Nat.ne_of_lt lt_t_b9))
  replace F_total := F_total.other W40 (Or.inl (Nat.ne_of_lt lt_t_b9))
  replace F_packed := F_packed.other W40 (Or.inl (Nat.ne_of_lt lt_t_b9))
  replace F_thresholds := F_thresholds.other W40 (Or.inl (Nat.ne_of_lt lt_t_b9))
  replace F_aliases := F_aliases.other W40 (Or.inl (Nat.ne_of_lt lt_t_b9))
  replace A_b3 := A_b3.other W40 (Nat.ne_of_lt lt_b3_b9)
  replace A_b4 := A_b4.other W40 (Nat.ne_of_lt lt_b4_b9)
  replace A_b8 := A_b8.other W40 (Nat.ne_of_lt lt_b8_b9)
  replace A_b10 := A_b10.other W40 (Ne.symm (Nat.ne_of_lt lt_b9_b10))
  replace hn := Nat.le_trans hn (Keep.of_wr W40).1
  clear W40 X39 e39
  refine own_gs 186 [] (fun t' k => XS.goto X40.here hx rfl (pc0 := 275) (pc' := 186) rfl (hb hby own_dI_275) (by decide) (by decide) k) ?_
  refine own_gs 188 [(.int (3 : Int32))] (fun t' k => XS.iload X40.here hx rfl (hb hby own_dI_186) rfl  k) ?_
  refine own_gs 191 [] (fun t' k => XS.ifNo X40.here hx rfl (hb hby own_dI_188) rfl ((if0 _ _).trans (tlt (by decide)).2.2.2) k) ?_
  refine own_gs 193 [(.int (4 : Int32))] (fun t' k => XS.iload X40.here hx rfl (hb hby own_dI_191) rfl  k) ?_
  refine own_gs 196 [] (fun t' k => XS.ifNo X40.here hx rfl (hb hby own_dI_193) rfl ((if0 _ _).trans (tlt (by decide)).2.2.2) k) ?_
  refine own_gs 198 [(.ref b9)] (fun t' k => XS.aload X40.here hx rfl (hb hby own_dI_196) rfl rfl  k) ?_
  refine own_go (mkF m 201 #[rv t, rv w, iv (8 : Int32), rv b3, rv b4, jv (Int64.ofInt (5 * A)), .second, rv b8, rv b9, rv b10, iv (2 : Int32), iv (4 : Int32), iv (7 : Int32), iv (4 : Int32)] [(.ref b9)]) (fun t' k => XS.iinc X40.here hx rfl (hb hby own_dI_198) rfl rfl k) ?_
  refine own_gs 203 [(.int (2 : Int32)), (.ref b9)] (fun t' k => XS.iload X40.here hx rfl (hb hby own_dI_201) rfl  k) ?_
  refine X40.ldI hx hZ e40 A_b9 (v := (.int (4 : Int32))) 2 (by decide) rfl (hb hby own_dI_203) ?_
  refine own_go (mkF m 206 #[rv t, rv w, iv (8 : Int32), rv b3, rv b4, jv (Int64.ofInt (5 * A)), .second, rv b8, rv b9, rv b10, iv (2 : Int32), iv (4 : Int32), iv (4 : Int32), iv (4 : Int32)] []) (fun t' k => XS.istore X40.here hx rfl (hb hby own_dI_204) rfl rfl k) ?_
  refine own_gs 208 [(.ref b10)] (fun t' k => XS.aload X40.here hx rfl (hb hby own_dI_206) rfl rfl  k) ?_
  refine own_gs 210 [(.int (4 : Int32)), (.ref b10)] (fun t' k => XS.iload X40.here hx rfl (hb hby own_dI_208) rfl  k) ?_
  refine own_gs 211 [(.int (1 : Int32)), (.int (4 : Int32)), (.ref b10)] (fun t' k => XS.iconst X40.here hx rfl (hb hby own_dI_210) k) ?_
  refine own_gs 212 [(.int (3 : Int32)), (.ref b10)] (fun t' k => XS.isub X40.here hx rfl (hb hby own_dI_211) rfl k) ?_
  refine X40.ldI hx hZ e40 A_b10 (v := (.int (3 : Int32))) 3 (by decide) rfl (hb hby own_dI_212) ?_
  refine own_go (mkF m 215 #[rv t, rv w, iv (8 : Int32), rv b3, rv b4, jv (Int64.ofInt (5 * A)), .second, rv b8, rv b9, rv b10, iv (2 : Int32), iv (4 : Int32), iv (4 : Int32), iv (3 : Int32)] []) (fun t' k => XS.istore X40.here hx rfl (hb hby own_dI_213) rfl rfl k) ?_
  refine own_gs 216 [(.ref b3)] (fun t' k => XS.aloadN X40.here hx rfl (hb hby own_dI_215) rfl rfl  k) ?_
  refine own_gs 218 [(.int (4 : Int32)), (.ref b3)] (fun t' k => XS.iload X40.here hx rfl (hb hby own_dI_216) rfl  k) ?_
  refine own_gs 220 [(.ref b8), (.int (4 : Int32)), (.ref b3)] (fun t' k => XS.aload X40.here hx rfl (hb hby own_dI_218) rfl rfl  k) ?_
  refine own_gs 222 [(.int (4 : Int32)), (.ref b8), (.int (4 : Int32)), (.ref b3)] (fun t' k => XS.iload X40.here hx rfl (hb hby own_dI_220) rfl  k) ?_
  refine X40.ldJ hx hZ e40 A_b8 (v := (.long (Int64.ofInt (3 * A)))) 4 (by decide) rfl (hb hby own_dI_222) ?_
  refine X40.stJ hx hZ e40 A_b3 g_b3 4 (by decide) (Nat.le_of_ble_eq_true rfl) (hb hby own_dI_223) ?_
  intro T41 h41 X41 e41 W41 A41
  replace A_b3 : own_A Z h41 .long b3 [(.long (0 : Int64)), (.long (0 : Int64)), (.long (0 : Int64)), (.long (0 : Int64)), (.long (Int64.ofInt (3 * A))), (.long (0 : Int64)), (.long (0 : Int64)), (.long (0 : Int64))] := A41
  clear A41
  replace E_t := E_t.wr W41
  replace A_w := A_w.other W41 (Nat.ne_of_lt lt_w_b3)
  replace F_shift := F_shift.other W41 (Or.inl (Nat.ne_of_lt lt_t_b3))
  replace F_total := F_total.other W41 (Or.inl (Nat.ne_of_lt lt_t_b3))
  replace F_packed := F_packed.other W41 (Or.inl (Nat.ne_of_lt lt_t_b3))
  replace F_thresholds := F_thresholds.other W41 (Or.inl (Nat.ne_of_lt lt_t_b3))
  replace F_aliases := F_aliases.other W41 (Or.inl (Nat.ne_of_lt lt_t_b3))
  replace A_b4 := A_b4.other W41 (Ne.symm (Nat.ne_of_lt lt_b3_b4))
  replace A_b8 := A_b8.other W41 (Ne.symm (Nat.ne_of_lt lt_b3_b8))
  replace A_b9 := A_b9.other W41 (Ne.symm (Nat.ne_of_lt lt_b3_b9))
  replace A_b10 := A_b10.other W41 (Ne.symm (Nat.ne_of_lt lt_b3_b10))
  replace hn := Nat.le_trans hn (Keep.of_wr W41).1
  clear W41 X40 e40
  refine own_gs 226 [(.ref b4)] (fun t' k => XS.aload X41.here hx rfl (hb hby own_dI_224) rfl rfl  k) ?_
  refine own_gs 228 [(.int (4 : Int32)), (.ref b4)] (fun t' k => XS.iload X41.here hx rfl (hb hby own_dI_226) rfl  k) ?_
  refine own_gs 230 [(.int (3 : Int32)), (.int (4 : Int32)), (.ref b4)] (fun t' k => XS.iload X41.here hx rfl (hb hby own_dI_228) rfl  k) ?_
  refine X41.stI hx hZ e41 A_b4 g_b4 4 (by decide) (Nat.le_of_ble_eq_true rfl) (hb hby own_dI_230) ?_
  intro T42 h42 X42 e42 W42 A42
  replace A_b4 : own_A Z h42 .int b4 [(.int (0 : Int32)), (.int (0 : Int32)), (.int (0 : Int32)), (.int (0 : Int32)), (.int (3 : Int32)), (.int (0 : Int32)), (.int (0 : Int32)), (.int (4 : Int32))] := A42
  clear A42
  replace E_t := E_t.wr W42
  replace A_w := A_w.other W42 (Nat.ne_of_lt lt_w_b4)
  replace F_shift := F_shift.other W42 (Or.inl (Nat.ne_of_lt lt_t_b4))
  replace F_total := F_total.other W42 (Or.inl (Nat.ne_of_lt lt_t_b4))
  replace F_packed := F_packed.other W42 (Or.inl (Nat.ne_of_lt lt_t_b4))
  replace F_thresholds := F_thresholds.other W42 (Or.inl (Nat.ne_of_lt lt_t_b4))
  replace F_aliases := F_aliases.other W42 (Or.inl (Nat.ne_of_lt lt_t_b4))
  replace A_b3 := A_b3.other W42 (Nat.ne_of_lt lt_b3_b4)
  replace A_b8 := A_b8.other W42 (Ne.symm (Nat.ne_of_lt lt_b4_b8))
  replace A_b9 := A_b9.other W42 (Ne.symm (Nat.ne_of_lt lt_b4_b9))
  replace A_b10 := A_b10.other W42 (Ne.symm (Nat.ne_of_lt lt_b4_b10))
  replace hn := Nat.le_trans hn (Keep.of_wr W42).1
  clear W42 X41 e41
  refine own_gs 233 [(.ref b8)] (fun t' k => XS.aload X42.here hx rfl (hb hby own_dI_231) rfl rfl  k) ?_
  refine own_gs 235 [(.int (3 : Int32)), (.ref b8)] (fun t' k => XS.iload X42.here hx rfl (hb hby own_dI_233) rfl  k) ?_
  refine own_gs 236 [(.int (3 : Int32)), (.ref b8), (.int (3 : Int32)), (.ref b8)] (fun t' k => Jvm.Free.XT.dup2 X42.here hx rfl (hb hby own_dI_235) rfl rfl rfl k) ?_
  refine X42.ldJ hx hZ e42 A_b8 (v := (.long (Int64.ofInt (8 * A)))) 3 (by decide) rfl (hb hby own_dI_236) ?_
  refine own_gs 238 [(.ref t), (.long (Int64.ofInt (8 * A))), (.int (3 : Int32)), (.ref b8)] (fun t' k => XS.aloadN X42.here hx rfl (hb hby own_dI_237) rfl rfl  k) ?_
  refine X42.getF hx hZ hown (hw _ (List.mem_of_getElem? (i := 19) rfl)) e42 F_total (hb hby own_dI_238) ?_
  intro T43 X43 e43
  refine own_gs 243 [(.ref b8), (.long (Int64.ofInt (5 * A))), (.long (Int64.ofInt (8 * A))), (.int (3 : Int32)), (.ref b8)] (fun t' k => XS.aload X43.here hx rfl (hb hby own_dI_241) rfl rfl  k) ?_
  refine own_gs 245 [(.int (4 : Int32)), (.ref b8), (.long (Int64.ofInt (5 * A))), (.long (Int64.ofInt (8 * A))), (.int (3 : Int32)), (.ref b8)] (fun t' k => XS.iload X43.here hx rfl (hb hby own_dI_243) rfl  k) ?_
  refine X43.ldJ hx hZ e43 A_b8 (v := (.long (Int64.ofInt (3 * A)))) 4 (by decide) rfl (hb hby own_dI_245) ?_
  refine own_gs 247 [(.long ((Int64.ofInt (5 * A)) - (Int64.ofInt (3 * A)))), (.long (Int64.ofInt (8 * A))), (.int (3 : Int32)), (.ref b8)] (fun t' k => XS.lsub X43.here hx rfl (hb hby own_dI_246) rfl k) ?_
  rw [own_osub (z := 2 * A) (show (Int64.ofInt (5 * A)) = (Int64.ofInt (5 * A)) from rfl) (show (Int64.ofInt (3 * A)) = (Int64.ofInt (3 * A)) from rfl) (by omega)]
  refine own_gs 248 [(.long ((Int64.ofInt (8 * A)) - (Int64.ofInt (2 * A)))), (.int (3 : Int32)), (.ref b8)] (fun t' k => XS.lsub X43.here hx rfl (hb hby own_dI_247) rfl k) ?_
  rw [own_osub (z := 6 * A) (show (Int64.ofInt (8 * A)) = (Int64.ofInt (8 * A)) from rfl) (show (Int64.ofInt (2 * A)) = (Int64.ofInt (2 * A)) from rfl) (by omega)]
  refine X43.stJ hx hZ e43 A_b8 g_b8 3 (by decide) (Nat.le_of_ble_eq_true rfl) (hb hby own_dI_248) ?_
  intro T44 h44 X44 e44 W44 A44
  replace A_b8 : own_A Z h44 .long b8 [(.long (Int64.ofInt (8 * A))), (.long (Int64.ofInt (8 * A))), (.long (Int64.ofInt (8 * A))), (.long (Int64.ofInt (6 * A))), (.long (Int64.ofInt (3 * A))), (.long (0 : Int64)), (.long (0 : Int64)), (.long (0 : Int64))] := A44
  clear A44
  replace E_t := E_t.wr W44
  replace A_w := A_w.other W44 (Nat.ne_of_lt lt_w_b8)
  replace F_shift := F_shift.other W44 (Or.inl (Nat.ne_of_lt lt_t_b8))
  replace F_total := F_total.other W44 (Or.inl (Nat.ne_of_lt lt_t_b8))
  replace F_packed := F_packed.other W44 (Or.inl (Nat.ne_of_lt lt_t_b8))
  replace F_thresholds := F_thresholds.other W44 (Or.inl (Nat.ne_of_lt lt_t_b8))
  replace F_aliases := F_aliases.other W44 (Or.inl (Nat.ne_of_lt lt_t_b8))
  replace A_b3 := A_b3.other W44 (Nat.ne_of_lt lt_b3_b8)
  replace A_b4 := A_b4.other W44 (Nat.ne_of_lt lt_b4_b8)
  replace A_b9 := A_b9.other W44 (Ne.symm (Nat.ne_of_lt lt_b8_b9))
  replace A_b10 := A_b10.other W44 (Ne.symm (Nat.ne_of_lt lt_b8_b10))
  replace hn := Nat.le_trans hn (Keep.of_wr W44).1
  clear W44 X43 e43
  refine own_gs 251 [(.ref b8)] (fun t' k => XS.aload X44.here hx rfl (hb hby own_dI_249) rfl rfl  k) ?_
  refine own_gs 253 [(.int (3 : Int32)), (.ref b8)] (fun t' k => XS.iload X44.here hx rfl (hb hby own_dI_251) rfl  k) ?_
  refine X44.ldJ hx hZ e44 A_b8 (v := (.long (Int64.ofInt (6 * A)))) 3 (by decide) rfl (hb hby own_dI_253) ?_
  refine own_gs 255 [(.ref t), (.long (Int64.ofInt (6 * A)))] (fun t' k => XS.aloadN X44.here hx rfl (hb hby own_dI_254) rfl rfl  k) ?_
  refine X44.getF hx hZ hown (hw _ (List.mem_of_getElem? (i := 19) rfl)) e44 F_total (hb hby own_dI_255) ?_
  intro T45 X45 e45
  refine own_gs 259 [(.int (lcmpW (Int64.ofInt (6 * A)) (Int64.ofInt (5 * A))))] (fun t' k => XS.lcmp X45.here hx rfl (hb hby own_dI_258) rfl k) ?_
  refine own_gs 275 [] (fun t' k => XS.ifYes X45.here hx rfl (pc0 := 259) (pc' := 275) rfl (hb hby own_dI_259) rfl ((if0 _ _).trans (flt (fun q => (own_onl (show (Int64.ofInt (6 * A)) = (Int64.ofInt (6 * A)) from rfl) (show (Int64.ofInt (5 * A)) = (Int64.ofInt (5 * A)) from rfl) (by omega) (by omega) (by omega)) ((lw_lt (Int64.ofInt (6 * A)) (Int64.ofInt (5 * A))).mp q))).2.1) (by decide) (by decide) k) ?_
  refine own_gs 186 [] (fun t' k => XS.goto X45.here hx rfl (pc0 := 275) (pc' := 186) rfl (hb hby own_dI_275) (by decide) (by decide) k) ?_
  refine own_gs 188 [(.int (2 : Int32))] (fun t' k => XS.iload X45.here hx rfl (hb hby own_dI_186) rfl  k) ?_
  refine own_gs 191 [] (fun t' k => XS.ifNo X45.here hx rfl (hb hby own_dI_188) rfl ((if0 _ _).trans (tlt (by decide)).2.2.2) k) ?_
  refine own_gs 193 [(.int (4 : Int32))] (fun t' k => XS.iload X45.here hx rfl (hb hby own_dI_191) rfl  k) ?_
  refine own_gs 196 [] (fun t' k => XS.ifNo X45.here hx rfl (hb hby own_dI_193) rfl ((if0 _ _).trans (tlt (by decide)).2.2.2) k) ?_
  refine own_gs 198 [(.ref b9)] (fun t' k => XS.aload X45.here hx rfl (hb hby own_dI_196) rfl rfl  k) ?_
  refine own_go (mkF m 201 #[rv t, rv w, iv (8 : Int32), rv b3, rv b4, jv (Int64.ofInt (5 * A)), .second, rv b8, rv b9, rv b10, iv (1 : Int32), iv (4 : Int32), iv (4 : Int32), iv (3 : Int32)] [(.ref b9)]) (fun t' k => XS.iinc X45.here hx rfl (hb hby own_dI_198) rfl rfl k) ?_
  refine own_gs 203 [(.int (1 : Int32)), (.ref b9)] (fun t' k => XS.iload X45.here hx rfl (hb hby own_dI_201) rfl  k) ?_
  refine X45.ldI hx hZ e45 A_b9 (v := (.int (6 : Int32))) 1 (by decide) rfl (hb hby own_dI_203) ?_
  refine own_go (mkF m 206 #[rv t, rv w, iv (8 : Int32), rv b3, rv b4, jv (Int64.ofInt (5 * A)), .second, rv b8, rv b9, rv b10, iv (1 : Int32), iv (4 : Int32), iv (6 : Int32), iv (3 : Int32)] []) (fun t' k => XS.istore X45.here hx rfl (hb hby own_dI_204) rfl rfl k) ?_
  refine own_gs 208 [(.ref b10)] (fun t' k => XS.aload X45.here hx rfl (hb hby own_dI_206) rfl rfl  k) ?_
  refine own_gs 210 [(.int (4 : Int32)), (.ref b10)] (fun t' k => XS.iload X45.here hx rfl (hb hby own_dI_208) rfl  k) ?_
  refine own_gs 211 [(.int (1 : Int32)), (.int (4 : Int32)), (.ref b10)] (fun t' k => XS.iconst X45.here hx rfl (hb hby own_dI_210) k) ?_
  refine own_gs 212 [(.int (3 : Int32)), (.ref b10)] (fun t' k => XS.isub X45.here hx rfl (hb hby own_dI_211) rfl k) ?_
  refine X45.ldI hx hZ e45 A_b10 (v := (.int (3 : Int32))) 3 (by decide) rfl (hb hby own_dI_212) ?_
  refine own_gs 215 [] (fun t' k => XS.istore X45.here hx rfl (hb hby own_dI_213) rfl rfl k) ?_
  refine own_gs 216 [(.ref b3)] (fun t' k => XS.aloadN X45.here hx rfl (hb hby own_dI_215) rfl rfl  k) ?_
  refine own_gs 218 [(.int (6 : Int32)), (.ref b3)] (fun t' k => XS.iload X45.here hx rfl (hb hby own_dI_216) rfl  k) ?_
  refine own_gs 220 [(.ref b8), (.int (6 : Int32)), (.ref b3)] (fun t' k => XS.aload X45.here hx rfl (hb hby own_dI_218) rfl rfl  k) ?_
  refine own_gs 222 [(.int (6 : Int32)), (.ref b8), (.int (6 : Int32)), (.ref b3)] (fun t' k => XS.iload X45.here hx rfl (hb hby own_dI_220) rfl  k) ?_
  refine X45.ldJ hx hZ e45 A_b8 (v := (.long (0 : Int64))) 6 (by decide) rfl (hb hby own_dI_222) ?_
  refine X45.stJ hx hZ e45 A_b3 g_b3 6 (by decide) (Nat.le_of_ble_eq_true rfl) (hb hby own_dI_223) ?_
  intro T46 h46 X46 e46 W46 A46
  replace A_b3 : own_A Z h46 .long b3 [(.long (0 : Int64)), (.long (0 : Int64)), (.long (0 : Int64)), (.long (0 : Int64)), (.long (Int64.ofInt (3 * A))), (.long (0 : Int64)), (.long (0 : Int64)), (.long (0 : Int64))] := A46
  clear A46
  replace E_t := E_t.wr W46
  replace A_w := A_w.other W46 (Nat.ne_of_lt lt_w_b3)
  replace F_shift := F_shift.other W46 (Or.inl (Nat.ne_of_lt lt_t_b3))
  replace F_total := F_total.other W46 (Or.inl (Nat.ne_of_lt lt_t_b3))
  replace F_packed := F_packed.other W46 (Or.inl (Nat.ne_of_lt lt_t_b3))
  replace F_thresholds := F_thresholds.other W46 (Or.inl (Nat.ne_of_lt lt_t_b3))
  replace F_aliases := F_aliases.other W46 (Or.inl (Nat.ne_of_lt lt_t_b3))
  replace A_b4 := A_b4.other W46 (Ne.symm (Nat.ne_of_lt lt_b3_b4))
  replace A_b8 := A_b8.other W46 (Ne.symm (Nat.ne_of_lt lt_b3_b8))
  replace A_b9 := A_b9.other W46 (Ne.symm (Nat.ne_of_lt lt_b3_b9))
  replace A_b10 := A_b10.other W46 (Ne.symm (Nat.ne_of_lt lt_b3_b10))
  replace hn := Nat.le_trans hn (Keep.of_wr W46).1
  clear W46 X45 e45
  refine own_gs 226 [(.ref b4)] (fun t' k => XS.aload X46.here hx rfl (hb hby own_dI_224) rfl rfl  k) ?_
  refine own_gs 228 [(.int (6 : Int32)), (.ref b4)] (fun t' k => XS.iload X46.here hx rfl (hb hby own_dI_226) rfl  k) ?_
  refine own_gs 230 [(.int (3 : Int32)), (.int (6 : Int32)), (.ref b4)] (fun t' k => XS.iload X46.here hx rfl (hb hby own_dI_228) rfl  k) ?_
  refine X46.stI hx hZ e46 A_b4 g_b4 6 (by decide) (Nat.le_of_ble_eq_true rfl) (hb hby own_dI_230) ?_
  intro T47 h47 X47 e47 W47 A47
  replace A_b4 : own_A Z h47 .int b4 [(.int (0 : Int32)), (.int (0 : Int32)), (.int (0 : Int32)), (.int (0 : Int32)), (.int (3 : Int32)), (.int (0 : Int32)), (.int (3 : Int32)), (.int (4 : Int32))] := A47
  clear A47
  replace E_t := E_t.wr W47
  replace A_w := A_w.other W47 (Nat.ne_of_lt lt_w_b4)
  replace F_shift := F_shift.other W47 (Or.inl (Nat.ne_of_lt lt_t_b4))
  replace F_total := F_total.other W47 (Or.inl (Nat.ne_of_lt lt_t_b4))
  replace F_packed := F_packed.other W47 (Or.inl (Nat.ne_of_lt lt_t_b4))
  replace F_thresholds := F_thresholds.other W47 (Or.inl (Nat.ne_of_lt lt_t_b4))
  replace F_aliases := F_aliases.other W47 (Or.inl (Nat.ne_of_lt lt_t_b4))
  replace A_b3 := A_b3.other W47 (Nat.ne_of_lt lt_b3_b4)
  replace A_b8 := A_b8.other W47 (Ne.symm (Nat.ne_of_lt lt_b4_b8))
  replace A_b9 := A_b9.other W47 (Ne.symm (Nat.ne_of_lt lt_b4_b9))
  replace A_b10 := A_b10.other W47 (Ne.symm (Nat.ne_of_lt lt_b4_b10))
  replace hn := Nat.le_trans hn (Keep.of_wr W47).1
  clear W47 X46 e46
  refine own_gs 233 [(.ref b8)] (fun t' k => XS.aload X47.here hx rfl (hb hby own_dI_231) rfl rfl  k) ?_
  refine own_gs 235 [(.int (3 : Int32)), (.ref b8)] (fun t' k => XS.iload X47.here hx rfl (hb hby own_dI_233) rfl  k) ?_
  refine own_gs 236 [(.int (3 : Int32)), (.ref b8), (.int (3 : Int32)), (.ref b8)] (fun t' k => Jvm.Free.XT.dup2 X47.here hx rfl (hb hby own_dI_235) rfl rfl rfl k) ?_
  refine X47.ldJ hx hZ e47 A_b8 (v := (.long (Int64.ofInt (6 * A)))) 3 (by decide) rfl (hb hby own_dI_236) ?_
  refine own_gs 238 [(.ref t), (.long (Int64.ofInt (6 * A))), (.int (3 : Int32)), (.ref b8)] (fun t' k => XS.aloadN X47.here hx rfl (hb hby own_dI_237) rfl rfl  k) ?_
  refine X47.getF hx hZ hown (hw _ (List.mem_of_getElem? (i := 19) rfl)) e47 F_total (hb hby own_dI_238) ?_
  intro T48 X48 e48
  refine own_gs 243 [(.ref b8), (.long (Int64.ofInt (5 * A))), (.long (Int64.ofInt (6 * A))), (.int (3 : Int32)), (.ref b8)] (fun t' k => XS.aload X48.here hx rfl (hb hby own_dI_241) rfl rfl  k) ?_
  refine own_gs 245 [(.int (6 : Int32)), (.ref b8), (.long (Int64.ofInt (5 * A))), (.long (Int64.ofInt (6 * A))), (.int (3 : Int32)), (.ref b8)] (fun t' k => XS.iload X48.here hx rfl (hb hby own_dI_243) rfl  k) ?_
  refine X48.ldJ hx hZ e48 A_b8 (v := (.long (0 : Int64))) 6 (by decide) rfl (hb hby own_dI_245) ?_
  refine own_gs 247 [(.long ((Int64.ofInt (5 * A)) - (0 : Int64))), (.long (Int64.ofInt (6 * A))), (.int (3 : Int32)), (.ref b8)] (fun t' k => XS.lsub X48.here hx rfl (hb hby own_dI_246) rfl k) ?_
  rw [own_osub (z := 5 * A) (show (Int64.ofInt (5 * A)) = (Int64.ofInt (5 * A)) from rfl) (show (0 : Int64) = Int64.ofInt (0) from rfl) (by omega)]
  refine own_gs 248 [(.long ((Int64.ofInt (6 * A)) - (Int64.ofInt (5 * A)))), (.int (3 : Int32)), (.ref b8)] (fun t' k => XS.lsub X48.here hx rfl (hb hby own_dI_247) rfl k) ?_
  rw [own_osub (z := A) (show (Int64.ofInt (6 * A)) = (Int64.ofInt (6 * A)) from rfl) (show (Int64.ofInt (5 * A)) = (Int64.ofInt (5 * A)) from rfl) (by omega)]
  refine X48.stJ hx hZ e48 A_b8 g_b8 3 (by decide) (Nat.le_of_ble_eq_true rfl) (hb hby own_dI_248) ?_
  intro T49 h49 X49 e49 W49 A49
  replace A_b8 : own_A Z h49 .long b8 [(.long (Int64.ofInt (8 * A))), (.long (Int64.ofInt (8 * A))), (.long (Int64.ofInt (8 * A))), (.long (Int64.ofInt (A))), (.long (Int64.ofInt (3 * A))), (.long (0 : Int64)), (.long (0 : Int64)), (.long (0 : Int64))] := A49
  clear A49
  replace E_t := E_t.wr W49
  replace A_w := A_w.other W49 (Nat.ne_of_lt lt_w_b8)
  replace F_shift := F_shift.other W49 (Or.inl (Nat.ne_of_lt lt_t_b8))
  replace F_total := F_total.other W49 (Or.inl (Nat.ne_of_lt lt_t_b8))
  replace F_packed := F_packed.other W49 (Or.inl (Nat.ne_of_lt lt_t_b8))
  replace F_thresholds := F_thresholds.other W49 (Or.inl (Nat.ne_of_lt lt_t_b8))
  replace F_aliases := F_aliases.other W49 (Or.inl (Nat.ne_of_lt lt_t_b8))
  replace A_b3 := A_b3.other W49 (Nat.ne_of_lt lt_b3_b8)
  replace A_b4 := A_b4.other W49 (Nat.ne_of_lt lt_b4_b8)
  replace A_b9 := A_b9.other W49 (Ne.symm (Nat.ne_of_lt lt_b8_b9))
  replace A_b10 := A_b10.other W49 (Ne.symm (Nat.ne_of_lt lt_b8_b10))
  replace hn := Nat.le_trans hn (Keep.of_wr W49).1
  clear W49 X48 e48
  refine own_gs 251 [(.ref b8)] (fun t' k => XS.aload X49.here hx rfl (hb hby own_dI_249) rfl rfl  k) ?_
  refine own_gs 253 [(.int (3 : Int32)), (.ref b8)] (fun t' k => XS.iload X49.here hx rfl (hb hby own_dI_251) rfl  k) ?_
  refine X49.ldJ hx hZ e49 A_b8 (v := (.long (Int64.ofInt (A)))) 3 (by decide) rfl (hb hby own_dI_253) ?_
  refine own_gs 255 [(.ref t), (.long (Int64.ofInt (A)))] (fun t' k => XS.aloadN X49.here hx rfl (hb hby own_dI_254) rfl rfl  k) ?_
  refine X49.getF hx hZ hown (hw _ (List.mem_of_getElem? (i := 19) rfl)) e49 F_total (hb hby own_dI_255) ?_
  intro T50 X50 e50
  refine own_gs 259 [(.int (lcmpW (Int64.ofInt (A)) (Int64.ofInt (5 * A))))] (fun t' k => XS.lcmp X50.here hx rfl (hb hby own_dI_258) rfl k) ?_
  refine own_gs 262 [] (fun t' k => XS.ifNo X50.here hx rfl (hb hby own_dI_259) rfl ((if0 _ _).trans (tlt ((lw_lt (Int64.ofInt (A)) (Int64.ofInt (5 * A))).mpr (own_olt (show (Int64.ofInt (A)) = (Int64.ofInt (A)) from rfl) (show (Int64.ofInt (5 * A)) = (Int64.ofInt (5 * A)) from rfl) (by omega) (by omega) (by omega)))).2.1) k) ?_
  refine own_go (mkF m 265 #[rv t, rv w, iv (8 : Int32), rv b3, rv b4, jv (Int64.ofInt (5 * A)), .second, rv b8, rv b9, rv b10, iv (1 : Int32), iv (3 : Int32), iv (6 : Int32), iv (3 : Int32)] []) (fun t' k => XS.iinc X50.here hx rfl (hb hby own_dI_262) rfl rfl k) ?_
  refine own_gs 267 [(.ref b9)] (fun t' k => XS.aload X50.here hx rfl (hb hby own_dI_265) rfl rfl  k) ?_
  refine own_gs 269 [(.int (1 : Int32)), (.ref b9)] (fun t' k => XS.iload X50.here hx rfl (hb hby own_dI_267) rfl  k) ?_
  refine own_go (mkF m 272 #[rv t, rv w, iv (8 : Int32), rv b3, rv b4, jv (Int64.ofInt (5 * A)), .second, rv b8, rv b9, rv b10, iv (2 : Int32), iv (3 : Int32), iv (6 : Int32), iv (3 : Int32)] [(.int (1 : Int32)), (.ref b9)]) (fun t' k => XS.iinc X50.here hx rfl (hb hby own_dI_269) rfl rfl k) ?_
  refine own_gs 274 [(.int (3 : Int32)), (.int (1 : Int32)), (.ref b9)] (fun t' k => XS.iload X50.here hx rfl (hb hby own_dI_272) rfl  k) ?_
  refine X50.stI hx hZ e50 A_b9 g_b9 1 (by decide) (Nat.le_of_ble_eq_true rfl) (hb hby own_dI_274) ?_
  intro T51 h51 X51 e51 W51 A51
  replace A_b9 : own_A Z h51 .int b9 [(.int (5 : Int32)), (.int (3 : Int32)), (.int (4 : Int32)), (.int (0 : Int32)), (.int (0 : Int32)), (.int (0 : Int32)), (.int (0 : Int32)), (.int (0 : Int32))] := A51
  clear A51
  replace E_t := E_t.wr W51
  replace A_w := A_w.other W51 (Nat.ne_of_lt lt_w_b9)
  replace F_shift := F_shift.other W51 (Or.inl (Nat.ne_of_lt lt_t_b9))
  replace F_total := F_total.other W51 (Or.inl (Nat.ne_of_lt lt_t_b9))
  replace F_packed := F_packed.other W51 (Or.inl (Nat.ne_of_lt lt_t_b9))
  replace F_thresholds := F_thresholds.other W51 (Or.inl (Nat.ne_of_lt lt_t_b9))
  replace F_aliases := F_aliases.other W51 (Or.inl (Nat.ne_of_lt lt_t_b9))
  replace A_b3 := A_b3.other W51 (Nat.ne_of_lt lt_b3_b9)
  replace A_b4 := A_b4.other W51 (Nat.ne_of_lt lt_b4_b9)
  replace A_b8 := A_b8.other W51 (Nat.ne_of_lt lt_b8_b9)
  replace A_b10 := A_b10.other W51 (Ne.symm (Nat.ne_of_lt lt_b9_b10))
  replace hn := Nat.le_trans hn (Keep.of_wr W51).1
  clear W51 X50 e50
  refine own_gs 186 [] (fun t' k => XS.goto X51.here hx rfl (pc0 := 275) (pc' := 186) rfl (hb hby own_dI_275) (by decide) (by decide) k) ?_
  refine own_gs 188 [(.int (2 : Int32))] (fun t' k => XS.iload X51.here hx rfl (hb hby own_dI_186) rfl  k) ?_
  refine own_gs 191 [] (fun t' k => XS.ifNo X51.here hx rfl (hb hby own_dI_188) rfl ((if0 _ _).trans (tlt (by decide)).2.2.2) k) ?_
  refine own_gs 193 [(.int (3 : Int32))] (fun t' k => XS.iload X51.here hx rfl (hb hby own_dI_191) rfl  k) ?_
  refine own_gs 196 [] (fun t' k => XS.ifNo X51.here hx rfl (hb hby own_dI_193) rfl ((if0 _ _).trans (tlt (by decide)).2.2.2) k) ?_
  refine own_gs 198 [(.ref b9)] (fun t' k => XS.aload X51.here hx rfl (hb hby own_dI_196) rfl rfl  k) ?_
  refine own_go (mkF m 201 #[rv t, rv w, iv (8 : Int32), rv b3, rv b4, jv (Int64.ofInt (5 * A)), .second, rv b8, rv b9, rv b10, iv (1 : Int32), iv (3 : Int32), iv (6 : Int32), iv (3 : Int32)] [(.ref b9)]) (fun t' k => XS.iinc X51.here hx rfl (hb hby own_dI_198) rfl rfl k) ?_
  refine own_gs 203 [(.int (1 : Int32)), (.ref b9)] (fun t' k => XS.iload X51.here hx rfl (hb hby own_dI_201) rfl  k) ?_
  refine X51.ldI hx hZ e51 A_b9 (v := (.int (3 : Int32))) 1 (by decide) rfl (hb hby own_dI_203) ?_
  refine own_go (mkF m 206 #[rv t, rv w, iv (8 : Int32), rv b3, rv b4, jv (Int64.ofInt (5 * A)), .second, rv b8, rv b9, rv b10, iv (1 : Int32), iv (3 : Int32), iv (3 : Int32), iv (3 : Int32)] []) (fun t' k => XS.istore X51.here hx rfl (hb hby own_dI_204) rfl rfl k) ?_
  refine own_gs 208 [(.ref b10)] (fun t' k => XS.aload X51.here hx rfl (hb hby own_dI_206) rfl rfl  k) ?_
  refine own_gs 210 [(.int (3 : Int32)), (.ref b10)] (fun t' k => XS.iload X51.here hx rfl (hb hby own_dI_208) rfl  k) ?_
  refine own_gs 211 [(.int (1 : Int32)), (.int (3 : Int32)), (.ref b10)] (fun t' k => XS.iconst X51.here hx rfl (hb hby own_dI_210) k) ?_
  refine own_gs 212 [(.int (2 : Int32)), (.ref b10)] (fun t' k => XS.isub X51.here hx rfl (hb hby own_dI_211) rfl k) ?_
  refine X51.ldI hx hZ e51 A_b10 (v := (.int (2 : Int32))) 2 (by decide) rfl (hb hby own_dI_212) ?_
  refine own_go (mkF m 215 #[rv t, rv w, iv (8 : Int32), rv b3, rv b4, jv (Int64.ofInt (5 * A)), .second, rv b8, rv b9, rv b10, iv (1 : Int32), iv (3 : Int32), iv (3 : Int32), iv (2 : Int32)] []) (fun t' k => XS.istore X51.here hx rfl (hb hby own_dI_213) rfl rfl k) ?_
  refine own_gs 216 [(.ref b3)] (fun t' k => XS.aloadN X51.here hx rfl (hb hby own_dI_215) rfl rfl  k) ?_
  refine own_gs 218 [(.int (3 : Int32)), (.ref b3)] (fun t' k => XS.iload X51.here hx rfl (hb hby own_dI_216) rfl  k) ?_
  refine own_gs 220 [(.ref b8), (.int (3 : Int32)), (.ref b3)] (fun t' k => XS.aload X51.here hx rfl (hb hby own_dI_218) rfl rfl  k) ?_
  refine own_gs 222 [(.int (3 : Int32)), (.ref b8), (.int (3 : Int32)), (.ref b3)] (fun t' k => XS.iload X51.here hx rfl (hb hby own_dI_220) rfl  k) ?_
  refine X51.ldJ hx hZ e51 A_b8 (v := (.long (Int64.ofInt (A)))) 3 (by decide) rfl (hb hby own_dI_222) ?_
  refine X51.stJ hx hZ e51 A_b3 g_b3 3 (by decide) (Nat.le_of_ble_eq_true rfl) (hb hby own_dI_223) ?_
  intro T52 h52 X52 e52 W52 A52
  replace A_b3 : own_A Z h52 .long b3 [(.long (0 : Int64)), (.long (0 : Int64)), (.long (0 : Int64)), (.long (Int64.ofInt (A))), (.long (Int64.ofInt (3 * A))), (.long (0 : Int64)), (.long (0 : Int64)), (.long (0 : Int64))] := A52
  clear A52
  replace E_t := E_t.wr W52
  replace A_w := A_w.other W52 (Nat.ne_of_lt lt_w_b3)
  replace F_shift := F_shift.other W52 (Or.inl (Nat.ne_of_lt lt_t_b3))
  replace F_total := F_total.other W52 (Or.inl (Nat.ne_of_lt lt_t_b3))
  replace F_packed := F_packed.other W52 (Or.inl (Nat.ne_of_lt lt_t_b3))
  replace F_thresholds := F_thresholds.other W52 (Or.inl (Nat.ne_of_lt lt_t_b3))
  replace F_aliases := F_aliases.other W52 (Or.inl (Nat.ne_of_lt lt_t_b3))
  replace A_b4 := A_b4.other W52 (Ne.symm (Nat.ne_of_lt lt_b3_b4))
  replace A_b8 := A_b8.other W52 (Ne.symm (Nat.ne_of_lt lt_b3_b8))
  replace A_b9 := A_b9.other W52 (Ne.symm (Nat.ne_of_lt lt_b3_b9))
  replace A_b10 := A_b10.other W52 (Ne.symm (Nat.ne_of_lt lt_b3_b10))
  replace hn := Nat.le_trans hn (Keep.of_wr W52).1
  clear W52 X51 e51
  refine own_gs 226 [(.ref b4)] (fun t' k => XS.aload X52.here hx rfl (hb hby own_dI_224) rfl rfl  k) ?_
  refine own_gs 228 [(.int (3 : Int32)), (.ref b4)] (fun t' k => XS.iload X52.here hx rfl (hb hby own_dI_226) rfl  k) ?_
  refine own_gs 230 [(.int (2 : Int32)), (.int (3 : Int32)), (.ref b4)] (fun t' k => XS.iload X52.here hx rfl (hb hby own_dI_228) rfl  k) ?_
  refine X52.stI hx hZ e52 A_b4 g_b4 3 (by decide) (Nat.le_of_ble_eq_true rfl) (hb hby own_dI_230) ?_
  intro T53 h53 X53 e53 W53 A53
  replace A_b4 : own_A Z h53 .int b4 [(.int (0 : Int32)), (.int (0 : Int32)), (.int (0 : Int32)), (.int (2 : Int32)), (.int (3 : Int32)), (.int (0 : Int32)), (.int (3 : Int32)), (.int (4 : Int32))] := A53
  clear A53
  replace E_t := E_t.wr W53
  replace A_w := A_w.other W53 (Nat.ne_of_lt lt_w_b4)
  replace F_shift := F_shift.other W53 (Or.inl (Nat.ne_of_lt lt_t_b4))
  replace F_total := F_total.other W53 (Or.inl (Nat.ne_of_lt lt_t_b4))
  replace F_packed := F_packed.other W53 (Or.inl (Nat.ne_of_lt lt_t_b4))
  replace F_thresholds := F_thresholds.other W53 (Or.inl (Nat.ne_of_lt lt_t_b4))
  replace F_aliases := F_aliases.other W53 (Or.inl (Nat.ne_of_lt lt_t_b4))
  replace A_b3 := A_b3.other W53 (Nat.ne_of_lt lt_b3_b4)
  replace A_b8 := A_b8.other W53 (Ne.symm (Nat.ne_of_lt lt_b4_b8))
  replace A_b9 := A_b9.other W53 (Ne.symm (Nat.ne_of_lt lt_b4_b9))
  replace A_b10 := A_b10.other W53 (Ne.symm (Nat.ne_of_lt lt_b4_b10))
  replace hn := Nat.le_trans hn (Keep.of_wr W53).1
  clear W53 X52 e52
  refine own_gs 233 [(.ref b8)] (fun t' k => XS.aload X53.here hx rfl (hb hby own_dI_231) rfl rfl  k) ?_
  refine own_gs 235 [(.int (2 : Int32)), (.ref b8)] (fun t' k => XS.iload X53.here hx rfl (hb hby own_dI_233) rfl  k) ?_
  refine own_gs 236 [(.int (2 : Int32)), (.ref b8), (.int (2 : Int32)), (.ref b8)] (fun t' k => Jvm.Free.XT.dup2 X53.here hx rfl (hb hby own_dI_235) rfl rfl rfl k) ?_
  refine X53.ldJ hx hZ e53 A_b8 (v := (.long (Int64.ofInt (8 * A)))) 2 (by decide) rfl (hb hby own_dI_236) ?_
  refine own_gs 238 [(.ref t), (.long (Int64.ofInt (8 * A))), (.int (2 : Int32)), (.ref b8)] (fun t' k => XS.aloadN X53.here hx rfl (hb hby own_dI_237) rfl rfl  k) ?_
  refine X53.getF hx hZ hown (hw _ (List.mem_of_getElem? (i := 19) rfl)) e53 F_total (hb hby own_dI_238) ?_
  intro T54 X54 e54
  refine own_gs 243 [(.ref b8), (.long (Int64.ofInt (5 * A))), (.long (Int64.ofInt (8 * A))), (.int (2 : Int32)), (.ref b8)] (fun t' k => XS.aload X54.here hx rfl (hb hby own_dI_241) rfl rfl  k) ?_
  refine own_gs 245 [(.int (3 : Int32)), (.ref b8), (.long (Int64.ofInt (5 * A))), (.long (Int64.ofInt (8 * A))), (.int (2 : Int32)), (.ref b8)] (fun t' k => XS.iload X54.here hx rfl (hb hby own_dI_243) rfl  k) ?_
  refine X54.ldJ hx hZ e54 A_b8 (v := (.long (Int64.ofInt (A)))) 3 (by decide) rfl (hb hby own_dI_245) ?_
  refine own_gs 247 [(.long ((Int64.ofInt (5 * A)) - (Int64.ofInt (A)))), (.long (Int64.ofInt (8 * A))), (.int (2 : Int32)), (.ref b8)] (fun t' k => XS.lsub X54.here hx rfl (hb hby own_dI_246) rfl k) ?_
  rw [own_osub (z := 4 * A) (show (Int64.ofInt (5 * A)) = (Int64.ofInt (5 * A)) from rfl) (show (Int64.ofInt (A)) = (Int64.ofInt (A)) from rfl) (by omega)]
  refine own_gs 248 [(.long ((Int64.ofInt (8 * A)) - (Int64.ofInt (4 * A)))), (.int (2 : Int32)), (.ref b8)] (fun t' k => XS.lsub X54.here hx rfl (hb hby own_dI_247) rfl k) ?_
  rw [own_osub (z := 4 * A) (show (Int64.ofInt (8 * A)) = (Int64.ofInt (8 * A)) from rfl) (show (Int64.ofInt (4 * A)) = (Int64.ofInt (4 * A)) from rfl) (by omega)]
  refine X54.stJ hx hZ e54 A_b8 g_b8 2 (by decide) (Nat.le_of_ble_eq_true rfl) (hb hby own_dI_248) ?_
  intro T55 h55 X55 e55 W55 A55
  replace A_b8 : own_A Z h55 .long b8 [(.long (Int64.ofInt (8 * A))), (.long (Int64.ofInt (8 * A))), (.long (Int64.ofInt (4 * A))), (.long (Int64.ofInt (A))), (.long (Int64.ofInt (3 * A))), (.long (0 : Int64)), (.long (0 : Int64)), (.long (0 : Int64))] := A55
  clear A55
  replace E_t := E_t.wr W55
  replace A_w := A_w.other W55 (Nat.ne_of_lt lt_w_b8)
  replace F_shift := F_shift.other W55 (Or.inl (Nat.ne_of_lt lt_t_b8))
  replace F_total := F_total.other W55 (Or.inl (Nat.ne_of_lt lt_t_b8))
  replace F_packed := F_packed.other W55 (Or.inl (Nat.ne_of_lt lt_t_b8))
  replace F_thresholds := F_thresholds.other W55 (Or.inl (Nat.ne_of_lt lt_t_b8))
  replace F_aliases := F_aliases.other W55 (Or.inl (Nat.ne_of_lt lt_t_b8))
  replace A_b3 := A_b3.other W55 (Nat.ne_of_lt lt_b3_b8)
  replace A_b4 := A_b4.other W55 (Nat.ne_of_lt lt_b4_b8)
  replace A_b9 := A_b9.other W55 (Ne.symm (Nat.ne_of_lt lt_b8_b9))
  replace A_b10 := A_b10.other W55 (Ne.symm (Nat.ne_of_lt lt_b8_b10))
  replace hn := Nat.le_trans hn (Keep.of_wr W55).1
  clear W55 X54 e54
  refine own_gs 251 [(.ref b8)] (fun t' k => XS.aload X55.here hx rfl (hb hby own_dI_249) rfl rfl  k) ?_
  refine own_gs 253 [(.int (2 : Int32)), (.ref b8)] (fun t' k => XS.iload X55.here hx rfl (hb hby own_dI_251) rfl  k) ?_
  refine X55.ldJ hx hZ e55 A_b8 (v := (.long (Int64.ofInt (4 * A)))) 2 (by decide) rfl (hb hby own_dI_253) ?_
  refine own_gs 255 [(.ref t), (.long (Int64.ofInt (4 * A)))] (fun t' k => XS.aloadN X55.here hx rfl (hb hby own_dI_254) rfl rfl  k) ?_
  refine X55.getF hx hZ hown (hw _ (List.mem_of_getElem? (i := 19) rfl)) e55 F_total (hb hby own_dI_255) ?_
  intro T56 X56 e56
  refine own_gs 259 [(.int (lcmpW (Int64.ofInt (4 * A)) (Int64.ofInt (5 * A))))] (fun t' k => XS.lcmp X56.here hx rfl (hb hby own_dI_258) rfl k) ?_
  refine own_gs 262 [] (fun t' k => XS.ifNo X56.here hx rfl (hb hby own_dI_259) rfl ((if0 _ _).trans (tlt ((lw_lt (Int64.ofInt (4 * A)) (Int64.ofInt (5 * A))).mpr (own_olt (show (Int64.ofInt (4 * A)) = (Int64.ofInt (4 * A)) from rfl) (show (Int64.ofInt (5 * A)) = (Int64.ofInt (5 * A)) from rfl) (by omega) (by omega) (by omega)))).2.1) k) ?_
  refine own_go (mkF m 265 #[rv t, rv w, iv (8 : Int32), rv b3, rv b4, jv (Int64.ofInt (5 * A)), .second, rv b8, rv b9, rv b10, iv (1 : Int32), iv (2 : Int32), iv (3 : Int32), iv (2 : Int32)] []) (fun t' k => XS.iinc X56.here hx rfl (hb hby own_dI_262) rfl rfl k) ?_
  refine own_gs 267 [(.ref b9)] (fun t' k => XS.aload X56.here hx rfl (hb hby own_dI_265) rfl rfl  k) ?_
  refine own_gs 269 [(.int (1 : Int32)), (.ref b9)] (fun t' k => XS.iload X56.here hx rfl (hb hby own_dI_267) rfl  k) ?_
  refine own_go (mkF m 272 #[rv t, rv w, iv (8 : Int32), rv b3, rv b4, jv (Int64.ofInt (5 * A)), .second, rv b8, rv b9, rv b10, iv (2 : Int32), iv (2 : Int32), iv (3 : Int32), iv (2 : Int32)] [(.int (1 : Int32)), (.ref b9)]) (fun t' k => XS.iinc X56.here hx rfl (hb hby own_dI_269) rfl rfl k) ?_
  refine own_gs 274 [(.int (2 : Int32)), (.int (1 : Int32)), (.ref b9)] (fun t' k => XS.iload X56.here hx rfl (hb hby own_dI_272) rfl  k) ?_
  refine X56.stI hx hZ e56 A_b9 g_b9 1 (by decide) (Nat.le_of_ble_eq_true rfl) (hb hby own_dI_274) ?_
  intro T57 h57 X57 e57 W57 A57
  replace A_b9 : own_A Z h57 .int b9 [(.int (5 : Int32)), (.int (2 : Int32)), (.int (4 : Int32)), (.int (0 : Int32)), (.int (0 : Int32)), (.int (0 : Int32)), (.int (0 : Int32)), (.int (0 : Int32))] := A57
  clear A57
  replace E_t := E_t.wr W57
  replace A_w := A_w.other W57 (Nat.ne_of_lt lt_w_b9)
  replace F_shift := F_shift.other W57 (Or.inl (Nat.ne_of_lt lt_t_b9))
  replace F_total := F_total.other W57 (Or.inl (Nat.ne_of_lt lt_t_b9))
  replace F_packed := F_packed.other W57 (Or.inl (Nat.ne_of_lt lt_t_b9))
  replace F_thresholds := F_thresholds.other W57 (Or.inl (Nat.ne_of_lt lt_t_b9))
  replace F_aliases := F_aliases.other W57 (Or.inl (Nat.ne_of_lt lt_t_b9))
  replace A_b3 := A_b3.other W57 (Nat.ne_of_lt lt_b3_b9)
  replace A_b4 := A_b4.other W57 (Nat.ne_of_lt lt_b4_b9)
  replace A_b8 := A_b8.other W57 (Nat.ne_of_lt lt_b8_b9)
  replace A_b10 := A_b10.other W57 (Ne.symm (Nat.ne_of_lt lt_b9_b10))
  replace hn := Nat.le_trans hn (Keep.of_wr W57).1
  clear W57 X56 e56
  refine own_gs 186 [] (fun t' k => XS.goto X57.here hx rfl (pc0 := 275) (pc' := 186) rfl (hb hby own_dI_275) (by decide) (by decide) k) ?_
  refine own_gs 188 [(.int (2 : Int32))] (fun t' k => XS.iload X57.here hx rfl (hb hby own_dI_186) rfl  k) ?_
  refine own_gs 191 [] (fun t' k => XS.ifNo X57.here hx rfl (hb hby own_dI_188) rfl ((if0 _ _).trans (tlt (by decide)).2.2.2) k) ?_
  refine own_gs 193 [(.int (2 : Int32))] (fun t' k => XS.iload X57.here hx rfl (hb hby own_dI_191) rfl  k) ?_
  refine own_gs 196 [] (fun t' k => XS.ifNo X57.here hx rfl (hb hby own_dI_193) rfl ((if0 _ _).trans (tlt (by decide)).2.2.2) k) ?_
  refine own_gs 198 [(.ref b9)] (fun t' k => XS.aload X57.here hx rfl (hb hby own_dI_196) rfl rfl  k) ?_
  refine own_go (mkF m 201 #[rv t, rv w, iv (8 : Int32), rv b3, rv b4, jv (Int64.ofInt (5 * A)), .second, rv b8, rv b9, rv b10, iv (1 : Int32), iv (2 : Int32), iv (3 : Int32), iv (2 : Int32)] [(.ref b9)]) (fun t' k => XS.iinc X57.here hx rfl (hb hby own_dI_198) rfl rfl k) ?_
  refine own_gs 203 [(.int (1 : Int32)), (.ref b9)] (fun t' k => XS.iload X57.here hx rfl (hb hby own_dI_201) rfl  k) ?_
  refine X57.ldI hx hZ e57 A_b9 (v := (.int (2 : Int32))) 1 (by decide) rfl (hb hby own_dI_203) ?_
  refine own_go (mkF m 206 #[rv t, rv w, iv (8 : Int32), rv b3, rv b4, jv (Int64.ofInt (5 * A)), .second, rv b8, rv b9, rv b10, iv (1 : Int32), iv (2 : Int32), iv (2 : Int32), iv (2 : Int32)] []) (fun t' k => XS.istore X57.here hx rfl (hb hby own_dI_204) rfl rfl k) ?_
  refine own_gs 208 [(.ref b10)] (fun t' k => XS.aload X57.here hx rfl (hb hby own_dI_206) rfl rfl  k) ?_
  refine own_gs 210 [(.int (2 : Int32)), (.ref b10)] (fun t' k => XS.iload X57.here hx rfl (hb hby own_dI_208) rfl  k) ?_
  refine own_gs 211 [(.int (1 : Int32)), (.int (2 : Int32)), (.ref b10)] (fun t' k => XS.iconst X57.here hx rfl (hb hby own_dI_210) k) ?_
  refine own_gs 212 [(.int (1 : Int32)), (.ref b10)] (fun t' k => XS.isub X57.here hx rfl (hb hby own_dI_211) rfl k) ?_
  refine X57.ldI hx hZ e57 A_b10 (v := (.int (1 : Int32))) 1 (by decide) rfl (hb hby own_dI_212) ?_
  refine own_go (mkF m 215 #[rv t, rv w, iv (8 : Int32), rv b3, rv b4, jv (Int64.ofInt (5 * A)), .second, rv b8, rv b9, rv b10, iv (1 : Int32), iv (2 : Int32), iv (2 : Int32), iv (1 : Int32)] []) (fun t' k => XS.istore X57.here hx rfl (hb hby own_dI_213) rfl rfl k) ?_
  refine own_gs 216 [(.ref b3)] (fun t' k => XS.aloadN X57.here hx rfl (hb hby own_dI_215) rfl rfl  k) ?_
  refine own_gs 218 [(.int (2 : Int32)), (.ref b3)] (fun t' k => XS.iload X57.here hx rfl (hb hby own_dI_216) rfl  k) ?_
  refine own_gs 220 [(.ref b8), (.int (2 : Int32)), (.ref b3)] (fun t' k => XS.aload X57.here hx rfl (hb hby own_dI_218) rfl rfl  k) ?_
  refine own_gs 222 [(.int (2 : Int32)), (.ref b8), (.int (2 : Int32)), (.ref b3)] (fun t' k => XS.iload X57.here hx rfl (hb hby own_dI_220) rfl  k) ?_
  refine X57.ldJ hx hZ e57 A_b8 (v := (.long (Int64.ofInt (4 * A)))) 2 (by decide) rfl (hb hby own_dI_222) ?_
  refine X57.stJ hx hZ e57 A_b3 g_b3 2 (by decide) (Nat.le_of_ble_eq_true rfl) (hb hby own_dI_223) ?_
  intro T58 h58 X58 e58 W58 A58
  replace A_b3 : own_A Z h58 .long b3 [(.long (0 : Int64)), (.long (0 : Int64)), (.long (Int64.ofInt (4 * A))), (.long (Int64.ofInt (A))), (.long (Int64.ofInt (3 * A))), (.long (0 : Int64)), (.long (0 : Int64)), (.long (0 : Int64))] := A58
  clear A58
  replace E_t := E_t.wr W58
  replace A_w := A_w.other W58 (Nat.ne_of_lt lt_w_b3)
  replace F_shift := F_shift.other W58 (Or.inl (Nat.ne_of_lt lt_t_b3))
  replace F_total := F_total.other W58 (Or.inl (Nat.ne_of_lt lt_t_b3))
  replace F_packed := F_packed.other W58 (Or.inl (Nat.ne_of_lt lt_t_b3))
  replace F_thresholds := F_thresholds.other W58 (Or.inl (Nat.ne_of_lt lt_t_b3))
  replace F_aliases := F_aliases.other W58 (Or.inl (Nat.ne_of_lt lt_t_b3))
  replace A_b4 := A_b4.other W58 (Ne.symm (Nat.ne_of_lt lt_b3_b4))
  replace A_b8 := A_b8.other W58 (Ne.symm (Nat.ne_of_lt lt_b3_b8))
  replace A_b9 := A_b9.other W58 (Ne.symm (Nat.ne_of_lt lt_b3_b9))
  replace A_b10 := A_b10.other W58 (Ne.symm (Nat.ne_of_lt lt_b3_b10))
  replace hn := Nat.le_trans hn (Keep.of_wr W58).1
  clear W58 X57 e57
  refine own_gs 226 [(.ref b4)] (fun t' k => XS.aload X58.here hx rfl (hb hby own_dI_224) rfl rfl  k) ?_
  refine own_gs 228 [(.int (2 : Int32)), (.ref b4)] (fun t' k => XS.iload X58.here hx rfl (hb hby own_dI_226) rfl  k) ?_
  refine own_gs 230 [(.int (1 : Int32)), (.int (2 : Int32)), (.ref b4)] (fun t' k => XS.iload X58.here hx rfl (hb hby own_dI_228) rfl  k) ?_
  refine X58.stI hx hZ e58 A_b4 g_b4 2 (by decide) (Nat.le_of_ble_eq_true rfl) (hb hby own_dI_230) ?_
  intro T59 h59 X59 e59 W59 A59
  replace A_b4 : own_A Z h59 .int b4 [(.int (0 : Int32)), (.int (0 : Int32)), (.int (1 : Int32)), (.int (2 : Int32)), (.int (3 : Int32)), (.int (0 : Int32)), (.int (3 : Int32)), (.int (4 : Int32))] := A59
  clear A59
  replace E_t := E_t.wr W59
  replace A_w := A_w.other W59 (Nat.ne_of_lt lt_w_b4)
  replace F_shift := F_shift.other W59 (Or.inl (Nat.ne_of_lt lt_t_b4))
  replace F_total := F_total.other W59 (Or.inl (Nat.ne_of_lt lt_t_b4))
  replace F_packed := F_packed.other W59 (Or.inl (Nat.ne_of_lt lt_t_b4))
  replace F_thresholds := F_thresholds.other W59 (Or.inl (Nat.ne_of_lt lt_t_b4))
  replace F_aliases := F_aliases.other W59 (Or.inl (Nat.ne_of_lt lt_t_b4))
  replace A_b3 := A_b3.other W59 (Nat.ne_of_lt lt_b3_b4)
  replace A_b8 := A_b8.other W59 (Ne.symm (Nat.ne_of_lt lt_b4_b8))
  replace A_b9 := A_b9.other W59 (Ne.symm (Nat.ne_of_lt lt_b4_b9))
  replace A_b10 := A_b10.other W59 (Ne.symm (Nat.ne_of_lt lt_b4_b10))
  replace hn := Nat.le_trans hn (Keep.of_wr W59).1
  clear W59 X58 e58
  refine own_gs 233 [(.ref b8)] (fun t' k => XS.aload X59.here hx rfl (hb hby own_dI_231) rfl rfl  k) ?_
  refine own_gs 235 [(.int (1 : Int32)), (.ref b8)] (fun t' k => XS.iload X59.here hx rfl (hb hby own_dI_233) rfl  k) ?_
  refine own_gs 236 [(.int (1 : Int32)), (.ref b8), (.int (1 : Int32)), (.ref b8)] (fun t' k => Jvm.Free.XT.dup2 X59.here hx rfl (hb hby own_dI_235) rfl rfl rfl k) ?_
  refine X59.ldJ hx hZ e59 A_b8 (v := (.long (Int64.ofInt (8 * A)))) 1 (by decide) rfl (hb hby own_dI_236) ?_
  refine own_gs 238 [(.ref t), (.long (Int64.ofInt (8 * A))), (.int (1 : Int32)), (.ref b8)] (fun t' k => XS.aloadN X59.here hx rfl (hb hby own_dI_237) rfl rfl  k) ?_
  refine X59.getF hx hZ hown (hw _ (List.mem_of_getElem? (i := 19) rfl)) e59 F_total (hb hby own_dI_238) ?_
  intro T60 X60 e60
  refine own_gs 243 [(.ref b8), (.long (Int64.ofInt (5 * A))), (.long (Int64.ofInt (8 * A))), (.int (1 : Int32)), (.ref b8)] (fun t' k => XS.aload X60.here hx rfl (hb hby own_dI_241) rfl rfl  k) ?_
  refine own_gs 245 [(.int (2 : Int32)), (.ref b8), (.long (Int64.ofInt (5 * A))), (.long (Int64.ofInt (8 * A))), (.int (1 : Int32)), (.ref b8)] (fun t' k => XS.iload X60.here hx rfl (hb hby own_dI_243) rfl  k) ?_
  refine X60.ldJ hx hZ e60 A_b8 (v := (.long (Int64.ofInt (4 * A)))) 2 (by decide) rfl (hb hby own_dI_245) ?_
  refine own_gs 247 [(.long ((Int64.ofInt (5 * A)) - (Int64.ofInt (4 * A)))), (.long (Int64.ofInt (8 * A))), (.int (1 : Int32)), (.ref b8)] (fun t' k => XS.lsub X60.here hx rfl (hb hby own_dI_246) rfl k) ?_
  rw [own_osub (z := A) (show (Int64.ofInt (5 * A)) = (Int64.ofInt (5 * A)) from rfl) (show (Int64.ofInt (4 * A)) = (Int64.ofInt (4 * A)) from rfl) (by omega)]
  refine own_gs 248 [(.long ((Int64.ofInt (8 * A)) - (Int64.ofInt (A)))), (.int (1 : Int32)), (.ref b8)] (fun t' k => XS.lsub X60.here hx rfl (hb hby own_dI_247) rfl k) ?_
  rw [own_osub (z := 7 * A) (show (Int64.ofInt (8 * A)) = (Int64.ofInt (8 * A)) from rfl) (show (Int64.ofInt (A)) = (Int64.ofInt (A)) from rfl) (by omega)]
  refine X60.stJ hx hZ e60 A_b8 g_b8 1 (by decide) (Nat.le_of_ble_eq_true rfl) (hb hby own_dI_248) ?_
  intro T61 h61 X61 e61 W61 A61
  replace A_b8 : own_A Z h61 .long b8 [(.long (Int64.ofInt (8 * A))), (.long (Int64.ofInt (7 * A))), (.long (Int64.ofInt (4 * A))), (.long (Int64.ofInt (A))), (.long (Int64.ofInt (3 * A))), (.long (0 : Int64)), (.long (0 : Int64)), (.long (0 : Int64))] := A61
  clear A61
  replace E_t := E_t.wr W61
  replace A_w := A_w.other W61 (Nat.ne_of_lt lt_w_b8)
  replace F_shift := F_shift.other W61 (Or.inl (Nat.ne_of_lt lt_t_b8))
  replace F_total := F_total.other W61 (Or.inl (Nat.ne_of_lt lt_t_b8))
  replace F_packed := F_packed.other W61 (Or.inl (Nat.ne_of_lt lt_t_b8))
  replace F_thresholds := F_thresholds.other W61 (Or.inl (Nat.ne_of_lt lt_t_b8))
  replace F_aliases := F_aliases.other W61 (Or.inl (Nat.ne_of_lt lt_t_b8))
  replace A_b3 := A_b3.other W61 (Nat.ne_of_lt lt_b3_b8)
  replace A_b4 := A_b4.other W61 (Nat.ne_of_lt lt_b4_b8)
  replace A_b9 := A_b9.other W61 (Ne.symm (Nat.ne_of_lt lt_b8_b9))
  replace A_b10 := A_b10.other W61 (Ne.symm (Nat.ne_of_lt lt_b8_b10))
  replace hn := Nat.le_trans hn (Keep.of_wr W61).1
  clear W61 X60 e60
  refine own_gs 251 [(.ref b8)] (fun t' k => XS.aload X61.here hx rfl (hb hby own_dI_249) rfl rfl  k) ?_
  refine own_gs 253 [(.int (1 : Int32)), (.ref b8)] (fun t' k => XS.iload X61.here hx rfl (hb hby own_dI_251) rfl  k) ?_
  refine X61.ldJ hx hZ e61 A_b8 (v := (.long (Int64.ofInt (7 * A)))) 1 (by decide) rfl (hb hby own_dI_253) ?_
  refine own_gs 255 [(.ref t), (.long (Int64.ofInt (7 * A)))] (fun t' k => XS.aloadN X61.here hx rfl (hb hby own_dI_254) rfl rfl  k) ?_
  refine X61.getF hx hZ hown (hw _ (List.mem_of_getElem? (i := 19) rfl)) e61 F_total (hb hby own_dI_255) ?_
  intro T62 X62 e62
  refine own_gs 259 [(.int (lcmpW (Int64.ofInt (7 * A)) (Int64.ofInt (5 * A))))] (fun t' k => XS.lcmp X62.here hx rfl (hb hby own_dI_258) rfl k) ?_
  refine own_gs 275 [] (fun t' k => XS.ifYes X62.here hx rfl (pc0 := 259) (pc' := 275) rfl (hb hby own_dI_259) rfl ((if0 _ _).trans (flt (fun q => (own_onl (show (Int64.ofInt (7 * A)) = (Int64.ofInt (7 * A)) from rfl) (show (Int64.ofInt (5 * A)) = (Int64.ofInt (5 * A)) from rfl) (by omega) (by omega) (by omega)) ((lw_lt (Int64.ofInt (7 * A)) (Int64.ofInt (5 * A))).mp q))).2.1) (by decide) (by decide) k) ?_
  refine own_gs 186 [] (fun t' k => XS.goto X62.here hx rfl (pc0 := 275) (pc' := 186) rfl (hb hby own_dI_275) (by decide) (by decide) k) ?_
  refine own_gs 188 [(.int (1 : Int32))] (fun t' k => XS.iload X62.here hx rfl (hb hby own_dI_186) rfl  k) ?_
  refine own_gs 191 [] (fun t' k => XS.ifNo X62.here hx rfl (hb hby own_dI_188) rfl ((if0 _ _).trans (tlt (by decide)).2.2.2) k) ?_
  refine own_gs 193 [(.int (2 : Int32))] (fun t' k => XS.iload X62.here hx rfl (hb hby own_dI_191) rfl  k) ?_
  refine own_gs 196 [] (fun t' k => XS.ifNo X62.here hx rfl (hb hby own_dI_193) rfl ((if0 _ _).trans (tlt (by decide)).2.2.2) k) ?_
  refine own_gs 198 [(.ref b9)] (fun t' k => XS.aload X62.here hx rfl (hb hby own_dI_196) rfl rfl  k) ?_
  refine own_go (mkF m 201 #[rv t, rv w, iv (8 : Int32), rv b3, rv b4, jv (Int64.ofInt (5 * A)), .second, rv b8, rv b9, rv b10, iv (0 : Int32), iv (2 : Int32), iv (2 : Int32), iv (1 : Int32)] [(.ref b9)]) (fun t' k => XS.iinc X62.here hx rfl (hb hby own_dI_198) rfl rfl k) ?_
  refine own_gs 203 [(.int (0 : Int32)), (.ref b9)] (fun t' k => XS.iload X62.here hx rfl (hb hby own_dI_201) rfl  k) ?_
  refine X62.ldI hx hZ e62 A_b9 (v := (.int (5 : Int32))) 0 (by decide) rfl (hb hby own_dI_203) ?_
  refine own_go (mkF m 206 #[rv t, rv w, iv (8 : Int32), rv b3, rv b4, jv (Int64.ofInt (5 * A)), .second, rv b8, rv b9, rv b10, iv (0 : Int32), iv (2 : Int32), iv (5 : Int32), iv (1 : Int32)] []) (fun t' k => XS.istore X62.here hx rfl (hb hby own_dI_204) rfl rfl k) ?_
  refine own_gs 208 [(.ref b10)] (fun t' k => XS.aload X62.here hx rfl (hb hby own_dI_206) rfl rfl  k) ?_
  refine own_gs 210 [(.int (2 : Int32)), (.ref b10)] (fun t' k => XS.iload X62.here hx rfl (hb hby own_dI_208) rfl  k) ?_
  refine own_gs 211 [(.int (1 : Int32)), (.int (2 : Int32)), (.ref b10)] (fun t' k => XS.iconst X62.here hx rfl (hb hby own_dI_210) k) ?_
  refine own_gs 212 [(.int (1 : Int32)), (.ref b10)] (fun t' k => XS.isub X62.here hx rfl (hb hby own_dI_211) rfl k) ?_
  refine X62.ldI hx hZ e62 A_b10 (v := (.int (1 : Int32))) 1 (by decide) rfl (hb hby own_dI_212) ?_
  refine own_gs 215 [] (fun t' k => XS.istore X62.here hx rfl (hb hby own_dI_213) rfl rfl k) ?_
  refine own_gs 216 [(.ref b3)] (fun t' k => XS.aloadN X62.here hx rfl (hb hby own_dI_215) rfl rfl  k) ?_
  refine own_gs 218 [(.int (5 : Int32)), (.ref b3)] (fun t' k => XS.iload X62.here hx rfl (hb hby own_dI_216) rfl  k) ?_
  refine own_gs 220 [(.ref b8), (.int (5 : Int32)), (.ref b3)] (fun t' k => XS.aload X62.here hx rfl (hb hby own_dI_218) rfl rfl  k) ?_
  refine own_gs 222 [(.int (5 : Int32)), (.ref b8), (.int (5 : Int32)), (.ref b3)] (fun t' k => XS.iload X62.here hx rfl (hb hby own_dI_220) rfl  k) ?_
  refine X62.ldJ hx hZ e62 A_b8 (v := (.long (0 : Int64))) 5 (by decide) rfl (hb hby own_dI_222) ?_
  refine X62.stJ hx hZ e62 A_b3 g_b3 5 (by decide) (Nat.le_of_ble_eq_true rfl) (hb hby own_dI_223) ?_
  intro T63 h63 X63 e63 W63 A63
  replace A_b3 : own_A Z h63 .long b3 [(.long (0 : Int64)), (.long (0 : Int64)), (.long (Int64.ofInt (4 * A))), (.long (Int64.ofInt (A))), (.long (Int64.ofInt (3 * A))), (.long (0 : Int64)), (.long (0 : Int64)), (.long (0 : Int64))] := A63
  clear A63
  replace E_t := E_t.wr W63
  replace A_w := A_w.other W63 (Nat.ne_of_lt lt_w_b3)
  replace F_shift := F_shift.other W63 (Or.inl (Nat.ne_of_lt lt_t_b3))
  replace F_total := F_total.other W63 (Or.inl (Nat.ne_of_lt lt_t_b3))
  replace F_packed := F_packed.other W63 (Or.inl (Nat.ne_of_lt lt_t_b3))
  replace F_thresholds := F_thresholds.other W63 (Or.inl (Nat.ne_of_lt lt_t_b3))
  replace F_aliases := F_aliases.other W63 (Or.inl (Nat.ne_of_lt lt_t_b3))
  replace A_b4 := A_b4.other W63 (Ne.symm (Nat.ne_of_lt lt_b3_b4))
  replace A_b8 := A_b8.other W63 (Ne.symm (Nat.ne_of_lt lt_b3_b8))
  replace A_b9 := A_b9.other W63 (Ne.symm (Nat.ne_of_lt lt_b3_b9))
  replace A_b10 := A_b10.other W63 (Ne.symm (Nat.ne_of_lt lt_b3_b10))
  replace hn := Nat.le_trans hn (Keep.of_wr W63).1
  clear W63 X62 e62
  refine own_gs 226 [(.ref b4)] (fun t' k => XS.aload X63.here hx rfl (hb hby own_dI_224) rfl rfl  k) ?_
  refine own_gs 228 [(.int (5 : Int32)), (.ref b4)] (fun t' k => XS.iload X63.here hx rfl (hb hby own_dI_226) rfl  k) ?_
  refine own_gs 230 [(.int (1 : Int32)), (.int (5 : Int32)), (.ref b4)] (fun t' k => XS.iload X63.here hx rfl (hb hby own_dI_228) rfl  k) ?_
  refine X63.stI hx hZ e63 A_b4 g_b4 5 (by decide) (Nat.le_of_ble_eq_true rfl) (hb hby own_dI_230) ?_
  intro T64 h64 X64 e64 W64 A64
  replace A_b4 : own_A Z h64 .int b4 [(.int (0 : Int32)), (.int (0 : Int32)), (.int (1 : Int32)), (.int (2 : Int32)), (.int (3 : Int32)), (.int (1 : Int32)), (.int (3 : Int32)), (.int (4 : Int32))] := A64
  clear A64
  replace E_t := E_t.wr W64
  replace A_w := A_w.other W64 (Nat.ne_of_lt lt_w_b4)
  replace F_shift := F_shift.other W64 (Or.inl (Nat.ne_of_lt lt_t_b4))
  replace F_total := F_total.other W64 (Or.inl (Nat.ne_of_lt lt_t_b4))
  replace F_packed := F_packed.other W64 (Or.inl (Nat.ne_of_lt lt_t_b4))
  replace F_thresholds := F_thresholds.other W64 (Or.inl (Nat.ne_of_lt lt_t_b4))
  replace F_aliases := F_aliases.other W64 (Or.inl (Nat.ne_of_lt lt_t_b4))
  replace A_b3 := A_b3.other W64 (Nat.ne_of_lt lt_b3_b4)
  replace A_b8 := A_b8.other W64 (Ne.symm (Nat.ne_of_lt lt_b4_b8))
  replace A_b9 := A_b9.other W64 (Ne.symm (Nat.ne_of_lt lt_b4_b9))
  replace A_b10 := A_b10.other W64 (Ne.symm (Nat.ne_of_lt lt_b4_b10))
  replace hn := Nat.le_trans hn (Keep.of_wr W64).1
  clear W64 X63 e63
  refine own_gs 233 [(.ref b8)] (fun t' k => XS.aload X64.here hx rfl (hb hby own_dI_231) rfl rfl  k) ?_
  refine own_gs 235 [(.int (1 : Int32)), (.ref b8)] (fun t' k => XS.iload X64.here hx rfl (hb hby own_dI_233) rfl  k) ?_
  refine own_gs 236 [(.int (1 : Int32)), (.ref b8), (.int (1 : Int32)), (.ref b8)] (fun t' k => Jvm.Free.XT.dup2 X64.here hx rfl (hb hby own_dI_235) rfl rfl rfl k) ?_
  refine X64.ldJ hx hZ e64 A_b8 (v := (.long (Int64.ofInt (7 * A)))) 1 (by decide) rfl (hb hby own_dI_236) ?_
  refine own_gs 238 [(.ref t), (.long (Int64.ofInt (7 * A))), (.int (1 : Int32)), (.ref b8)] (fun t' k => XS.aloadN X64.here hx rfl (hb hby own_dI_237) rfl rfl  k) ?_
  refine X64.getF hx hZ hown (hw _ (List.mem_of_getElem? (i := 19) rfl)) e64 F_total (hb hby own_dI_238) ?_
  intro T65 X65 e65
  refine own_gs 243 [(.ref b8), (.long (Int64.ofInt (5 * A))), (.long (Int64.ofInt (7 * A))), (.int (1 : Int32)), (.ref b8)] (fun t' k => XS.aload X65.here hx rfl (hb hby own_dI_241) rfl rfl  k) ?_
  refine own_gs 245 [(.int (5 : Int32)), (.ref b8), (.long (Int64.ofInt (5 * A))), (.long (Int64.ofInt (7 * A))), (.int (1 : Int32)), (.ref b8)] (fun t' k => XS.iload X65.here hx rfl (hb hby own_dI_243) rfl  k) ?_
  refine X65.ldJ hx hZ e65 A_b8 (v := (.long (0 : Int64))) 5 (by decide) rfl (hb hby own_dI_245) ?_
  refine own_gs 247 [(.long ((Int64.ofInt (5 * A)) - (0 : Int64))), (.long (Int64.ofInt (7 * A))), (.int (1 : Int32)), (.ref b8)] (fun t' k => XS.lsub X65.here hx rfl (hb hby own_dI_246) rfl k) ?_
  rw [own_osub (z := 5 * A) (show (Int64.ofInt (5 * A)) = (Int64.ofInt (5 * A)) from rfl) (show (0 : Int64) = Int64.ofInt (0) from rfl) (by omega)]
  refine own_gs 248 [(.long ((Int64.ofInt (7 * A)) - (Int64.ofInt (5 * A)))), (.int (1 : Int32)), (.ref b8)] (fun t' k => XS.lsub X65.here hx rfl (hb hby own_dI_247) rfl k) ?_
  rw [own_osub (z := 2 * A) (show (Int64.ofInt (7 * A)) = (Int64.ofInt (7 * A)) from rfl) (show (Int64.ofInt (5 * A)) = (Int64.ofInt (5 * A)) from rfl) (by omega)]
  refine X65.stJ hx hZ e65 A_b8 g_b8 1 (by decide) (Nat.le_of_ble_eq_true rfl) (hb hby own_dI_248) ?_
  intro T66 h66 X66 e66 W66 A66
  replace A_b8 : own_A Z h66 .long b8 [(.long (Int64.ofInt (8 * A))), (.long (Int64.ofInt (2 * A))), (.long (Int64.ofInt (4 * A))), (.long (Int64.ofInt (A))), (.long (Int64.ofInt (3 * A))), (.long (0 : Int64)), (.long (0 : Int64)), (.long (0 : Int64))] := A66
  clear A66
  replace E_t := E_t.wr W66
  replace A_w := A_w.other W66 (Nat.ne_of_lt lt_w_b8)
  replace F_shift := F_shift.other W66 (Or.inl (Nat.ne_of_lt lt_t_b8))
  replace F_total := F_total.other W66 (Or.inl (Nat.ne_of_lt lt_t_b8))
  replace F_packed := F_packed.other W66 (Or.inl (Nat.ne_of_lt lt_t_b8))
  replace F_thresholds := F_thresholds.other W66 (Or.inl (Nat.ne_of_lt lt_t_b8))
  replace F_aliases := F_aliases.other W66 (Or.inl (Nat.ne_of_lt lt_t_b8))
  replace A_b3 := A_b3.other W66 (Nat.ne_of_lt lt_b3_b8)
  replace A_b4 := A_b4.other W66 (Nat.ne_of_lt lt_b4_b8)
  replace A_b9 := A_b9.other W66 (Ne.symm (Nat.ne_of_lt lt_b8_b9))
  replace A_b10 := A_b10.other W66 (Ne.symm (Nat.ne_of_lt lt_b8_b10))
  replace hn := Nat.le_trans hn (Keep.of_wr W66).1
  clear W66 X65 e65
  refine own_gs 251 [(.ref b8)] (fun t' k => XS.aload X66.here hx rfl (hb hby own_dI_249) rfl rfl  k) ?_
  refine own_gs 253 [(.int (1 : Int32)), (.ref b8)] (fun t' k => XS.iload X66.here hx rfl (hb hby own_dI_251) rfl  k) ?_
  refine X66.ldJ hx hZ e66 A_b8 (v := (.long (Int64.ofInt (2 * A)))) 1 (by decide) rfl (hb hby own_dI_253) ?_
  refine own_gs 255 [(.ref t), (.long (Int64.ofInt (2 * A)))] (fun t' k => XS.aloadN X66.here hx rfl (hb hby own_dI_254) rfl rfl  k) ?_
  refine X66.getF hx hZ hown (hw _ (List.mem_of_getElem? (i := 19) rfl)) e66 F_total (hb hby own_dI_255) ?_
  intro T67 X67 e67
  refine own_gs 259 [(.int (lcmpW (Int64.ofInt (2 * A)) (Int64.ofInt (5 * A))))] (fun t' k => XS.lcmp X67.here hx rfl (hb hby own_dI_258) rfl k) ?_
  refine own_gs 262 [] (fun t' k => XS.ifNo X67.here hx rfl (hb hby own_dI_259) rfl ((if0 _ _).trans (tlt ((lw_lt (Int64.ofInt (2 * A)) (Int64.ofInt (5 * A))).mpr (own_olt (show (Int64.ofInt (2 * A)) = (Int64.ofInt (2 * A)) from rfl) (show (Int64.ofInt (5 * A)) = (Int64.ofInt (5 * A)) from rfl) (by omega) (by omega) (by omega)))).2.1) k) ?_
  refine own_go (mkF m 265 #[rv t, rv w, iv (8 : Int32), rv b3, rv b4, jv (Int64.ofInt (5 * A)), .second, rv b8, rv b9, rv b10, iv (0 : Int32), iv (1 : Int32), iv (5 : Int32), iv (1 : Int32)] []) (fun t' k => XS.iinc X67.here hx rfl (hb hby own_dI_262) rfl rfl k) ?_
  refine own_gs 267 [(.ref b9)] (fun t' k => XS.aload X67.here hx rfl (hb hby own_dI_265) rfl rfl  k) ?_
  refine own_gs 269 [(.int (0 : Int32)), (.ref b9)] (fun t' k => XS.iload X67.here hx rfl (hb hby own_dI_267) rfl  k) ?_
  refine own_go (mkF m 272 #[rv t, rv w, iv (8 : Int32), rv b3, rv b4, jv (Int64.ofInt (5 * A)), .second, rv b8, rv b9, rv b10, iv (1 : Int32), iv (1 : Int32), iv (5 : Int32), iv (1 : Int32)] [(.int (0 : Int32)), (.ref b9)]) (fun t' k => XS.iinc X67.here hx rfl (hb hby own_dI_269) rfl rfl k) ?_
  refine own_gs 274 [(.int (1 : Int32)), (.int (0 : Int32)), (.ref b9)] (fun t' k => XS.iload X67.here hx rfl (hb hby own_dI_272) rfl  k) ?_
  refine X67.stI hx hZ e67 A_b9 g_b9 0 (by decide) (Nat.le_of_ble_eq_true rfl) (hb hby own_dI_274) ?_
  intro T68 h68 X68 e68 W68 A68
  replace A_b9 : own_A Z h68 .int b9 [(.int (1 : Int32)), (.int (2 : Int32)), (.int (4 : Int32)), (.int (0 : Int32)), (.int (0 : Int32)), (.int (0 : Int32)), (.int (0 : Int32)), (.int (0 : Int32))] := A68
  clear A68
  replace E_t := E_t.wr W68
  replace A_w := A_w.other W68 (Nat.ne_of_lt lt_w_b9)
  replace F_shift := F_shift.other W68 (Or.inl (Nat.ne_of_lt lt_t_b9))
  replace F_total := F_total.other W68 (Or.inl (Nat.ne_of_lt lt_t_b9))
  replace F_packed := F_packed.other W68 (Or.inl (Nat.ne_of_lt lt_t_b9))
  replace F_thresholds := F_thresholds.other W68 (Or.inl (Nat.ne_of_lt lt_t_b9))
  replace F_aliases := F_aliases.other W68 (Or.inl (Nat.ne_of_lt lt_t_b9))
  replace A_b3 := A_b3.other W68 (Nat.ne_of_lt lt_b3_b9)
  replace A_b4 := A_b4.other W68 (Nat.ne_of_lt lt_b4_b9)
  replace A_b8 := A_b8.other W68 (Nat.ne_of_lt lt_b8_b9)
  replace A_b10 := A_b10.other W68 (Ne.symm (Nat.ne_of_lt lt_b9_b10))
  replace hn := Nat.le_trans hn (Keep.of_wr W68).1
  clear W68 X67 e67
  refine own_gs 186 [] (fun t' k => XS.goto X68.here hx rfl (pc0 := 275) (pc' := 186) rfl (hb hby own_dI_275) (by decide) (by decide) k) ?_
  refine own_gs 188 [(.int (1 : Int32))] (fun t' k => XS.iload X68.here hx rfl (hb hby own_dI_186) rfl  k) ?_
  refine own_gs 191 [] (fun t' k => XS.ifNo X68.here hx rfl (hb hby own_dI_188) rfl ((if0 _ _).trans (tlt (by decide)).2.2.2) k) ?_
  refine own_gs 193 [(.int (1 : Int32))] (fun t' k => XS.iload X68.here hx rfl (hb hby own_dI_191) rfl  k) ?_
  refine own_gs 196 [] (fun t' k => XS.ifNo X68.here hx rfl (hb hby own_dI_193) rfl ((if0 _ _).trans (tlt (by decide)).2.2.2) k) ?_
  refine own_gs 198 [(.ref b9)] (fun t' k => XS.aload X68.here hx rfl (hb hby own_dI_196) rfl rfl  k) ?_
  refine own_go (mkF m 201 #[rv t, rv w, iv (8 : Int32), rv b3, rv b4, jv (Int64.ofInt (5 * A)), .second, rv b8, rv b9, rv b10, iv (0 : Int32), iv (1 : Int32), iv (5 : Int32), iv (1 : Int32)] [(.ref b9)]) (fun t' k => XS.iinc X68.here hx rfl (hb hby own_dI_198) rfl rfl k) ?_
  refine own_gs 203 [(.int (0 : Int32)), (.ref b9)] (fun t' k => XS.iload X68.here hx rfl (hb hby own_dI_201) rfl  k) ?_
  refine X68.ldI hx hZ e68 A_b9 (v := (.int (1 : Int32))) 0 (by decide) rfl (hb hby own_dI_203) ?_
  refine own_go (mkF m 206 #[rv t, rv w, iv (8 : Int32), rv b3, rv b4, jv (Int64.ofInt (5 * A)), .second, rv b8, rv b9, rv b10, iv (0 : Int32), iv (1 : Int32), iv (1 : Int32), iv (1 : Int32)] []) (fun t' k => XS.istore X68.here hx rfl (hb hby own_dI_204) rfl rfl k) ?_
  refine own_gs 208 [(.ref b10)] (fun t' k => XS.aload X68.here hx rfl (hb hby own_dI_206) rfl rfl  k) ?_
  refine own_gs 210 [(.int (1 : Int32)), (.ref b10)] (fun t' k => XS.iload X68.here hx rfl (hb hby own_dI_208) rfl  k) ?_
  refine own_gs 211 [(.int (1 : Int32)), (.int (1 : Int32)), (.ref b10)] (fun t' k => XS.iconst X68.here hx rfl (hb hby own_dI_210) k) ?_
  refine own_gs 212 [(.int (0 : Int32)), (.ref b10)] (fun t' k => XS.isub X68.here hx rfl (hb hby own_dI_211) rfl k) ?_
  refine X68.ldI hx hZ e68 A_b10 (v := (.int (0 : Int32))) 0 (by decide) rfl (hb hby own_dI_212) ?_
  refine own_go (mkF m 215 #[rv t, rv w, iv (8 : Int32), rv b3, rv b4, jv (Int64.ofInt (5 * A)), .second, rv b8, rv b9, rv b10, iv (0 : Int32), iv (1 : Int32), iv (1 : Int32), iv (0 : Int32)] []) (fun t' k => XS.istore X68.here hx rfl (hb hby own_dI_213) rfl rfl k) ?_
  refine own_gs 216 [(.ref b3)] (fun t' k => XS.aloadN X68.here hx rfl (hb hby own_dI_215) rfl rfl  k) ?_
  refine own_gs 218 [(.int (1 : Int32)), (.ref b3)] (fun t' k => XS.iload X68.here hx rfl (hb hby own_dI_216) rfl  k) ?_
  refine own_gs 220 [(.ref b8), (.int (1 : Int32)), (.ref b3)] (fun t' k => XS.aload X68.here hx rfl (hb hby own_dI_218) rfl rfl  k) ?_
  refine own_gs 222 [(.int (1 : Int32)), (.ref b8), (.int (1 : Int32)), (.ref b3)] (fun t' k => XS.iload X68.here hx rfl (hb hby own_dI_220) rfl  k) ?_
  refine X68.ldJ hx hZ e68 A_b8 (v := (.long (Int64.ofInt (2 * A)))) 1 (by decide) rfl (hb hby own_dI_222) ?_
  refine X68.stJ hx hZ e68 A_b3 g_b3 1 (by decide) (Nat.le_of_ble_eq_true rfl) (hb hby own_dI_223) ?_
  intro T69 h69 X69 e69 W69 A69
  replace A_b3 : own_A Z h69 .long b3 [(.long (0 : Int64)), (.long (Int64.ofInt (2 * A))), (.long (Int64.ofInt (4 * A))), (.long (Int64.ofInt (A))), (.long (Int64.ofInt (3 * A))), (.long (0 : Int64)), (.long (0 : Int64)), (.long (0 : Int64))] := A69
  clear A69
  replace E_t := E_t.wr W69
  replace A_w := A_w.other W69 (Nat.ne_of_lt lt_w_b3)
  replace F_shift := F_shift.other W69 (Or.inl (Nat.ne_of_lt lt_t_b3))
  replace F_total := F_total.other W69 (Or.inl (Nat.ne_of_lt lt_t_b3))
  replace F_packed := F_packed.other W69 (Or.inl (Nat.ne_of_lt lt_t_b3))
  replace F_thresholds := F_thresholds.other W69 (Or.inl (Nat.ne_of_lt lt_t_b3))
  replace F_aliases := F_aliases.other W69 (Or.inl (Nat.ne_of_lt lt_t_b3))
  replace A_b4 := A_b4.other W69 (Ne.symm (Nat.ne_of_lt lt_b3_b4))
  replace A_b8 := A_b8.other W69 (Ne.symm (Nat.ne_of_lt lt_b3_b8))
  replace A_b9 := A_b9.other W69 (Ne.symm (Nat.ne_of_lt lt_b3_b9))
  replace A_b10 := A_b10.other W69 (Ne.symm (Nat.ne_of_lt lt_b3_b10))
  replace hn := Nat.le_trans hn (Keep.of_wr W69).1
  clear W69 X68 e68
  refine own_gs 226 [(.ref b4)] (fun t' k => XS.aload X69.here hx rfl (hb hby own_dI_224) rfl rfl  k) ?_
  refine own_gs 228 [(.int (1 : Int32)), (.ref b4)] (fun t' k => XS.iload X69.here hx rfl (hb hby own_dI_226) rfl  k) ?_
  refine own_gs 230 [(.int (0 : Int32)), (.int (1 : Int32)), (.ref b4)] (fun t' k => XS.iload X69.here hx rfl (hb hby own_dI_228) rfl  k) ?_
  refine X69.stI hx hZ e69 A_b4 g_b4 1 (by decide) (Nat.le_of_ble_eq_true rfl) (hb hby own_dI_230) ?_
  intro T70 h70 X70 e70 W70 A70
  replace A_b4 : own_A Z h70 .int b4 [(.int (0 : Int32)), (.int (0 : Int32)), (.int (1 : Int32)), (.int (2 : Int32)), (.int (3 : Int32)), (.int (1 : Int32)), (.int (3 : Int32)), (.int (4 : Int32))] := A70
  clear A70
  replace E_t := E_t.wr W70
  replace A_w := A_w.other W70 (Nat.ne_of_lt lt_w_b4)
  replace F_shift := F_shift.other W70 (Or.inl (Nat.ne_of_lt lt_t_b4))
  replace F_total := F_total.other W70 (Or.inl (Nat.ne_of_lt lt_t_b4))
  replace F_packed := F_packed.other W70 (Or.inl (Nat.ne_of_lt lt_t_b4))
  replace F_thresholds := F_thresholds.other W70 (Or.inl (Nat.ne_of_lt lt_t_b4))
  replace F_aliases := F_aliases.other W70 (Or.inl (Nat.ne_of_lt lt_t_b4))
  replace A_b3 := A_b3.other W70 (Nat.ne_of_lt lt_b3_b4)
  replace A_b8 := A_b8.other W70 (Ne.symm (Nat.ne_of_lt lt_b4_b8))
  replace A_b9 := A_b9.other W70 (Ne.symm (Nat.ne_of_lt lt_b4_b9))
  replace A_b10 := A_b10.other W70 (Ne.symm (Nat.ne_of_lt lt_b4_b10))
  replace hn := Nat.le_trans hn (Keep.of_wr W70).1
  clear W70 X69 e69
  refine own_gs 233 [(.ref b8)] (fun t' k => XS.aload X70.here hx rfl (hb hby own_dI_231) rfl rfl  k) ?_
  refine own_gs 235 [(.int (0 : Int32)), (.ref b8)] (fun t' k => XS.iload X70.here hx rfl (hb hby own_dI_233) rfl  k) ?_
  refine own_gs 236 [(.int (0 : Int32)), (.ref b8), (.int (0 : Int32)), (.ref b8)] (fun t' k => Jvm.Free.XT.dup2 X70.here hx rfl (hb hby own_dI_235) rfl rfl rfl k) ?_
  refine X70.ldJ hx hZ e70 A_b8 (v := (.long (Int64.ofInt (8 * A)))) 0 (by decide) rfl (hb hby own_dI_236) ?_
  refine own_gs 238 [(.ref t), (.long (Int64.ofInt (8 * A))), (.int (0 : Int32)), (.ref b8)] (fun t' k => XS.aloadN X70.here hx rfl (hb hby own_dI_237) rfl rfl  k) ?_
  refine X70.getF hx hZ hown (hw _ (List.mem_of_getElem? (i := 19) rfl)) e70 F_total (hb hby own_dI_238) ?_
  intro T71 X71 e71
  refine own_gs 243 [(.ref b8), (.long (Int64.ofInt (5 * A))), (.long (Int64.ofInt (8 * A))), (.int (0 : Int32)), (.ref b8)] (fun t' k => XS.aload X71.here hx rfl (hb hby own_dI_241) rfl rfl  k) ?_
  refine own_gs 245 [(.int (1 : Int32)), (.ref b8), (.long (Int64.ofInt (5 * A))), (.long (Int64.ofInt (8 * A))), (.int (0 : Int32)), (.ref b8)] (fun t' k => XS.iload X71.here hx rfl (hb hby own_dI_243) rfl  k) ?_
  refine X71.ldJ hx hZ e71 A_b8 (v := (.long (Int64.ofInt (2 * A)))) 1 (by decide) rfl (hb hby own_dI_245) ?_
  refine own_gs 247 [(.long ((Int64.ofInt (5 * A)) - (Int64.ofInt (2 * A)))), (.long (Int64.ofInt (8 * A))), (.int (0 : Int32)), (.ref b8)] (fun t' k => XS.lsub X71.here hx rfl (hb hby own_dI_246) rfl k) ?_
  rw [own_osub (z := 3 * A) (show (Int64.ofInt (5 * A)) = (Int64.ofInt (5 * A)) from rfl) (show (Int64.ofInt (2 * A)) = (Int64.ofInt (2 * A)) from rfl) (by omega)]
  refine own_gs 248 [(.long ((Int64.ofInt (8 * A)) - (Int64.ofInt (3 * A)))), (.int (0 : Int32)), (.ref b8)] (fun t' k => XS.lsub X71.here hx rfl (hb hby own_dI_247) rfl k) ?_
  rw [own_osub (z := 5 * A) (show (Int64.ofInt (8 * A)) = (Int64.ofInt (8 * A)) from rfl) (show (Int64.ofInt (3 * A)) = (Int64.ofInt (3 * A)) from rfl) (by omega)]
  refine X71.stJ hx hZ e71 A_b8 g_b8 0 (by decide) (Nat.le_of_ble_eq_true rfl) (hb hby own_dI_248) ?_
  intro T72 h72 X72 e72 W72 A72
  replace A_b8 : own_A Z h72 .long b8 [(.long (Int64.ofInt (5 * A))), (.long (Int64.ofInt (2 * A))), (.long (Int64.ofInt (4 * A))), (.long (Int64.ofInt (A))), (.long (Int64.ofInt (3 * A))), (.long (0 : Int64)), (.long (0 : Int64)), (.long (0 : Int64))] := A72
  clear A72
  replace E_t := E_t.wr W72
  replace A_w := A_w.other W72 (Nat.ne_of_lt lt_w_b8)
  replace F_shift := F_shift.other W72 (Or.inl (Nat.ne_of_lt lt_t_b8))
  replace F_total := F_total.other W72 (Or.inl (Nat.ne_of_lt lt_t_b8))
  replace F_packed := F_packed.other W72 (Or.inl (Nat.ne_of_lt lt_t_b8))
  replace F_thresholds := F_thresholds.other W72 (Or.inl (Nat.ne_of_lt lt_t_b8))
  replace F_aliases := F_aliases.other W72 (Or.inl (Nat.ne_of_lt lt_t_b8))
  replace A_b3 := A_b3.other W72 (Nat.ne_of_lt lt_b3_b8)
  replace A_b4 := A_b4.other W72 (Nat.ne_of_lt lt_b4_b8)
  replace A_b9 := A_b9.other W72 (Ne.symm (Nat.ne_of_lt lt_b8_b9))
  replace A_b10 := A_b10.other W72 (Ne.symm (Nat.ne_of_lt lt_b8_b10))
  replace hn := Nat.le_trans hn (Keep.of_wr W72).1
  clear W72 X71 e71
  refine own_gs 251 [(.ref b8)] (fun t' k => XS.aload X72.here hx rfl (hb hby own_dI_249) rfl rfl  k) ?_
  refine own_gs 253 [(.int (0 : Int32)), (.ref b8)] (fun t' k => XS.iload X72.here hx rfl (hb hby own_dI_251) rfl  k) ?_
  refine X72.ldJ hx hZ e72 A_b8 (v := (.long (Int64.ofInt (5 * A)))) 0 (by decide) rfl (hb hby own_dI_253) ?_
  refine own_gs 255 [(.ref t), (.long (Int64.ofInt (5 * A)))] (fun t' k => XS.aloadN X72.here hx rfl (hb hby own_dI_254) rfl rfl  k) ?_
  refine X72.getF hx hZ hown (hw _ (List.mem_of_getElem? (i := 19) rfl)) e72 F_total (hb hby own_dI_255) ?_
  intro T73 X73 e73
  refine own_gs 259 [(.int (lcmpW (Int64.ofInt (5 * A)) (Int64.ofInt (5 * A))))] (fun t' k => XS.lcmp X73.here hx rfl (hb hby own_dI_258) rfl k) ?_
  refine own_gs 275 [] (fun t' k => XS.ifYes X73.here hx rfl (pc0 := 259) (pc' := 275) rfl (hb hby own_dI_259) rfl ((if0 _ _).trans (flt (fun q => (own_onl (show (Int64.ofInt (5 * A)) = (Int64.ofInt (5 * A)) from rfl) (show (Int64.ofInt (5 * A)) = (Int64.ofInt (5 * A)) from rfl) (by omega) (by omega) (by omega)) ((lw_lt (Int64.ofInt (5 * A)) (Int64.ofInt (5 * A))).mp q))).2.1) (by decide) (by decide) k) ?_
  refine own_gs 186 [] (fun t' k => XS.goto X73.here hx rfl (pc0 := 275) (pc' := 186) rfl (hb hby own_dI_275) (by decide) (by decide) k) ?_
  refine own_gs 188 [(.int (0 : Int32))] (fun t' k => XS.iload X73.here hx rfl (hb hby own_dI_186) rfl  k) ?_
  refine own_gs 278 [] (fun t' k => XS.ifYes X73.here hx rfl (pc0 := 188) (pc' := 278) rfl (hb hby own_dI_188) rfl ((if0 _ _).trans (flt (by decide)).2.2.2) (by decide) (by decide) k) ?_
  refine own_gs 280 [(.int (1 : Int32))] (fun t' k => XS.iload X73.here hx rfl (hb hby own_dI_278) rfl  k) ?_
  refine own_gs 283 [] (fun t' k => XS.ifNo X73.here hx rfl (hb hby own_dI_280) rfl ((if0 _ _).trans (tlt (by decide)).2.2.2) k) ?_
  refine own_gs 285 [(.ref b10)] (fun t' k => XS.aload X73.here hx rfl (hb hby own_dI_283) rfl rfl  k) ?_
  refine own_go (mkF m 288 #[rv t, rv w, iv (8 : Int32), rv b3, rv b4, jv (Int64.ofInt (5 * A)), .second, rv b8, rv b9, rv b10, iv (0 : Int32), iv (0 : Int32), iv (1 : Int32), iv (0 : Int32)] [(.ref b10)]) (fun t' k => XS.iinc X73.here hx rfl (hb hby own_dI_285) rfl rfl k) ?_
  refine own_gs 290 [(.int (0 : Int32)), (.ref b10)] (fun t' k => XS.iload X73.here hx rfl (hb hby own_dI_288) rfl  k) ?_
  refine X73.ldI hx hZ e73 A_b10 (v := (.int (0 : Int32))) 0 (by decide) rfl (hb hby own_dI_290) ?_
  refine own_go (mkF m 293 #[rv t, rv w, iv (8 : Int32), rv b3, rv b4, jv (Int64.ofInt (5 * A)), .second, rv b8, rv b9, rv b10, iv (0 : Int32), iv (0 : Int32), iv (0 : Int32), iv (0 : Int32)] []) (fun t' k => XS.istore X73.here hx rfl (hb hby own_dI_291) rfl rfl k) ?_
  refine own_gs 295 [(.ref b4)] (fun t' k => XS.aload X73.here hx rfl (hb hby own_dI_293) rfl rfl  k) ?_
  refine own_gs 297 [(.int (0 : Int32)), (.ref b4)] (fun t' k => XS.iload X73.here hx rfl (hb hby own_dI_295) rfl  k) ?_
  refine own_gs 299 [(.int (0 : Int32)), (.int (0 : Int32)), (.ref b4)] (fun t' k => XS.iload X73.here hx rfl (hb hby own_dI_297) rfl  k) ?_
  refine X73.stI hx hZ e73 A_b4 g_b4 0 (by decide) (Nat.le_of_ble_eq_true rfl) (hb hby own_dI_299) ?_
  intro T74 h74 X74 e74 W74 A74
  replace A_b4 : own_A Z h74 .int b4 [(.int (0 : Int32)), (.int (0 : Int32)), (.int (1 : Int32)), (.int (2 : Int32)), (.int (3 : Int32)), (.int (1 : Int32)), (.int (3 : Int32)), (.int (4 : Int32))] := A74
  clear A74
  replace E_t := E_t.wr W74
  replace A_w := A_w.other W74 (Nat.ne_of_lt lt_w_b4)
  replace F_shift := F_shift.other W74 (Or.inl (Nat.ne_of_lt lt_t_b4))
  replace F_total := F_total.other W74 (Or.inl (Nat.ne_of_lt lt_t_b4))
  replace F_packed := F_packed.other W74 (Or.inl (Nat.ne_of_lt lt_t_b4))
  replace F_thresholds := F_thresholds.other W74 (Or.inl (Nat.ne_of_lt lt_t_b4))
  replace F_aliases := F_aliases.other W74 (Or.inl (Nat.ne_of_lt lt_t_b4))
  replace A_b3 := A_b3.other W74 (Nat.ne_of_lt lt_b3_b4)
  replace A_b8 := A_b8.other W74 (Ne.symm (Nat.ne_of_lt lt_b4_b8))
  replace A_b9 := A_b9.other W74 (Ne.symm (Nat.ne_of_lt lt_b4_b9))
  replace A_b10 := A_b10.other W74 (Ne.symm (Nat.ne_of_lt lt_b4_b10))
  replace hn := Nat.le_trans hn (Keep.of_wr W74).1
  clear W74 X73 e73
  refine own_gs 278 [] (fun t' k => XS.goto X74.here hx rfl (pc0 := 300) (pc' := 278) rfl (hb hby own_dI_300) (by decide) (by decide) k) ?_
  refine own_gs 280 [(.int (0 : Int32))] (fun t' k => XS.iload X74.here hx rfl (hb hby own_dI_278) rfl  k) ?_
  refine own_gs 303 [] (fun t' k => XS.ifYes X74.here hx rfl (pc0 := 280) (pc' := 303) rfl (hb hby own_dI_280) rfl ((if0 _ _).trans (flt (by decide)).2.2.2) (by decide) (by decide) k) ?_
  refine own_gs 304 [(.ref t)] (fun t' k => XS.aloadN X74.here hx rfl (hb hby own_dI_303) rfl rfl  k) ?_
  refine X74.getF hx hZ hown (hw _ (List.mem_of_getElem? (i := 19) rfl)) e74 F_total (hb hby own_dI_304) ?_
  intro T75 X75 e75
  refine own_gs 310 [(.long (8589934592 : Int64)), (.long (Int64.ofInt (5 * A)))] (fun t' k => X75.ldc2Long hx hown (mvT hZ (hw _ (List.mem_of_getElem? (i := 21) rfl))) (g := (mkF m 307 #[rv t, rv w, iv (8 : Int32), rv b3, rv b4, jv (Int64.ofInt (5 * A)), .second, rv b8, rv b9, rv b10, iv (0 : Int32), iv (0 : Int32), iv (0 : Int32), iv (0 : Int32)] [(.long (Int64.ofInt (5 * A)))])) rfl (hb hby own_dI_307) _ k) ?_
  refine own_gs 311 [(.int (lcmpW (Int64.ofInt (5 * A)) (8589934592 : Int64)))] (fun t' k => XS.lcmp X75.here hx rfl (hb hby own_dI_310) rfl k) ?_
  by_cases hc311 : (8589934592 : Int64) < (Int64.ofInt (5 * A))
  · skip
    refine own_gs 370 [] (fun t' k => XS.ifYes X75.here hx rfl (pc0 := 311) (pc' := 370) rfl (hb hby own_dI_311) rfl ((if0 _ _).trans (tlt ((lw_gt (Int64.ofInt (5 * A)) (8589934592 : Int64)).mpr hc311)).2.2.1) (by decide) (by decide) k) ?_
    refine own_gs 371 [(.ref t)] (fun t' k => XS.aloadN X75.here hx rfl (hb hby own_dI_370) rfl rfl  k) ?_
    refine own_gs 372 [.null, (.ref t)] (fun t' k => XS.aconstNull X75.here hx rfl (hb hby own_dI_371) k) ?_
    refine X75.putF hx hZ hown (hw _ (List.mem_of_getElem? (i := 22) rfl)) e75 F_packed E_t g_t (Or.inr ⟨(hw _ (List.mem_of_getElem? (i := 23) rfl)), rfl, hnm⟩) (hw _ (List.mem_of_getElem? (i := 4) rfl)) (ty := (.array .long)) (by decide) rfl rfl (hb hby own_dI_372) ?_
    intro T76 h76 X76 e76 W76
    replace E_t := E_t.wr W76
    replace A_w := A_w.other W76 (Ne.symm ne_t_w)
    replace F_shift := F_shift.other W76 (Or.inr (own_sn_AliasTable_shift_packed hw))
    replace F_total := F_total.other W76 (Or.inr (own_sn_AliasTable_total_packed hw))
    replace F_packed := F_packed.same W76
    replace F_thresholds := F_thresholds.other W76 (Or.inr (own_sn_AliasTable_thresholds_packed hw))
    replace F_aliases := F_aliases.other W76 (Or.inr (own_sn_AliasTable_aliases_packed hw))
    replace A_b3 := A_b3.other W76 (Ne.symm (Nat.ne_of_lt lt_t_b3))
    replace A_b4 := A_b4.other W76 (Ne.symm (Nat.ne_of_lt lt_t_b4))
    replace A_b8 := A_b8.other W76 (Ne.symm (Nat.ne_of_lt lt_t_b8))
    replace A_b9 := A_b9.other W76 (Ne.symm (Nat.ne_of_lt lt_t_b9))
    replace A_b10 := A_b10.other W76 (Ne.symm (Nat.ne_of_lt lt_t_b10))
    replace hn := Nat.le_trans hn (Keep.of_wr W76).1
    clear W76 X75 e75
    refine own_gs 376 [(.ref t)] (fun t' k => XS.aloadN X76.here hx rfl (hb hby own_dI_375) rfl rfl  k) ?_
    refine own_gs 377 [(.ref b3), (.ref t)] (fun t' k => XS.aloadN X76.here hx rfl (hb hby own_dI_376) rfl rfl  k) ?_
    refine X76.putF hx hZ hown (hw _ (List.mem_of_getElem? (i := 24) rfl)) e76 F_thresholds E_t g_t (Or.inr ⟨(hw _ (List.mem_of_getElem? (i := 25) rfl)), rfl, hnm⟩) (hw _ (List.mem_of_getElem? (i := 4) rfl)) (ty := (.array .long)) (by decide) rfl rfl (hb hby own_dI_377) ?_
    intro T77 h77 X77 e77 W77
    replace E_t := E_t.wr W77
    replace A_w := A_w.other W77 (Ne.symm ne_t_w)
    replace F_shift := F_shift.other W77 (Or.inr (own_sn_AliasTable_shift_thresholds hw))
    replace F_total := F_total.other W77 (Or.inr (own_sn_AliasTable_total_thresholds hw))
    replace F_packed := F_packed.other W77 (Or.inr (own_sn_AliasTable_packed_thresholds hw))
    replace F_thresholds := F_thresholds.same W77
    replace F_aliases := F_aliases.other W77 (Or.inr (own_sn_AliasTable_aliases_thresholds hw))
    replace A_b3 := A_b3.other W77 (Ne.symm (Nat.ne_of_lt lt_t_b3))
    replace A_b4 := A_b4.other W77 (Ne.symm (Nat.ne_of_lt lt_t_b4))
    replace A_b8 := A_b8.other W77 (Ne.symm (Nat.ne_of_lt lt_t_b8))
    replace A_b9 := A_b9.other W77 (Ne.symm (Nat.ne_of_lt lt_t_b9))
    replace A_b10 := A_b10.other W77 (Ne.symm (Nat.ne_of_lt lt_t_b10))
    replace hn := Nat.le_trans hn (Keep.of_wr W77).1
    clear W77 X76 e76
    refine own_gs 381 [(.ref t)] (fun t' k => XS.aloadN X77.here hx rfl (hb hby own_dI_380) rfl rfl  k) ?_
    refine own_gs 383 [(.ref b4), (.ref t)] (fun t' k => XS.aload X77.here hx rfl (hb hby own_dI_381) rfl rfl  k) ?_
    refine X77.putF hx hZ hown (hw _ (List.mem_of_getElem? (i := 26) rfl)) e77 F_aliases E_t g_t (Or.inr ⟨(hw _ (List.mem_of_getElem? (i := 27) rfl)), rfl, hnm⟩) (hw _ (List.mem_of_getElem? (i := 4) rfl)) (ty := (.array .int)) (by decide) rfl rfl (hb hby own_dI_383) ?_
    intro T78 h78 X78 e78 W78
    replace E_t := E_t.wr W78
    replace A_w := A_w.other W78 (Ne.symm ne_t_w)
    replace F_shift := F_shift.other W78 (Or.inr (own_sn_AliasTable_shift_aliases hw))
    replace F_total := F_total.other W78 (Or.inr (own_sn_AliasTable_total_aliases hw))
    replace F_packed := F_packed.other W78 (Or.inr (own_sn_AliasTable_packed_aliases hw))
    replace F_thresholds := F_thresholds.other W78 (Or.inr (own_sn_AliasTable_thresholds_aliases hw))
    replace F_aliases := F_aliases.same W78
    replace A_b3 := A_b3.other W78 (Ne.symm (Nat.ne_of_lt lt_t_b3))
    replace A_b4 := A_b4.other W78 (Ne.symm (Nat.ne_of_lt lt_t_b4))
    replace A_b8 := A_b8.other W78 (Ne.symm (Nat.ne_of_lt lt_t_b8))
    replace A_b9 := A_b9.other W78 (Ne.symm (Nat.ne_of_lt lt_t_b9))
    replace A_b10 := A_b10.other W78 (Ne.symm (Nat.ne_of_lt lt_t_b10))
    replace hn := Nat.le_trans hn (Keep.of_wr W78).1
    clear W78 X77 e77
    refine X78.retV hx hlk hret (hb hby own_dI_386) ?_ (by decide) (by decide)
    rw [e78]
    exact ⟨rfl, hn, E_t, Or.inr ⟨F_packed, _, _, F_thresholds, F_aliases, A_b3, A_b4⟩⟩
  · skip
    refine own_gs 314 [] (fun t' k => XS.ifNo X75.here hx rfl (hb hby own_dI_311) rfl ((if0 _ _).trans (flt (fun q => hc311 ((lw_gt (Int64.ofInt (5 * A)) (8589934592 : Int64)).mp q))).2.2.1) k) ?_
    refine own_gs 315 [(.ref t)] (fun t' k => XS.aloadN X75.here hx rfl (hb hby own_dI_314) rfl rfl  k) ?_
    refine own_gs 316 [(.int (8 : Int32)), (.ref t)] (fun t' k => XS.iloadN X75.here hx rfl (hb hby own_dI_315) rfl  k) ?_
    refine X75.newP hx hZ (hw _ (List.mem_of_getElem? (i := 2) rfl)) e75 8 (by decide) (hb hby own_dI_316) 8 (by decide) (by decide) (by decide) (by decide) ?_
    intro T79 h79 b79 X79 e79 q79 xt79 A_b79
    have g_b79 : n0 ≤ b79 := by rw [q79]; exact hn
    have lt_t_b79 : t < b79 := by rw [q79]; exact E_t.lt
    have lt_w_b79 : w < b79 := by rw [q79]; exact A_w.lt
    have lt_b3_b79 : b3 < b79 := by rw [q79]; exact A_b3.lt
    have lt_b4_b79 : b4 < b79 := by rw [q79]; exact A_b4.lt
    have lt_b8_b79 : b8 < b79 := by rw [q79]; exact A_b8.lt
    have lt_b9_b79 : b9 < b79 := by rw [q79]; exact A_b9.lt
    have lt_b10_b79 : b10 < b79 := by rw [q79]; exact A_b10.lt
    replace E_t := E_t.ext xt79
    replace A_w := A_w.ext xt79
    replace F_shift := F_shift.ext xt79
    replace F_total := F_total.ext xt79
    replace F_packed := F_packed.ext xt79
    replace F_thresholds := F_thresholds.ext xt79
    replace F_aliases := F_aliases.ext xt79
    replace A_b3 := A_b3.ext xt79
    replace A_b4 := A_b4.ext xt79
    replace A_b8 := A_b8.ext xt79
    replace A_b9 := A_b9.ext xt79
    replace A_b10 := A_b10.ext xt79
    replace hn := Nat.le_trans hn xt79.1
    replace A_b79 : own_A Z h79 .long b79 [(.long (0 : Int64)), (.long (0 : Int64)), (.long (0 : Int64)), (.long (0 : Int64)), (.long (0 : Int64)), (.long (0 : Int64)), (.long (0 : Int64)), (.long (0 : Int64))] := A_b79
    refine X79.putF hx hZ hown (hw _ (List.mem_of_getElem? (i := 22) rfl)) e79 F_packed E_t g_t (Or.inr ⟨(hw _ (List.mem_of_getElem? (i := 23) rfl)), rfl, hnm⟩) (hw _ (List.mem_of_getElem? (i := 4) rfl)) (ty := (.array .long)) (by decide) rfl rfl (hb hby own_dI_318) ?_
    intro T80 h80 X80 e80 W80
    replace E_t := E_t.wr W80
    replace A_w := A_w.other W80 (Ne.symm ne_t_w)
    replace F_shift := F_shift.other W80 (Or.inr (own_sn_AliasTable_shift_packed hw))
    replace F_total := F_total.other W80 (Or.inr (own_sn_AliasTable_total_packed hw))
    replace F_packed := F_packed.same W80
    replace F_thresholds := F_thresholds.other W80 (Or.inr (own_sn_AliasTable_thresholds_packed hw))
    replace F_aliases := F_aliases.other W80 (Or.inr (own_sn_AliasTable_aliases_packed hw))
    replace A_b3 := A_b3.other W80 (Ne.symm (Nat.ne_of_lt lt_t_b3))
    replace A_b4 := A_b4.other W80 (Ne.symm (Nat.ne_of_lt lt_t_b4))
    replace A_b8 := A_b8.other W80 (Ne.symm (Nat.ne_of_lt lt_t_b8))
    replace A_b9 := A_b9.other W80 (Ne.symm (Nat.ne_of_lt lt_t_b9))
    replace A_b10 := A_b10.other W80 (Ne.symm (Nat.ne_of_lt lt_t_b10))
    replace A_b79 := A_b79.other W80 (Ne.symm (Nat.ne_of_lt lt_t_b79))
    replace hn := Nat.le_trans hn (Keep.of_wr W80).1
    clear W80 X79 e79
    refine own_gs 322 [(.int (0 : Int32))] (fun t' k => XS.iconst X80.here hx rfl (hb hby own_dI_321) k) ?_
    refine own_gs 324 [] (fun t' k => XS.istore X80.here hx rfl (hb hby own_dI_322) rfl rfl k) ?_
    refine own_gs 326 [(.int (0 : Int32))] (fun t' k => XS.iload X80.here hx rfl (hb hby own_dI_324) rfl  k) ?_
    refine own_gs 327 [(.int (8 : Int32)), (.int (0 : Int32))] (fun t' k => XS.iloadN X80.here hx rfl (hb hby own_dI_326) rfl  k) ?_
    refine own_gs 330 [] (fun t' k => XS.icmpNo X80.here hx rfl (hb hby own_dI_327) rfl (tlt (by decide)).2.1 k) ?_
    refine own_gs 331 [(.ref t)] (fun t' k => XS.aloadN X80.here hx rfl (hb hby own_dI_330) rfl rfl  k) ?_
    refine X80.getF hx hZ hown (hw _ (List.mem_of_getElem? (i := 22) rfl)) e80 F_packed (hb hby own_dI_331) ?_
    intro T81 X81 e81
    refine own_gs 336 [(.int (0 : Int32)), (.ref b79)] (fun t' k => XS.iload X81.here hx rfl (hb hby own_dI_334) rfl  k) ?_
    refine own_gs 337 [(.ref b3), (.int (0 : Int32)), (.ref b79)] (fun t' k => XS.aloadN X81.here hx rfl (hb hby own_dI_336) rfl rfl  k) ?_
    refine own_gs 339 [(.int (0 : Int32)), (.ref b3), (.int (0 : Int32)), (.ref b79)] (fun t' k => XS.iload X81.here hx rfl (hb hby own_dI_337) rfl  k) ?_
    refine X81.ldJ hx hZ e81 A_b3 (v := (.long (0 : Int64))) 0 (by decide) rfl (hb hby own_dI_339) ?_
    refine own_gs 342 [(.int (31 : Int32)), (.long (0 : Int64)), (.int (0 : Int32)), (.ref b79)] (fun t' k => XS.bipush X81.here hx rfl (hb hby own_dI_340) k) ?_
    refine own_gs 343 [(.long (0 : Int64)), (.int (0 : Int32)), (.ref b79)] (fun t' k => XS.lshl X81.here hx rfl (hb hby own_dI_342) rfl k) ?_
    refine own_gs 345 [(.ref b4), (.long (0 : Int64)), (.int (0 : Int32)), (.ref b79)] (fun t' k => XS.aload X81.here hx rfl (hb hby own_dI_343) rfl rfl  k) ?_
    refine own_gs 347 [(.int (0 : Int32)), (.ref b4), (.long (0 : Int64)), (.int (0 : Int32)), (.ref b79)] (fun t' k => XS.iload X81.here hx rfl (hb hby own_dI_345) rfl  k) ?_
    refine X81.ldI hx hZ e81 A_b4 (v := (.int (0 : Int32))) 0 (by decide) rfl (hb hby own_dI_347) ?_
    refine own_gs 349 [(.long (0 : Int64)), (.long (0 : Int64)), (.int (0 : Int32)), (.ref b79)] (fun t' k => XS.i2l X81.here hx rfl (hb hby own_dI_348) rfl k) ?_
    refine own_gs 350 [(.long (0 : Int64)), (.int (0 : Int32)), (.ref b79)] (fun t' k => XS.lor X81.here hx rfl (hb hby own_dI_349) rfl k) ?_
    refine X81.stJ hx hZ e81 A_b79 g_b79 0 (by decide) (Nat.le_of_ble_eq_true rfl) (hb hby own_dI_350) ?_
    intro T82 h82 X82 e82 W82 A82
    replace A_b79 : own_A Z h82 .long b79 [(.long (0 : Int64)), (.long (0 : Int64)), (.long (0 : Int64)), (.long (0 : Int64)), (.long (0 : Int64)), (.long (0 : Int64)), (.long (0 : Int64)), (.long (0 : Int64))] := A82
    clear A82
    replace E_t := E_t.wr W82
    replace A_w := A_w.other W82 (Nat.ne_of_lt lt_w_b79)
    replace F_shift := F_shift.other W82 (Or.inl (Nat.ne_of_lt lt_t_b79))
    replace F_total := F_total.other W82 (Or.inl (Nat.ne_of_lt lt_t_b79))
    replace F_packed := F_packed.other W82 (Or.inl (Nat.ne_of_lt lt_t_b79))
    replace F_thresholds := F_thresholds.other W82 (Or.inl (Nat.ne_of_lt lt_t_b79))
    replace F_aliases := F_aliases.other W82 (Or.inl (Nat.ne_of_lt lt_t_b79))
    replace A_b3 := A_b3.other W82 (Nat.ne_of_lt lt_b3_b79)
    replace A_b4 := A_b4.other W82 (Nat.ne_of_lt lt_b4_b79)
    replace A_b8 := A_b8.other W82 (Nat.ne_of_lt lt_b8_b79)
    replace A_b9 := A_b9.other W82 (Nat.ne_of_lt lt_b9_b79)
    replace A_b10 := A_b10.other W82 (Nat.ne_of_lt lt_b10_b79)
    replace hn := Nat.le_trans hn (Keep.of_wr W82).1
    clear W82 X81 e81
    refine own_go (mkF m 354 #[rv t, rv w, iv (8 : Int32), rv b3, rv b4, jv (Int64.ofInt (5 * A)), .second, rv b8, rv b9, rv b10, iv (0 : Int32), iv (0 : Int32), iv (1 : Int32), iv (0 : Int32)] []) (fun t' k => XS.iinc X82.here hx rfl (hb hby own_dI_351) rfl rfl k) ?_
    refine own_gs 324 [] (fun t' k => XS.goto X82.here hx rfl (pc0 := 354) (pc' := 324) rfl (hb hby own_dI_354) (by decide) (by decide) k) ?_
    refine own_gs 326 [(.int (1 : Int32))] (fun t' k => XS.iload X82.here hx rfl (hb hby own_dI_324) rfl  k) ?_
    refine own_gs 327 [(.int (8 : Int32)), (.int (1 : Int32))] (fun t' k => XS.iloadN X82.here hx rfl (hb hby own_dI_326) rfl  k) ?_
    refine own_gs 330 [] (fun t' k => XS.icmpNo X82.here hx rfl (hb hby own_dI_327) rfl (tlt (by decide)).2.1 k) ?_
    refine own_gs 331 [(.ref t)] (fun t' k => XS.aloadN X82.here hx rfl (hb hby own_dI_330) rfl rfl  k) ?_
    refine X82.getF hx hZ hown (hw _ (List.mem_of_getElem? (i := 22) rfl)) e82 F_packed (hb hby own_dI_331) ?_
    intro T83 X83 e83
    refine own_gs 336 [(.int (1 : Int32)), (.ref b79)] (fun t' k => XS.iload X83.here hx rfl (hb hby own_dI_334) rfl  k) ?_
    refine own_gs 337 [(.ref b3), (.int (1 : Int32)), (.ref b79)] (fun t' k => XS.aloadN X83.here hx rfl (hb hby own_dI_336) rfl rfl  k) ?_
    refine own_gs 339 [(.int (1 : Int32)), (.ref b3), (.int (1 : Int32)), (.ref b79)] (fun t' k => XS.iload X83.here hx rfl (hb hby own_dI_337) rfl  k) ?_
    refine X83.ldJ hx hZ e83 A_b3 (v := (.long (Int64.ofInt (2 * A)))) 1 (by decide) rfl (hb hby own_dI_339) ?_
    refine own_gs 342 [(.int (31 : Int32)), (.long (Int64.ofInt (2 * A))), (.int (1 : Int32)), (.ref b79)] (fun t' k => XS.bipush X83.here hx rfl (hb hby own_dI_340) k) ?_
    refine own_gs 343 [(.long ((Int64.ofInt (2 * A)) <<< ((31 : Int32) &&& 0x3f).toInt64)), (.int (1 : Int32)), (.ref b79)] (fun t' k => XS.lshl X83.here hx rfl (hb hby own_dI_342) rfl k) ?_
    refine own_gs 345 [(.ref b4), (.long ((Int64.ofInt (2 * A)) <<< ((31 : Int32) &&& 0x3f).toInt64)), (.int (1 : Int32)), (.ref b79)] (fun t' k => XS.aload X83.here hx rfl (hb hby own_dI_343) rfl rfl  k) ?_
    refine own_gs 347 [(.int (1 : Int32)), (.ref b4), (.long ((Int64.ofInt (2 * A)) <<< ((31 : Int32) &&& 0x3f).toInt64)), (.int (1 : Int32)), (.ref b79)] (fun t' k => XS.iload X83.here hx rfl (hb hby own_dI_345) rfl  k) ?_
    refine X83.ldI hx hZ e83 A_b4 (v := (.int (0 : Int32))) 1 (by decide) rfl (hb hby own_dI_347) ?_
    refine own_gs 349 [(.long (0 : Int64)), (.long ((Int64.ofInt (2 * A)) <<< ((31 : Int32) &&& 0x3f).toInt64)), (.int (1 : Int32)), (.ref b79)] (fun t' k => XS.i2l X83.here hx rfl (hb hby own_dI_348) rfl k) ?_
    refine own_gs 350 [(.long (((Int64.ofInt (2 * A)) <<< ((31 : Int32) &&& 0x3f).toInt64) ||| (0 : Int64))), (.int (1 : Int32)), (.ref b79)] (fun t' k => XS.lor X83.here hx rfl (hb hby own_dI_349) rfl k) ?_
    refine X83.stJ hx hZ e83 A_b79 g_b79 1 (by decide) (Nat.le_of_ble_eq_true rfl) (hb hby own_dI_350) ?_
    intro T84 h84 X84 e84 W84 A84
    replace A_b79 : own_A Z h84 .long b79 [(.long (0 : Int64)), (.long (((Int64.ofInt (2 * A)) <<< ((31 : Int32) &&& 0x3f).toInt64) ||| (0 : Int64))), (.long (0 : Int64)), (.long (0 : Int64)), (.long (0 : Int64)), (.long (0 : Int64)), (.long (0 : Int64)), (.long (0 : Int64))] := A84
    clear A84
    replace E_t := E_t.wr W84
    replace A_w := A_w.other W84 (Nat.ne_of_lt lt_w_b79)
    replace F_shift := F_shift.other W84 (Or.inl (Nat.ne_of_lt lt_t_b79))
    replace F_total := F_total.other W84 (Or.inl (Nat.ne_of_lt lt_t_b79))
    replace F_packed := F_packed.other W84 (Or.inl (Nat.ne_of_lt lt_t_b79))
    replace F_thresholds := F_thresholds.other W84 (Or.inl (Nat.ne_of_lt lt_t_b79))
    replace F_aliases := F_aliases.other W84 (Or.inl (Nat.ne_of_lt lt_t_b79))
    replace A_b3 := A_b3.other W84 (Nat.ne_of_lt lt_b3_b79)
    replace A_b4 := A_b4.other W84 (Nat.ne_of_lt lt_b4_b79)
    replace A_b8 := A_b8.other W84 (Nat.ne_of_lt lt_b8_b79)
    replace A_b9 := A_b9.other W84 (Nat.ne_of_lt lt_b9_b79)
    replace A_b10 := A_b10.other W84 (Nat.ne_of_lt lt_b10_b79)
    replace hn := Nat.le_trans hn (Keep.of_wr W84).1
    clear W84 X83 e83
    refine own_go (mkF m 354 #[rv t, rv w, iv (8 : Int32), rv b3, rv b4, jv (Int64.ofInt (5 * A)), .second, rv b8, rv b9, rv b10, iv (0 : Int32), iv (0 : Int32), iv (2 : Int32), iv (0 : Int32)] []) (fun t' k => XS.iinc X84.here hx rfl (hb hby own_dI_351) rfl rfl k) ?_
    refine own_gs 324 [] (fun t' k => XS.goto X84.here hx rfl (pc0 := 354) (pc' := 324) rfl (hb hby own_dI_354) (by decide) (by decide) k) ?_
    refine own_gs 326 [(.int (2 : Int32))] (fun t' k => XS.iload X84.here hx rfl (hb hby own_dI_324) rfl  k) ?_
    refine own_gs 327 [(.int (8 : Int32)), (.int (2 : Int32))] (fun t' k => XS.iloadN X84.here hx rfl (hb hby own_dI_326) rfl  k) ?_
    refine own_gs 330 [] (fun t' k => XS.icmpNo X84.here hx rfl (hb hby own_dI_327) rfl (tlt (by decide)).2.1 k) ?_
    refine own_gs 331 [(.ref t)] (fun t' k => XS.aloadN X84.here hx rfl (hb hby own_dI_330) rfl rfl  k) ?_
    refine X84.getF hx hZ hown (hw _ (List.mem_of_getElem? (i := 22) rfl)) e84 F_packed (hb hby own_dI_331) ?_
    intro T85 X85 e85
    refine own_gs 336 [(.int (2 : Int32)), (.ref b79)] (fun t' k => XS.iload X85.here hx rfl (hb hby own_dI_334) rfl  k) ?_
    refine own_gs 337 [(.ref b3), (.int (2 : Int32)), (.ref b79)] (fun t' k => XS.aloadN X85.here hx rfl (hb hby own_dI_336) rfl rfl  k) ?_
    refine own_gs 339 [(.int (2 : Int32)), (.ref b3), (.int (2 : Int32)), (.ref b79)] (fun t' k => XS.iload X85.here hx rfl (hb hby own_dI_337) rfl  k) ?_
    refine X85.ldJ hx hZ e85 A_b3 (v := (.long (Int64.ofInt (4 * A)))) 2 (by decide) rfl (hb hby own_dI_339) ?_
    refine own_gs 342 [(.int (31 : Int32)), (.long (Int64.ofInt (4 * A))), (.int (2 : Int32)), (.ref b79)] (fun t' k => XS.bipush X85.here hx rfl (hb hby own_dI_340) k) ?_
    refine own_gs 343 [(.long ((Int64.ofInt (4 * A)) <<< ((31 : Int32) &&& 0x3f).toInt64)), (.int (2 : Int32)), (.ref b79)] (fun t' k => XS.lshl X85.here hx rfl (hb hby own_dI_342) rfl k) ?_
    refine own_gs 345 [(.ref b4), (.long ((Int64.ofInt (4 * A)) <<< ((31 : Int32) &&& 0x3f).toInt64)), (.int (2 : Int32)), (.ref b79)] (fun t' k => XS.aload X85.here hx rfl (hb hby own_dI_343) rfl rfl  k) ?_
    refine own_gs 347 [(.int (2 : Int32)), (.ref b4), (.long ((Int64.ofInt (4 * A)) <<< ((31 : Int32) &&& 0x3f).toInt64)), (.int (2 : Int32)), (.ref b79)] (fun t' k => XS.iload X85.here hx rfl (hb hby own_dI_345) rfl  k) ?_
    refine X85.ldI hx hZ e85 A_b4 (v := (.int (1 : Int32))) 2 (by decide) rfl (hb hby own_dI_347) ?_
    refine own_gs 349 [(.long (1 : Int64)), (.long ((Int64.ofInt (4 * A)) <<< ((31 : Int32) &&& 0x3f).toInt64)), (.int (2 : Int32)), (.ref b79)] (fun t' k => XS.i2l X85.here hx rfl (hb hby own_dI_348) rfl k) ?_
    refine own_gs 350 [(.long (((Int64.ofInt (4 * A)) <<< ((31 : Int32) &&& 0x3f).toInt64) ||| (1 : Int64))), (.int (2 : Int32)), (.ref b79)] (fun t' k => XS.lor X85.here hx rfl (hb hby own_dI_349) rfl k) ?_
    refine X85.stJ hx hZ e85 A_b79 g_b79 2 (by decide) (Nat.le_of_ble_eq_true rfl) (hb hby own_dI_350) ?_
    intro T86 h86 X86 e86 W86 A86
    replace A_b79 : own_A Z h86 .long b79 [(.long (0 : Int64)), (.long (((Int64.ofInt (2 * A)) <<< ((31 : Int32) &&& 0x3f).toInt64) ||| (0 : Int64))), (.long (((Int64.ofInt (4 * A)) <<< ((31 : Int32) &&& 0x3f).toInt64) ||| (1 : Int64))), (.long (0 : Int64)), (.long (0 : Int64)), (.long (0 : Int64)), (.long (0 : Int64)), (.long (0 : Int64))] := A86
    clear A86
    replace E_t := E_t.wr W86
    replace A_w := A_w.other W86 (Nat.ne_of_lt lt_w_b79)
    replace F_shift := F_shift.other W86 (Or.inl (Nat.ne_of_lt lt_t_b79))
    replace F_total := F_total.other W86 (Or.inl (Nat.ne_of_lt lt_t_b79))
    replace F_packed := F_packed.other W86 (Or.inl (Nat.ne_of_lt lt_t_b79))
    replace F_thresholds := F_thresholds.other W86 (Or.inl (Nat.ne_of_lt lt_t_b79))
    replace F_aliases := F_aliases.other W86 (Or.inl (Nat.ne_of_lt lt_t_b79))
    replace A_b3 := A_b3.other W86 (Nat.ne_of_lt lt_b3_b79)
    replace A_b4 := A_b4.other W86 (Nat.ne_of_lt lt_b4_b79)
    replace A_b8 := A_b8.other W86 (Nat.ne_of_lt lt_b8_b79)
    replace A_b9 := A_b9.other W86 (Nat.ne_of_lt lt_b9_b79)
    replace A_b10 := A_b10.other W86 (Nat.ne_of_lt lt_b10_b79)
    replace hn := Nat.le_trans hn (Keep.of_wr W86).1
    clear W86 X85 e85
    refine own_go (mkF m 354 #[rv t, rv w, iv (8 : Int32), rv b3, rv b4, jv (Int64.ofInt (5 * A)), .second, rv b8, rv b9, rv b10, iv (0 : Int32), iv (0 : Int32), iv (3 : Int32), iv (0 : Int32)] []) (fun t' k => XS.iinc X86.here hx rfl (hb hby own_dI_351) rfl rfl k) ?_
    refine own_gs 324 [] (fun t' k => XS.goto X86.here hx rfl (pc0 := 354) (pc' := 324) rfl (hb hby own_dI_354) (by decide) (by decide) k) ?_
    refine own_gs 326 [(.int (3 : Int32))] (fun t' k => XS.iload X86.here hx rfl (hb hby own_dI_324) rfl  k) ?_
    refine own_gs 327 [(.int (8 : Int32)), (.int (3 : Int32))] (fun t' k => XS.iloadN X86.here hx rfl (hb hby own_dI_326) rfl  k) ?_
    refine own_gs 330 [] (fun t' k => XS.icmpNo X86.here hx rfl (hb hby own_dI_327) rfl (tlt (by decide)).2.1 k) ?_
    refine own_gs 331 [(.ref t)] (fun t' k => XS.aloadN X86.here hx rfl (hb hby own_dI_330) rfl rfl  k) ?_
    refine X86.getF hx hZ hown (hw _ (List.mem_of_getElem? (i := 22) rfl)) e86 F_packed (hb hby own_dI_331) ?_
    intro T87 X87 e87
    refine own_gs 336 [(.int (3 : Int32)), (.ref b79)] (fun t' k => XS.iload X87.here hx rfl (hb hby own_dI_334) rfl  k) ?_
    refine own_gs 337 [(.ref b3), (.int (3 : Int32)), (.ref b79)] (fun t' k => XS.aloadN X87.here hx rfl (hb hby own_dI_336) rfl rfl  k) ?_
    refine own_gs 339 [(.int (3 : Int32)), (.ref b3), (.int (3 : Int32)), (.ref b79)] (fun t' k => XS.iload X87.here hx rfl (hb hby own_dI_337) rfl  k) ?_
    refine X87.ldJ hx hZ e87 A_b3 (v := (.long (Int64.ofInt (A)))) 3 (by decide) rfl (hb hby own_dI_339) ?_
    refine own_gs 342 [(.int (31 : Int32)), (.long (Int64.ofInt (A))), (.int (3 : Int32)), (.ref b79)] (fun t' k => XS.bipush X87.here hx rfl (hb hby own_dI_340) k) ?_
    refine own_gs 343 [(.long ((Int64.ofInt (A)) <<< ((31 : Int32) &&& 0x3f).toInt64)), (.int (3 : Int32)), (.ref b79)] (fun t' k => XS.lshl X87.here hx rfl (hb hby own_dI_342) rfl k) ?_
    refine own_gs 345 [(.ref b4), (.long ((Int64.ofInt (A)) <<< ((31 : Int32) &&& 0x3f).toInt64)), (.int (3 : Int32)), (.ref b79)] (fun t' k => XS.aload X87.here hx rfl (hb hby own_dI_343) rfl rfl  k) ?_
    refine own_gs 347 [(.int (3 : Int32)), (.ref b4), (.long ((Int64.ofInt (A)) <<< ((31 : Int32) &&& 0x3f).toInt64)), (.int (3 : Int32)), (.ref b79)] (fun t' k => XS.iload X87.here hx rfl (hb hby own_dI_345) rfl  k) ?_
    refine X87.ldI hx hZ e87 A_b4 (v := (.int (2 : Int32))) 3 (by decide) rfl (hb hby own_dI_347) ?_
    refine own_gs 349 [(.long (2 : Int64)), (.long ((Int64.ofInt (A)) <<< ((31 : Int32) &&& 0x3f).toInt64)), (.int (3 : Int32)), (.ref b79)] (fun t' k => XS.i2l X87.here hx rfl (hb hby own_dI_348) rfl k) ?_
    refine own_gs 350 [(.long (((Int64.ofInt (A)) <<< ((31 : Int32) &&& 0x3f).toInt64) ||| (2 : Int64))), (.int (3 : Int32)), (.ref b79)] (fun t' k => XS.lor X87.here hx rfl (hb hby own_dI_349) rfl k) ?_
    refine X87.stJ hx hZ e87 A_b79 g_b79 3 (by decide) (Nat.le_of_ble_eq_true rfl) (hb hby own_dI_350) ?_
    intro T88 h88 X88 e88 W88 A88
    replace A_b79 : own_A Z h88 .long b79 [(.long (0 : Int64)), (.long (((Int64.ofInt (2 * A)) <<< ((31 : Int32) &&& 0x3f).toInt64) ||| (0 : Int64))), (.long (((Int64.ofInt (4 * A)) <<< ((31 : Int32) &&& 0x3f).toInt64) ||| (1 : Int64))), (.long (((Int64.ofInt (A)) <<< ((31 : Int32) &&& 0x3f).toInt64) ||| (2 : Int64))), (.long (0 : Int64)), (.long (0 : Int64)), (.long (0 : Int64)), (.long (0 : Int64))] := A88
    clear A88
    replace E_t := E_t.wr W88
    replace A_w := A_w.other W88 (Nat.ne_of_lt lt_w_b79)
    replace F_shift := F_shift.other W88 (Or.inl (Nat.ne_of_lt lt_t_b79))
    replace F_total := F_total.other W88 (Or.inl (Nat.ne_of_lt lt_t_b79))
    replace F_packed := F_packed.other W88 (Or.inl (Nat.ne_of_lt lt_t_b79))
    replace F_thresholds := F_thresholds.other W88 (Or.inl (Nat.ne_of_lt lt_t_b79))
    replace F_aliases := F_aliases.other W88 (Or.inl (Nat.ne_of_lt lt_t_b79))
    replace A_b3 := A_b3.other W88 (Nat.ne_of_lt lt_b3_b79)
    replace A_b4 := A_b4.other W88 (Nat.ne_of_lt lt_b4_b79)
    replace A_b8 := A_b8.other W88 (Nat.ne_of_lt lt_b8_b79)
    replace A_b9 := A_b9.other W88 (Nat.ne_of_lt lt_b9_b79)
    replace A_b10 := A_b10.other W88 (Nat.ne_of_lt lt_b10_b79)
    replace hn := Nat.le_trans hn (Keep.of_wr W88).1
    clear W88 X87 e87
    refine own_go (mkF m 354 #[rv t, rv w, iv (8 : Int32), rv b3, rv b4, jv (Int64.ofInt (5 * A)), .second, rv b8, rv b9, rv b10, iv (0 : Int32), iv (0 : Int32), iv (4 : Int32), iv (0 : Int32)] []) (fun t' k => XS.iinc X88.here hx rfl (hb hby own_dI_351) rfl rfl k) ?_
    refine own_gs 324 [] (fun t' k => XS.goto X88.here hx rfl (pc0 := 354) (pc' := 324) rfl (hb hby own_dI_354) (by decide) (by decide) k) ?_
    refine own_gs 326 [(.int (4 : Int32))] (fun t' k => XS.iload X88.here hx rfl (hb hby own_dI_324) rfl  k) ?_
    refine own_gs 327 [(.int (8 : Int32)), (.int (4 : Int32))] (fun t' k => XS.iloadN X88.here hx rfl (hb hby own_dI_326) rfl  k) ?_
    refine own_gs 330 [] (fun t' k => XS.icmpNo X88.here hx rfl (hb hby own_dI_327) rfl (tlt (by decide)).2.1 k) ?_
    refine own_gs 331 [(.ref t)] (fun t' k => XS.aloadN X88.here hx rfl (hb hby own_dI_330) rfl rfl  k) ?_
    refine X88.getF hx hZ hown (hw _ (List.mem_of_getElem? (i := 22) rfl)) e88 F_packed (hb hby own_dI_331) ?_
    intro T89 X89 e89
    refine own_gs 336 [(.int (4 : Int32)), (.ref b79)] (fun t' k => XS.iload X89.here hx rfl (hb hby own_dI_334) rfl  k) ?_
    refine own_gs 337 [(.ref b3), (.int (4 : Int32)), (.ref b79)] (fun t' k => XS.aloadN X89.here hx rfl (hb hby own_dI_336) rfl rfl  k) ?_
    refine own_gs 339 [(.int (4 : Int32)), (.ref b3), (.int (4 : Int32)), (.ref b79)] (fun t' k => XS.iload X89.here hx rfl (hb hby own_dI_337) rfl  k) ?_
    refine X89.ldJ hx hZ e89 A_b3 (v := (.long (Int64.ofInt (3 * A)))) 4 (by decide) rfl (hb hby own_dI_339) ?_
    refine own_gs 342 [(.int (31 : Int32)), (.long (Int64.ofInt (3 * A))), (.int (4 : Int32)), (.ref b79)] (fun t' k => XS.bipush X89.here hx rfl (hb hby own_dI_340) k) ?_
    refine own_gs 343 [(.long ((Int64.ofInt (3 * A)) <<< ((31 : Int32) &&& 0x3f).toInt64)), (.int (4 : Int32)), (.ref b79)] (fun t' k => XS.lshl X89.here hx rfl (hb hby own_dI_342) rfl k) ?_
    refine own_gs 345 [(.ref b4), (.long ((Int64.ofInt (3 * A)) <<< ((31 : Int32) &&& 0x3f).toInt64)), (.int (4 : Int32)), (.ref b79)] (fun t' k => XS.aload X89.here hx rfl (hb hby own_dI_343) rfl rfl  k) ?_
    refine own_gs 347 [(.int (4 : Int32)), (.ref b4), (.long ((Int64.ofInt (3 * A)) <<< ((31 : Int32) &&& 0x3f).toInt64)), (.int (4 : Int32)), (.ref b79)] (fun t' k => XS.iload X89.here hx rfl (hb hby own_dI_345) rfl  k) ?_
    refine X89.ldI hx hZ e89 A_b4 (v := (.int (3 : Int32))) 4 (by decide) rfl (hb hby own_dI_347) ?_
    refine own_gs 349 [(.long (3 : Int64)), (.long ((Int64.ofInt (3 * A)) <<< ((31 : Int32) &&& 0x3f).toInt64)), (.int (4 : Int32)), (.ref b79)] (fun t' k => XS.i2l X89.here hx rfl (hb hby own_dI_348) rfl k) ?_
    refine own_gs 350 [(.long (((Int64.ofInt (3 * A)) <<< ((31 : Int32) &&& 0x3f).toInt64) ||| (3 : Int64))), (.int (4 : Int32)), (.ref b79)] (fun t' k => XS.lor X89.here hx rfl (hb hby own_dI_349) rfl k) ?_
    refine X89.stJ hx hZ e89 A_b79 g_b79 4 (by decide) (Nat.le_of_ble_eq_true rfl) (hb hby own_dI_350) ?_
    intro T90 h90 X90 e90 W90 A90
    replace A_b79 : own_A Z h90 .long b79 [(.long (0 : Int64)), (.long (((Int64.ofInt (2 * A)) <<< ((31 : Int32) &&& 0x3f).toInt64) ||| (0 : Int64))), (.long (((Int64.ofInt (4 * A)) <<< ((31 : Int32) &&& 0x3f).toInt64) ||| (1 : Int64))), (.long (((Int64.ofInt (A)) <<< ((31 : Int32) &&& 0x3f).toInt64) ||| (2 : Int64))), (.long (((Int64.ofInt (3 * A)) <<< ((31 : Int32) &&& 0x3f).toInt64) ||| (3 : Int64))), (.long (0 : Int64)), (.long (0 : Int64)), (.long (0 : Int64))] := A90
    clear A90
    replace E_t := E_t.wr W90
    replace A_w := A_w.other W90 (Nat.ne_of_lt lt_w_b79)
    replace F_shift := F_shift.other W90 (Or.inl (Nat.ne_of_lt lt_t_b79))
    replace F_total := F_total.other W90 (Or.inl (Nat.ne_of_lt lt_t_b79))
    replace F_packed := F_packed.other W90 (Or.inl (Nat.ne_of_lt lt_t_b79))
    replace F_thresholds := F_thresholds.other W90 (Or.inl (Nat.ne_of_lt lt_t_b79))
    replace F_aliases := F_aliases.other W90 (Or.inl (Nat.ne_of_lt lt_t_b79))
    replace A_b3 := A_b3.other W90 (Nat.ne_of_lt lt_b3_b79)
    replace A_b4 := A_b4.other W90 (Nat.ne_of_lt lt_b4_b79)
    replace A_b8 := A_b8.other W90 (Nat.ne_of_lt lt_b8_b79)
    replace A_b9 := A_b9.other W90 (Nat.ne_of_lt lt_b9_b79)
    replace A_b10 := A_b10.other W90 (Nat.ne_of_lt lt_b10_b79)
    replace hn := Nat.le_trans hn (Keep.of_wr W90).1
    clear W90 X89 e89
    refine own_go (mkF m 354 #[rv t, rv w, iv (8 : Int32), rv b3, rv b4, jv (Int64.ofInt (5 * A)), .second, rv b8, rv b9, rv b10, iv (0 : Int32), iv (0 : Int32), iv (5 : Int32), iv (0 : Int32)] []) (fun t' k => XS.iinc X90.here hx rfl (hb hby own_dI_351) rfl rfl k) ?_
    refine own_gs 324 [] (fun t' k => XS.goto X90.here hx rfl (pc0 := 354) (pc' := 324) rfl (hb hby own_dI_354) (by decide) (by decide) k) ?_
    refine own_gs 326 [(.int (5 : Int32))] (fun t' k => XS.iload X90.here hx rfl (hb hby own_dI_324) rfl  k) ?_
    refine own_gs 327 [(.int (8 : Int32)), (.int (5 : Int32))] (fun t' k => XS.iloadN X90.here hx rfl (hb hby own_dI_326) rfl  k) ?_
    refine own_gs 330 [] (fun t' k => XS.icmpNo X90.here hx rfl (hb hby own_dI_327) rfl (tlt (by decide)).2.1 k) ?_
    refine own_gs 331 [(.ref t)] (fun t' k => XS.aloadN X90.here hx rfl (hb hby own_dI_330) rfl rfl  k) ?_
    refine X90.getF hx hZ hown (hw _ (List.mem_of_getElem? (i := 22) rfl)) e90 F_packed (hb hby own_dI_331) ?_
    intro T91 X91 e91
    refine own_gs 336 [(.int (5 : Int32)), (.ref b79)] (fun t' k => XS.iload X91.here hx rfl (hb hby own_dI_334) rfl  k) ?_
    refine own_gs 337 [(.ref b3), (.int (5 : Int32)), (.ref b79)] (fun t' k => XS.aloadN X91.here hx rfl (hb hby own_dI_336) rfl rfl  k) ?_
    refine own_gs 339 [(.int (5 : Int32)), (.ref b3), (.int (5 : Int32)), (.ref b79)] (fun t' k => XS.iload X91.here hx rfl (hb hby own_dI_337) rfl  k) ?_
    refine X91.ldJ hx hZ e91 A_b3 (v := (.long (0 : Int64))) 5 (by decide) rfl (hb hby own_dI_339) ?_
    refine own_gs 342 [(.int (31 : Int32)), (.long (0 : Int64)), (.int (5 : Int32)), (.ref b79)] (fun t' k => XS.bipush X91.here hx rfl (hb hby own_dI_340) k) ?_
    refine own_gs 343 [(.long (0 : Int64)), (.int (5 : Int32)), (.ref b79)] (fun t' k => XS.lshl X91.here hx rfl (hb hby own_dI_342) rfl k) ?_
    refine own_gs 345 [(.ref b4), (.long (0 : Int64)), (.int (5 : Int32)), (.ref b79)] (fun t' k => XS.aload X91.here hx rfl (hb hby own_dI_343) rfl rfl  k) ?_
    refine own_gs 347 [(.int (5 : Int32)), (.ref b4), (.long (0 : Int64)), (.int (5 : Int32)), (.ref b79)] (fun t' k => XS.iload X91.here hx rfl (hb hby own_dI_345) rfl  k) ?_
    refine X91.ldI hx hZ e91 A_b4 (v := (.int (1 : Int32))) 5 (by decide) rfl (hb hby own_dI_347) ?_
    refine own_gs 349 [(.long (1 : Int64)), (.long (0 : Int64)), (.int (5 : Int32)), (.ref b79)] (fun t' k => XS.i2l X91.here hx rfl (hb hby own_dI_348) rfl k) ?_
    refine own_gs 350 [(.long (1 : Int64)), (.int (5 : Int32)), (.ref b79)] (fun t' k => XS.lor X91.here hx rfl (hb hby own_dI_349) rfl k) ?_
    refine X91.stJ hx hZ e91 A_b79 g_b79 5 (by decide) (Nat.le_of_ble_eq_true rfl) (hb hby own_dI_350) ?_
    intro T92 h92 X92 e92 W92 A92
    replace A_b79 : own_A Z h92 .long b79 [(.long (0 : Int64)), (.long (((Int64.ofInt (2 * A)) <<< ((31 : Int32) &&& 0x3f).toInt64) ||| (0 : Int64))), (.long (((Int64.ofInt (4 * A)) <<< ((31 : Int32) &&& 0x3f).toInt64) ||| (1 : Int64))), (.long (((Int64.ofInt (A)) <<< ((31 : Int32) &&& 0x3f).toInt64) ||| (2 : Int64))), (.long (((Int64.ofInt (3 * A)) <<< ((31 : Int32) &&& 0x3f).toInt64) ||| (3 : Int64))), (.long (1 : Int64)), (.long (0 : Int64)), (.long (0 : Int64))] := A92
    clear A92
    replace E_t := E_t.wr W92
    replace A_w := A_w.other W92 (Nat.ne_of_lt lt_w_b79)
    replace F_shift := F_shift.other W92 (Or.inl (Nat.ne_of_lt lt_t_b79))
    replace F_total := F_total.other W92 (Or.inl (Nat.ne_of_lt lt_t_b79))
    replace F_packed := F_packed.other W92 (Or.inl (Nat.ne_of_lt lt_t_b79))
    replace F_thresholds := F_thresholds.other W92 (Or.inl (Nat.ne_of_lt lt_t_b79))
    replace F_aliases := F_aliases.other W92 (Or.inl (Nat.ne_of_lt lt_t_b79))
    replace A_b3 := A_b3.other W92 (Nat.ne_of_lt lt_b3_b79)
    replace A_b4 := A_b4.other W92 (Nat.ne_of_lt lt_b4_b79)
    replace A_b8 := A_b8.other W92 (Nat.ne_of_lt lt_b8_b79)
    replace A_b9 := A_b9.other W92 (Nat.ne_of_lt lt_b9_b79)
    replace A_b10 := A_b10.other W92 (Nat.ne_of_lt lt_b10_b79)
    replace hn := Nat.le_trans hn (Keep.of_wr W92).1
    clear W92 X91 e91
    refine own_go (mkF m 354 #[rv t, rv w, iv (8 : Int32), rv b3, rv b4, jv (Int64.ofInt (5 * A)), .second, rv b8, rv b9, rv b10, iv (0 : Int32), iv (0 : Int32), iv (6 : Int32), iv (0 : Int32)] []) (fun t' k => XS.iinc X92.here hx rfl (hb hby own_dI_351) rfl rfl k) ?_
    refine own_gs 324 [] (fun t' k => XS.goto X92.here hx rfl (pc0 := 354) (pc' := 324) rfl (hb hby own_dI_354) (by decide) (by decide) k) ?_
    refine own_gs 326 [(.int (6 : Int32))] (fun t' k => XS.iload X92.here hx rfl (hb hby own_dI_324) rfl  k) ?_
    refine own_gs 327 [(.int (8 : Int32)), (.int (6 : Int32))] (fun t' k => XS.iloadN X92.here hx rfl (hb hby own_dI_326) rfl  k) ?_
    refine own_gs 330 [] (fun t' k => XS.icmpNo X92.here hx rfl (hb hby own_dI_327) rfl (tlt (by decide)).2.1 k) ?_
    refine own_gs 331 [(.ref t)] (fun t' k => XS.aloadN X92.here hx rfl (hb hby own_dI_330) rfl rfl  k) ?_
    refine X92.getF hx hZ hown (hw _ (List.mem_of_getElem? (i := 22) rfl)) e92 F_packed (hb hby own_dI_331) ?_
    intro T93 X93 e93
    refine own_gs 336 [(.int (6 : Int32)), (.ref b79)] (fun t' k => XS.iload X93.here hx rfl (hb hby own_dI_334) rfl  k) ?_
    refine own_gs 337 [(.ref b3), (.int (6 : Int32)), (.ref b79)] (fun t' k => XS.aloadN X93.here hx rfl (hb hby own_dI_336) rfl rfl  k) ?_
    refine own_gs 339 [(.int (6 : Int32)), (.ref b3), (.int (6 : Int32)), (.ref b79)] (fun t' k => XS.iload X93.here hx rfl (hb hby own_dI_337) rfl  k) ?_
    refine X93.ldJ hx hZ e93 A_b3 (v := (.long (0 : Int64))) 6 (by decide) rfl (hb hby own_dI_339) ?_
    refine own_gs 342 [(.int (31 : Int32)), (.long (0 : Int64)), (.int (6 : Int32)), (.ref b79)] (fun t' k => XS.bipush X93.here hx rfl (hb hby own_dI_340) k) ?_
    refine own_gs 343 [(.long (0 : Int64)), (.int (6 : Int32)), (.ref b79)] (fun t' k => XS.lshl X93.here hx rfl (hb hby own_dI_342) rfl k) ?_
    refine own_gs 345 [(.ref b4), (.long (0 : Int64)), (.int (6 : Int32)), (.ref b79)] (fun t' k => XS.aload X93.here hx rfl (hb hby own_dI_343) rfl rfl  k) ?_
    refine own_gs 347 [(.int (6 : Int32)), (.ref b4), (.long (0 : Int64)), (.int (6 : Int32)), (.ref b79)] (fun t' k => XS.iload X93.here hx rfl (hb hby own_dI_345) rfl  k) ?_
    refine X93.ldI hx hZ e93 A_b4 (v := (.int (3 : Int32))) 6 (by decide) rfl (hb hby own_dI_347) ?_
    refine own_gs 349 [(.long (3 : Int64)), (.long (0 : Int64)), (.int (6 : Int32)), (.ref b79)] (fun t' k => XS.i2l X93.here hx rfl (hb hby own_dI_348) rfl k) ?_
    refine own_gs 350 [(.long (3 : Int64)), (.int (6 : Int32)), (.ref b79)] (fun t' k => XS.lor X93.here hx rfl (hb hby own_dI_349) rfl k) ?_
    refine X93.stJ hx hZ e93 A_b79 g_b79 6 (by decide) (Nat.le_of_ble_eq_true rfl) (hb hby own_dI_350) ?_
    intro T94 h94 X94 e94 W94 A94
    replace A_b79 : own_A Z h94 .long b79 [(.long (0 : Int64)), (.long (((Int64.ofInt (2 * A)) <<< ((31 : Int32) &&& 0x3f).toInt64) ||| (0 : Int64))), (.long (((Int64.ofInt (4 * A)) <<< ((31 : Int32) &&& 0x3f).toInt64) ||| (1 : Int64))), (.long (((Int64.ofInt (A)) <<< ((31 : Int32) &&& 0x3f).toInt64) ||| (2 : Int64))), (.long (((Int64.ofInt (3 * A)) <<< ((31 : Int32) &&& 0x3f).toInt64) ||| (3 : Int64))), (.long (1 : Int64)), (.long (3 : Int64)), (.long (0 : Int64))] := A94
    clear A94
    replace E_t := E_t.wr W94
    replace A_w := A_w.other W94 (Nat.ne_of_lt lt_w_b79)
    replace F_shift := F_shift.other W94 (Or.inl (Nat.ne_of_lt lt_t_b79))
    replace F_total := F_total.other W94 (Or.inl (Nat.ne_of_lt lt_t_b79))
    replace F_packed := F_packed.other W94 (Or.inl (Nat.ne_of_lt lt_t_b79))
    replace F_thresholds := F_thresholds.other W94 (Or.inl (Nat.ne_of_lt lt_t_b79))
    replace F_aliases := F_aliases.other W94 (Or.inl (Nat.ne_of_lt lt_t_b79))
    replace A_b3 := A_b3.other W94 (Nat.ne_of_lt lt_b3_b79)
    replace A_b4 := A_b4.other W94 (Nat.ne_of_lt lt_b4_b79)
    replace A_b8 := A_b8.other W94 (Nat.ne_of_lt lt_b8_b79)
    replace A_b9 := A_b9.other W94 (Nat.ne_of_lt lt_b9_b79)
    replace A_b10 := A_b10.other W94 (Nat.ne_of_lt lt_b10_b79)
    replace hn := Nat.le_trans hn (Keep.of_wr W94).1
    clear W94 X93 e93
    refine own_go (mkF m 354 #[rv t, rv w, iv (8 : Int32), rv b3, rv b4, jv (Int64.ofInt (5 * A)), .second, rv b8, rv b9, rv b10, iv (0 : Int32), iv (0 : Int32), iv (7 : Int32), iv (0 : Int32)] []) (fun t' k => XS.iinc X94.here hx rfl (hb hby own_dI_351) rfl rfl k) ?_
    refine own_gs 324 [] (fun t' k => XS.goto X94.here hx rfl (pc0 := 354) (pc' := 324) rfl (hb hby own_dI_354) (by decide) (by decide) k) ?_
    refine own_gs 326 [(.int (7 : Int32))] (fun t' k => XS.iload X94.here hx rfl (hb hby own_dI_324) rfl  k) ?_
    refine own_gs 327 [(.int (8 : Int32)), (.int (7 : Int32))] (fun t' k => XS.iloadN X94.here hx rfl (hb hby own_dI_326) rfl  k) ?_
    refine own_gs 330 [] (fun t' k => XS.icmpNo X94.here hx rfl (hb hby own_dI_327) rfl (tlt (by decide)).2.1 k) ?_
    refine own_gs 331 [(.ref t)] (fun t' k => XS.aloadN X94.here hx rfl (hb hby own_dI_330) rfl rfl  k) ?_
    refine X94.getF hx hZ hown (hw _ (List.mem_of_getElem? (i := 22) rfl)) e94 F_packed (hb hby own_dI_331) ?_
    intro T95 X95 e95
    refine own_gs 336 [(.int (7 : Int32)), (.ref b79)] (fun t' k => XS.iload X95.here hx rfl (hb hby own_dI_334) rfl  k) ?_
    refine own_gs 337 [(.ref b3), (.int (7 : Int32)), (.ref b79)] (fun t' k => XS.aloadN X95.here hx rfl (hb hby own_dI_336) rfl rfl  k) ?_
    refine own_gs 339 [(.int (7 : Int32)), (.ref b3), (.int (7 : Int32)), (.ref b79)] (fun t' k => XS.iload X95.here hx rfl (hb hby own_dI_337) rfl  k) ?_
    refine X95.ldJ hx hZ e95 A_b3 (v := (.long (0 : Int64))) 7 (by decide) rfl (hb hby own_dI_339) ?_
    refine own_gs 342 [(.int (31 : Int32)), (.long (0 : Int64)), (.int (7 : Int32)), (.ref b79)] (fun t' k => XS.bipush X95.here hx rfl (hb hby own_dI_340) k) ?_
    refine own_gs 343 [(.long (0 : Int64)), (.int (7 : Int32)), (.ref b79)] (fun t' k => XS.lshl X95.here hx rfl (hb hby own_dI_342) rfl k) ?_
    refine own_gs 345 [(.ref b4), (.long (0 : Int64)), (.int (7 : Int32)), (.ref b79)] (fun t' k => XS.aload X95.here hx rfl (hb hby own_dI_343) rfl rfl  k) ?_
    refine own_gs 347 [(.int (7 : Int32)), (.ref b4), (.long (0 : Int64)), (.int (7 : Int32)), (.ref b79)] (fun t' k => XS.iload X95.here hx rfl (hb hby own_dI_345) rfl  k) ?_
    refine X95.ldI hx hZ e95 A_b4 (v := (.int (4 : Int32))) 7 (by decide) rfl (hb hby own_dI_347) ?_
    refine own_gs 349 [(.long (4 : Int64)), (.long (0 : Int64)), (.int (7 : Int32)), (.ref b79)] (fun t' k => XS.i2l X95.here hx rfl (hb hby own_dI_348) rfl k) ?_
    refine own_gs 350 [(.long (4 : Int64)), (.int (7 : Int32)), (.ref b79)] (fun t' k => XS.lor X95.here hx rfl (hb hby own_dI_349) rfl k) ?_
    refine X95.stJ hx hZ e95 A_b79 g_b79 7 (by decide) (Nat.le_of_ble_eq_true rfl) (hb hby own_dI_350) ?_
    intro T96 h96 X96 e96 W96 A96
    replace A_b79 : own_A Z h96 .long b79 [(.long (0 : Int64)), (.long (((Int64.ofInt (2 * A)) <<< ((31 : Int32) &&& 0x3f).toInt64) ||| (0 : Int64))), (.long (((Int64.ofInt (4 * A)) <<< ((31 : Int32) &&& 0x3f).toInt64) ||| (1 : Int64))), (.long (((Int64.ofInt (A)) <<< ((31 : Int32) &&& 0x3f).toInt64) ||| (2 : Int64))), (.long (((Int64.ofInt (3 * A)) <<< ((31 : Int32) &&& 0x3f).toInt64) ||| (3 : Int64))), (.long (1 : Int64)), (.long (3 : Int64)), (.long (4 : Int64))] := A96
    clear A96
    replace E_t := E_t.wr W96
    replace A_w := A_w.other W96 (Nat.ne_of_lt lt_w_b79)
    replace F_shift := F_shift.other W96 (Or.inl (Nat.ne_of_lt lt_t_b79))
    replace F_total := F_total.other W96 (Or.inl (Nat.ne_of_lt lt_t_b79))
    replace F_packed := F_packed.other W96 (Or.inl (Nat.ne_of_lt lt_t_b79))
    replace F_thresholds := F_thresholds.other W96 (Or.inl (Nat.ne_of_lt lt_t_b79))
    replace F_aliases := F_aliases.other W96 (Or.inl (Nat.ne_of_lt lt_t_b79))
    replace A_b3 := A_b3.other W96 (Nat.ne_of_lt lt_b3_b79)
    replace A_b4 := A_b4.other W96 (Nat.ne_of_lt lt_b4_b79)
    replace A_b8 := A_b8.other W96 (Nat.ne_of_lt lt_b8_b79)
    replace A_b9 := A_b9.other W96 (Nat.ne_of_lt lt_b9_b79)
    replace A_b10 := A_b10.other W96 (Nat.ne_of_lt lt_b10_b79)
    replace hn := Nat.le_trans hn (Keep.of_wr W96).1
    clear W96 X95 e95
    refine own_go (mkF m 354 #[rv t, rv w, iv (8 : Int32), rv b3, rv b4, jv (Int64.ofInt (5 * A)), .second, rv b8, rv b9, rv b10, iv (0 : Int32), iv (0 : Int32), iv (8 : Int32), iv (0 : Int32)] []) (fun t' k => XS.iinc X96.here hx rfl (hb hby own_dI_351) rfl rfl k) ?_
    refine own_gs 324 [] (fun t' k => XS.goto X96.here hx rfl (pc0 := 354) (pc' := 324) rfl (hb hby own_dI_354) (by decide) (by decide) k) ?_
    refine own_gs 326 [(.int (8 : Int32))] (fun t' k => XS.iload X96.here hx rfl (hb hby own_dI_324) rfl  k) ?_
    refine own_gs 327 [(.int (8 : Int32)), (.int (8 : Int32))] (fun t' k => XS.iloadN X96.here hx rfl (hb hby own_dI_326) rfl  k) ?_
    refine own_gs 357 [] (fun t' k => XS.icmpYes X96.here hx rfl (pc0 := 327) (pc' := 357) rfl (hb hby own_dI_327) rfl (flt (by decide)).2.1 (by decide) (by decide) k) ?_
    refine own_gs 358 [(.ref t)] (fun t' k => XS.aloadN X96.here hx rfl (hb hby own_dI_357) rfl rfl  k) ?_
    refine own_gs 359 [.null, (.ref t)] (fun t' k => XS.aconstNull X96.here hx rfl (hb hby own_dI_358) k) ?_
    refine X96.putF hx hZ hown (hw _ (List.mem_of_getElem? (i := 24) rfl)) e96 F_thresholds E_t g_t (Or.inr ⟨(hw _ (List.mem_of_getElem? (i := 25) rfl)), rfl, hnm⟩) (hw _ (List.mem_of_getElem? (i := 4) rfl)) (ty := (.array .long)) (by decide) rfl rfl (hb hby own_dI_359) ?_
    intro T97 h97 X97 e97 W97
    replace E_t := E_t.wr W97
    replace A_w := A_w.other W97 (Ne.symm ne_t_w)
    replace F_shift := F_shift.other W97 (Or.inr (own_sn_AliasTable_shift_thresholds hw))
    replace F_total := F_total.other W97 (Or.inr (own_sn_AliasTable_total_thresholds hw))
    replace F_packed := F_packed.other W97 (Or.inr (own_sn_AliasTable_packed_thresholds hw))
    replace F_thresholds := F_thresholds.same W97
    replace F_aliases := F_aliases.other W97 (Or.inr (own_sn_AliasTable_aliases_thresholds hw))
    replace A_b3 := A_b3.other W97 (Ne.symm (Nat.ne_of_lt lt_t_b3))
    replace A_b4 := A_b4.other W97 (Ne.symm (Nat.ne_of_lt lt_t_b4))
    replace A_b8 := A_b8.other W97 (Ne.symm (Nat.ne_of_lt lt_t_b8))
    replace A_b9 := A_b9.other W97 (Ne.symm (Nat.ne_of_lt lt_t_b9))
    replace A_b10 := A_b10.other W97 (Ne.symm (Nat.ne_of_lt lt_t_b10))
    replace A_b79 := A_b79.other W97 (Ne.symm (Nat.ne_of_lt lt_t_b79))
    replace hn := Nat.le_trans hn (Keep.of_wr W97).1
    clear W97 X96 e96
    refine own_gs 363 [(.ref t)] (fun t' k => XS.aloadN X97.here hx rfl (hb hby own_dI_362) rfl rfl  k) ?_
    refine own_gs 364 [.null, (.ref t)] (fun t' k => XS.aconstNull X97.here hx rfl (hb hby own_dI_363) k) ?_
    refine X97.putF hx hZ hown (hw _ (List.mem_of_getElem? (i := 26) rfl)) e97 F_aliases E_t g_t (Or.inr ⟨(hw _ (List.mem_of_getElem? (i := 27) rfl)), rfl, hnm⟩) (hw _ (List.mem_of_getElem? (i := 4) rfl)) (ty := (.array .int)) (by decide) rfl rfl (hb hby own_dI_364) ?_
    intro T98 h98 X98 e98 W98
    replace E_t := E_t.wr W98
    replace A_w := A_w.other W98 (Ne.symm ne_t_w)
    replace F_shift := F_shift.other W98 (Or.inr (own_sn_AliasTable_shift_aliases hw))
    replace F_total := F_total.other W98 (Or.inr (own_sn_AliasTable_total_aliases hw))
    replace F_packed := F_packed.other W98 (Or.inr (own_sn_AliasTable_packed_aliases hw))
    replace F_thresholds := F_thresholds.other W98 (Or.inr (own_sn_AliasTable_thresholds_aliases hw))
    replace F_aliases := F_aliases.same W98
    replace A_b3 := A_b3.other W98 (Ne.symm (Nat.ne_of_lt lt_t_b3))
    replace A_b4 := A_b4.other W98 (Ne.symm (Nat.ne_of_lt lt_t_b4))
    replace A_b8 := A_b8.other W98 (Ne.symm (Nat.ne_of_lt lt_t_b8))
    replace A_b9 := A_b9.other W98 (Ne.symm (Nat.ne_of_lt lt_t_b9))
    replace A_b10 := A_b10.other W98 (Ne.symm (Nat.ne_of_lt lt_t_b10))
    replace A_b79 := A_b79.other W98 (Ne.symm (Nat.ne_of_lt lt_t_b79))
    replace hn := Nat.le_trans hn (Keep.of_wr W98).1
    clear W98 X97 e97
    refine own_gs 386 [] (fun t' k => XS.goto X98.here hx rfl (pc0 := 367) (pc' := 386) rfl (hb hby own_dI_367) (by decide) (by decide) k) ?_
    refine X98.retV hx hlk hret (hb hby own_dI_386) ?_ (by decide) (by decide)
    rw [e98]
    exact ⟨rfl, hn, E_t, Or.inl ⟨own_le33 hc311 (by omega), _, F_packed, A_b79⟩⟩

def own_ownA (c : Int32) (xv : Int64) (wd : Int64) : Int32 := (((wd &&& (2147483647 : Int64)).toInt32) ^^^ ((c ^^^ ((wd &&& (2147483647 : Int64)).toInt32)) &&& (((xv - ((wd.toUInt64 >>> ((31 : Int32) &&& 0x3f).toInt64.toUInt64).toInt64)) >>> ((63 : Int32) &&& 0x3f).toInt64).toInt32)))
theorem own_dO_0 : decode prog_10_method_3_code 0 = .ok (.aload_n 0, 1) := by decide +kernel
theorem own_dO_1 : decode prog_10_method_3_code 1 = .ok (.getfield 30, 3) := by decide +kernel
theorem own_dO_4 : decode prog_10_method_3_code 4 = .ok (.ifnull 30, 3) := by decide +kernel
theorem own_dO_7 : decode prog_10_method_3_code 7 = .ok (.aload_n 0, 1) := by decide +kernel
theorem own_dO_8 : decode prog_10_method_3_code 8 = .ok (.getfield 30, 3) := by decide +kernel
theorem own_dO_11 : decode prog_10_method_3_code 11 = .ok (.iload_n 1, 1) := by decide +kernel
theorem own_dO_12 : decode prog_10_method_3_code 12 = .ok (.laload, 1) := by decide +kernel
theorem own_dO_13 : decode prog_10_method_3_code 13 = .ok (.lstore 7, 2) := by decide +kernel
theorem own_dO_15 : decode prog_10_method_3_code 15 = .ok (.lload 7, 2) := by decide +kernel
theorem own_dO_17 : decode prog_10_method_3_code 17 = .ok (.bipush 31, 2) := by decide +kernel
theorem own_dO_19 : decode prog_10_method_3_code 19 = .ok (.lushr, 1) := by decide +kernel
theorem own_dO_20 : decode prog_10_method_3_code 20 = .ok (.lstore 4, 2) := by decide +kernel
theorem own_dO_22 : decode prog_10_method_3_code 22 = .ok (.lload 7, 2) := by decide +kernel
theorem own_dO_24 : decode prog_10_method_3_code 24 = .ok (.ldc2_w 57, 3) := by decide +kernel
theorem own_dO_27 : decode prog_10_method_3_code 27 = .ok (.land, 1) := by decide +kernel
theorem own_dO_28 : decode prog_10_method_3_code 28 = .ok (.l2i, 1) := by decide +kernel
theorem own_dO_29 : decode prog_10_method_3_code 29 = .ok (.istore 6, 2) := by decide +kernel
theorem own_dO_31 : decode prog_10_method_3_code 31 = .ok (.goto 19, 3) := by decide +kernel
theorem own_dO_50 : decode prog_10_method_3_code 50 = .ok (.lload_n 2, 1) := by decide +kernel
theorem own_dO_51 : decode prog_10_method_3_code 51 = .ok (.lload 4, 2) := by decide +kernel
theorem own_dO_53 : decode prog_10_method_3_code 53 = .ok (.lsub, 1) := by decide +kernel
theorem own_dO_54 : decode prog_10_method_3_code 54 = .ok (.bipush 63, 2) := by decide +kernel
theorem own_dO_56 : decode prog_10_method_3_code 56 = .ok (.lshr, 1) := by decide +kernel
theorem own_dO_57 : decode prog_10_method_3_code 57 = .ok (.l2i, 1) := by decide +kernel
theorem own_dO_58 : decode prog_10_method_3_code 58 = .ok (.istore 7, 2) := by decide +kernel
theorem own_dO_60 : decode prog_10_method_3_code 60 = .ok (.iload 6, 2) := by decide +kernel
theorem own_dO_62 : decode prog_10_method_3_code 62 = .ok (.iload_n 1, 1) := by decide +kernel
theorem own_dO_63 : decode prog_10_method_3_code 63 = .ok (.iload 6, 2) := by decide +kernel
theorem own_dO_65 : decode prog_10_method_3_code 65 = .ok (.ixor, 1) := by decide +kernel
theorem own_dO_66 : decode prog_10_method_3_code 66 = .ok (.iload 7, 2) := by decide +kernel
theorem own_dO_68 : decode prog_10_method_3_code 68 = .ok (.iand, 1) := by decide +kernel
theorem own_dO_69 : decode prog_10_method_3_code 69 = .ok (.ixor, 1) := by decide +kernel
theorem own_dO_70 : decode prog_10_method_3_code 70 = .ok (.ireturn, 1) := by decide +kernel
theorem own_pn_own_rmOA : plainFor (⟨"com/example/load_across_peers/loadacrosspeers/internal/pick/AliasTable", "owner", "(IJ)I"⟩ : MethodName) = true := plainFor_of_name (show plainName "com/example/load_across_peers/loadacrosspeers/internal/pick/AliasTable" = true by first | (simp [plainName, overriddenIn]; done) | decide +kernel)
set_option maxRecDepth 65536 in
set_option maxHeartbeats 40000000 in
theorem own_rmOA (l : Launch) (Z : State) (a0 : Array Value) (hw : ∀ d ∈ tables_1, d.before a0 Z = true) (ws : List Jvm.Cond) (h0 : Heap) (n0 : Nat) (Z0 : n0 ≤ h0.size) (t b : Addr) (c : Int32) (xv wd : Int64) (i : Nat) (hi : c.toInt = i) (vs : List Value) (hv : vs[i]? = some (.long wd)) (F_packed : Fld Z h0 t "com/example/load_across_peers/loadacrosspeers/internal/pick/AliasTable" "packed" "[J" (.ref b)) (A_b : own_A Z h0 .long b vs)  :
    own_C l Z (⟨"com/example/load_across_peers/loadacrosspeers/internal/pick/AliasTable", "owner", "(IJ)I"⟩ : MethodName) prog_10_method_3_code 9 (some .int) ws ({ frames := 0, cells := 0, slots := 0, locals := 0 } : Room) #[(.ref t), (.int c), (.long xv)] h0 (own_Q n0 (fun v h => v = some (.int (own_ownA c xv wd)) ∧ h = h0)) := by
  refine own_met own_pn_own_rmOA #[rv t, iv c, jv xv, .second, .unset, .unset, .unset, .unset, .unset] (fun m => by first | (simp [entryFrame, mkF, argsToLocals, Value.category]; done) | rfl) ?_
  intro p e s m below meth cc s₁ hx hby hml hown hret hlk hZ hnm X0 e0
  replace X0 := own_S.of X0 (n0)
  have hn : n0 ≤ h0.size := Z0
  refine own_gs 1 [(.ref t)] (fun t' k => XS.aloadN X0.here hx rfl (hb hby own_dO_0) rfl rfl  k) ?_
  refine X0.getF hx hZ hown (hw _ (List.mem_of_getElem? (i := 22) rfl)) e0 F_packed (hb hby own_dO_1) ?_
  intro T1 X1 e1
  refine own_gs 7 [] (fun t' k => XS.ifnullNo X1.here hx rfl (hb hby own_dO_4) rfl k) ?_
  refine own_gs 8 [(.ref t)] (fun t' k => XS.aloadN X1.here hx rfl (hb hby own_dO_7) rfl rfl  k) ?_
  refine X1.getF hx hZ hown (hw _ (List.mem_of_getElem? (i := 22) rfl)) e1 F_packed (hb hby own_dO_8) ?_
  intro T2 X2 e2
  refine own_gs 12 [(.int c), (.ref b)] (fun t' k => XS.iloadN X2.here hx rfl (hb hby own_dO_11) rfl  k) ?_
  refine X2.ldJ hx hZ e2 A_b (v := (.long wd)) i hi hv (hb hby own_dO_12) ?_
  refine own_go (mkF m 15 #[rv t, iv c, jv xv, .second, .unset, .unset, .unset, jv wd, .second] []) (fun t' k => XS.lstore X2.here hx rfl (hb hby own_dO_13) rfl rfl k) ?_
  refine own_gs 17 [(.long wd)] (fun t' k => XS.lload X2.here hx rfl (hb hby own_dO_15) rfl  k) ?_
  refine own_gs 19 [(.int (31 : Int32)), (.long wd)] (fun t' k => XS.bipush X2.here hx rfl (hb hby own_dO_17) k) ?_
  refine own_gs 20 [(.long ((wd.toUInt64 >>> ((31 : Int32) &&& 0x3f).toInt64.toUInt64).toInt64))] (fun t' k => XS.lushr X2.here hx rfl (hb hby own_dO_19) rfl k) ?_
  refine own_go (mkF m 22 #[rv t, iv c, jv xv, .second, jv ((wd.toUInt64 >>> ((31 : Int32) &&& 0x3f).toInt64.toUInt64).toInt64), .second, .unset, jv wd, .second] []) (fun t' k => XS.lstore X2.here hx rfl (hb hby own_dO_20) rfl rfl k) ?_
  refine own_gs 24 [(.long wd)] (fun t' k => XS.lload X2.here hx rfl (hb hby own_dO_22) rfl  k) ?_
  refine own_gs 27 [(.long (2147483647 : Int64)), (.long wd)] (fun t' k => X2.ldc2Long hx hown (mvT hZ (hw _ (List.mem_of_getElem? (i := 33) rfl))) (g := (mkF m 24 #[rv t, iv c, jv xv, .second, jv ((wd.toUInt64 >>> ((31 : Int32) &&& 0x3f).toInt64.toUInt64).toInt64), .second, .unset, jv wd, .second] [(.long wd)])) rfl (hb hby own_dO_24) _ k) ?_
  refine own_gs 28 [(.long (wd &&& (2147483647 : Int64)))] (fun t' k => XS.land X2.here hx rfl (hb hby own_dO_27) rfl k) ?_
  refine own_gs 29 [(.int ((wd &&& (2147483647 : Int64)).toInt32))] (fun t' k => XS.l2i X2.here hx rfl (hb hby own_dO_28) rfl k) ?_
  refine own_go (mkF m 31 #[rv t, iv c, jv xv, .second, jv ((wd.toUInt64 >>> ((31 : Int32) &&& 0x3f).toInt64.toUInt64).toInt64), .second, iv ((wd &&& (2147483647 : Int64)).toInt32), jv wd, .second] []) (fun t' k => XS.istore X2.here hx rfl (hb hby own_dO_29) rfl rfl k) ?_
  refine own_gs 50 [] (fun t' k => XS.goto X2.here hx rfl (pc0 := 31) (pc' := 50) rfl (hb hby own_dO_31) (by decide) (by decide) k) ?_
  refine own_gs 51 [(.long xv)] (fun t' k => XS.lloadN X2.here hx rfl (hb hby own_dO_50) rfl  k) ?_
  refine own_gs 53 [(.long ((wd.toUInt64 >>> ((31 : Int32) &&& 0x3f).toInt64.toUInt64).toInt64)), (.long xv)] (fun t' k => XS.lload X2.here hx rfl (hb hby own_dO_51) rfl  k) ?_
  refine own_gs 54 [(.long (xv - ((wd.toUInt64 >>> ((31 : Int32) &&& 0x3f).toInt64.toUInt64).toInt64)))] (fun t' k => XS.lsub X2.here hx rfl (hb hby own_dO_53) rfl k) ?_
  refine own_gs 56 [(.int (63 : Int32)), (.long (xv - ((wd.toUInt64 >>> ((31 : Int32) &&& 0x3f).toInt64.toUInt64).toInt64)))] (fun t' k => XS.bipush X2.here hx rfl (hb hby own_dO_54) k) ?_
  refine own_gs 57 [(.long ((xv - ((wd.toUInt64 >>> ((31 : Int32) &&& 0x3f).toInt64.toUInt64).toInt64)) >>> ((63 : Int32) &&& 0x3f).toInt64))] (fun t' k => XS.lshr X2.here hx rfl (hb hby own_dO_56) rfl k) ?_
  refine own_gs 58 [(.int (((xv - ((wd.toUInt64 >>> ((31 : Int32) &&& 0x3f).toInt64.toUInt64).toInt64)) >>> ((63 : Int32) &&& 0x3f).toInt64).toInt32))] (fun t' k => XS.l2i X2.here hx rfl (hb hby own_dO_57) rfl k) ?_
  refine own_go (mkF m 60 #[rv t, iv c, jv xv, .second, jv ((wd.toUInt64 >>> ((31 : Int32) &&& 0x3f).toInt64.toUInt64).toInt64), .second, iv ((wd &&& (2147483647 : Int64)).toInt32), iv (((xv - ((wd.toUInt64 >>> ((31 : Int32) &&& 0x3f).toInt64.toUInt64).toInt64)) >>> ((63 : Int32) &&& 0x3f).toInt64).toInt32), .unset] []) (fun t' k => XS.istore X2.here hx rfl (hb hby own_dO_58) rfl rfl k) ?_
  refine own_gs 62 [(.int ((wd &&& (2147483647 : Int64)).toInt32))] (fun t' k => XS.iload X2.here hx rfl (hb hby own_dO_60) rfl  k) ?_
  refine own_gs 63 [(.int c), (.int ((wd &&& (2147483647 : Int64)).toInt32))] (fun t' k => XS.iloadN X2.here hx rfl (hb hby own_dO_62) rfl  k) ?_
  refine own_gs 65 [(.int ((wd &&& (2147483647 : Int64)).toInt32)), (.int c), (.int ((wd &&& (2147483647 : Int64)).toInt32))] (fun t' k => XS.iload X2.here hx rfl (hb hby own_dO_63) rfl  k) ?_
  refine own_gs 66 [(.int (c ^^^ ((wd &&& (2147483647 : Int64)).toInt32))), (.int ((wd &&& (2147483647 : Int64)).toInt32))] (fun t' k => XS.ixor X2.here hx rfl (hb hby own_dO_65) rfl k) ?_
  refine own_gs 68 [(.int (((xv - ((wd.toUInt64 >>> ((31 : Int32) &&& 0x3f).toInt64.toUInt64).toInt64)) >>> ((63 : Int32) &&& 0x3f).toInt64).toInt32)), (.int (c ^^^ ((wd &&& (2147483647 : Int64)).toInt32))), (.int ((wd &&& (2147483647 : Int64)).toInt32))] (fun t' k => XS.iload X2.here hx rfl (hb hby own_dO_66) rfl  k) ?_
  refine own_gs 69 [(.int ((c ^^^ ((wd &&& (2147483647 : Int64)).toInt32)) &&& (((xv - ((wd.toUInt64 >>> ((31 : Int32) &&& 0x3f).toInt64.toUInt64).toInt64)) >>> ((63 : Int32) &&& 0x3f).toInt64).toInt32))), (.int ((wd &&& (2147483647 : Int64)).toInt32))] (fun t' k => XS.iand X2.here hx rfl (hb hby own_dO_68) rfl k) ?_
  refine own_gs 70 [(.int (((wd &&& (2147483647 : Int64)).toInt32) ^^^ ((c ^^^ ((wd &&& (2147483647 : Int64)).toInt32)) &&& (((xv - ((wd.toUInt64 >>> ((31 : Int32) &&& 0x3f).toInt64.toUInt64).toInt64)) >>> ((63 : Int32) &&& 0x3f).toInt64).toInt32))))] (fun t' k => XS.ixor X2.here hx rfl (hb hby own_dO_69) rfl k) ?_
  refine X2.retI hx hlk hret (hb hby own_dO_70) ?_ (by decide) (by decide)
  exact ⟨congrArg (fun z => some (Value.int z)) ((show (own_ownA c xv wd) = (((wd &&& (2147483647 : Int64)).toInt32) ^^^ ((c ^^^ ((wd &&& (2147483647 : Int64)).toInt32)) &&& (((xv - ((wd.toUInt64 >>> ((31 : Int32) &&& 0x3f).toInt64.toUInt64).toInt64)) >>> ((63 : Int32) &&& 0x3f).toInt64).toInt32))) from rfl).trans (by rfl : (((wd &&& (2147483647 : Int64)).toInt32) ^^^ ((c ^^^ ((wd &&& (2147483647 : Int64)).toInt32)) &&& (((xv - ((wd.toUInt64 >>> ((31 : Int32) &&& 0x3f).toInt64.toUInt64).toInt64)) >>> ((63 : Int32) &&& 0x3f).toInt64).toInt32))) = (((wd &&& (2147483647 : Int64)).toInt32) ^^^ ((c ^^^ ((wd &&& (2147483647 : Int64)).toInt32)) &&& (((xv - ((wd.toUInt64 >>> ((31 : Int32) &&& 0x3f).toInt64.toUInt64).toInt64)) >>> ((63 : Int32) &&& 0x3f).toInt64).toInt32))))).symm, e2⟩

def own_ownB (c : Int32) (xv : Int64) (th : Int64) (al : Int32) : Int32 := (al ^^^ ((c ^^^ al) &&& (((xv - th) >>> ((63 : Int32) &&& 0x3f).toInt64).toInt32)))
theorem own_dO_34 : decode prog_10_method_3_code 34 = .ok (.aload_n 0, 1) := by decide +kernel
theorem own_dO_35 : decode prog_10_method_3_code 35 = .ok (.getfield 34, 3) := by decide +kernel
theorem own_dO_38 : decode prog_10_method_3_code 38 = .ok (.iload_n 1, 1) := by decide +kernel
theorem own_dO_39 : decode prog_10_method_3_code 39 = .ok (.laload, 1) := by decide +kernel
theorem own_dO_40 : decode prog_10_method_3_code 40 = .ok (.lstore 4, 2) := by decide +kernel
theorem own_dO_42 : decode prog_10_method_3_code 42 = .ok (.aload_n 0, 1) := by decide +kernel
theorem own_dO_43 : decode prog_10_method_3_code 43 = .ok (.getfield 37, 3) := by decide +kernel
theorem own_dO_46 : decode prog_10_method_3_code 46 = .ok (.iload_n 1, 1) := by decide +kernel
theorem own_dO_47 : decode prog_10_method_3_code 47 = .ok (.iaload, 1) := by decide +kernel
theorem own_dO_48 : decode prog_10_method_3_code 48 = .ok (.istore 6, 2) := by decide +kernel
theorem own_pn_own_rmOB : plainFor (⟨"com/example/load_across_peers/loadacrosspeers/internal/pick/AliasTable", "owner", "(IJ)I"⟩ : MethodName) = true := plainFor_of_name (show plainName "com/example/load_across_peers/loadacrosspeers/internal/pick/AliasTable" = true by first | (simp [plainName, overriddenIn]; done) | decide +kernel)
set_option maxRecDepth 65536 in
set_option maxHeartbeats 40000000 in
theorem own_rmOB (l : Launch) (Z : State) (a0 : Array Value) (hw : ∀ d ∈ tables_1, d.before a0 Z = true) (ws : List Jvm.Cond) (h0 : Heap) (n0 : Nat) (Z0 : n0 ≤ h0.size) (t b b' : Addr) (c : Int32) (xv th : Int64) (al : Int32) (i : Nat) (hi : c.toInt = i) (vs us : List Value) (hv : vs[i]? = some (.long th)) (hu : us[i]? = some (.int al)) (F_packed : Fld Z h0 t "com/example/load_across_peers/loadacrosspeers/internal/pick/AliasTable" "packed" "[J" .null) (F_thr : Fld Z h0 t "com/example/load_across_peers/loadacrosspeers/internal/pick/AliasTable" "thresholds" "[J" (.ref b)) (F_al : Fld Z h0 t "com/example/load_across_peers/loadacrosspeers/internal/pick/AliasTable" "aliases" "[I" (.ref b')) (A_b : own_A Z h0 .long b vs) (A_b2 : own_A Z h0 .int b' us)  :
    own_C l Z (⟨"com/example/load_across_peers/loadacrosspeers/internal/pick/AliasTable", "owner", "(IJ)I"⟩ : MethodName) prog_10_method_3_code 9 (some .int) ws ({ frames := 0, cells := 0, slots := 0, locals := 0 } : Room) #[(.ref t), (.int c), (.long xv)] h0 (own_Q n0 (fun v h => v = some (.int (own_ownB c xv th al)) ∧ h = h0)) := by
  refine own_met own_pn_own_rmOB #[rv t, iv c, jv xv, .second, .unset, .unset, .unset, .unset, .unset] (fun m => by first | (simp [entryFrame, mkF, argsToLocals, Value.category]; done) | rfl) ?_
  intro p e s m below meth cc s₁ hx hby hml hown hret hlk hZ hnm X0 e0
  replace X0 := own_S.of X0 (n0)
  have hn : n0 ≤ h0.size := Z0
  refine own_gs 1 [(.ref t)] (fun t' k => XS.aloadN X0.here hx rfl (hb hby own_dO_0) rfl rfl  k) ?_
  refine X0.getF hx hZ hown (hw _ (List.mem_of_getElem? (i := 22) rfl)) e0 F_packed (hb hby own_dO_1) ?_
  intro T1 X1 e1
  refine own_gs 34 [] (fun t' k => XS.ifnullYes X1.here hx rfl (pc0 := 4) (pc' := 34) rfl (hb hby own_dO_4) rfl (by decide) (by decide) k) ?_
  refine own_gs 35 [(.ref t)] (fun t' k => XS.aloadN X1.here hx rfl (hb hby own_dO_34) rfl rfl  k) ?_
  refine X1.getF hx hZ hown (hw _ (List.mem_of_getElem? (i := 24) rfl)) e1 F_thr (hb hby own_dO_35) ?_
  intro T2 X2 e2
  refine own_gs 39 [(.int c), (.ref b)] (fun t' k => XS.iloadN X2.here hx rfl (hb hby own_dO_38) rfl  k) ?_
  refine X2.ldJ hx hZ e2 A_b (v := (.long th)) i hi hv (hb hby own_dO_39) ?_
  refine own_go (mkF m 42 #[rv t, iv c, jv xv, .second, jv th, .second, .unset, .unset, .unset] []) (fun t' k => XS.lstore X2.here hx rfl (hb hby own_dO_40) rfl rfl k) ?_
  refine own_gs 43 [(.ref t)] (fun t' k => XS.aloadN X2.here hx rfl (hb hby own_dO_42) rfl rfl  k) ?_
  refine X2.getF hx hZ hown (hw _ (List.mem_of_getElem? (i := 26) rfl)) e2 F_al (hb hby own_dO_43) ?_
  intro T3 X3 e3
  refine own_gs 47 [(.int c), (.ref b')] (fun t' k => XS.iloadN X3.here hx rfl (hb hby own_dO_46) rfl  k) ?_
  refine X3.ldI hx hZ e3 A_b2 (v := (.int al)) i hi hu (hb hby own_dO_47) ?_
  refine own_go (mkF m 50 #[rv t, iv c, jv xv, .second, jv th, .second, iv al, .unset, .unset] []) (fun t' k => XS.istore X3.here hx rfl (hb hby own_dO_48) rfl rfl k) ?_
  refine own_gs 51 [(.long xv)] (fun t' k => XS.lloadN X3.here hx rfl (hb hby own_dO_50) rfl  k) ?_
  refine own_gs 53 [(.long th), (.long xv)] (fun t' k => XS.lload X3.here hx rfl (hb hby own_dO_51) rfl  k) ?_
  refine own_gs 54 [(.long (xv - th))] (fun t' k => XS.lsub X3.here hx rfl (hb hby own_dO_53) rfl k) ?_
  refine own_gs 56 [(.int (63 : Int32)), (.long (xv - th))] (fun t' k => XS.bipush X3.here hx rfl (hb hby own_dO_54) k) ?_
  refine own_gs 57 [(.long ((xv - th) >>> ((63 : Int32) &&& 0x3f).toInt64))] (fun t' k => XS.lshr X3.here hx rfl (hb hby own_dO_56) rfl k) ?_
  refine own_gs 58 [(.int (((xv - th) >>> ((63 : Int32) &&& 0x3f).toInt64).toInt32))] (fun t' k => XS.l2i X3.here hx rfl (hb hby own_dO_57) rfl k) ?_
  refine own_go (mkF m 60 #[rv t, iv c, jv xv, .second, jv th, .second, iv al, iv (((xv - th) >>> ((63 : Int32) &&& 0x3f).toInt64).toInt32), .unset] []) (fun t' k => XS.istore X3.here hx rfl (hb hby own_dO_58) rfl rfl k) ?_
  refine own_gs 62 [(.int al)] (fun t' k => XS.iload X3.here hx rfl (hb hby own_dO_60) rfl  k) ?_
  refine own_gs 63 [(.int c), (.int al)] (fun t' k => XS.iloadN X3.here hx rfl (hb hby own_dO_62) rfl  k) ?_
  refine own_gs 65 [(.int al), (.int c), (.int al)] (fun t' k => XS.iload X3.here hx rfl (hb hby own_dO_63) rfl  k) ?_
  refine own_gs 66 [(.int (c ^^^ al)), (.int al)] (fun t' k => XS.ixor X3.here hx rfl (hb hby own_dO_65) rfl k) ?_
  refine own_gs 68 [(.int (((xv - th) >>> ((63 : Int32) &&& 0x3f).toInt64).toInt32)), (.int (c ^^^ al)), (.int al)] (fun t' k => XS.iload X3.here hx rfl (hb hby own_dO_66) rfl  k) ?_
  refine own_gs 69 [(.int ((c ^^^ al) &&& (((xv - th) >>> ((63 : Int32) &&& 0x3f).toInt64).toInt32))), (.int al)] (fun t' k => XS.iand X3.here hx rfl (hb hby own_dO_68) rfl k) ?_
  refine own_gs 70 [(.int (al ^^^ ((c ^^^ al) &&& (((xv - th) >>> ((63 : Int32) &&& 0x3f).toInt64).toInt32))))] (fun t' k => XS.ixor X3.here hx rfl (hb hby own_dO_69) rfl k) ?_
  refine X3.retI hx hlk hret (hb hby own_dO_70) ?_ (by decide) (by decide)
  exact ⟨congrArg (fun z => some (Value.int z)) ((show (own_ownB c xv th al) = (al ^^^ ((c ^^^ al) &&& (((xv - th) >>> ((63 : Int32) &&& 0x3f).toInt64).toInt32))) from rfl).trans (by rfl : (al ^^^ ((c ^^^ al) &&& (((xv - th) >>> ((63 : Int32) &&& 0x3f).toInt64).toInt32))) = (al ^^^ ((c ^^^ al) &&& (((xv - th) >>> ((63 : Int32) &&& 0x3f).toInt64).toInt32))))).symm, e3⟩


theorem own_msk (x : Int64) : ∃ A : Int, (x &&& (2147483647 : Int64)) = Int64.ofInt A ∧ 0 ≤ A ∧ A ≤ 2147483647 := by
  have h := Jvm.Kit.i64_mask x 2147483647 (k := 31) (by decide) (by decide)
  refine ⟨(x &&& (2147483647 : Int64)).toInt, (Int64.ofInt_toInt _).symm, ?_, ?_⟩ <;> omega
theorem own_ne0 {A : Int} (h : ¬ Int64.ofInt A = 0) : A ≠ 0 := fun q => h (by rw [q]; rfl)
theorem own_eq0 {A : Int} (hb : -4611686018427387904 ≤ A ∧ A ≤ 4611686018427387904) (h : Int64.ofInt A = 0) : A = 0 := by
  have := congrArg Int64.toInt h
  rw [own_oI hb] at this; exact this
theorem own_eqI {A B : Int} (ha : -4611686018427387904 ≤ A ∧ A ≤ 4611686018427387904) (hb : -4611686018427387904 ≤ B ∧ B ≤ 4611686018427387904) (h : Int64.ofInt A = Int64.ofInt B) : A = B := by
  have := congrArg Int64.toInt h
  rwa [own_oI ha, own_oI hb] at this
theorem own_ltI {A B : Int} (ha : -4611686018427387904 ≤ A ∧ A ≤ 4611686018427387904) (hb : -4611686018427387904 ≤ B ∧ B ≤ 4611686018427387904) : Int64.ofInt A < Int64.ofInt B ↔ A < B := by
  rw [Int64.lt_iff_toInt_lt, own_oI ha, own_oI hb]
theorem own_remb {o q : Int64} {t : Int} (ho : 0 ≤ o.toInt) (hq : q = Int64.ofInt t) (ht : 1 ≤ t ∧ t ≤ 4611686018427387904) : 0 ≤ (o - (o / q) * q).toInt ∧ (o - (o / q) * q).toInt < t := by
  have e : q.toInt = t := by rw [hq]; exact own_oI (by omega)
  rw [Jvm.Kit.i64_rem_nonneg ho, e]
  exact ⟨Int.emod_nonneg _ (by omega), Int.emod_lt_of_pos _ (by omega)⟩
theorem own_bit1 (x : Int32) : ∃ i : Nat, (x &&& (1 : Int32)).toInt = i ∧ i < 2 := by
  have h := Jvm.Kit.i32_mask x 1 (k := 1) (by decide) (by decide)
  exact ⟨(x &&& (1 : Int32)).toInt.toNat, by omega, by omega⟩
theorem own_bit3 (x : Int32) : ∃ i : Nat, (x &&& (7 : Int32)).toInt = i ∧ i < 8 := by
  have h := Jvm.Kit.i32_mask x 7 (k := 3) (by decide) (by decide)
  exact ⟨(x &&& (7 : Int32)).toInt.toNat, by omega, by omega⟩
theorem own_pos (x : Int64) : 0 ≤ (x &&& (9223372036854775807 : Int64)).toInt := by
  rw [Jvm.Kit.i64_mask x 9223372036854775807 (k := 63) (by decide) (by decide)]
  exact Int.emod_nonneg _ (by decide)
theorem own_nat64 {x : Int64} (h : 0 ≤ x.toInt) : x.toInt = (x.toBitVec.toNat : Int) := by
  have e : x.toInt = x.toBitVec.toInt := rfl
  have hb := x.toBitVec.isLt
  rw [e, BitVec.toInt_eq_toNat_cond] at h ⊢
  by_cases hc : 2 * x.toBitVec.toNat < 2 ^ 64
  · rw [if_pos hc]
  · rw [if_neg hc] at h; omega
theorem own_sel (c al : Int32) : al ^^^ ((c ^^^ al) &&& (-1)) = c := by
  apply Int32.toBitVec_inj.mp
  have : (-1 : Int32).toBitVec = BitVec.allOnes 32 := rfl
  simp only [Int32.toBitVec_xor, Int32.toBitVec_and, this, BitVec.and_allOnes]
  rw [BitVec.xor_comm c.toBitVec, ← BitVec.xor_assoc, BitVec.xor_self, BitVec.zero_xor]
theorem own_sel0 (c al : Int32) : al ^^^ ((c ^^^ al) &&& 0) = al := by
  apply Int32.toBitVec_inj.mp
  have : (0 : Int32).toBitVec = 0#32 := rfl
  simp only [Int32.toBitVec_xor, Int32.toBitVec_and, this, BitVec.and_zero, BitVec.xor_zero]
theorem own_sgn {x t : Int64} (h0 : 0 ≤ x.toInt) (h1 : x.toInt ≤ 4611686018427387904) (t0 : 0 ≤ t.toInt) (t1 : t.toInt ≤ 4611686018427387904) : ((x - t) >>> ((63 : Int32) &&& 0x3f).toInt64).toInt32 = if x < t then -1 else 0 := by
  have e : (x - t).toInt = x.toInt - t.toInt := Jvm.Kit.i64_sub (by omega) (by omega)
  have s : ((x - t) >>> ((63 : Int32) &&& 0x3f).toInt64).toInt = (x - t).toInt / 2 ^ 63 := Jvm.Kit.i64_shr _ _ (by decide)
  rw [← Int32.toInt_inj, Jvm.Kit.i32_of_i64 (by omega) (by omega), s, e]
  simp only [Int64.lt_iff_toInt_lt]
  have m1 : (-1 : Int32).toInt = -1 := rfl
  have z0 : (0 : Int32).toInt = 0 := rfl
  split
  · rw [m1]; omega
  · rw [z0]; omega
theorem own_AB {c al : Int32} {x t : Int64} (h0 : 0 ≤ x.toInt) (h1 : x.toInt ≤ 4611686018427387904) (t0 : 0 ≤ t.toInt) (t1 : t.toInt ≤ 4611686018427387904) : own_ownB c x t al = if x < t then c else al := by
  unfold own_ownB
  rw [own_sgn h0 h1 t0 t1]
  split
  · exact own_sel c al
  · exact own_sel0 c al
theorem own_AA {c al : Int32} {x t a64 : Int64} (h0 : 0 ≤ x.toInt) (h1 : x.toInt ≤ 4611686018427387904) (t0 : 0 ≤ t.toInt) (t1 : t.toInt < 8589934592) (ha : a64.toBitVec.toNat = al.toBitVec.toNat) (ha2 : al.toBitVec.toNat < 2 ^ 31) : own_ownA c x (own_pw t a64) = if x < t then c else al := by
  have n1 := own_nat64 t0
  have w : (own_pw t a64).toBitVec.toNat = 2 ^ 31 * t.toBitVec.toNat + al.toBitVec.toNat := by
    unfold own_pw
    have e1 : (t <<< ((31 : Int32) &&& 0x3f).toInt64).toBitVec.toNat = 2 ^ 31 * t.toBitVec.toNat := by
      have : (t <<< ((31 : Int32) &&& 0x3f).toInt64).toBitVec = t.toBitVec <<< 31 := rfl
      rw [this, BitVec.toNat_shiftLeft, Nat.shiftLeft_eq]; omega
    have e2 : ((t <<< ((31 : Int32) &&& 0x3f).toInt64) ||| a64).toBitVec.toNat = (t <<< ((31 : Int32) &&& 0x3f).toInt64).toBitVec.toNat ||| a64.toBitVec.toNat := by simp only [Int64.toBitVec_or, BitVec.toNat_or]
    rw [e2, e1, ha, ← Nat.two_pow_add_eq_or_of_lt ha2]
  have g1 : (((own_pw t a64).toUInt64 >>> ((31 : Int32) &&& 0x3f).toInt64.toUInt64).toInt64) = t := by
    apply Int64.toBitVec_inj.mp; apply BitVec.eq_of_toNat_eq
    have : (((own_pw t a64).toUInt64 >>> ((31 : Int32) &&& 0x3f).toInt64.toUInt64).toInt64).toBitVec = (own_pw t a64).toBitVec >>> 31 := rfl
    rw [this, BitVec.toNat_ushiftRight, Nat.shiftRight_eq_div_pow, w]; omega
  have g2 : ((own_pw t a64) &&& (2147483647 : Int64)).toInt32 = al := by
    apply Int32.toBitVec_inj.mp; apply BitVec.eq_of_toNat_eq
    have q : ((own_pw t a64) &&& (2147483647 : Int64)).toBitVec.toNat = al.toBitVec.toNat := by
      have e31 : (2147483647 : Int64).toBitVec.toNat = 2 ^ 31 - 1 := rfl
      rw [Int64.toBitVec_and, BitVec.toNat_and, e31, Nat.and_two_pow_sub_one_eq_mod, w]; omega
    have : ((own_pw t a64) &&& (2147483647 : Int64)).toInt32.toBitVec = ((own_pw t a64) &&& (2147483647 : Int64)).toBitVec.signExtend 32 := rfl
    rw [this, BitVec.signExtend_eq_setWidth_of_le _ (by decide), BitVec.toNat_setWidth, q]; omega
  unfold own_ownA
  rw [g1, g2, own_sgn h0 h1 t0 (by omega)]
  split
  · exact own_sel c al
  · exact own_sel0 c al
theorem own_A0 (x : Int64) : own_ownA 0 x (own_pw 0 0) = 0 := by
  unfold own_ownA
  have g2 : ((own_pw 0 0) &&& (2147483647 : Int64)).toInt32 = 0 := by decide
  rw [g2]
  have : ((0 : Int32) ^^^ 0) = 0 := by decide
  rw [this]
  apply Int32.toBitVec_inj.mp
  have z : (0 : Int32).toBitVec = 0#32 := rfl
  simp only [Int32.toBitVec_xor, Int32.toBitVec_and, z, BitVec.zero_and, BitVec.xor_zero]
theorem own_get8 {A : Int} (hA1 : 1 ≤ A) (hA2 : A ≤ 2147483647) {i : Nat} (hi : i < 8) : ∃ (th : Int64) (al : Int32) (a64 : Int64), ([(.long (0 : Int64)), (.long (Int64.ofInt (2 * A))), (.long (Int64.ofInt (4 * A))), (.long (Int64.ofInt (A))), (.long (Int64.ofInt (3 * A))), (.long (0 : Int64)), (.long (0 : Int64)), (.long (0 : Int64))] : List Value)[i]? = some (.long th) ∧ ([(.int (0 : Int32)), (.int (0 : Int32)), (.int (1 : Int32)), (.int (2 : Int32)), (.int (3 : Int32)), (.int (1 : Int32)), (.int (3 : Int32)), (.int (4 : Int32))] : List Value)[i]? = some (.int al) ∧ ([(.long (own_pw (0 : Int64) (0 : Int64))), (.long (own_pw (Int64.ofInt (2 * A)) (0 : Int64))), (.long (own_pw (Int64.ofInt (4 * A)) (1 : Int64))), (.long (own_pw (Int64.ofInt (A)) (2 : Int64))), (.long (own_pw (Int64.ofInt (3 * A)) (3 : Int64))), (.long (own_pw (0 : Int64) (1 : Int64))), (.long (own_pw (0 : Int64) (3 : Int64))), (.long (own_pw (0 : Int64) (4 : Int64)))] : List Value)[i]? = some (.long (own_pw th a64)) ∧ a64.toBitVec.toNat = al.toBitVec.toNat ∧ al.toBitVec.toNat < 2 ^ 31 ∧ 0 ≤ th.toInt ∧ th.toInt ≤ 4 * A := by
  rcases (by omega : i = 0 ∨ i = 1 ∨ i = 2 ∨ i = 3 ∨ i = 4 ∨ i = 5 ∨ i = 6 ∨ i = 7) with rfl | rfl | rfl | rfl | rfl | rfl | rfl | rfl
  · exact ⟨_, _, _, rfl, rfl, rfl, by decide, by decide, by decide, by show (0 : Int) ≤ 4 * A; omega⟩
  · exact ⟨_, _, _, rfl, rfl, rfl, by decide, by decide, by rw [own_oI (by omega)]; omega, by rw [own_oI (by omega)]; omega⟩
  · exact ⟨_, _, _, rfl, rfl, rfl, by decide, by decide, by rw [own_oI (by omega)]; omega, by rw [own_oI (by omega)]; omega⟩
  · exact ⟨_, _, _, rfl, rfl, rfl, by decide, by decide, by rw [own_oI (by omega)]; omega, by rw [own_oI (by omega)]; omega⟩
  · exact ⟨_, _, _, rfl, rfl, rfl, by decide, by decide, by rw [own_oI (by omega)]; omega, by rw [own_oI (by omega)]; omega⟩
  · exact ⟨_, _, _, rfl, rfl, rfl, by decide, by decide, by decide, by show (0 : Int) ≤ 4 * A; omega⟩
  · exact ⟨_, _, _, rfl, rfl, rfl, by decide, by decide, by decide, by show (0 : Int) ≤ 4 * A; omega⟩
  · exact ⟨_, _, _, rfl, rfl, rfl, by decide, by decide, by decide, by show (0 : Int) ≤ 4 * A; omega⟩

def own_e2l (cv : Int32) (xv : Int64) (A Bb : Int) : Int32 := (if cv = (0 : Int32) then (if xv < (Int64.ofInt (2 * A)) then (0 : Int32) else (1 : Int32)) else (1 : Int32))
def own_e2g (cv : Int32) (xv : Int64) (A Bb : Int) : Int32 := (if cv = (1 : Int32) then (if xv < (Int64.ofInt (2 * Bb)) then (1 : Int32) else (0 : Int32)) else (0 : Int32))
def own_e5 (cv alc : Int32) (xv thc : Int64) : Int32 := (if xv < thc then cv else alc)

theorem own_pn_own_rm0 : plainFor x = true := plainFor_of_name (show plainName "com/example/load_across_peers/loadacrosspeers/internal/pick/AliasTableOwnerPinLaw" = true by first | (simp [plainName, overriddenIn]; done) | decide +kernel)
set_option maxRecDepth 65536 in
set_option maxHeartbeats 40000000 in
theorem own_rm0 (l : Launch) (Z : State) (a0 : Array Value) (hw : ∀ d ∈ tables_1, d.before a0 Z = true) (ws : List Jvm.Cond) (h0 : Heap) (x0 x1 : Int32) (x2 x3 x4 : Int64)  :
    own_C l Z x code maxLocals ret ws room_1 #[(.int x0), (.int x1), (.long x2), (.long x3), (.long x4)] h0 (own_Q h0.size (fun v h => v = some (.int 1))) := by
  refine own_met own_pn_own_rm0 #[iv x0, iv x1, jv x2, .second, jv x3, .second, jv x4, .second, .unset, .unset, .unset, .unset, .unset, .unset, .unset, .unset, .unset, .unset, .unset, .unset, .unset, .unset, .unset, .unset, .unset] (fun m => by first | (simp [entryFrame, mkF, argsToLocals, Value.category, maxLocals]; done) | rfl) ?_
  intro p e s m below meth c s₁ hx hby hml hown hret hlk hZ hnm X0 e0
  replace hml : c.maxLocals = 25 := hml
  replace X0 := own_S.of X0 (h0.size)
  have hn : h0.size ≤ h0.size := Nat.le_refl _
  refine own_gs 1 [(.int x0)] (fun t' k => XS.iloadN X0.here hx rfl (hb hby at_0) rfl  k) ?_
  refine own_gs 2 [(.int (3 : Int32)), (.int x0)] (fun t' k => XS.iconst X0.here hx rfl (hb hby at_1) k) ?_
  refine own_gs 3 [(.int (x0 &&& (3 : Int32)))] (fun t' k => XS.iand X0.here hx rfl (hb hby at_2) rfl k) ?_
  refine own_go (mkF m 5 #[iv x0, iv x1, jv x2, .second, jv x3, .second, jv x4, .second, iv (x0 &&& (3 : Int32)), .unset, .unset, .unset, .unset, .unset, .unset, .unset, .unset, .unset, .unset, .unset, .unset, .unset, .unset, .unset, .unset] []) (fun t' k => XS.istore X0.here hx rfl (hb hby at_3) rfl rfl k) ?_
  refine own_gs 6 [(.long x2)] (fun t' k => XS.lloadN X0.here hx rfl (hb hby at_5) rfl  k) ?_
  refine own_gs 9 [(.long (2147483647 : Int64)), (.long x2)] (fun t' k => X0.ldc2Long hx hown (mvT hZ (hw _ (List.mem_of_getElem? (i := 0) rfl))) (g := (mkF m 6 #[iv x0, iv x1, jv x2, .second, jv x3, .second, jv x4, .second, iv (x0 &&& (3 : Int32)), .unset, .unset, .unset, .unset, .unset, .unset, .unset, .unset, .unset, .unset, .unset, .unset, .unset, .unset, .unset, .unset] [(.long x2)])) rfl (hb hby at_6) _ k) ?_
  refine own_gs 10 [(.long (x2 &&& (2147483647 : Int64)))] (fun t' k => XS.land X0.here hx rfl (hb hby at_9) rfl k) ?_
  obtain ⟨A, hA, hA0, hA2⟩ := own_msk x2
  rw [hA]
  refine own_go (mkF m 12 #[iv x0, iv x1, jv x2, .second, jv x3, .second, jv x4, .second, iv (x0 &&& (3 : Int32)), jv (Int64.ofInt (A)), .second, .unset, .unset, .unset, .unset, .unset, .unset, .unset, .unset, .unset, .unset, .unset, .unset, .unset, .unset] []) (fun t' k => XS.lstore X0.here hx rfl (hb hby at_10) rfl rfl k) ?_
  refine own_gs 14 [(.long x3)] (fun t' k => XS.lload X0.here hx rfl (hb hby at_12) rfl  k) ?_
  refine own_gs 17 [(.long (2147483647 : Int64)), (.long x3)] (fun t' k => X0.ldc2Long hx hown (mvT hZ (hw _ (List.mem_of_getElem? (i := 0) rfl))) (g := (mkF m 14 #[iv x0, iv x1, jv x2, .second, jv x3, .second, jv x4, .second, iv (x0 &&& (3 : Int32)), jv (Int64.ofInt (A)), .second, .unset, .unset, .unset, .unset, .unset, .unset, .unset, .unset, .unset, .unset, .unset, .unset, .unset, .unset] [(.long x3)])) rfl (hb hby at_14) _ k) ?_
  refine own_gs 18 [(.long (x3 &&& (2147483647 : Int64)))] (fun t' k => XS.land X0.here hx rfl (hb hby at_17) rfl k) ?_
  obtain ⟨B, hB, hB0, hB2⟩ := own_msk x3
  rw [hB]
  refine own_go (mkF m 20 #[iv x0, iv x1, jv x2, .second, jv x3, .second, jv x4, .second, iv (x0 &&& (3 : Int32)), jv (Int64.ofInt (A)), .second, jv (Int64.ofInt (B)), .second, .unset, .unset, .unset, .unset, .unset, .unset, .unset, .unset, .unset, .unset, .unset, .unset] []) (fun t' k => XS.lstore X0.here hx rfl (hb hby at_18) rfl rfl k) ?_
  refine own_gs 22 [(.long x4)] (fun t' k => XS.lload X0.here hx rfl (hb hby at_20) rfl  k) ?_
  refine own_gs 25 [(.long (9223372036854775807 : Int64)), (.long x4)] (fun t' k => X0.ldc2Long hx hown (mvT hZ (hw _ (List.mem_of_getElem? (i := 1) rfl))) (g := (mkF m 22 #[iv x0, iv x1, jv x2, .second, jv x3, .second, jv x4, .second, iv (x0 &&& (3 : Int32)), jv (Int64.ofInt (A)), .second, jv (Int64.ofInt (B)), .second, .unset, .unset, .unset, .unset, .unset, .unset, .unset, .unset, .unset, .unset, .unset, .unset] [(.long x4)])) rfl (hb hby at_22) _ k) ?_
  refine own_gs 26 [(.long (x4 &&& (9223372036854775807 : Int64)))] (fun t' k => XS.land X0.here hx rfl (hb hby at_25) rfl k) ?_
  have ho := own_pos x4
  generalize (x4 &&& (9223372036854775807 : Int64)) = ov at ho ⊢
  refine own_go (mkF m 28 #[iv x0, iv x1, jv x2, .second, jv x3, .second, jv x4, .second, iv (x0 &&& (3 : Int32)), jv (Int64.ofInt (A)), .second, jv (Int64.ofInt (B)), .second, jv ov, .second, .unset, .unset, .unset, .unset, .unset, .unset, .unset, .unset, .unset, .unset] []) (fun t' k => XS.lstore X0.here hx rfl (hb hby at_26) rfl rfl k) ?_
  refine own_gs 30 [(.int (x0 &&& (3 : Int32)))] (fun t' k => XS.iload X0.here hx rfl (hb hby at_28) rfl  k) ?_
  by_cases hc30 : (x0 &&& (3 : Int32)) = (0 : Int32)
  · skip
    refine own_gs 33 [] (fun t' k => XS.ifNo X0.here hx rfl (hb hby at_30) rfl ((if0 _ _).trans (teq hc30).2) k) ?_
    have JA : ∀ (av : Int64), (∃ Aa : Int, av = Int64.ofInt Aa ∧ 1 ≤ Aa ∧ Aa ≤ 2147483647) → own_G p e below s (own_Q h0.size (fun v h => v = some (.int 1))) room_1.cells room_1.slots s₁ (mkF m 43 #[iv x0, iv x1, jv x2, .second, jv x3, .second, jv x4, .second, iv (x0 &&& (3 : Int32)), jv av, .second, jv (Int64.ofInt (B)), .second, jv ov, .second, .unset, .unset, .unset, .unset, .unset, .unset, .unset, .unset, .unset, .unset] []) := by
      intro av hJA
      obtain ⟨Aa, rfl, hA1', hA2'⟩ := hJA
      refine own_gs 44 [(.int (1 : Int32))] (fun t' k => XS.iconst X0.here hx rfl (hb hby at_43) k) ?_
      refine X0.newP hx hZ (hw _ (List.mem_of_getElem? (i := 2) rfl)) e0 1 (by decide) (hb hby at_44) 1 (by decide) (by decide) (by decide) (by decide) ?_
      intro T1 h1 b1 X1 e1 q1 xt1 A_b1
      have g_b1 : h0.size ≤ b1 := by rw [q1]; exact hn
      replace hn := Nat.le_trans hn xt1.1
      replace A_b1 : own_A Z h1 .long b1 [(.long (0 : Int64))] := A_b1
      refine own_gs 47 [(.ref b1), (.ref b1)] (fun t' k => XS.dup X1.here hx rfl (hb hby at_46) rfl rfl k) ?_
      refine own_gs 48 [(.int (0 : Int32)), (.ref b1), (.ref b1)] (fun t' k => XS.iconst X1.here hx rfl (hb hby at_47) k) ?_
      refine own_gs 50 [(.long (Int64.ofInt (Aa))), (.int (0 : Int32)), (.ref b1), (.ref b1)] (fun t' k => XS.lload X1.here hx rfl (hb hby at_48) rfl  k) ?_
      refine X1.stJ hx hZ e1 A_b1 g_b1 0 (by decide) (Nat.le_of_ble_eq_true rfl) (hb hby at_50) ?_
      intro T2 h2 X2 e2 W2 A2
      replace A_b1 : own_A Z h2 .long b1 [(.long (Int64.ofInt (Aa)))] := A2
      clear A2
      replace hn := Nat.le_trans hn (Keep.of_wr W2).1
      refine own_go (mkF m 53 #[iv x0, iv x1, jv x2, .second, jv x3, .second, jv x4, .second, iv (x0 &&& (3 : Int32)), jv (Int64.ofInt (Aa)), .second, jv (Int64.ofInt (B)), .second, jv ov, .second, rv b1, .unset, .unset, .unset, .unset, .unset, .unset, .unset, .unset, .unset] []) (fun t' k => XS.astore X2.here hx rfl (hb hby at_51) rfl rfl rfl k) ?_
      refine X2.newO hx hZ hown (hw _ (List.mem_of_getElem? (i := 3) rfl)) (hw _ (List.mem_of_getElem? (i := 4) rfl)) (hw _ (List.mem_of_getElem? (i := 5) rfl)) e2 (hb hby at_53) (by decide) (by decide) ?_
      intro T3 h3 b3 X3 e3 q3 xt3 E_b3 D3
      have g_b3 : h0.size ≤ b3 := by rw [q3]; exact hn
      have lt_b1_b3 : b1 < b3 := by rw [q3]; exact A_b1.lt
      replace A_b1 := A_b1.ext xt3
      replace hn := Nat.le_trans hn xt3.1
      have F_b3_shift : Fld Z h3 b3 "com/example/load_across_peers/loadacrosspeers/internal/pick/AliasTable" "shift" "I" (.int (0 : Int32)) := D3 (Or.inr (hw _ (List.mem_of_getElem? (i := 18) rfl))) (ty := .int) (by decide)
      have F_b3_total : Fld Z h3 b3 "com/example/load_across_peers/loadacrosspeers/internal/pick/AliasTable" "total" "J" (.long (0 : Int64)) := D3 (Or.inr (hw _ (List.mem_of_getElem? (i := 20) rfl))) (ty := .long) (by decide)
      have F_b3_packed : Fld Z h3 b3 "com/example/load_across_peers/loadacrosspeers/internal/pick/AliasTable" "packed" "[J" .null := D3 (Or.inr (hw _ (List.mem_of_getElem? (i := 23) rfl))) (ty := (.array .long)) (by decide)
      have F_b3_thresholds : Fld Z h3 b3 "com/example/load_across_peers/loadacrosspeers/internal/pick/AliasTable" "thresholds" "[J" .null := D3 (Or.inr (hw _ (List.mem_of_getElem? (i := 25) rfl))) (ty := (.array .long)) (by decide)
      have F_b3_aliases : Fld Z h3 b3 "com/example/load_across_peers/loadacrosspeers/internal/pick/AliasTable" "aliases" "[I" .null := D3 (Or.inr (hw _ (List.mem_of_getElem? (i := 27) rfl))) (ty := (.array .int)) (by decide)
      refine own_gs 57 [(.ref b3), (.ref b3)] (fun t' k => XS.dup X3.here hx rfl (hb hby at_56) rfl rfl k) ?_
      refine own_gs 59 [(.ref b1), (.ref b3), (.ref b3)] (fun t' k => XS.aload X3.here hx rfl (hb hby at_57) rfl rfl  k) ?_
      refine X3.callI hx hZ (y := (⟨"com/example/load_across_peers/loadacrosspeers/internal/pick/AliasTable", "<init>", "([J)V"⟩ : MethodName)) rfl hown (hw _ (List.mem_of_getElem? (i := 6) rfl)) (hw _ (List.mem_of_getElem? (i := 7) rfl)) (hw _ (List.mem_of_getElem? (i := 5) rfl)) (hw _ (List.mem_of_getElem? (i := 8) rfl)) (by decide) e3 b3 [(.ref b1)] [(.ref b3)] (own_rmI1 l Z a0 hw [] h3 h0.size hn b3 b1 g_b3 (Ne.symm (Nat.ne_of_lt lt_b1_b3)) Aa hA1' hA2' E_b3 A_b1 F_b3_shift F_b3_total F_b3_packed F_b3_thresholds F_b3_aliases) 1 (by decide) (by decide) (Nat.le_of_eq rfl) (by decide) (by decide) (by rw [hml]; rfl) (lenOf own_pd1 rfl) rfl (hb hby at_59) ?_
      rintro T4 _ X4 ⟨rfl, hn4, E_t, HT⟩
      replace hn := hn4
      show own_G p e below s _ _ _ T4 (mkF m 62 #[iv x0, iv x1, jv x2, .second, jv x3, .second, jv x4, .second, iv (x0 &&& (3 : Int32)), jv (Int64.ofInt (Aa)), .second, jv (Int64.ofInt (B)), .second, jv ov, .second, rv b1, .unset, .unset, .unset, .unset, .unset, .unset, .unset, .unset, .unset] [(.ref b3)])
      refine own_go (mkF m 64 #[iv x0, iv x1, jv x2, .second, jv x3, .second, jv x4, .second, iv (x0 &&& (3 : Int32)), jv (Int64.ofInt (Aa)), .second, jv (Int64.ofInt (B)), .second, jv ov, .second, rv b1, rv b3, .unset, .unset, .unset, .unset, .unset, .unset, .unset, .unset] []) (fun t' k => XS.astore X4.here hx rfl (hb hby at_62) rfl rfl rfl k) ?_
      refine own_gs 66 [(.ref b3)] (fun t' k => XS.aload X4.here hx rfl (hb hby at_64) rfl rfl  k) ?_
      refine own_gs 67 [(.int (0 : Int32)), (.ref b3)] (fun t' k => XS.iconst X4.here hx rfl (hb hby at_66) k) ?_
      refine own_gs 69 [(.long ov), (.int (0 : Int32)), (.ref b3)] (fun t' k => XS.lload X4.here hx rfl (hb hby at_67) rfl  k) ?_
      refine own_gs 71 [(.long (Int64.ofInt (Aa))), (.long ov), (.int (0 : Int32)), (.ref b3)] (fun t' k => XS.lload X4.here hx rfl (hb hby at_69) rfl  k) ?_
      refine own_gs 72 [(.long (ov - (ov / (Int64.ofInt (Aa))) * (Int64.ofInt (Aa)))), (.int (0 : Int32)), (.ref b3)] (fun t' k => XS.lrem X4.here hx rfl (hb hby at_71) rfl (own_one (show (Int64.ofInt (Aa)) = (Int64.ofInt (Aa)) from rfl) (show (0 : Int64) = Int64.ofInt (0) from rfl) (by omega) (by omega) (by omega)) k) ?_
      generalize (ov - (ov / (Int64.ofInt (Aa))) * (Int64.ofInt (Aa))) = xv
      obtain ⟨bb, HF, HA⟩ := HT
      refine X4.callV hx hZ (y := (⟨"com/example/load_across_peers/loadacrosspeers/internal/pick/AliasTable", "owner", "(IJ)I"⟩ : MethodName)) (C := "com/example/load_across_peers/loadacrosspeers/internal/pick/AliasTable") hown (hw _ (List.mem_of_getElem? (i := 28) rfl)) (hw _ (List.mem_of_getElem? (i := 29) rfl)) (hw _ (List.mem_of_getElem? (i := 31) rfl)) (hw _ (List.mem_of_getElem? (i := 30) rfl)) (hw _ (List.mem_of_getElem? (i := 5) rfl)) (hw _ (List.mem_of_getElem? (i := 32) rfl)) (by decide) rfl E_t [(.int (0 : Int32)), (.long xv)] [] (own_rmOA l Z a0 hw [] T4.heap h0.size hn b3 bb 0 xv (own_pw (0 : Int64) (0 : Int64)) 0 rfl _ rfl HF HA) 0 (by decide) (by decide) (Nat.le_of_eq rfl) (by decide) (by decide) (by rw [hml]; rfl) (lenOf own_pd2 rfl) rfl (hb hby at_72) ?_
      rintro T5 _ X5 ⟨rfl, e5⟩
      show own_G p e below s _ _ _ T5 (mkF m 75 #[iv x0, iv x1, jv x2, .second, jv x3, .second, jv x4, .second, iv (x0 &&& (3 : Int32)), jv (Int64.ofInt (Aa)), .second, jv (Int64.ofInt (B)), .second, jv ov, .second, rv b1, rv b3, .unset, .unset, .unset, .unset, .unset, .unset, .unset, .unset] [(.int (own_ownA 0 xv (own_pw (0 : Int64) (0 : Int64))))])
      refine own_gs 78 [] (fun t' k => XS.ifNo X5.here hx rfl (hb hby at_75) rfl ((if0 _ _).trans (teq (own_A0 _)).2) k) ?_
      refine own_gs 79 [(.int (1 : Int32))] (fun t' k => XS.iconst X5.here hx rfl (hb hby at_78) k) ?_
      refine own_gs 83 [(.int (1 : Int32))] (fun t' k => XS.goto X5.here hx rfl (pc0 := 79) (pc' := 83) rfl (hb hby at_79) (by decide) (by decide) k) ?_
      refine X5.retZ hx hlk hret (hb hby at_83) ?_ (by decide) (by decide)
      exact rfl
    refine own_gs 35 [(.long (Int64.ofInt (A)))] (fun t' k => XS.lload X0.here hx rfl (hb hby at_33) rfl  k) ?_
    refine own_gs 36 [(.long (0 : Int64)), (.long (Int64.ofInt (A)))] (fun t' k => XS.lconst X0.here hx rfl (hb hby at_35) k) ?_
    refine own_gs 37 [(.int (lcmpW (Int64.ofInt (A)) (0 : Int64)))] (fun t' k => XS.lcmp X0.here hx rfl (hb hby at_36) rfl k) ?_
    by_cases hc37 : (Int64.ofInt (A)) = (0 : Int64)
    · skip
      refine own_gs 40 [] (fun t' k => XS.ifNo X0.here hx rfl (hb hby at_37) rfl ((if0 _ _).trans (teq ((lw_eq (Int64.ofInt (A)) (0 : Int64)).mpr hc37)).2) k) ?_
      refine own_gs 41 [(.long (1 : Int64))] (fun t' k => XS.lconst X0.here hx rfl (hb hby at_40) k) ?_
      refine own_go (mkF m 43 #[iv x0, iv x1, jv x2, .second, jv x3, .second, jv x4, .second, iv (x0 &&& (3 : Int32)), jv (1 : Int64), .second, jv (Int64.ofInt (B)), .second, jv ov, .second, .unset, .unset, .unset, .unset, .unset, .unset, .unset, .unset, .unset, .unset] []) (fun t' k => XS.lstore X0.here hx rfl (hb hby at_41) rfl rfl k) ?_
      exact JA ((1 : Int64)) ⟨1, rfl, by decide, by decide⟩
    · skip
      refine own_gs 43 [] (fun t' k => XS.ifYes X0.here hx rfl (pc0 := 37) (pc' := 43) rfl (hb hby at_37) rfl ((if0 _ _).trans (feq (fun q => hc37 ((lw_eq (Int64.ofInt (A)) (0 : Int64)).mp q))).2) (by decide) (by decide) k) ?_
      exact JA ((Int64.ofInt (A))) ⟨A, rfl, by have := own_ne0 hc37; omega, hA2⟩
  · skip
    refine own_gs 84 [] (fun t' k => XS.ifYes X0.here hx rfl (pc0 := 30) (pc' := 84) rfl (hb hby at_30) rfl ((if0 _ _).trans (feq hc30).2) (by decide) (by decide) k) ?_
    refine own_gs 86 [(.int (x0 &&& (3 : Int32)))] (fun t' k => XS.iload X0.here hx rfl (hb hby at_84) rfl  k) ?_
    refine own_gs 87 [(.int (1 : Int32)), (.int (x0 &&& (3 : Int32)))] (fun t' k => XS.iconst X0.here hx rfl (hb hby at_86) k) ?_
    by_cases hc87 : (x0 &&& (3 : Int32)) = (1 : Int32)
    · skip
      refine own_gs 90 [] (fun t' k => XS.icmpNo X0.here hx rfl (hb hby at_87) rfl (teq hc87).2 k) ?_
      have JB : ∀ (bv : Int64), (∃ Bb : Int, bv = Int64.ofInt Bb ∧ 0 ≤ Bb ∧ Bb ≤ 2147483647 ∧ 1 ≤ A + Bb) → own_G p e below s (own_Q h0.size (fun v h => v = some (.int 1))) room_1.cells room_1.slots s₁ (mkF m 103 #[iv x0, iv x1, jv x2, .second, jv x3, .second, jv x4, .second, iv (x0 &&& (3 : Int32)), jv (Int64.ofInt (A)), .second, jv bv, .second, jv ov, .second, .unset, .unset, .unset, .unset, .unset, .unset, .unset, .unset, .unset, .unset] []) := by
        intro bv hJB
        obtain ⟨Bb, rfl, hB0', hB2', hAB⟩ := hJB
        refine own_gs 105 [(.long (Int64.ofInt (A)))] (fun t' k => XS.lload X0.here hx rfl (hb hby at_103) rfl  k) ?_
        refine own_gs 107 [(.long (Int64.ofInt (Bb))), (.long (Int64.ofInt (A)))] (fun t' k => XS.lload X0.here hx rfl (hb hby at_105) rfl  k) ?_
        refine own_gs 108 [(.long ((Int64.ofInt (A)) + (Int64.ofInt (Bb))))] (fun t' k => XS.ladd X0.here hx rfl (hb hby at_107) rfl k) ?_
        rw [own_oadd (z := A + Bb) (show (Int64.ofInt (A)) = (Int64.ofInt (A)) from rfl) (show (Int64.ofInt (Bb)) = (Int64.ofInt (Bb)) from rfl) (by omega)]
        refine own_go (mkF m 110 #[iv x0, iv x1, jv x2, .second, jv x3, .second, jv x4, .second, iv (x0 &&& (3 : Int32)), jv (Int64.ofInt (A)), .second, jv (Int64.ofInt (Bb)), .second, jv ov, .second, jv (Int64.ofInt (A + Bb)), .second, .unset, .unset, .unset, .unset, .unset, .unset, .unset, .unset] []) (fun t' k => XS.lstore X0.here hx rfl (hb hby at_108) rfl rfl k) ?_
        refine own_gs 111 [(.int x1)] (fun t' k => XS.iloadN X0.here hx rfl (hb hby at_110) rfl  k) ?_
        refine own_gs 112 [(.int (1 : Int32)), (.int x1)] (fun t' k => XS.iconst X0.here hx rfl (hb hby at_111) k) ?_
        refine own_gs 113 [(.int (x1 &&& (1 : Int32)))] (fun t' k => XS.iand X0.here hx rfl (hb hby at_112) rfl k) ?_
        obtain ⟨ci, hci, hci2⟩ := own_bit1 x1
        generalize (x1 &&& (1 : Int32)) = cv at hci ⊢
        refine own_go (mkF m 115 #[iv x0, iv x1, jv x2, .second, jv x3, .second, jv x4, .second, iv (x0 &&& (3 : Int32)), jv (Int64.ofInt (A)), .second, jv (Int64.ofInt (Bb)), .second, jv ov, .second, jv (Int64.ofInt (A + Bb)), .second, iv cv, .unset, .unset, .unset, .unset, .unset, .unset, .unset] []) (fun t' k => XS.istore X0.here hx rfl (hb hby at_113) rfl rfl k) ?_
        refine own_gs 117 [(.long ov)] (fun t' k => XS.lload X0.here hx rfl (hb hby at_115) rfl  k) ?_
        refine own_gs 119 [(.long (Int64.ofInt (A + Bb))), (.long ov)] (fun t' k => XS.lload X0.here hx rfl (hb hby at_117) rfl  k) ?_
        refine own_gs 120 [(.long (ov - (ov / (Int64.ofInt (A + Bb))) * (Int64.ofInt (A + Bb))))] (fun t' k => XS.lrem X0.here hx rfl (hb hby at_119) rfl (own_one (show (Int64.ofInt (A + Bb)) = (Int64.ofInt (A + Bb)) from rfl) (show (0 : Int64) = Int64.ofInt (0) from rfl) (by omega) (by omega) (by omega)) k) ?_
        obtain ⟨hx0, hx1⟩ := own_remb (q := (Int64.ofInt (A + Bb))) (t := A + Bb) ho rfl (by omega)
        generalize (ov - (ov / (Int64.ofInt (A + Bb))) * (Int64.ofInt (A + Bb))) = xv at hx0 hx1 ⊢
        refine own_go (mkF m 122 #[iv x0, iv x1, jv x2, .second, jv x3, .second, jv x4, .second, iv (x0 &&& (3 : Int32)), jv (Int64.ofInt (A)), .second, jv (Int64.ofInt (Bb)), .second, jv ov, .second, jv (Int64.ofInt (A + Bb)), .second, iv cv, jv xv, .second, .unset, .unset, .unset, .unset, .unset] []) (fun t' k => XS.lstore X0.here hx rfl (hb hby at_120) rfl rfl k) ?_
        refine own_gs 124 [(.long (Int64.ofInt (A)))] (fun t' k => XS.lload X0.here hx rfl (hb hby at_122) rfl  k) ?_
        refine own_gs 126 [(.long (Int64.ofInt (Bb))), (.long (Int64.ofInt (A)))] (fun t' k => XS.lload X0.here hx rfl (hb hby at_124) rfl  k) ?_
        refine own_gs 127 [(.int (lcmpW (Int64.ofInt (A)) (Int64.ofInt (Bb))))] (fun t' k => XS.lcmp X0.here hx rfl (hb hby at_126) rfl k) ?_
        by_cases hc127 : (Int64.ofInt (A)) = (Int64.ofInt (Bb))
        · skip
          refine own_gs 130 [] (fun t' k => XS.ifNo X0.here hx rfl (hb hby at_127) rfl ((if0 _ _).trans (teq ((lw_eq (Int64.ofInt (A)) (Int64.ofInt (Bb))).mpr hc127)).2) k) ?_
          refine own_gs 132 [(.int cv)] (fun t' k => XS.iload X0.here hx rfl (hb hby at_130) rfl  k) ?_
          refine own_go (mkF m 134 #[iv x0, iv x1, jv x2, .second, jv x3, .second, jv x4, .second, iv (x0 &&& (3 : Int32)), jv (Int64.ofInt (A)), .second, jv (Int64.ofInt (Bb)), .second, jv ov, .second, jv (Int64.ofInt (A + Bb)), .second, iv cv, jv xv, .second, iv cv, .unset, .unset, .unset, .unset] []) (fun t' k => XS.istore X0.here hx rfl (hb hby at_132) rfl rfl k) ?_
          refine own_gs 197 [] (fun t' k => XS.goto X0.here hx rfl (pc0 := 134) (pc' := 197) rfl (hb hby at_134) (by decide) (by decide) k) ?_
          refine own_gs 198 [(.int (2 : Int32))] (fun t' k => XS.iconst X0.here hx rfl (hb hby at_197) k) ?_
          refine X0.newP hx hZ (hw _ (List.mem_of_getElem? (i := 2) rfl)) e0 2 (by decide) (hb hby at_198) 2 (by decide) (by decide) (by decide) (by decide) ?_
          intro T6 h6 b6 X6 e6 q6 xt6 A_b6
          have g_b6 : h0.size ≤ b6 := by rw [q6]; exact hn
          replace hn := Nat.le_trans hn xt6.1
          replace A_b6 : own_A Z h6 .long b6 [(.long (0 : Int64)), (.long (0 : Int64))] := A_b6
          refine own_gs 201 [(.ref b6), (.ref b6)] (fun t' k => XS.dup X6.here hx rfl (hb hby at_200) rfl rfl k) ?_
          refine own_gs 202 [(.int (0 : Int32)), (.ref b6), (.ref b6)] (fun t' k => XS.iconst X6.here hx rfl (hb hby at_201) k) ?_
          refine own_gs 204 [(.long (Int64.ofInt (A))), (.int (0 : Int32)), (.ref b6), (.ref b6)] (fun t' k => XS.lload X6.here hx rfl (hb hby at_202) rfl  k) ?_
          refine X6.stJ hx hZ e6 A_b6 g_b6 0 (by decide) (Nat.le_of_ble_eq_true rfl) (hb hby at_204) ?_
          intro T7 h7 X7 e7 W7 A7
          replace A_b6 : own_A Z h7 .long b6 [(.long (Int64.ofInt (A))), (.long (0 : Int64))] := A7
          clear A7
          replace hn := Nat.le_trans hn (Keep.of_wr W7).1
          refine own_gs 206 [(.ref b6), (.ref b6)] (fun t' k => XS.dup X7.here hx rfl (hb hby at_205) rfl rfl k) ?_
          refine own_gs 207 [(.int (1 : Int32)), (.ref b6), (.ref b6)] (fun t' k => XS.iconst X7.here hx rfl (hb hby at_206) k) ?_
          refine own_gs 209 [(.long (Int64.ofInt (Bb))), (.int (1 : Int32)), (.ref b6), (.ref b6)] (fun t' k => XS.lload X7.here hx rfl (hb hby at_207) rfl  k) ?_
          refine X7.stJ hx hZ e7 A_b6 g_b6 1 (by decide) (Nat.le_of_ble_eq_true rfl) (hb hby at_209) ?_
          intro T8 h8 X8 e8 W8 A8
          replace A_b6 : own_A Z h8 .long b6 [(.long (Int64.ofInt (A))), (.long (Int64.ofInt (Bb)))] := A8
          clear A8
          replace hn := Nat.le_trans hn (Keep.of_wr W8).1
          refine own_go (mkF m 212 #[iv x0, iv x1, jv x2, .second, jv x3, .second, jv x4, .second, iv (x0 &&& (3 : Int32)), jv (Int64.ofInt (A)), .second, jv (Int64.ofInt (Bb)), .second, jv ov, .second, jv (Int64.ofInt (A + Bb)), .second, iv cv, jv xv, .second, iv cv, rv b6, .unset, .unset, .unset] []) (fun t' k => XS.astore X8.here hx rfl (hb hby at_210) rfl rfl rfl k) ?_
          refine X8.newO hx hZ hown (hw _ (List.mem_of_getElem? (i := 3) rfl)) (hw _ (List.mem_of_getElem? (i := 4) rfl)) (hw _ (List.mem_of_getElem? (i := 5) rfl)) e8 (hb hby at_212) (by decide) (by decide) ?_
          intro T9 h9 b9 X9 e9 q9 xt9 E_b9 D9
          have g_b9 : h0.size ≤ b9 := by rw [q9]; exact hn
          have lt_b6_b9 : b6 < b9 := by rw [q9]; exact A_b6.lt
          replace A_b6 := A_b6.ext xt9
          replace hn := Nat.le_trans hn xt9.1
          have F_b9_shift : Fld Z h9 b9 "com/example/load_across_peers/loadacrosspeers/internal/pick/AliasTable" "shift" "I" (.int (0 : Int32)) := D9 (Or.inr (hw _ (List.mem_of_getElem? (i := 18) rfl))) (ty := .int) (by decide)
          have F_b9_total : Fld Z h9 b9 "com/example/load_across_peers/loadacrosspeers/internal/pick/AliasTable" "total" "J" (.long (0 : Int64)) := D9 (Or.inr (hw _ (List.mem_of_getElem? (i := 20) rfl))) (ty := .long) (by decide)
          have F_b9_packed : Fld Z h9 b9 "com/example/load_across_peers/loadacrosspeers/internal/pick/AliasTable" "packed" "[J" .null := D9 (Or.inr (hw _ (List.mem_of_getElem? (i := 23) rfl))) (ty := (.array .long)) (by decide)
          have F_b9_thresholds : Fld Z h9 b9 "com/example/load_across_peers/loadacrosspeers/internal/pick/AliasTable" "thresholds" "[J" .null := D9 (Or.inr (hw _ (List.mem_of_getElem? (i := 25) rfl))) (ty := (.array .long)) (by decide)
          have F_b9_aliases : Fld Z h9 b9 "com/example/load_across_peers/loadacrosspeers/internal/pick/AliasTable" "aliases" "[I" .null := D9 (Or.inr (hw _ (List.mem_of_getElem? (i := 27) rfl))) (ty := (.array .int)) (by decide)
          refine own_gs 216 [(.ref b9), (.ref b9)] (fun t' k => XS.dup X9.here hx rfl (hb hby at_215) rfl rfl k) ?_
          refine own_gs 218 [(.ref b6), (.ref b9), (.ref b9)] (fun t' k => XS.aload X9.here hx rfl (hb hby at_216) rfl rfl  k) ?_
          refine X9.callI hx hZ (y := (⟨"com/example/load_across_peers/loadacrosspeers/internal/pick/AliasTable", "<init>", "([J)V"⟩ : MethodName)) rfl hown (hw _ (List.mem_of_getElem? (i := 6) rfl)) (hw _ (List.mem_of_getElem? (i := 7) rfl)) (hw _ (List.mem_of_getElem? (i := 5) rfl)) (hw _ (List.mem_of_getElem? (i := 8) rfl)) (by decide) e9 b9 [(.ref b6)] [(.ref b9)] (own_rmI2e l Z a0 hw [] h9 h0.size hn b9 b6 g_b9 (Ne.symm (Nat.ne_of_lt lt_b6_b9)) A Bb hA0 hA2 hB0' hB2' (own_eqI (by omega) (by omega) hc127) E_b9 A_b6 F_b9_shift F_b9_total F_b9_packed F_b9_thresholds F_b9_aliases) 1 (by decide) (by decide) (Nat.le_of_eq rfl) (by decide) (by decide) (by rw [hml]; rfl) (lenOf own_pd1 rfl) rfl (hb hby at_218) ?_
          rintro T10 _ X10 ⟨rfl, hn10, E_t, HT⟩
          replace hn := hn10
          show own_G p e below s _ _ _ T10 (mkF m 221 #[iv x0, iv x1, jv x2, .second, jv x3, .second, jv x4, .second, iv (x0 &&& (3 : Int32)), jv (Int64.ofInt (A)), .second, jv (Int64.ofInt (Bb)), .second, jv ov, .second, jv (Int64.ofInt (A + Bb)), .second, iv cv, jv xv, .second, iv cv, rv b6, .unset, .unset, .unset] [(.ref b9)])
          refine own_go (mkF m 223 #[iv x0, iv x1, jv x2, .second, jv x3, .second, jv x4, .second, iv (x0 &&& (3 : Int32)), jv (Int64.ofInt (A)), .second, jv (Int64.ofInt (Bb)), .second, jv ov, .second, jv (Int64.ofInt (A + Bb)), .second, iv cv, jv xv, .second, iv cv, rv b6, rv b9, .unset, .unset] []) (fun t' k => XS.astore X10.here hx rfl (hb hby at_221) rfl rfl rfl k) ?_
          refine own_gs 225 [(.ref b9)] (fun t' k => XS.aload X10.here hx rfl (hb hby at_223) rfl rfl  k) ?_
          refine own_gs 227 [(.int cv), (.ref b9)] (fun t' k => XS.iload X10.here hx rfl (hb hby at_225) rfl  k) ?_
          refine own_gs 229 [(.long xv), (.int cv), (.ref b9)] (fun t' k => XS.lload X10.here hx rfl (hb hby at_227) rfl  k) ?_
          obtain ⟨bb, HF, HA⟩ := HT
          rcases (by omega : ci = 0 ∨ ci = 1) with rfl | rfl
          · skip
            have hcv : cv = (0 : Int32) := Int32.toInt_inj.mp hci
            refine X10.callV hx hZ (y := (⟨"com/example/load_across_peers/loadacrosspeers/internal/pick/AliasTable", "owner", "(IJ)I"⟩ : MethodName)) (C := "com/example/load_across_peers/loadacrosspeers/internal/pick/AliasTable") hown (hw _ (List.mem_of_getElem? (i := 28) rfl)) (hw _ (List.mem_of_getElem? (i := 29) rfl)) (hw _ (List.mem_of_getElem? (i := 31) rfl)) (hw _ (List.mem_of_getElem? (i := 30) rfl)) (hw _ (List.mem_of_getElem? (i := 5) rfl)) (hw _ (List.mem_of_getElem? (i := 32) rfl)) (by decide) rfl E_t [(.int cv), (.long xv)] [] (own_rmOA l Z a0 hw [] T10.heap h0.size hn b9 bb cv xv (own_pw (0 : Int64) (0 : Int64)) 0 hci _ rfl HF HA) 0 (by decide) (by decide) (Nat.le_of_eq rfl) (by decide) (by decide) (by rw [hml]; rfl) (lenOf own_pd2 rfl) rfl (hb hby at_229) ?_
            rintro T11 _ X11 ⟨rfl, e11⟩
            show own_G p e below s _ _ _ T11 (mkF m 232 #[iv x0, iv x1, jv x2, .second, jv x3, .second, jv x4, .second, iv (x0 &&& (3 : Int32)), jv (Int64.ofInt (A)), .second, jv (Int64.ofInt (Bb)), .second, jv ov, .second, jv (Int64.ofInt (A + Bb)), .second, iv cv, jv xv, .second, iv cv, rv b6, rv b9, .unset, .unset] [(.int (own_ownA cv xv (own_pw (0 : Int64) (0 : Int64))))])
            refine own_gs 234 [(.int cv), (.int (own_ownA cv xv (own_pw (0 : Int64) (0 : Int64))))] (fun t' k => XS.iload X11.here hx rfl (hb hby at_232) rfl  k) ?_
            refine own_gs 237 [] (fun t' k => XS.icmpNo X11.here hx rfl (hb hby at_234) rfl (teq ((own_AA (al := (0 : Int32)) hx0 (by omega) (by decide) (by decide) (by decide) (by decide)).trans (by rw [hcv]; split <;> rfl))).2 k) ?_
            refine own_gs 238 [(.int (1 : Int32))] (fun t' k => XS.iconst X11.here hx rfl (hb hby at_237) k) ?_
            refine own_gs 242 [(.int (1 : Int32))] (fun t' k => XS.goto X11.here hx rfl (pc0 := 238) (pc' := 242) rfl (hb hby at_238) (by decide) (by decide) k) ?_
            refine X11.retZ hx hlk hret (hb hby at_242) ?_ (by decide) (by decide)
            exact rfl
          · skip
            have hcv : cv = (1 : Int32) := Int32.toInt_inj.mp hci
            refine X10.callV hx hZ (y := (⟨"com/example/load_across_peers/loadacrosspeers/internal/pick/AliasTable", "owner", "(IJ)I"⟩ : MethodName)) (C := "com/example/load_across_peers/loadacrosspeers/internal/pick/AliasTable") hown (hw _ (List.mem_of_getElem? (i := 28) rfl)) (hw _ (List.mem_of_getElem? (i := 29) rfl)) (hw _ (List.mem_of_getElem? (i := 31) rfl)) (hw _ (List.mem_of_getElem? (i := 30) rfl)) (hw _ (List.mem_of_getElem? (i := 5) rfl)) (hw _ (List.mem_of_getElem? (i := 32) rfl)) (by decide) rfl E_t [(.int cv), (.long xv)] [] (own_rmOA l Z a0 hw [] T10.heap h0.size hn b9 bb cv xv (own_pw (0 : Int64) (1 : Int64)) 1 hci _ rfl HF HA) 0 (by decide) (by decide) (Nat.le_of_eq rfl) (by decide) (by decide) (by rw [hml]; rfl) (lenOf own_pd2 rfl) rfl (hb hby at_229) ?_
            rintro T12 _ X12 ⟨rfl, e12⟩
            show own_G p e below s _ _ _ T12 (mkF m 232 #[iv x0, iv x1, jv x2, .second, jv x3, .second, jv x4, .second, iv (x0 &&& (3 : Int32)), jv (Int64.ofInt (A)), .second, jv (Int64.ofInt (Bb)), .second, jv ov, .second, jv (Int64.ofInt (A + Bb)), .second, iv cv, jv xv, .second, iv cv, rv b6, rv b9, .unset, .unset] [(.int (own_ownA cv xv (own_pw (0 : Int64) (1 : Int64))))])
            refine own_gs 234 [(.int cv), (.int (own_ownA cv xv (own_pw (0 : Int64) (1 : Int64))))] (fun t' k => XS.iload X12.here hx rfl (hb hby at_232) rfl  k) ?_
            refine own_gs 237 [] (fun t' k => XS.icmpNo X12.here hx rfl (hb hby at_234) rfl (teq ((own_AA (al := (1 : Int32)) hx0 (by omega) (by decide) (by decide) (by decide) (by decide)).trans (by rw [hcv]; split <;> rfl))).2 k) ?_
            refine own_gs 238 [(.int (1 : Int32))] (fun t' k => XS.iconst X12.here hx rfl (hb hby at_237) k) ?_
            refine own_gs 242 [(.int (1 : Int32))] (fun t' k => XS.goto X12.here hx rfl (pc0 := 238) (pc' := 242) rfl (hb hby at_238) (by decide) (by decide) k) ?_
            refine X12.retZ hx hlk hret (hb hby at_242) ?_ (by decide) (by decide)
            exact rfl
        · skip
          refine own_gs 137 [] (fun t' k => XS.ifYes X0.here hx rfl (pc0 := 127) (pc' := 137) rfl (hb hby at_127) rfl ((if0 _ _).trans (feq (fun q => hc127 ((lw_eq (Int64.ofInt (A)) (Int64.ofInt (Bb))).mp q))).2) (by decide) (by decide) k) ?_
          refine own_gs 139 [(.long (Int64.ofInt (A)))] (fun t' k => XS.lload X0.here hx rfl (hb hby at_137) rfl  k) ?_
          refine own_gs 141 [(.long (Int64.ofInt (Bb))), (.long (Int64.ofInt (A)))] (fun t' k => XS.lload X0.here hx rfl (hb hby at_139) rfl  k) ?_
          refine own_gs 142 [(.int (lcmpW (Int64.ofInt (A)) (Int64.ofInt (Bb))))] (fun t' k => XS.lcmp X0.here hx rfl (hb hby at_141) rfl k) ?_
          by_cases hc142 : (Int64.ofInt (A)) < (Int64.ofInt (Bb))
          · skip
            refine own_gs 145 [] (fun t' k => XS.ifNo X0.here hx rfl (hb hby at_142) rfl ((if0 _ _).trans (tlt ((lw_lt (Int64.ofInt (A)) (Int64.ofInt (Bb))).mpr hc142)).2.1) k) ?_
            have JE : ∀ (ex : Int32), (ex = (own_e2l cv xv A Bb)) → own_G p e below s (own_Q h0.size (fun v h => v = some (.int 1))) room_1.cells room_1.slots s₁ (mkF m 197 #[iv x0, iv x1, jv x2, .second, jv x3, .second, jv x4, .second, iv (x0 &&& (3 : Int32)), jv (Int64.ofInt (A)), .second, jv (Int64.ofInt (Bb)), .second, jv ov, .second, jv (Int64.ofInt (A + Bb)), .second, iv cv, jv xv, .second, iv ex, .unset, .unset, .unset, .unset] []) := by
              intro ex hJE
              refine own_gs 198 [(.int (2 : Int32))] (fun t' k => XS.iconst X0.here hx rfl (hb hby at_197) k) ?_
              refine X0.newP hx hZ (hw _ (List.mem_of_getElem? (i := 2) rfl)) e0 2 (by decide) (hb hby at_198) 2 (by decide) (by decide) (by decide) (by decide) ?_
              intro T13 h13 b13 X13 e13 q13 xt13 A_b13
              have g_b13 : h0.size ≤ b13 := by rw [q13]; exact hn
              replace hn := Nat.le_trans hn xt13.1
              replace A_b13 : own_A Z h13 .long b13 [(.long (0 : Int64)), (.long (0 : Int64))] := A_b13
              refine own_gs 201 [(.ref b13), (.ref b13)] (fun t' k => XS.dup X13.here hx rfl (hb hby at_200) rfl rfl k) ?_
              refine own_gs 202 [(.int (0 : Int32)), (.ref b13), (.ref b13)] (fun t' k => XS.iconst X13.here hx rfl (hb hby at_201) k) ?_
              refine own_gs 204 [(.long (Int64.ofInt (A))), (.int (0 : Int32)), (.ref b13), (.ref b13)] (fun t' k => XS.lload X13.here hx rfl (hb hby at_202) rfl  k) ?_
              refine X13.stJ hx hZ e13 A_b13 g_b13 0 (by decide) (Nat.le_of_ble_eq_true rfl) (hb hby at_204) ?_
              intro T14 h14 X14 e14 W14 A14
              replace A_b13 : own_A Z h14 .long b13 [(.long (Int64.ofInt (A))), (.long (0 : Int64))] := A14
              clear A14
              replace hn := Nat.le_trans hn (Keep.of_wr W14).1
              refine own_gs 206 [(.ref b13), (.ref b13)] (fun t' k => XS.dup X14.here hx rfl (hb hby at_205) rfl rfl k) ?_
              refine own_gs 207 [(.int (1 : Int32)), (.ref b13), (.ref b13)] (fun t' k => XS.iconst X14.here hx rfl (hb hby at_206) k) ?_
              refine own_gs 209 [(.long (Int64.ofInt (Bb))), (.int (1 : Int32)), (.ref b13), (.ref b13)] (fun t' k => XS.lload X14.here hx rfl (hb hby at_207) rfl  k) ?_
              refine X14.stJ hx hZ e14 A_b13 g_b13 1 (by decide) (Nat.le_of_ble_eq_true rfl) (hb hby at_209) ?_
              intro T15 h15 X15 e15 W15 A15
              replace A_b13 : own_A Z h15 .long b13 [(.long (Int64.ofInt (A))), (.long (Int64.ofInt (Bb)))] := A15
              clear A15
              replace hn := Nat.le_trans hn (Keep.of_wr W15).1
              refine own_go (mkF m 212 #[iv x0, iv x1, jv x2, .second, jv x3, .second, jv x4, .second, iv (x0 &&& (3 : Int32)), jv (Int64.ofInt (A)), .second, jv (Int64.ofInt (Bb)), .second, jv ov, .second, jv (Int64.ofInt (A + Bb)), .second, iv cv, jv xv, .second, iv ex, rv b13, .unset, .unset, .unset] []) (fun t' k => XS.astore X15.here hx rfl (hb hby at_210) rfl rfl rfl k) ?_
              refine X15.newO hx hZ hown (hw _ (List.mem_of_getElem? (i := 3) rfl)) (hw _ (List.mem_of_getElem? (i := 4) rfl)) (hw _ (List.mem_of_getElem? (i := 5) rfl)) e15 (hb hby at_212) (by decide) (by decide) ?_
              intro T16 h16 b16 X16 e16 q16 xt16 E_b16 D16
              have g_b16 : h0.size ≤ b16 := by rw [q16]; exact hn
              have lt_b13_b16 : b13 < b16 := by rw [q16]; exact A_b13.lt
              replace A_b13 := A_b13.ext xt16
              replace hn := Nat.le_trans hn xt16.1
              have F_b16_shift : Fld Z h16 b16 "com/example/load_across_peers/loadacrosspeers/internal/pick/AliasTable" "shift" "I" (.int (0 : Int32)) := D16 (Or.inr (hw _ (List.mem_of_getElem? (i := 18) rfl))) (ty := .int) (by decide)
              have F_b16_total : Fld Z h16 b16 "com/example/load_across_peers/loadacrosspeers/internal/pick/AliasTable" "total" "J" (.long (0 : Int64)) := D16 (Or.inr (hw _ (List.mem_of_getElem? (i := 20) rfl))) (ty := .long) (by decide)
              have F_b16_packed : Fld Z h16 b16 "com/example/load_across_peers/loadacrosspeers/internal/pick/AliasTable" "packed" "[J" .null := D16 (Or.inr (hw _ (List.mem_of_getElem? (i := 23) rfl))) (ty := (.array .long)) (by decide)
              have F_b16_thresholds : Fld Z h16 b16 "com/example/load_across_peers/loadacrosspeers/internal/pick/AliasTable" "thresholds" "[J" .null := D16 (Or.inr (hw _ (List.mem_of_getElem? (i := 25) rfl))) (ty := (.array .long)) (by decide)
              have F_b16_aliases : Fld Z h16 b16 "com/example/load_across_peers/loadacrosspeers/internal/pick/AliasTable" "aliases" "[I" .null := D16 (Or.inr (hw _ (List.mem_of_getElem? (i := 27) rfl))) (ty := (.array .int)) (by decide)
              refine own_gs 216 [(.ref b16), (.ref b16)] (fun t' k => XS.dup X16.here hx rfl (hb hby at_215) rfl rfl k) ?_
              refine own_gs 218 [(.ref b13), (.ref b16), (.ref b16)] (fun t' k => XS.aload X16.here hx rfl (hb hby at_216) rfl rfl  k) ?_
              refine X16.callI hx hZ (y := (⟨"com/example/load_across_peers/loadacrosspeers/internal/pick/AliasTable", "<init>", "([J)V"⟩ : MethodName)) rfl hown (hw _ (List.mem_of_getElem? (i := 6) rfl)) (hw _ (List.mem_of_getElem? (i := 7) rfl)) (hw _ (List.mem_of_getElem? (i := 5) rfl)) (hw _ (List.mem_of_getElem? (i := 8) rfl)) (by decide) e16 b16 [(.ref b13)] [(.ref b16)] (own_rmI2l l Z a0 hw [] h16 h0.size hn b16 b13 g_b16 (Ne.symm (Nat.ne_of_lt lt_b13_b16)) A Bb hA0 hA2 hB0' hB2' ((own_ltI (by omega) (by omega)).mp hc142) E_b16 A_b13 F_b16_shift F_b16_total F_b16_packed F_b16_thresholds F_b16_aliases) 1 (by decide) (by decide) (Nat.le_of_eq rfl) (by decide) (by decide) (by rw [hml]; rfl) (lenOf own_pd1 rfl) rfl (hb hby at_218) ?_
              rintro T17 _ X17 ⟨rfl, hn17, E_t, HT⟩
              replace hn := hn17
              show own_G p e below s _ _ _ T17 (mkF m 221 #[iv x0, iv x1, jv x2, .second, jv x3, .second, jv x4, .second, iv (x0 &&& (3 : Int32)), jv (Int64.ofInt (A)), .second, jv (Int64.ofInt (Bb)), .second, jv ov, .second, jv (Int64.ofInt (A + Bb)), .second, iv cv, jv xv, .second, iv ex, rv b13, .unset, .unset, .unset] [(.ref b16)])
              refine own_go (mkF m 223 #[iv x0, iv x1, jv x2, .second, jv x3, .second, jv x4, .second, iv (x0 &&& (3 : Int32)), jv (Int64.ofInt (A)), .second, jv (Int64.ofInt (Bb)), .second, jv ov, .second, jv (Int64.ofInt (A + Bb)), .second, iv cv, jv xv, .second, iv ex, rv b13, rv b16, .unset, .unset] []) (fun t' k => XS.astore X17.here hx rfl (hb hby at_221) rfl rfl rfl k) ?_
              refine own_gs 225 [(.ref b16)] (fun t' k => XS.aload X17.here hx rfl (hb hby at_223) rfl rfl  k) ?_
              refine own_gs 227 [(.int cv), (.ref b16)] (fun t' k => XS.iload X17.here hx rfl (hb hby at_225) rfl  k) ?_
              refine own_gs 229 [(.long xv), (.int cv), (.ref b16)] (fun t' k => XS.lload X17.here hx rfl (hb hby at_227) rfl  k) ?_
              obtain ⟨bb, HF, HA⟩ := HT
              rcases (by omega : ci = 0 ∨ ci = 1) with rfl | rfl
              · skip
                have hcv : cv = (0 : Int32) := Int32.toInt_inj.mp hci
                refine X17.callV hx hZ (y := (⟨"com/example/load_across_peers/loadacrosspeers/internal/pick/AliasTable", "owner", "(IJ)I"⟩ : MethodName)) (C := "com/example/load_across_peers/loadacrosspeers/internal/pick/AliasTable") hown (hw _ (List.mem_of_getElem? (i := 28) rfl)) (hw _ (List.mem_of_getElem? (i := 29) rfl)) (hw _ (List.mem_of_getElem? (i := 31) rfl)) (hw _ (List.mem_of_getElem? (i := 30) rfl)) (hw _ (List.mem_of_getElem? (i := 5) rfl)) (hw _ (List.mem_of_getElem? (i := 32) rfl)) (by decide) rfl E_t [(.int cv), (.long xv)] [] (own_rmOA l Z a0 hw [] T17.heap h0.size hn b16 bb cv xv (own_pw (Int64.ofInt (2 * A)) (1 : Int64)) 0 hci _ rfl HF HA) 0 (by decide) (by decide) (Nat.le_of_eq rfl) (by decide) (by decide) (by rw [hml]; rfl) (lenOf own_pd2 rfl) rfl (hb hby at_229) ?_
                rintro T18 _ X18 ⟨rfl, e18⟩
                show own_G p e below s _ _ _ T18 (mkF m 232 #[iv x0, iv x1, jv x2, .second, jv x3, .second, jv x4, .second, iv (x0 &&& (3 : Int32)), jv (Int64.ofInt (A)), .second, jv (Int64.ofInt (Bb)), .second, jv ov, .second, jv (Int64.ofInt (A + Bb)), .second, iv cv, jv xv, .second, iv ex, rv b13, rv b16, .unset, .unset] [(.int (own_ownA cv xv (own_pw (Int64.ofInt (2 * A)) (1 : Int64))))])
                refine own_gs 234 [(.int ex), (.int (own_ownA cv xv (own_pw (Int64.ofInt (2 * A)) (1 : Int64))))] (fun t' k => XS.iload X18.here hx rfl (hb hby at_232) rfl  k) ?_
                refine own_gs 237 [] (fun t' k => XS.icmpNo X18.here hx rfl (hb hby at_234) rfl (teq ((own_AA (al := (1 : Int32)) hx0 (by omega) (by rw [own_oI (by omega)]; omega) (by rw [own_oI (by omega)]; omega) (by decide) (by decide)).trans (by rw [hJE]; subst hcv; unfold own_e2l; first | rfl | (simp; done) | (split <;> split <;> first | rfl | contradiction)))).2 k) ?_
                refine own_gs 238 [(.int (1 : Int32))] (fun t' k => XS.iconst X18.here hx rfl (hb hby at_237) k) ?_
                refine own_gs 242 [(.int (1 : Int32))] (fun t' k => XS.goto X18.here hx rfl (pc0 := 238) (pc' := 242) rfl (hb hby at_238) (by decide) (by decide) k) ?_
                refine X18.retZ hx hlk hret (hb hby at_242) ?_ (by decide) (by decide)
                exact rfl
              · skip
                have hcv : cv = (1 : Int32) := Int32.toInt_inj.mp hci
                refine X17.callV hx hZ (y := (⟨"com/example/load_across_peers/loadacrosspeers/internal/pick/AliasTable", "owner", "(IJ)I"⟩ : MethodName)) (C := "com/example/load_across_peers/loadacrosspeers/internal/pick/AliasTable") hown (hw _ (List.mem_of_getElem? (i := 28) rfl)) (hw _ (List.mem_of_getElem? (i := 29) rfl)) (hw _ (List.mem_of_getElem? (i := 31) rfl)) (hw _ (List.mem_of_getElem? (i := 30) rfl)) (hw _ (List.mem_of_getElem? (i := 5) rfl)) (hw _ (List.mem_of_getElem? (i := 32) rfl)) (by decide) rfl E_t [(.int cv), (.long xv)] [] (own_rmOA l Z a0 hw [] T17.heap h0.size hn b16 bb cv xv (own_pw (0 : Int64) (1 : Int64)) 1 hci _ rfl HF HA) 0 (by decide) (by decide) (Nat.le_of_eq rfl) (by decide) (by decide) (by rw [hml]; rfl) (lenOf own_pd2 rfl) rfl (hb hby at_229) ?_
                rintro T19 _ X19 ⟨rfl, e19⟩
                show own_G p e below s _ _ _ T19 (mkF m 232 #[iv x0, iv x1, jv x2, .second, jv x3, .second, jv x4, .second, iv (x0 &&& (3 : Int32)), jv (Int64.ofInt (A)), .second, jv (Int64.ofInt (Bb)), .second, jv ov, .second, jv (Int64.ofInt (A + Bb)), .second, iv cv, jv xv, .second, iv ex, rv b13, rv b16, .unset, .unset] [(.int (own_ownA cv xv (own_pw (0 : Int64) (1 : Int64))))])
                refine own_gs 234 [(.int ex), (.int (own_ownA cv xv (own_pw (0 : Int64) (1 : Int64))))] (fun t' k => XS.iload X19.here hx rfl (hb hby at_232) rfl  k) ?_
                refine own_gs 237 [] (fun t' k => XS.icmpNo X19.here hx rfl (hb hby at_234) rfl (teq ((own_AA (al := (1 : Int32)) hx0 (by omega) (by decide) (by decide) (by decide) (by decide)).trans (by rw [hJE]; subst hcv; unfold own_e2l; first | rfl | (simp; done) | (split <;> split <;> first | rfl | contradiction)))).2 k) ?_
                refine own_gs 238 [(.int (1 : Int32))] (fun t' k => XS.iconst X19.here hx rfl (hb hby at_237) k) ?_
                refine own_gs 242 [(.int (1 : Int32))] (fun t' k => XS.goto X19.here hx rfl (pc0 := 238) (pc' := 242) rfl (hb hby at_238) (by decide) (by decide) k) ?_
                refine X19.retZ hx hlk hret (hb hby at_242) ?_ (by decide) (by decide)
                exact rfl
            refine own_gs 147 [(.int cv)] (fun t' k => XS.iload X0.here hx rfl (hb hby at_145) rfl  k) ?_
            by_cases hc147 : cv = (0 : Int32)
            · skip
              refine own_gs 150 [] (fun t' k => XS.ifNo X0.here hx rfl (hb hby at_147) rfl ((if0 _ _).trans (teq hc147).2) k) ?_
              refine own_gs 152 [(.long xv)] (fun t' k => XS.lload X0.here hx rfl (hb hby at_150) rfl  k) ?_
              refine own_gs 155 [(.long (2 : Int64)), (.long xv)] (fun t' k => X0.ldc2Long hx hown (mvT hZ (hw _ (List.mem_of_getElem? (i := 35) rfl))) (g := (mkF m 152 #[iv x0, iv x1, jv x2, .second, jv x3, .second, jv x4, .second, iv (x0 &&& (3 : Int32)), jv (Int64.ofInt (A)), .second, jv (Int64.ofInt (Bb)), .second, jv ov, .second, jv (Int64.ofInt (A + Bb)), .second, iv cv, jv xv, .second, .unset, .unset, .unset, .unset, .unset] [(.long xv)])) rfl (hb hby at_152) _ k) ?_
              refine own_gs 157 [(.long (Int64.ofInt (A))), (.long (2 : Int64)), (.long xv)] (fun t' k => XS.lload X0.here hx rfl (hb hby at_155) rfl  k) ?_
              refine own_gs 158 [(.long ((2 : Int64) * (Int64.ofInt (A)))), (.long xv)] (fun t' k => XS.lmul X0.here hx rfl (hb hby at_157) rfl k) ?_
              rw [own_omul (z := 2 * A) (show (2 : Int64) = Int64.ofInt (2) from rfl) (show (Int64.ofInt (A)) = (Int64.ofInt (A)) from rfl) (by omega)]
              refine own_gs 159 [(.int (lcmpW xv (Int64.ofInt (2 * A))))] (fun t' k => XS.lcmp X0.here hx rfl (hb hby at_158) rfl k) ?_
              by_cases hc159 : xv < (Int64.ofInt (2 * A))
              · skip
                refine own_gs 162 [] (fun t' k => XS.ifNo X0.here hx rfl (hb hby at_159) rfl ((if0 _ _).trans (tlt ((lw_lt xv (Int64.ofInt (2 * A))).mpr hc159)).2.1) k) ?_
                refine own_gs 163 [(.int (0 : Int32))] (fun t' k => XS.iconst X0.here hx rfl (hb hby at_162) k) ?_
                refine own_gs 167 [(.int (0 : Int32))] (fun t' k => XS.goto X0.here hx rfl (pc0 := 163) (pc' := 167) rfl (hb hby at_163) (by decide) (by decide) k) ?_
                refine own_go (mkF m 169 #[iv x0, iv x1, jv x2, .second, jv x3, .second, jv x4, .second, iv (x0 &&& (3 : Int32)), jv (Int64.ofInt (A)), .second, jv (Int64.ofInt (Bb)), .second, jv ov, .second, jv (Int64.ofInt (A + Bb)), .second, iv cv, jv xv, .second, iv (0 : Int32), .unset, .unset, .unset, .unset] []) (fun t' k => XS.istore X0.here hx rfl (hb hby at_167) rfl rfl k) ?_
                refine own_gs 197 [] (fun t' k => XS.goto X0.here hx rfl (pc0 := 169) (pc' := 197) rfl (hb hby at_169) (by decide) (by decide) k) ?_
                exact JE ((0 : Int32)) (show (0 : Int32) = (own_e2l cv xv A Bb) from (show (own_e2l cv xv A Bb) = (0 : Int32) from ((if_pos hc147).trans ((if_pos hc159).trans rfl))).symm)
              · skip
                refine own_gs 166 [] (fun t' k => XS.ifYes X0.here hx rfl (pc0 := 159) (pc' := 166) rfl (hb hby at_159) rfl ((if0 _ _).trans (flt (fun q => hc159 ((lw_lt xv (Int64.ofInt (2 * A))).mp q))).2.1) (by decide) (by decide) k) ?_
                refine own_gs 167 [(.int (1 : Int32))] (fun t' k => XS.iconst X0.here hx rfl (hb hby at_166) k) ?_
                refine own_go (mkF m 169 #[iv x0, iv x1, jv x2, .second, jv x3, .second, jv x4, .second, iv (x0 &&& (3 : Int32)), jv (Int64.ofInt (A)), .second, jv (Int64.ofInt (Bb)), .second, jv ov, .second, jv (Int64.ofInt (A + Bb)), .second, iv cv, jv xv, .second, iv (1 : Int32), .unset, .unset, .unset, .unset] []) (fun t' k => XS.istore X0.here hx rfl (hb hby at_167) rfl rfl k) ?_
                refine own_gs 197 [] (fun t' k => XS.goto X0.here hx rfl (pc0 := 169) (pc' := 197) rfl (hb hby at_169) (by decide) (by decide) k) ?_
                exact JE ((1 : Int32)) (show (1 : Int32) = (own_e2l cv xv A Bb) from (show (own_e2l cv xv A Bb) = (1 : Int32) from ((if_pos hc147).trans ((if_neg hc159).trans rfl))).symm)
            · skip
              refine own_gs 166 [] (fun t' k => XS.ifYes X0.here hx rfl (pc0 := 147) (pc' := 166) rfl (hb hby at_147) rfl ((if0 _ _).trans (feq hc147).2) (by decide) (by decide) k) ?_
              refine own_gs 167 [(.int (1 : Int32))] (fun t' k => XS.iconst X0.here hx rfl (hb hby at_166) k) ?_
              refine own_go (mkF m 169 #[iv x0, iv x1, jv x2, .second, jv x3, .second, jv x4, .second, iv (x0 &&& (3 : Int32)), jv (Int64.ofInt (A)), .second, jv (Int64.ofInt (Bb)), .second, jv ov, .second, jv (Int64.ofInt (A + Bb)), .second, iv cv, jv xv, .second, iv (1 : Int32), .unset, .unset, .unset, .unset] []) (fun t' k => XS.istore X0.here hx rfl (hb hby at_167) rfl rfl k) ?_
              refine own_gs 197 [] (fun t' k => XS.goto X0.here hx rfl (pc0 := 169) (pc' := 197) rfl (hb hby at_169) (by decide) (by decide) k) ?_
              exact JE ((1 : Int32)) (show (1 : Int32) = (own_e2l cv xv A Bb) from (show (own_e2l cv xv A Bb) = (1 : Int32) from ((if_neg hc147).trans rfl)).symm)
          · skip
            refine own_gs 172 [] (fun t' k => XS.ifYes X0.here hx rfl (pc0 := 142) (pc' := 172) rfl (hb hby at_142) rfl ((if0 _ _).trans (flt (fun q => hc142 ((lw_lt (Int64.ofInt (A)) (Int64.ofInt (Bb))).mp q))).2.1) (by decide) (by decide) k) ?_
            have JE : ∀ (ex : Int32), (ex = (own_e2g cv xv A Bb)) → own_G p e below s (own_Q h0.size (fun v h => v = some (.int 1))) room_1.cells room_1.slots s₁ (mkF m 197 #[iv x0, iv x1, jv x2, .second, jv x3, .second, jv x4, .second, iv (x0 &&& (3 : Int32)), jv (Int64.ofInt (A)), .second, jv (Int64.ofInt (Bb)), .second, jv ov, .second, jv (Int64.ofInt (A + Bb)), .second, iv cv, jv xv, .second, iv ex, .unset, .unset, .unset, .unset] []) := by
              intro ex hJE
              refine own_gs 198 [(.int (2 : Int32))] (fun t' k => XS.iconst X0.here hx rfl (hb hby at_197) k) ?_
              refine X0.newP hx hZ (hw _ (List.mem_of_getElem? (i := 2) rfl)) e0 2 (by decide) (hb hby at_198) 2 (by decide) (by decide) (by decide) (by decide) ?_
              intro T20 h20 b20 X20 e20 q20 xt20 A_b20
              have g_b20 : h0.size ≤ b20 := by rw [q20]; exact hn
              replace hn := Nat.le_trans hn xt20.1
              replace A_b20 : own_A Z h20 .long b20 [(.long (0 : Int64)), (.long (0 : Int64))] := A_b20
              refine own_gs 201 [(.ref b20), (.ref b20)] (fun t' k => XS.dup X20.here hx rfl (hb hby at_200) rfl rfl k) ?_
              refine own_gs 202 [(.int (0 : Int32)), (.ref b20), (.ref b20)] (fun t' k => XS.iconst X20.here hx rfl (hb hby at_201) k) ?_
              refine own_gs 204 [(.long (Int64.ofInt (A))), (.int (0 : Int32)), (.ref b20), (.ref b20)] (fun t' k => XS.lload X20.here hx rfl (hb hby at_202) rfl  k) ?_
              refine X20.stJ hx hZ e20 A_b20 g_b20 0 (by decide) (Nat.le_of_ble_eq_true rfl) (hb hby at_204) ?_
              intro T21 h21 X21 e21 W21 A21
              replace A_b20 : own_A Z h21 .long b20 [(.long (Int64.ofInt (A))), (.long (0 : Int64))] := A21
              clear A21
              replace hn := Nat.le_trans hn (Keep.of_wr W21).1
              refine own_gs 206 [(.ref b20), (.ref b20)] (fun t' k => XS.dup X21.here hx rfl (hb hby at_205) rfl rfl k) ?_
              refine own_gs 207 [(.int (1 : Int32)), (.ref b20), (.ref b20)] (fun t' k => XS.iconst X21.here hx rfl (hb hby at_206) k) ?_
              refine own_gs 209 [(.long (Int64.ofInt (Bb))), (.int (1 : Int32)), (.ref b20), (.ref b20)] (fun t' k => XS.lload X21.here hx rfl (hb hby at_207) rfl  k) ?_
              refine X21.stJ hx hZ e21 A_b20 g_b20 1 (by decide) (Nat.le_of_ble_eq_true rfl) (hb hby at_209) ?_
              intro T22 h22 X22 e22 W22 A22
              replace A_b20 : own_A Z h22 .long b20 [(.long (Int64.ofInt (A))), (.long (Int64.ofInt (Bb)))] := A22
              clear A22
              replace hn := Nat.le_trans hn (Keep.of_wr W22).1
              refine own_go (mkF m 212 #[iv x0, iv x1, jv x2, .second, jv x3, .second, jv x4, .second, iv (x0 &&& (3 : Int32)), jv (Int64.ofInt (A)), .second, jv (Int64.ofInt (Bb)), .second, jv ov, .second, jv (Int64.ofInt (A + Bb)), .second, iv cv, jv xv, .second, iv ex, rv b20, .unset, .unset, .unset] []) (fun t' k => XS.astore X22.here hx rfl (hb hby at_210) rfl rfl rfl k) ?_
              refine X22.newO hx hZ hown (hw _ (List.mem_of_getElem? (i := 3) rfl)) (hw _ (List.mem_of_getElem? (i := 4) rfl)) (hw _ (List.mem_of_getElem? (i := 5) rfl)) e22 (hb hby at_212) (by decide) (by decide) ?_
              intro T23 h23 b23 X23 e23 q23 xt23 E_b23 D23
              have g_b23 : h0.size ≤ b23 := by rw [q23]; exact hn
              have lt_b20_b23 : b20 < b23 := by rw [q23]; exact A_b20.lt
              replace A_b20 := A_b20.ext xt23
              replace hn := Nat.le_trans hn xt23.1
              have F_b23_shift : Fld Z h23 b23 "com/example/load_across_peers/loadacrosspeers/internal/pick/AliasTable" "shift" "I" (.int (0 : Int32)) := D23 (Or.inr (hw _ (List.mem_of_getElem? (i := 18) rfl))) (ty := .int) (by decide)
              have F_b23_total : Fld Z h23 b23 "com/example/load_across_peers/loadacrosspeers/internal/pick/AliasTable" "total" "J" (.long (0 : Int64)) := D23 (Or.inr (hw _ (List.mem_of_getElem? (i := 20) rfl))) (ty := .long) (by decide)
              have F_b23_packed : Fld Z h23 b23 "com/example/load_across_peers/loadacrosspeers/internal/pick/AliasTable" "packed" "[J" .null := D23 (Or.inr (hw _ (List.mem_of_getElem? (i := 23) rfl))) (ty := (.array .long)) (by decide)
              have F_b23_thresholds : Fld Z h23 b23 "com/example/load_across_peers/loadacrosspeers/internal/pick/AliasTable" "thresholds" "[J" .null := D23 (Or.inr (hw _ (List.mem_of_getElem? (i := 25) rfl))) (ty := (.array .long)) (by decide)
              have F_b23_aliases : Fld Z h23 b23 "com/example/load_across_peers/loadacrosspeers/internal/pick/AliasTable" "aliases" "[I" .null := D23 (Or.inr (hw _ (List.mem_of_getElem? (i := 27) rfl))) (ty := (.array .int)) (by decide)
              refine own_gs 216 [(.ref b23), (.ref b23)] (fun t' k => XS.dup X23.here hx rfl (hb hby at_215) rfl rfl k) ?_
              refine own_gs 218 [(.ref b20), (.ref b23), (.ref b23)] (fun t' k => XS.aload X23.here hx rfl (hb hby at_216) rfl rfl  k) ?_
              refine X23.callI hx hZ (y := (⟨"com/example/load_across_peers/loadacrosspeers/internal/pick/AliasTable", "<init>", "([J)V"⟩ : MethodName)) rfl hown (hw _ (List.mem_of_getElem? (i := 6) rfl)) (hw _ (List.mem_of_getElem? (i := 7) rfl)) (hw _ (List.mem_of_getElem? (i := 5) rfl)) (hw _ (List.mem_of_getElem? (i := 8) rfl)) (by decide) e23 b23 [(.ref b20)] [(.ref b23)] (own_rmI2g l Z a0 hw [] h23 h0.size hn b23 b20 g_b23 (Ne.symm (Nat.ne_of_lt lt_b20_b23)) A Bb hA0 hA2 hB0' hB2' (by have q1 : ¬ A = Bb := fun q => hc127 (by rw [q]); have q2 : ¬ A < Bb := fun q => hc142 ((own_ltI (by omega) (by omega)).mpr q); omega) E_b23 A_b20 F_b23_shift F_b23_total F_b23_packed F_b23_thresholds F_b23_aliases) 1 (by decide) (by decide) (Nat.le_of_eq rfl) (by decide) (by decide) (by rw [hml]; rfl) (lenOf own_pd1 rfl) rfl (hb hby at_218) ?_
              rintro T24 _ X24 ⟨rfl, hn24, E_t, HT⟩
              replace hn := hn24
              show own_G p e below s _ _ _ T24 (mkF m 221 #[iv x0, iv x1, jv x2, .second, jv x3, .second, jv x4, .second, iv (x0 &&& (3 : Int32)), jv (Int64.ofInt (A)), .second, jv (Int64.ofInt (Bb)), .second, jv ov, .second, jv (Int64.ofInt (A + Bb)), .second, iv cv, jv xv, .second, iv ex, rv b20, .unset, .unset, .unset] [(.ref b23)])
              refine own_go (mkF m 223 #[iv x0, iv x1, jv x2, .second, jv x3, .second, jv x4, .second, iv (x0 &&& (3 : Int32)), jv (Int64.ofInt (A)), .second, jv (Int64.ofInt (Bb)), .second, jv ov, .second, jv (Int64.ofInt (A + Bb)), .second, iv cv, jv xv, .second, iv ex, rv b20, rv b23, .unset, .unset] []) (fun t' k => XS.astore X24.here hx rfl (hb hby at_221) rfl rfl rfl k) ?_
              refine own_gs 225 [(.ref b23)] (fun t' k => XS.aload X24.here hx rfl (hb hby at_223) rfl rfl  k) ?_
              refine own_gs 227 [(.int cv), (.ref b23)] (fun t' k => XS.iload X24.here hx rfl (hb hby at_225) rfl  k) ?_
              refine own_gs 229 [(.long xv), (.int cv), (.ref b23)] (fun t' k => XS.lload X24.here hx rfl (hb hby at_227) rfl  k) ?_
              obtain ⟨bb, HF, HA⟩ := HT
              rcases (by omega : ci = 0 ∨ ci = 1) with rfl | rfl
              · skip
                have hcv : cv = (0 : Int32) := Int32.toInt_inj.mp hci
                refine X24.callV hx hZ (y := (⟨"com/example/load_across_peers/loadacrosspeers/internal/pick/AliasTable", "owner", "(IJ)I"⟩ : MethodName)) (C := "com/example/load_across_peers/loadacrosspeers/internal/pick/AliasTable") hown (hw _ (List.mem_of_getElem? (i := 28) rfl)) (hw _ (List.mem_of_getElem? (i := 29) rfl)) (hw _ (List.mem_of_getElem? (i := 31) rfl)) (hw _ (List.mem_of_getElem? (i := 30) rfl)) (hw _ (List.mem_of_getElem? (i := 5) rfl)) (hw _ (List.mem_of_getElem? (i := 32) rfl)) (by decide) rfl E_t [(.int cv), (.long xv)] [] (own_rmOA l Z a0 hw [] T24.heap h0.size hn b23 bb cv xv (own_pw (0 : Int64) (0 : Int64)) 0 hci _ rfl HF HA) 0 (by decide) (by decide) (Nat.le_of_eq rfl) (by decide) (by decide) (by rw [hml]; rfl) (lenOf own_pd2 rfl) rfl (hb hby at_229) ?_
                rintro T25 _ X25 ⟨rfl, e25⟩
                show own_G p e below s _ _ _ T25 (mkF m 232 #[iv x0, iv x1, jv x2, .second, jv x3, .second, jv x4, .second, iv (x0 &&& (3 : Int32)), jv (Int64.ofInt (A)), .second, jv (Int64.ofInt (Bb)), .second, jv ov, .second, jv (Int64.ofInt (A + Bb)), .second, iv cv, jv xv, .second, iv ex, rv b20, rv b23, .unset, .unset] [(.int (own_ownA cv xv (own_pw (0 : Int64) (0 : Int64))))])
                refine own_gs 234 [(.int ex), (.int (own_ownA cv xv (own_pw (0 : Int64) (0 : Int64))))] (fun t' k => XS.iload X25.here hx rfl (hb hby at_232) rfl  k) ?_
                refine own_gs 237 [] (fun t' k => XS.icmpNo X25.here hx rfl (hb hby at_234) rfl (teq ((own_AA (al := (0 : Int32)) hx0 (by omega) (by decide) (by decide) (by decide) (by decide)).trans (by rw [hJE]; subst hcv; unfold own_e2g; first | rfl | (simp; done) | (split <;> split <;> first | rfl | contradiction)))).2 k) ?_
                refine own_gs 238 [(.int (1 : Int32))] (fun t' k => XS.iconst X25.here hx rfl (hb hby at_237) k) ?_
                refine own_gs 242 [(.int (1 : Int32))] (fun t' k => XS.goto X25.here hx rfl (pc0 := 238) (pc' := 242) rfl (hb hby at_238) (by decide) (by decide) k) ?_
                refine X25.retZ hx hlk hret (hb hby at_242) ?_ (by decide) (by decide)
                exact rfl
              · skip
                have hcv : cv = (1 : Int32) := Int32.toInt_inj.mp hci
                refine X24.callV hx hZ (y := (⟨"com/example/load_across_peers/loadacrosspeers/internal/pick/AliasTable", "owner", "(IJ)I"⟩ : MethodName)) (C := "com/example/load_across_peers/loadacrosspeers/internal/pick/AliasTable") hown (hw _ (List.mem_of_getElem? (i := 28) rfl)) (hw _ (List.mem_of_getElem? (i := 29) rfl)) (hw _ (List.mem_of_getElem? (i := 31) rfl)) (hw _ (List.mem_of_getElem? (i := 30) rfl)) (hw _ (List.mem_of_getElem? (i := 5) rfl)) (hw _ (List.mem_of_getElem? (i := 32) rfl)) (by decide) rfl E_t [(.int cv), (.long xv)] [] (own_rmOA l Z a0 hw [] T24.heap h0.size hn b23 bb cv xv (own_pw (Int64.ofInt (2 * Bb)) (0 : Int64)) 1 hci _ rfl HF HA) 0 (by decide) (by decide) (Nat.le_of_eq rfl) (by decide) (by decide) (by rw [hml]; rfl) (lenOf own_pd2 rfl) rfl (hb hby at_229) ?_
                rintro T26 _ X26 ⟨rfl, e26⟩
                show own_G p e below s _ _ _ T26 (mkF m 232 #[iv x0, iv x1, jv x2, .second, jv x3, .second, jv x4, .second, iv (x0 &&& (3 : Int32)), jv (Int64.ofInt (A)), .second, jv (Int64.ofInt (Bb)), .second, jv ov, .second, jv (Int64.ofInt (A + Bb)), .second, iv cv, jv xv, .second, iv ex, rv b20, rv b23, .unset, .unset] [(.int (own_ownA cv xv (own_pw (Int64.ofInt (2 * Bb)) (0 : Int64))))])
                refine own_gs 234 [(.int ex), (.int (own_ownA cv xv (own_pw (Int64.ofInt (2 * Bb)) (0 : Int64))))] (fun t' k => XS.iload X26.here hx rfl (hb hby at_232) rfl  k) ?_
                refine own_gs 237 [] (fun t' k => XS.icmpNo X26.here hx rfl (hb hby at_234) rfl (teq ((own_AA (al := (0 : Int32)) hx0 (by omega) (by rw [own_oI (by omega)]; omega) (by rw [own_oI (by omega)]; omega) (by decide) (by decide)).trans (by rw [hJE]; subst hcv; unfold own_e2g; first | rfl | (simp; done) | (split <;> split <;> first | rfl | contradiction)))).2 k) ?_
                refine own_gs 238 [(.int (1 : Int32))] (fun t' k => XS.iconst X26.here hx rfl (hb hby at_237) k) ?_
                refine own_gs 242 [(.int (1 : Int32))] (fun t' k => XS.goto X26.here hx rfl (pc0 := 238) (pc' := 242) rfl (hb hby at_238) (by decide) (by decide) k) ?_
                refine X26.retZ hx hlk hret (hb hby at_242) ?_ (by decide) (by decide)
                exact rfl
            refine own_gs 174 [(.int cv)] (fun t' k => XS.iload X0.here hx rfl (hb hby at_172) rfl  k) ?_
            refine own_gs 175 [(.int (1 : Int32)), (.int cv)] (fun t' k => XS.iconst X0.here hx rfl (hb hby at_174) k) ?_
            by_cases hc175 : cv = (1 : Int32)
            · skip
              refine own_gs 178 [] (fun t' k => XS.icmpNo X0.here hx rfl (hb hby at_175) rfl (teq hc175).2 k) ?_
              refine own_gs 180 [(.long xv)] (fun t' k => XS.lload X0.here hx rfl (hb hby at_178) rfl  k) ?_
              refine own_gs 183 [(.long (2 : Int64)), (.long xv)] (fun t' k => X0.ldc2Long hx hown (mvT hZ (hw _ (List.mem_of_getElem? (i := 35) rfl))) (g := (mkF m 180 #[iv x0, iv x1, jv x2, .second, jv x3, .second, jv x4, .second, iv (x0 &&& (3 : Int32)), jv (Int64.ofInt (A)), .second, jv (Int64.ofInt (Bb)), .second, jv ov, .second, jv (Int64.ofInt (A + Bb)), .second, iv cv, jv xv, .second, .unset, .unset, .unset, .unset, .unset] [(.long xv)])) rfl (hb hby at_180) _ k) ?_
              refine own_gs 185 [(.long (Int64.ofInt (Bb))), (.long (2 : Int64)), (.long xv)] (fun t' k => XS.lload X0.here hx rfl (hb hby at_183) rfl  k) ?_
              refine own_gs 186 [(.long ((2 : Int64) * (Int64.ofInt (Bb)))), (.long xv)] (fun t' k => XS.lmul X0.here hx rfl (hb hby at_185) rfl k) ?_
              rw [own_omul (z := 2 * Bb) (show (2 : Int64) = Int64.ofInt (2) from rfl) (show (Int64.ofInt (Bb)) = (Int64.ofInt (Bb)) from rfl) (by omega)]
              refine own_gs 187 [(.int (lcmpW xv (Int64.ofInt (2 * Bb))))] (fun t' k => XS.lcmp X0.here hx rfl (hb hby at_186) rfl k) ?_
              by_cases hc187 : xv < (Int64.ofInt (2 * Bb))
              · skip
                refine own_gs 190 [] (fun t' k => XS.ifNo X0.here hx rfl (hb hby at_187) rfl ((if0 _ _).trans (tlt ((lw_lt xv (Int64.ofInt (2 * Bb))).mpr hc187)).2.1) k) ?_
                refine own_gs 191 [(.int (1 : Int32))] (fun t' k => XS.iconst X0.here hx rfl (hb hby at_190) k) ?_
                refine own_gs 195 [(.int (1 : Int32))] (fun t' k => XS.goto X0.here hx rfl (pc0 := 191) (pc' := 195) rfl (hb hby at_191) (by decide) (by decide) k) ?_
                refine own_go (mkF m 197 #[iv x0, iv x1, jv x2, .second, jv x3, .second, jv x4, .second, iv (x0 &&& (3 : Int32)), jv (Int64.ofInt (A)), .second, jv (Int64.ofInt (Bb)), .second, jv ov, .second, jv (Int64.ofInt (A + Bb)), .second, iv cv, jv xv, .second, iv (1 : Int32), .unset, .unset, .unset, .unset] []) (fun t' k => XS.istore X0.here hx rfl (hb hby at_195) rfl rfl k) ?_
                exact JE ((1 : Int32)) (show (1 : Int32) = (own_e2g cv xv A Bb) from (show (own_e2g cv xv A Bb) = (1 : Int32) from ((if_pos hc175).trans ((if_pos hc187).trans rfl))).symm)
              · skip
                refine own_gs 194 [] (fun t' k => XS.ifYes X0.here hx rfl (pc0 := 187) (pc' := 194) rfl (hb hby at_187) rfl ((if0 _ _).trans (flt (fun q => hc187 ((lw_lt xv (Int64.ofInt (2 * Bb))).mp q))).2.1) (by decide) (by decide) k) ?_
                refine own_gs 195 [(.int (0 : Int32))] (fun t' k => XS.iconst X0.here hx rfl (hb hby at_194) k) ?_
                refine own_go (mkF m 197 #[iv x0, iv x1, jv x2, .second, jv x3, .second, jv x4, .second, iv (x0 &&& (3 : Int32)), jv (Int64.ofInt (A)), .second, jv (Int64.ofInt (Bb)), .second, jv ov, .second, jv (Int64.ofInt (A + Bb)), .second, iv cv, jv xv, .second, iv (0 : Int32), .unset, .unset, .unset, .unset] []) (fun t' k => XS.istore X0.here hx rfl (hb hby at_195) rfl rfl k) ?_
                exact JE ((0 : Int32)) (show (0 : Int32) = (own_e2g cv xv A Bb) from (show (own_e2g cv xv A Bb) = (0 : Int32) from ((if_pos hc175).trans ((if_neg hc187).trans rfl))).symm)
            · skip
              refine own_gs 194 [] (fun t' k => XS.icmpYes X0.here hx rfl (pc0 := 175) (pc' := 194) rfl (hb hby at_175) rfl (feq hc175).2 (by decide) (by decide) k) ?_
              refine own_gs 195 [(.int (0 : Int32))] (fun t' k => XS.iconst X0.here hx rfl (hb hby at_194) k) ?_
              refine own_go (mkF m 197 #[iv x0, iv x1, jv x2, .second, jv x3, .second, jv x4, .second, iv (x0 &&& (3 : Int32)), jv (Int64.ofInt (A)), .second, jv (Int64.ofInt (Bb)), .second, jv ov, .second, jv (Int64.ofInt (A + Bb)), .second, iv cv, jv xv, .second, iv (0 : Int32), .unset, .unset, .unset, .unset] []) (fun t' k => XS.istore X0.here hx rfl (hb hby at_195) rfl rfl k) ?_
              exact JE ((0 : Int32)) (show (0 : Int32) = (own_e2g cv xv A Bb) from (show (own_e2g cv xv A Bb) = (0 : Int32) from ((if_neg hc175).trans rfl)).symm)
      refine own_gs 92 [(.long (Int64.ofInt (A)))] (fun t' k => XS.lload X0.here hx rfl (hb hby at_90) rfl  k) ?_
      refine own_gs 94 [(.long (Int64.ofInt (B))), (.long (Int64.ofInt (A)))] (fun t' k => XS.lload X0.here hx rfl (hb hby at_92) rfl  k) ?_
      refine own_gs 95 [(.long ((Int64.ofInt (A)) + (Int64.ofInt (B))))] (fun t' k => XS.ladd X0.here hx rfl (hb hby at_94) rfl k) ?_
      rw [own_oadd (z := A + B) (show (Int64.ofInt (A)) = (Int64.ofInt (A)) from rfl) (show (Int64.ofInt (B)) = (Int64.ofInt (B)) from rfl) (by omega)]
      refine own_gs 96 [(.long (0 : Int64)), (.long (Int64.ofInt (A + B)))] (fun t' k => XS.lconst X0.here hx rfl (hb hby at_95) k) ?_
      refine own_gs 97 [(.int (lcmpW (Int64.ofInt (A + B)) (0 : Int64)))] (fun t' k => XS.lcmp X0.here hx rfl (hb hby at_96) rfl k) ?_
      by_cases hc97 : (Int64.ofInt (A + B)) = (0 : Int64)
      · skip
        refine own_gs 100 [] (fun t' k => XS.ifNo X0.here hx rfl (hb hby at_97) rfl ((if0 _ _).trans (teq ((lw_eq (Int64.ofInt (A + B)) (0 : Int64)).mpr hc97)).2) k) ?_
        refine own_gs 101 [(.long (1 : Int64))] (fun t' k => XS.lconst X0.here hx rfl (hb hby at_100) k) ?_
        refine own_go (mkF m 103 #[iv x0, iv x1, jv x2, .second, jv x3, .second, jv x4, .second, iv (x0 &&& (3 : Int32)), jv (Int64.ofInt (A)), .second, jv (1 : Int64), .second, jv ov, .second, .unset, .unset, .unset, .unset, .unset, .unset, .unset, .unset, .unset, .unset] []) (fun t' k => XS.lstore X0.here hx rfl (hb hby at_101) rfl rfl k) ?_
        exact JB ((1 : Int64)) ⟨1, rfl, by decide, by decide, by omega⟩
      · skip
        refine own_gs 103 [] (fun t' k => XS.ifYes X0.here hx rfl (pc0 := 97) (pc' := 103) rfl (hb hby at_97) rfl ((if0 _ _).trans (feq (fun q => hc97 ((lw_eq (Int64.ofInt (A + B)) (0 : Int64)).mp q))).2) (by decide) (by decide) k) ?_
        exact JB ((Int64.ofInt (B))) ⟨B, rfl, hB0, hB2, by have := own_ne0 hc97; omega⟩
    · skip
      refine own_gs 243 [] (fun t' k => XS.icmpYes X0.here hx rfl (pc0 := 87) (pc' := 243) rfl (hb hby at_87) rfl (feq hc87).2 (by decide) (by decide) k) ?_
      have JC : ∀ (av : Int64), (∃ Aa : Int, av = Int64.ofInt Aa ∧ 1 ≤ Aa ∧ Aa ≤ 2147483647) → own_G p e below s (own_Q h0.size (fun v h => v = some (.int 1))) room_1.cells room_1.slots s₁ (mkF m 253 #[iv x0, iv x1, jv x2, .second, jv x3, .second, jv x4, .second, iv (x0 &&& (3 : Int32)), jv av, .second, jv (Int64.ofInt (B)), .second, jv ov, .second, .unset, .unset, .unset, .unset, .unset, .unset, .unset, .unset, .unset, .unset] []) := by
        intro av hJC
        obtain ⟨Aa, rfl, hA1', hA2'⟩ := hJC
        refine own_gs 256 [(.long (5 : Int64))] (fun t' k => X0.ldc2Long hx hown (mvT hZ (hw _ (List.mem_of_getElem? (i := 34) rfl))) (g := (mkF m 253 #[iv x0, iv x1, jv x2, .second, jv x3, .second, jv x4, .second, iv (x0 &&& (3 : Int32)), jv (Int64.ofInt (Aa)), .second, jv (Int64.ofInt (B)), .second, jv ov, .second, .unset, .unset, .unset, .unset, .unset, .unset, .unset, .unset, .unset, .unset] [])) rfl (hb hby at_253) _ k) ?_
        refine own_gs 258 [(.long (Int64.ofInt (Aa))), (.long (5 : Int64))] (fun t' k => XS.lload X0.here hx rfl (hb hby at_256) rfl  k) ?_
        refine own_gs 259 [(.long ((5 : Int64) * (Int64.ofInt (Aa))))] (fun t' k => XS.lmul X0.here hx rfl (hb hby at_258) rfl k) ?_
        rw [own_omul (z := 5 * Aa) (show (5 : Int64) = Int64.ofInt (5) from rfl) (show (Int64.ofInt (Aa)) = (Int64.ofInt (Aa)) from rfl) (by omega)]
        refine own_go (mkF m 261 #[iv x0, iv x1, jv x2, .second, jv x3, .second, jv x4, .second, iv (x0 &&& (3 : Int32)), jv (Int64.ofInt (Aa)), .second, jv (Int64.ofInt (B)), .second, jv ov, .second, jv (Int64.ofInt (5 * Aa)), .second, .unset, .unset, .unset, .unset, .unset, .unset, .unset, .unset] []) (fun t' k => XS.lstore X0.here hx rfl (hb hby at_259) rfl rfl k) ?_
        refine own_gs 262 [(.int x1)] (fun t' k => XS.iloadN X0.here hx rfl (hb hby at_261) rfl  k) ?_
        refine own_gs 264 [(.int (7 : Int32)), (.int x1)] (fun t' k => XS.bipush X0.here hx rfl (hb hby at_262) k) ?_
        refine own_gs 265 [(.int (x1 &&& (7 : Int32)))] (fun t' k => XS.iand X0.here hx rfl (hb hby at_264) rfl k) ?_
        obtain ⟨ci, hci, hci2⟩ := own_bit3 x1
        generalize (x1 &&& (7 : Int32)) = cv at hci ⊢
        refine own_go (mkF m 267 #[iv x0, iv x1, jv x2, .second, jv x3, .second, jv x4, .second, iv (x0 &&& (3 : Int32)), jv (Int64.ofInt (Aa)), .second, jv (Int64.ofInt (B)), .second, jv ov, .second, jv (Int64.ofInt (5 * Aa)), .second, iv cv, .unset, .unset, .unset, .unset, .unset, .unset, .unset] []) (fun t' k => XS.istore X0.here hx rfl (hb hby at_265) rfl rfl k) ?_
        refine own_gs 269 [(.long ov)] (fun t' k => XS.lload X0.here hx rfl (hb hby at_267) rfl  k) ?_
        refine own_gs 271 [(.long (Int64.ofInt (5 * Aa))), (.long ov)] (fun t' k => XS.lload X0.here hx rfl (hb hby at_269) rfl  k) ?_
        refine own_gs 272 [(.long (ov - (ov / (Int64.ofInt (5 * Aa))) * (Int64.ofInt (5 * Aa))))] (fun t' k => XS.lrem X0.here hx rfl (hb hby at_271) rfl (own_one (show (Int64.ofInt (5 * Aa)) = (Int64.ofInt (5 * Aa)) from rfl) (show (0 : Int64) = Int64.ofInt (0) from rfl) (by omega) (by omega) (by omega)) k) ?_
        obtain ⟨hx0, hx1⟩ := own_remb (q := (Int64.ofInt (5 * Aa))) (t := 5 * Aa) ho rfl (by omega)
        generalize (ov - (ov / (Int64.ofInt (5 * Aa))) * (Int64.ofInt (5 * Aa))) = xv at hx0 hx1 ⊢
        refine own_go (mkF m 274 #[iv x0, iv x1, jv x2, .second, jv x3, .second, jv x4, .second, iv (x0 &&& (3 : Int32)), jv (Int64.ofInt (Aa)), .second, jv (Int64.ofInt (B)), .second, jv ov, .second, jv (Int64.ofInt (5 * Aa)), .second, iv cv, jv xv, .second, .unset, .unset, .unset, .unset, .unset] []) (fun t' k => XS.lstore X0.here hx rfl (hb hby at_272) rfl rfl k) ?_
        refine own_gs 276 [(.int (8 : Int32))] (fun t' k => XS.bipush X0.here hx rfl (hb hby at_274) k) ?_
        refine X0.newP hx hZ (hw _ (List.mem_of_getElem? (i := 2) rfl)) e0 8 (by decide) (hb hby at_276) 8 (by decide) (by decide) (by decide) (by decide) ?_
        intro T27 h27 b27 X27 e27 q27 xt27 A_b27
        have g_b27 : h0.size ≤ b27 := by rw [q27]; exact hn
        replace hn := Nat.le_trans hn xt27.1
        replace A_b27 : own_A Z h27 .long b27 [(.long (0 : Int64)), (.long (0 : Int64)), (.long (0 : Int64)), (.long (0 : Int64)), (.long (0 : Int64)), (.long (0 : Int64)), (.long (0 : Int64)), (.long (0 : Int64))] := A_b27
        refine own_gs 279 [(.ref b27), (.ref b27)] (fun t' k => XS.dup X27.here hx rfl (hb hby at_278) rfl rfl k) ?_
        refine own_gs 280 [(.int (0 : Int32)), (.ref b27), (.ref b27)] (fun t' k => XS.iconst X27.here hx rfl (hb hby at_279) k) ?_
        refine own_gs 281 [(.long (0 : Int64)), (.int (0 : Int32)), (.ref b27), (.ref b27)] (fun t' k => XS.lconst X27.here hx rfl (hb hby at_280) k) ?_
        refine X27.stJ hx hZ e27 A_b27 g_b27 0 (by decide) (Nat.le_of_ble_eq_true rfl) (hb hby at_281) ?_
        intro T28 h28 X28 e28 W28 A28
        replace A_b27 : own_A Z h28 .long b27 [(.long (0 : Int64)), (.long (0 : Int64)), (.long (0 : Int64)), (.long (0 : Int64)), (.long (0 : Int64)), (.long (0 : Int64)), (.long (0 : Int64)), (.long (0 : Int64))] := A28
        clear A28
        replace hn := Nat.le_trans hn (Keep.of_wr W28).1
        refine own_gs 283 [(.ref b27), (.ref b27)] (fun t' k => XS.dup X28.here hx rfl (hb hby at_282) rfl rfl k) ?_
        refine own_gs 284 [(.int (1 : Int32)), (.ref b27), (.ref b27)] (fun t' k => XS.iconst X28.here hx rfl (hb hby at_283) k) ?_
        refine own_gs 287 [(.long (2 : Int64)), (.int (1 : Int32)), (.ref b27), (.ref b27)] (fun t' k => X28.ldc2Long hx hown (mvT hZ (hw _ (List.mem_of_getElem? (i := 35) rfl))) (g := (mkF m 284 #[iv x0, iv x1, jv x2, .second, jv x3, .second, jv x4, .second, iv (x0 &&& (3 : Int32)), jv (Int64.ofInt (Aa)), .second, jv (Int64.ofInt (B)), .second, jv ov, .second, jv (Int64.ofInt (5 * Aa)), .second, iv cv, jv xv, .second, .unset, .unset, .unset, .unset, .unset] [(.int (1 : Int32)), (.ref b27), (.ref b27)])) rfl (hb hby at_284) _ k) ?_
        refine own_gs 289 [(.long (Int64.ofInt (Aa))), (.long (2 : Int64)), (.int (1 : Int32)), (.ref b27), (.ref b27)] (fun t' k => XS.lload X28.here hx rfl (hb hby at_287) rfl  k) ?_
        refine own_gs 290 [(.long ((2 : Int64) * (Int64.ofInt (Aa)))), (.int (1 : Int32)), (.ref b27), (.ref b27)] (fun t' k => XS.lmul X28.here hx rfl (hb hby at_289) rfl k) ?_
        rw [own_omul (z := 2 * Aa) (show (2 : Int64) = Int64.ofInt (2) from rfl) (show (Int64.ofInt (Aa)) = (Int64.ofInt (Aa)) from rfl) (by omega)]
        refine X28.stJ hx hZ e28 A_b27 g_b27 1 (by decide) (Nat.le_of_ble_eq_true rfl) (hb hby at_290) ?_
        intro T29 h29 X29 e29 W29 A29
        replace A_b27 : own_A Z h29 .long b27 [(.long (0 : Int64)), (.long (Int64.ofInt (2 * Aa))), (.long (0 : Int64)), (.long (0 : Int64)), (.long (0 : Int64)), (.long (0 : Int64)), (.long (0 : Int64)), (.long (0 : Int64))] := A29
        clear A29
        replace hn := Nat.le_trans hn (Keep.of_wr W29).1
        refine own_gs 292 [(.ref b27), (.ref b27)] (fun t' k => XS.dup X29.here hx rfl (hb hby at_291) rfl rfl k) ?_
        refine own_gs 293 [(.int (2 : Int32)), (.ref b27), (.ref b27)] (fun t' k => XS.iconst X29.here hx rfl (hb hby at_292) k) ?_
        refine own_gs 296 [(.long (4 : Int64)), (.int (2 : Int32)), (.ref b27), (.ref b27)] (fun t' k => X29.ldc2Long hx hown (mvT hZ (hw _ (List.mem_of_getElem? (i := 36) rfl))) (g := (mkF m 293 #[iv x0, iv x1, jv x2, .second, jv x3, .second, jv x4, .second, iv (x0 &&& (3 : Int32)), jv (Int64.ofInt (Aa)), .second, jv (Int64.ofInt (B)), .second, jv ov, .second, jv (Int64.ofInt (5 * Aa)), .second, iv cv, jv xv, .second, .unset, .unset, .unset, .unset, .unset] [(.int (2 : Int32)), (.ref b27), (.ref b27)])) rfl (hb hby at_293) _ k) ?_
        refine own_gs 298 [(.long (Int64.ofInt (Aa))), (.long (4 : Int64)), (.int (2 : Int32)), (.ref b27), (.ref b27)] (fun t' k => XS.lload X29.here hx rfl (hb hby at_296) rfl  k) ?_
        refine own_gs 299 [(.long ((4 : Int64) * (Int64.ofInt (Aa)))), (.int (2 : Int32)), (.ref b27), (.ref b27)] (fun t' k => XS.lmul X29.here hx rfl (hb hby at_298) rfl k) ?_
        rw [own_omul (z := 4 * Aa) (show (4 : Int64) = Int64.ofInt (4) from rfl) (show (Int64.ofInt (Aa)) = (Int64.ofInt (Aa)) from rfl) (by omega)]
        refine X29.stJ hx hZ e29 A_b27 g_b27 2 (by decide) (Nat.le_of_ble_eq_true rfl) (hb hby at_299) ?_
        intro T30 h30 X30 e30 W30 A30
        replace A_b27 : own_A Z h30 .long b27 [(.long (0 : Int64)), (.long (Int64.ofInt (2 * Aa))), (.long (Int64.ofInt (4 * Aa))), (.long (0 : Int64)), (.long (0 : Int64)), (.long (0 : Int64)), (.long (0 : Int64)), (.long (0 : Int64))] := A30
        clear A30
        replace hn := Nat.le_trans hn (Keep.of_wr W30).1
        refine own_gs 301 [(.ref b27), (.ref b27)] (fun t' k => XS.dup X30.here hx rfl (hb hby at_300) rfl rfl k) ?_
        refine own_gs 302 [(.int (3 : Int32)), (.ref b27), (.ref b27)] (fun t' k => XS.iconst X30.here hx rfl (hb hby at_301) k) ?_
        refine own_gs 304 [(.long (Int64.ofInt (Aa))), (.int (3 : Int32)), (.ref b27), (.ref b27)] (fun t' k => XS.lload X30.here hx rfl (hb hby at_302) rfl  k) ?_
        refine X30.stJ hx hZ e30 A_b27 g_b27 3 (by decide) (Nat.le_of_ble_eq_true rfl) (hb hby at_304) ?_
        intro T31 h31 X31 e31 W31 A31
        replace A_b27 : own_A Z h31 .long b27 [(.long (0 : Int64)), (.long (Int64.ofInt (2 * Aa))), (.long (Int64.ofInt (4 * Aa))), (.long (Int64.ofInt (Aa))), (.long (0 : Int64)), (.long (0 : Int64)), (.long (0 : Int64)), (.long (0 : Int64))] := A31
        clear A31
        replace hn := Nat.le_trans hn (Keep.of_wr W31).1
        refine own_gs 306 [(.ref b27), (.ref b27)] (fun t' k => XS.dup X31.here hx rfl (hb hby at_305) rfl rfl k) ?_
        refine own_gs 307 [(.int (4 : Int32)), (.ref b27), (.ref b27)] (fun t' k => XS.iconst X31.here hx rfl (hb hby at_306) k) ?_
        refine own_gs 310 [(.long (3 : Int64)), (.int (4 : Int32)), (.ref b27), (.ref b27)] (fun t' k => X31.ldc2Long hx hown (mvT hZ (hw _ (List.mem_of_getElem? (i := 37) rfl))) (g := (mkF m 307 #[iv x0, iv x1, jv x2, .second, jv x3, .second, jv x4, .second, iv (x0 &&& (3 : Int32)), jv (Int64.ofInt (Aa)), .second, jv (Int64.ofInt (B)), .second, jv ov, .second, jv (Int64.ofInt (5 * Aa)), .second, iv cv, jv xv, .second, .unset, .unset, .unset, .unset, .unset] [(.int (4 : Int32)), (.ref b27), (.ref b27)])) rfl (hb hby at_307) _ k) ?_
        refine own_gs 312 [(.long (Int64.ofInt (Aa))), (.long (3 : Int64)), (.int (4 : Int32)), (.ref b27), (.ref b27)] (fun t' k => XS.lload X31.here hx rfl (hb hby at_310) rfl  k) ?_
        refine own_gs 313 [(.long ((3 : Int64) * (Int64.ofInt (Aa)))), (.int (4 : Int32)), (.ref b27), (.ref b27)] (fun t' k => XS.lmul X31.here hx rfl (hb hby at_312) rfl k) ?_
        rw [own_omul (z := 3 * Aa) (show (3 : Int64) = Int64.ofInt (3) from rfl) (show (Int64.ofInt (Aa)) = (Int64.ofInt (Aa)) from rfl) (by omega)]
        refine X31.stJ hx hZ e31 A_b27 g_b27 4 (by decide) (Nat.le_of_ble_eq_true rfl) (hb hby at_313) ?_
        intro T32 h32 X32 e32 W32 A32
        replace A_b27 : own_A Z h32 .long b27 [(.long (0 : Int64)), (.long (Int64.ofInt (2 * Aa))), (.long (Int64.ofInt (4 * Aa))), (.long (Int64.ofInt (Aa))), (.long (Int64.ofInt (3 * Aa))), (.long (0 : Int64)), (.long (0 : Int64)), (.long (0 : Int64))] := A32
        clear A32
        replace hn := Nat.le_trans hn (Keep.of_wr W32).1
        refine own_gs 315 [(.ref b27), (.ref b27)] (fun t' k => XS.dup X32.here hx rfl (hb hby at_314) rfl rfl k) ?_
        refine own_gs 316 [(.int (5 : Int32)), (.ref b27), (.ref b27)] (fun t' k => XS.iconst X32.here hx rfl (hb hby at_315) k) ?_
        refine own_gs 317 [(.long (0 : Int64)), (.int (5 : Int32)), (.ref b27), (.ref b27)] (fun t' k => XS.lconst X32.here hx rfl (hb hby at_316) k) ?_
        refine X32.stJ hx hZ e32 A_b27 g_b27 5 (by decide) (Nat.le_of_ble_eq_true rfl) (hb hby at_317) ?_
        intro T33 h33 X33 e33 W33 A33
        replace A_b27 : own_A Z h33 .long b27 [(.long (0 : Int64)), (.long (Int64.ofInt (2 * Aa))), (.long (Int64.ofInt (4 * Aa))), (.long (Int64.ofInt (Aa))), (.long (Int64.ofInt (3 * Aa))), (.long (0 : Int64)), (.long (0 : Int64)), (.long (0 : Int64))] := A33
        clear A33
        replace hn := Nat.le_trans hn (Keep.of_wr W33).1
        refine own_gs 319 [(.ref b27), (.ref b27)] (fun t' k => XS.dup X33.here hx rfl (hb hby at_318) rfl rfl k) ?_
        refine own_gs 321 [(.int (6 : Int32)), (.ref b27), (.ref b27)] (fun t' k => XS.bipush X33.here hx rfl (hb hby at_319) k) ?_
        refine own_gs 322 [(.long (0 : Int64)), (.int (6 : Int32)), (.ref b27), (.ref b27)] (fun t' k => XS.lconst X33.here hx rfl (hb hby at_321) k) ?_
        refine X33.stJ hx hZ e33 A_b27 g_b27 6 (by decide) (Nat.le_of_ble_eq_true rfl) (hb hby at_322) ?_
        intro T34 h34 X34 e34 W34 A34
        replace A_b27 : own_A Z h34 .long b27 [(.long (0 : Int64)), (.long (Int64.ofInt (2 * Aa))), (.long (Int64.ofInt (4 * Aa))), (.long (Int64.ofInt (Aa))), (.long (Int64.ofInt (3 * Aa))), (.long (0 : Int64)), (.long (0 : Int64)), (.long (0 : Int64))] := A34
        clear A34
        replace hn := Nat.le_trans hn (Keep.of_wr W34).1
        refine own_gs 324 [(.ref b27), (.ref b27)] (fun t' k => XS.dup X34.here hx rfl (hb hby at_323) rfl rfl k) ?_
        refine own_gs 326 [(.int (7 : Int32)), (.ref b27), (.ref b27)] (fun t' k => XS.bipush X34.here hx rfl (hb hby at_324) k) ?_
        refine own_gs 327 [(.long (0 : Int64)), (.int (7 : Int32)), (.ref b27), (.ref b27)] (fun t' k => XS.lconst X34.here hx rfl (hb hby at_326) k) ?_
        refine X34.stJ hx hZ e34 A_b27 g_b27 7 (by decide) (Nat.le_of_ble_eq_true rfl) (hb hby at_327) ?_
        intro T35 h35 X35 e35 W35 A35
        replace A_b27 : own_A Z h35 .long b27 [(.long (0 : Int64)), (.long (Int64.ofInt (2 * Aa))), (.long (Int64.ofInt (4 * Aa))), (.long (Int64.ofInt (Aa))), (.long (Int64.ofInt (3 * Aa))), (.long (0 : Int64)), (.long (0 : Int64)), (.long (0 : Int64))] := A35
        clear A35
        replace hn := Nat.le_trans hn (Keep.of_wr W35).1
        refine own_go (mkF m 330 #[iv x0, iv x1, jv x2, .second, jv x3, .second, jv x4, .second, iv (x0 &&& (3 : Int32)), jv (Int64.ofInt (Aa)), .second, jv (Int64.ofInt (B)), .second, jv ov, .second, jv (Int64.ofInt (5 * Aa)), .second, iv cv, jv xv, .second, rv b27, .unset, .unset, .unset, .unset] []) (fun t' k => XS.astore X35.here hx rfl (hb hby at_328) rfl rfl rfl k) ?_
        refine own_gs 332 [(.int (8 : Int32))] (fun t' k => XS.bipush X35.here hx rfl (hb hby at_330) k) ?_
        refine X35.newP hx hZ (hw _ (List.mem_of_getElem? (i := 12) rfl)) e35 8 (by decide) (hb hby at_332) 8 (by decide) (by decide) (by decide) (by decide) ?_
        intro T36 h36 b36 X36 e36 q36 xt36 A_b36
        have g_b36 : h0.size ≤ b36 := by rw [q36]; exact hn
        have lt_b27_b36 : b27 < b36 := by rw [q36]; exact A_b27.lt
        replace A_b27 := A_b27.ext xt36
        replace hn := Nat.le_trans hn xt36.1
        replace A_b36 : own_A Z h36 .int b36 [(.int (0 : Int32)), (.int (0 : Int32)), (.int (0 : Int32)), (.int (0 : Int32)), (.int (0 : Int32)), (.int (0 : Int32)), (.int (0 : Int32)), (.int (0 : Int32))] := A_b36
        refine own_gs 335 [(.ref b36), (.ref b36)] (fun t' k => XS.dup X36.here hx rfl (hb hby at_334) rfl rfl k) ?_
        refine own_gs 336 [(.int (0 : Int32)), (.ref b36), (.ref b36)] (fun t' k => XS.iconst X36.here hx rfl (hb hby at_335) k) ?_
        refine own_gs 337 [(.int (0 : Int32)), (.int (0 : Int32)), (.ref b36), (.ref b36)] (fun t' k => XS.iconst X36.here hx rfl (hb hby at_336) k) ?_
        refine X36.stI hx hZ e36 A_b36 g_b36 0 (by decide) (Nat.le_of_ble_eq_true rfl) (hb hby at_337) ?_
        intro T37 h37 X37 e37 W37 A37
        replace A_b36 : own_A Z h37 .int b36 [(.int (0 : Int32)), (.int (0 : Int32)), (.int (0 : Int32)), (.int (0 : Int32)), (.int (0 : Int32)), (.int (0 : Int32)), (.int (0 : Int32)), (.int (0 : Int32))] := A37
        clear A37
        replace A_b27 := A_b27.other W37 (Nat.ne_of_lt lt_b27_b36)
        replace hn := Nat.le_trans hn (Keep.of_wr W37).1
        refine own_gs 339 [(.ref b36), (.ref b36)] (fun t' k => XS.dup X37.here hx rfl (hb hby at_338) rfl rfl k) ?_
        refine own_gs 340 [(.int (1 : Int32)), (.ref b36), (.ref b36)] (fun t' k => XS.iconst X37.here hx rfl (hb hby at_339) k) ?_
        refine own_gs 341 [(.int (0 : Int32)), (.int (1 : Int32)), (.ref b36), (.ref b36)] (fun t' k => XS.iconst X37.here hx rfl (hb hby at_340) k) ?_
        refine X37.stI hx hZ e37 A_b36 g_b36 1 (by decide) (Nat.le_of_ble_eq_true rfl) (hb hby at_341) ?_
        intro T38 h38 X38 e38 W38 A38
        replace A_b36 : own_A Z h38 .int b36 [(.int (0 : Int32)), (.int (0 : Int32)), (.int (0 : Int32)), (.int (0 : Int32)), (.int (0 : Int32)), (.int (0 : Int32)), (.int (0 : Int32)), (.int (0 : Int32))] := A38
        clear A38
        replace A_b27 := A_b27.other W38 (Nat.ne_of_lt lt_b27_b36)
        replace hn := Nat.le_trans hn (Keep.of_wr W38).1
        refine own_gs 343 [(.ref b36), (.ref b36)] (fun t' k => XS.dup X38.here hx rfl (hb hby at_342) rfl rfl k) ?_
        refine own_gs 344 [(.int (2 : Int32)), (.ref b36), (.ref b36)] (fun t' k => XS.iconst X38.here hx rfl (hb hby at_343) k) ?_
        refine own_gs 345 [(.int (1 : Int32)), (.int (2 : Int32)), (.ref b36), (.ref b36)] (fun t' k => XS.iconst X38.here hx rfl (hb hby at_344) k) ?_
        refine X38.stI hx hZ e38 A_b36 g_b36 2 (by decide) (Nat.le_of_ble_eq_true rfl) (hb hby at_345) ?_
        intro T39 h39 X39 e39 W39 A39
        replace A_b36 : own_A Z h39 .int b36 [(.int (0 : Int32)), (.int (0 : Int32)), (.int (1 : Int32)), (.int (0 : Int32)), (.int (0 : Int32)), (.int (0 : Int32)), (.int (0 : Int32)), (.int (0 : Int32))] := A39
        clear A39
        replace A_b27 := A_b27.other W39 (Nat.ne_of_lt lt_b27_b36)
        replace hn := Nat.le_trans hn (Keep.of_wr W39).1
        refine own_gs 347 [(.ref b36), (.ref b36)] (fun t' k => XS.dup X39.here hx rfl (hb hby at_346) rfl rfl k) ?_
        refine own_gs 348 [(.int (3 : Int32)), (.ref b36), (.ref b36)] (fun t' k => XS.iconst X39.here hx rfl (hb hby at_347) k) ?_
        refine own_gs 349 [(.int (2 : Int32)), (.int (3 : Int32)), (.ref b36), (.ref b36)] (fun t' k => XS.iconst X39.here hx rfl (hb hby at_348) k) ?_
        refine X39.stI hx hZ e39 A_b36 g_b36 3 (by decide) (Nat.le_of_ble_eq_true rfl) (hb hby at_349) ?_
        intro T40 h40 X40 e40 W40 A40
        replace A_b36 : own_A Z h40 .int b36 [(.int (0 : Int32)), (.int (0 : Int32)), (.int (1 : Int32)), (.int (2 : Int32)), (.int (0 : Int32)), (.int (0 : Int32)), (.int (0 : Int32)), (.int (0 : Int32))] := A40
        clear A40
        replace A_b27 := A_b27.other W40 (Nat.ne_of_lt lt_b27_b36)
        replace hn := Nat.le_trans hn (Keep.of_wr W40).1
        refine own_gs 351 [(.ref b36), (.ref b36)] (fun t' k => XS.dup X40.here hx rfl (hb hby at_350) rfl rfl k) ?_
        refine own_gs 352 [(.int (4 : Int32)), (.ref b36), (.ref b36)] (fun t' k => XS.iconst X40.here hx rfl (hb hby at_351) k) ?_
        refine own_gs 353 [(.int (3 : Int32)), (.int (4 : Int32)), (.ref b36), (.ref b36)] (fun t' k => XS.iconst X40.here hx rfl (hb hby at_352) k) ?_
        refine X40.stI hx hZ e40 A_b36 g_b36 4 (by decide) (Nat.le_of_ble_eq_true rfl) (hb hby at_353) ?_
        intro T41 h41 X41 e41 W41 A41
        replace A_b36 : own_A Z h41 .int b36 [(.int (0 : Int32)), (.int (0 : Int32)), (.int (1 : Int32)), (.int (2 : Int32)), (.int (3 : Int32)), (.int (0 : Int32)), (.int (0 : Int32)), (.int (0 : Int32))] := A41
        clear A41
        replace A_b27 := A_b27.other W41 (Nat.ne_of_lt lt_b27_b36)
        replace hn := Nat.le_trans hn (Keep.of_wr W41).1
        refine own_gs 355 [(.ref b36), (.ref b36)] (fun t' k => XS.dup X41.here hx rfl (hb hby at_354) rfl rfl k) ?_
        refine own_gs 356 [(.int (5 : Int32)), (.ref b36), (.ref b36)] (fun t' k => XS.iconst X41.here hx rfl (hb hby at_355) k) ?_
        refine own_gs 357 [(.int (1 : Int32)), (.int (5 : Int32)), (.ref b36), (.ref b36)] (fun t' k => XS.iconst X41.here hx rfl (hb hby at_356) k) ?_
        refine X41.stI hx hZ e41 A_b36 g_b36 5 (by decide) (Nat.le_of_ble_eq_true rfl) (hb hby at_357) ?_
        intro T42 h42 X42 e42 W42 A42
        replace A_b36 : own_A Z h42 .int b36 [(.int (0 : Int32)), (.int (0 : Int32)), (.int (1 : Int32)), (.int (2 : Int32)), (.int (3 : Int32)), (.int (1 : Int32)), (.int (0 : Int32)), (.int (0 : Int32))] := A42
        clear A42
        replace A_b27 := A_b27.other W42 (Nat.ne_of_lt lt_b27_b36)
        replace hn := Nat.le_trans hn (Keep.of_wr W42).1
        refine own_gs 359 [(.ref b36), (.ref b36)] (fun t' k => XS.dup X42.here hx rfl (hb hby at_358) rfl rfl k) ?_
        refine own_gs 361 [(.int (6 : Int32)), (.ref b36), (.ref b36)] (fun t' k => XS.bipush X42.here hx rfl (hb hby at_359) k) ?_
        refine own_gs 362 [(.int (3 : Int32)), (.int (6 : Int32)), (.ref b36), (.ref b36)] (fun t' k => XS.iconst X42.here hx rfl (hb hby at_361) k) ?_
        refine X42.stI hx hZ e42 A_b36 g_b36 6 (by decide) (Nat.le_of_ble_eq_true rfl) (hb hby at_362) ?_
        intro T43 h43 X43 e43 W43 A43
        replace A_b36 : own_A Z h43 .int b36 [(.int (0 : Int32)), (.int (0 : Int32)), (.int (1 : Int32)), (.int (2 : Int32)), (.int (3 : Int32)), (.int (1 : Int32)), (.int (3 : Int32)), (.int (0 : Int32))] := A43
        clear A43
        replace A_b27 := A_b27.other W43 (Nat.ne_of_lt lt_b27_b36)
        replace hn := Nat.le_trans hn (Keep.of_wr W43).1
        refine own_gs 364 [(.ref b36), (.ref b36)] (fun t' k => XS.dup X43.here hx rfl (hb hby at_363) rfl rfl k) ?_
        refine own_gs 366 [(.int (7 : Int32)), (.ref b36), (.ref b36)] (fun t' k => XS.bipush X43.here hx rfl (hb hby at_364) k) ?_
        refine own_gs 367 [(.int (4 : Int32)), (.int (7 : Int32)), (.ref b36), (.ref b36)] (fun t' k => XS.iconst X43.here hx rfl (hb hby at_366) k) ?_
        refine X43.stI hx hZ e43 A_b36 g_b36 7 (by decide) (Nat.le_of_ble_eq_true rfl) (hb hby at_367) ?_
        intro T44 h44 X44 e44 W44 A44
        replace A_b36 : own_A Z h44 .int b36 [(.int (0 : Int32)), (.int (0 : Int32)), (.int (1 : Int32)), (.int (2 : Int32)), (.int (3 : Int32)), (.int (1 : Int32)), (.int (3 : Int32)), (.int (4 : Int32))] := A44
        clear A44
        replace A_b27 := A_b27.other W44 (Nat.ne_of_lt lt_b27_b36)
        replace hn := Nat.le_trans hn (Keep.of_wr W44).1
        refine own_go (mkF m 370 #[iv x0, iv x1, jv x2, .second, jv x3, .second, jv x4, .second, iv (x0 &&& (3 : Int32)), jv (Int64.ofInt (Aa)), .second, jv (Int64.ofInt (B)), .second, jv ov, .second, jv (Int64.ofInt (5 * Aa)), .second, iv cv, jv xv, .second, rv b27, rv b36, .unset, .unset, .unset] []) (fun t' k => XS.astore X44.here hx rfl (hb hby at_368) rfl rfl rfl k) ?_
        obtain ⟨thc, alc, a64, hth, hal, hpk, hq1, hq2, hq3, hq4⟩ := own_get8 (A := Aa) hA1' hA2' hci2
        have JF : ∀ (ex : Int32), (ex = (own_e5 cv alc xv thc)) → own_G p e below s (own_Q h0.size (fun v h => v = some (.int 1))) room_1.cells room_1.slots T44 (mkF m 391 #[iv x0, iv x1, jv x2, .second, jv x3, .second, jv x4, .second, iv (x0 &&& (3 : Int32)), jv (Int64.ofInt (Aa)), .second, jv (Int64.ofInt (B)), .second, jv ov, .second, jv (Int64.ofInt (5 * Aa)), .second, iv cv, jv xv, .second, rv b27, rv b36, .unset, .unset, .unset] [(.int ex)]) := by
          intro ex hJF
          refine own_go (mkF m 393 #[iv x0, iv x1, jv x2, .second, jv x3, .second, jv x4, .second, iv (x0 &&& (3 : Int32)), jv (Int64.ofInt (Aa)), .second, jv (Int64.ofInt (B)), .second, jv ov, .second, jv (Int64.ofInt (5 * Aa)), .second, iv cv, jv xv, .second, rv b27, rv b36, iv ex, .unset, .unset] []) (fun t' k => XS.istore X44.here hx rfl (hb hby at_391) rfl rfl k) ?_
          refine own_gs 394 [(.int (5 : Int32))] (fun t' k => XS.iconst X44.here hx rfl (hb hby at_393) k) ?_
          refine X44.newP hx hZ (hw _ (List.mem_of_getElem? (i := 2) rfl)) e44 5 (by decide) (hb hby at_394) 5 (by decide) (by decide) (by decide) (by decide) ?_
          intro T45 h45 b45 X45 e45 q45 xt45 A_b45
          have g_b45 : h0.size ≤ b45 := by rw [q45]; exact hn
          have lt_b27_b45 : b27 < b45 := by rw [q45]; exact A_b27.lt
          have lt_b36_b45 : b36 < b45 := by rw [q45]; exact A_b36.lt
          replace A_b27 := A_b27.ext xt45
          replace A_b36 := A_b36.ext xt45
          replace hn := Nat.le_trans hn xt45.1
          replace A_b45 : own_A Z h45 .long b45 [(.long (0 : Int64)), (.long (0 : Int64)), (.long (0 : Int64)), (.long (0 : Int64)), (.long (0 : Int64))] := A_b45
          refine own_gs 397 [(.ref b45), (.ref b45)] (fun t' k => XS.dup X45.here hx rfl (hb hby at_396) rfl rfl k) ?_
          refine own_gs 398 [(.int (0 : Int32)), (.ref b45), (.ref b45)] (fun t' k => XS.iconst X45.here hx rfl (hb hby at_397) k) ?_
          refine own_gs 400 [(.long (Int64.ofInt (Aa))), (.int (0 : Int32)), (.ref b45), (.ref b45)] (fun t' k => XS.lload X45.here hx rfl (hb hby at_398) rfl  k) ?_
          refine X45.stJ hx hZ e45 A_b45 g_b45 0 (by decide) (Nat.le_of_ble_eq_true rfl) (hb hby at_400) ?_
          intro T46 h46 X46 e46 W46 A46
          replace A_b45 : own_A Z h46 .long b45 [(.long (Int64.ofInt (Aa))), (.long (0 : Int64)), (.long (0 : Int64)), (.long (0 : Int64)), (.long (0 : Int64))] := A46
          clear A46
          replace A_b27 := A_b27.other W46 (Nat.ne_of_lt lt_b27_b45)
          replace A_b36 := A_b36.other W46 (Nat.ne_of_lt lt_b36_b45)
          replace hn := Nat.le_trans hn (Keep.of_wr W46).1
          refine own_gs 402 [(.ref b45), (.ref b45)] (fun t' k => XS.dup X46.here hx rfl (hb hby at_401) rfl rfl k) ?_
          refine own_gs 403 [(.int (1 : Int32)), (.ref b45), (.ref b45)] (fun t' k => XS.iconst X46.here hx rfl (hb hby at_402) k) ?_
          refine own_gs 405 [(.long (Int64.ofInt (Aa))), (.int (1 : Int32)), (.ref b45), (.ref b45)] (fun t' k => XS.lload X46.here hx rfl (hb hby at_403) rfl  k) ?_
          refine X46.stJ hx hZ e46 A_b45 g_b45 1 (by decide) (Nat.le_of_ble_eq_true rfl) (hb hby at_405) ?_
          intro T47 h47 X47 e47 W47 A47
          replace A_b45 : own_A Z h47 .long b45 [(.long (Int64.ofInt (Aa))), (.long (Int64.ofInt (Aa))), (.long (0 : Int64)), (.long (0 : Int64)), (.long (0 : Int64))] := A47
          clear A47
          replace A_b27 := A_b27.other W47 (Nat.ne_of_lt lt_b27_b45)
          replace A_b36 := A_b36.other W47 (Nat.ne_of_lt lt_b36_b45)
          replace hn := Nat.le_trans hn (Keep.of_wr W47).1
          refine own_gs 407 [(.ref b45), (.ref b45)] (fun t' k => XS.dup X47.here hx rfl (hb hby at_406) rfl rfl k) ?_
          refine own_gs 408 [(.int (2 : Int32)), (.ref b45), (.ref b45)] (fun t' k => XS.iconst X47.here hx rfl (hb hby at_407) k) ?_
          refine own_gs 410 [(.long (Int64.ofInt (Aa))), (.int (2 : Int32)), (.ref b45), (.ref b45)] (fun t' k => XS.lload X47.here hx rfl (hb hby at_408) rfl  k) ?_
          refine X47.stJ hx hZ e47 A_b45 g_b45 2 (by decide) (Nat.le_of_ble_eq_true rfl) (hb hby at_410) ?_
          intro T48 h48 X48 e48 W48 A48
          replace A_b45 : own_A Z h48 .long b45 [(.long (Int64.ofInt (Aa))), (.long (Int64.ofInt (Aa))), (.long (Int64.ofInt (Aa))), (.long (0 : Int64)), (.long (0 : Int64))] := A48
          clear A48
          replace A_b27 := A_b27.other W48 (Nat.ne_of_lt lt_b27_b45)
          replace A_b36 := A_b36.other W48 (Nat.ne_of_lt lt_b36_b45)
          replace hn := Nat.le_trans hn (Keep.of_wr W48).1
          refine own_gs 412 [(.ref b45), (.ref b45)] (fun t' k => XS.dup X48.here hx rfl (hb hby at_411) rfl rfl k) ?_
          refine own_gs 413 [(.int (3 : Int32)), (.ref b45), (.ref b45)] (fun t' k => XS.iconst X48.here hx rfl (hb hby at_412) k) ?_
          refine own_gs 415 [(.long (Int64.ofInt (Aa))), (.int (3 : Int32)), (.ref b45), (.ref b45)] (fun t' k => XS.lload X48.here hx rfl (hb hby at_413) rfl  k) ?_
          refine X48.stJ hx hZ e48 A_b45 g_b45 3 (by decide) (Nat.le_of_ble_eq_true rfl) (hb hby at_415) ?_
          intro T49 h49 X49 e49 W49 A49
          replace A_b45 : own_A Z h49 .long b45 [(.long (Int64.ofInt (Aa))), (.long (Int64.ofInt (Aa))), (.long (Int64.ofInt (Aa))), (.long (Int64.ofInt (Aa))), (.long (0 : Int64))] := A49
          clear A49
          replace A_b27 := A_b27.other W49 (Nat.ne_of_lt lt_b27_b45)
          replace A_b36 := A_b36.other W49 (Nat.ne_of_lt lt_b36_b45)
          replace hn := Nat.le_trans hn (Keep.of_wr W49).1
          refine own_gs 417 [(.ref b45), (.ref b45)] (fun t' k => XS.dup X49.here hx rfl (hb hby at_416) rfl rfl k) ?_
          refine own_gs 418 [(.int (4 : Int32)), (.ref b45), (.ref b45)] (fun t' k => XS.iconst X49.here hx rfl (hb hby at_417) k) ?_
          refine own_gs 420 [(.long (Int64.ofInt (Aa))), (.int (4 : Int32)), (.ref b45), (.ref b45)] (fun t' k => XS.lload X49.here hx rfl (hb hby at_418) rfl  k) ?_
          refine X49.stJ hx hZ e49 A_b45 g_b45 4 (by decide) (Nat.le_of_ble_eq_true rfl) (hb hby at_420) ?_
          intro T50 h50 X50 e50 W50 A50
          replace A_b45 : own_A Z h50 .long b45 [(.long (Int64.ofInt (Aa))), (.long (Int64.ofInt (Aa))), (.long (Int64.ofInt (Aa))), (.long (Int64.ofInt (Aa))), (.long (Int64.ofInt (Aa)))] := A50
          clear A50
          replace A_b27 := A_b27.other W50 (Nat.ne_of_lt lt_b27_b45)
          replace A_b36 := A_b36.other W50 (Nat.ne_of_lt lt_b36_b45)
          replace hn := Nat.le_trans hn (Keep.of_wr W50).1
          refine own_go (mkF m 423 #[iv x0, iv x1, jv x2, .second, jv x3, .second, jv x4, .second, iv (x0 &&& (3 : Int32)), jv (Int64.ofInt (Aa)), .second, jv (Int64.ofInt (B)), .second, jv ov, .second, jv (Int64.ofInt (5 * Aa)), .second, iv cv, jv xv, .second, rv b27, rv b36, iv ex, rv b45, .unset] []) (fun t' k => XS.astore X50.here hx rfl (hb hby at_421) rfl rfl rfl k) ?_
          refine X50.newO hx hZ hown (hw _ (List.mem_of_getElem? (i := 3) rfl)) (hw _ (List.mem_of_getElem? (i := 4) rfl)) (hw _ (List.mem_of_getElem? (i := 5) rfl)) e50 (hb hby at_423) (by decide) (by decide) ?_
          intro T51 h51 b51 X51 e51 q51 xt51 E_b51 D51
          have g_b51 : h0.size ≤ b51 := by rw [q51]; exact hn
          have lt_b27_b51 : b27 < b51 := by rw [q51]; exact A_b27.lt
          have lt_b36_b51 : b36 < b51 := by rw [q51]; exact A_b36.lt
          have lt_b45_b51 : b45 < b51 := by rw [q51]; exact A_b45.lt
          replace A_b27 := A_b27.ext xt51
          replace A_b36 := A_b36.ext xt51
          replace A_b45 := A_b45.ext xt51
          replace hn := Nat.le_trans hn xt51.1
          have F_b51_shift : Fld Z h51 b51 "com/example/load_across_peers/loadacrosspeers/internal/pick/AliasTable" "shift" "I" (.int (0 : Int32)) := D51 (Or.inr (hw _ (List.mem_of_getElem? (i := 18) rfl))) (ty := .int) (by decide)
          have F_b51_total : Fld Z h51 b51 "com/example/load_across_peers/loadacrosspeers/internal/pick/AliasTable" "total" "J" (.long (0 : Int64)) := D51 (Or.inr (hw _ (List.mem_of_getElem? (i := 20) rfl))) (ty := .long) (by decide)
          have F_b51_packed : Fld Z h51 b51 "com/example/load_across_peers/loadacrosspeers/internal/pick/AliasTable" "packed" "[J" .null := D51 (Or.inr (hw _ (List.mem_of_getElem? (i := 23) rfl))) (ty := (.array .long)) (by decide)
          have F_b51_thresholds : Fld Z h51 b51 "com/example/load_across_peers/loadacrosspeers/internal/pick/AliasTable" "thresholds" "[J" .null := D51 (Or.inr (hw _ (List.mem_of_getElem? (i := 25) rfl))) (ty := (.array .long)) (by decide)
          have F_b51_aliases : Fld Z h51 b51 "com/example/load_across_peers/loadacrosspeers/internal/pick/AliasTable" "aliases" "[I" .null := D51 (Or.inr (hw _ (List.mem_of_getElem? (i := 27) rfl))) (ty := (.array .int)) (by decide)
          refine own_gs 427 [(.ref b51), (.ref b51)] (fun t' k => XS.dup X51.here hx rfl (hb hby at_426) rfl rfl k) ?_
          refine own_gs 429 [(.ref b45), (.ref b51), (.ref b51)] (fun t' k => XS.aload X51.here hx rfl (hb hby at_427) rfl rfl  k) ?_
          refine X51.callI hx hZ (y := (⟨"com/example/load_across_peers/loadacrosspeers/internal/pick/AliasTable", "<init>", "([J)V"⟩ : MethodName)) rfl hown (hw _ (List.mem_of_getElem? (i := 6) rfl)) (hw _ (List.mem_of_getElem? (i := 7) rfl)) (hw _ (List.mem_of_getElem? (i := 5) rfl)) (hw _ (List.mem_of_getElem? (i := 8) rfl)) (by decide) e51 b51 [(.ref b45)] [(.ref b51)] (own_rmI5 l Z a0 hw [] h51 h0.size hn b51 b45 g_b51 (Ne.symm (Nat.ne_of_lt lt_b45_b51)) Aa hA1' hA2' E_b51 A_b45 F_b51_shift F_b51_total F_b51_packed F_b51_thresholds F_b51_aliases) 1 (by decide) (by decide) (Nat.le_of_eq rfl) (by decide) (by decide) (by rw [hml]; rfl) (lenOf own_pd1 rfl) rfl (hb hby at_429) ?_
          rintro T52 _ X52 ⟨rfl, hn52, E_t, HT⟩
          replace hn := hn52
          show own_G p e below s _ _ _ T52 (mkF m 432 #[iv x0, iv x1, jv x2, .second, jv x3, .second, jv x4, .second, iv (x0 &&& (3 : Int32)), jv (Int64.ofInt (Aa)), .second, jv (Int64.ofInt (B)), .second, jv ov, .second, jv (Int64.ofInt (5 * Aa)), .second, iv cv, jv xv, .second, rv b27, rv b36, iv ex, rv b45, .unset] [(.ref b51)])
          refine own_go (mkF m 434 #[iv x0, iv x1, jv x2, .second, jv x3, .second, jv x4, .second, iv (x0 &&& (3 : Int32)), jv (Int64.ofInt (Aa)), .second, jv (Int64.ofInt (B)), .second, jv ov, .second, jv (Int64.ofInt (5 * Aa)), .second, iv cv, jv xv, .second, rv b27, rv b36, iv ex, rv b45, rv b51] []) (fun t' k => XS.astore X52.here hx rfl (hb hby at_432) rfl rfl rfl k) ?_
          refine own_gs 436 [(.ref b51)] (fun t' k => XS.aload X52.here hx rfl (hb hby at_434) rfl rfl  k) ?_
          refine own_gs 438 [(.int cv), (.ref b51)] (fun t' k => XS.iload X52.here hx rfl (hb hby at_436) rfl  k) ?_
          refine own_gs 440 [(.long xv), (.int cv), (.ref b51)] (fun t' k => XS.lload X52.here hx rfl (hb hby at_438) rfl  k) ?_
          rcases HT with ⟨hle, bb, HF, HA⟩ | ⟨HF, bb, bb', HG, HG2, HA, HA2⟩
          · skip
            refine X52.callV hx hZ (y := (⟨"com/example/load_across_peers/loadacrosspeers/internal/pick/AliasTable", "owner", "(IJ)I"⟩ : MethodName)) (C := "com/example/load_across_peers/loadacrosspeers/internal/pick/AliasTable") hown (hw _ (List.mem_of_getElem? (i := 28) rfl)) (hw _ (List.mem_of_getElem? (i := 29) rfl)) (hw _ (List.mem_of_getElem? (i := 31) rfl)) (hw _ (List.mem_of_getElem? (i := 30) rfl)) (hw _ (List.mem_of_getElem? (i := 5) rfl)) (hw _ (List.mem_of_getElem? (i := 32) rfl)) (by decide) rfl E_t [(.int cv), (.long xv)] [] (own_rmOA l Z a0 hw [] T52.heap h0.size hn b51 bb cv xv (own_pw thc a64) ci hci _ hpk HF HA) 0 (by decide) (by decide) (Nat.le_of_eq rfl) (by decide) (by decide) (by rw [hml]; rfl) (lenOf own_pd2 rfl) rfl (hb hby at_440) ?_
            rintro T53 _ X53 ⟨rfl, e53⟩
            show own_G p e below s _ _ _ T53 (mkF m 443 #[iv x0, iv x1, jv x2, .second, jv x3, .second, jv x4, .second, iv (x0 &&& (3 : Int32)), jv (Int64.ofInt (Aa)), .second, jv (Int64.ofInt (B)), .second, jv ov, .second, jv (Int64.ofInt (5 * Aa)), .second, iv cv, jv xv, .second, rv b27, rv b36, iv ex, rv b45, rv b51] [(.int (own_ownA cv xv (own_pw thc a64)))])
            refine own_gs 445 [(.int ex), (.int (own_ownA cv xv (own_pw thc a64)))] (fun t' k => XS.iload X53.here hx rfl (hb hby at_443) rfl  k) ?_
            refine own_gs 448 [] (fun t' k => XS.icmpNo X53.here hx rfl (hb hby at_445) rfl (teq ((own_AA hx0 (by omega) hq3 (by omega) hq1 hq2).trans hJF.symm)).2 k) ?_
            refine own_gs 449 [(.int (1 : Int32))] (fun t' k => XS.iconst X53.here hx rfl (hb hby at_448) k) ?_
            refine own_gs 453 [(.int (1 : Int32))] (fun t' k => XS.goto X53.here hx rfl (pc0 := 449) (pc' := 453) rfl (hb hby at_449) (by decide) (by decide) k) ?_
            refine X53.retZ hx hlk hret (hb hby at_453) ?_ (by decide) (by decide)
            exact rfl
          · skip
            refine X52.callV hx hZ (y := (⟨"com/example/load_across_peers/loadacrosspeers/internal/pick/AliasTable", "owner", "(IJ)I"⟩ : MethodName)) (C := "com/example/load_across_peers/loadacrosspeers/internal/pick/AliasTable") hown (hw _ (List.mem_of_getElem? (i := 28) rfl)) (hw _ (List.mem_of_getElem? (i := 29) rfl)) (hw _ (List.mem_of_getElem? (i := 31) rfl)) (hw _ (List.mem_of_getElem? (i := 30) rfl)) (hw _ (List.mem_of_getElem? (i := 5) rfl)) (hw _ (List.mem_of_getElem? (i := 32) rfl)) (by decide) rfl E_t [(.int cv), (.long xv)] [] (own_rmOB l Z a0 hw [] T52.heap h0.size hn b51 bb bb' cv xv thc alc ci hci _ _ hth hal HF HG HG2 HA HA2) 0 (by decide) (by decide) (Nat.le_of_eq rfl) (by decide) (by decide) (by rw [hml]; rfl) (lenOf own_pd2 rfl) rfl (hb hby at_440) ?_
            rintro T54 _ X54 ⟨rfl, e54⟩
            show own_G p e below s _ _ _ T54 (mkF m 443 #[iv x0, iv x1, jv x2, .second, jv x3, .second, jv x4, .second, iv (x0 &&& (3 : Int32)), jv (Int64.ofInt (Aa)), .second, jv (Int64.ofInt (B)), .second, jv ov, .second, jv (Int64.ofInt (5 * Aa)), .second, iv cv, jv xv, .second, rv b27, rv b36, iv ex, rv b45, rv b51] [(.int (own_ownB cv xv thc alc))])
            refine own_gs 445 [(.int ex), (.int (own_ownB cv xv thc alc))] (fun t' k => XS.iload X54.here hx rfl (hb hby at_443) rfl  k) ?_
            refine own_gs 448 [] (fun t' k => XS.icmpNo X54.here hx rfl (hb hby at_445) rfl (teq ((own_AB hx0 (by omega) hq3 (by omega)).trans hJF.symm)).2 k) ?_
            refine own_gs 449 [(.int (1 : Int32))] (fun t' k => XS.iconst X54.here hx rfl (hb hby at_448) k) ?_
            refine own_gs 453 [(.int (1 : Int32))] (fun t' k => XS.goto X54.here hx rfl (pc0 := 449) (pc' := 453) rfl (hb hby at_449) (by decide) (by decide) k) ?_
            refine X54.retZ hx hlk hret (hb hby at_453) ?_ (by decide) (by decide)
            exact rfl
        refine own_gs 372 [(.long xv)] (fun t' k => XS.lload X44.here hx rfl (hb hby at_370) rfl  k) ?_
        refine own_gs 374 [(.ref b27), (.long xv)] (fun t' k => XS.aload X44.here hx rfl (hb hby at_372) rfl rfl  k) ?_
        refine own_gs 376 [(.int cv), (.ref b27), (.long xv)] (fun t' k => XS.iload X44.here hx rfl (hb hby at_374) rfl  k) ?_
        refine X44.ldJ hx hZ e44 A_b27 (v := (.long thc)) ci hci hth (hb hby at_376) ?_
        refine own_gs 378 [(.int (lcmpW xv thc))] (fun t' k => XS.lcmp X44.here hx rfl (hb hby at_377) rfl k) ?_
        by_cases hc378 : xv < thc
        · skip
          refine own_gs 381 [] (fun t' k => XS.ifNo X44.here hx rfl (hb hby at_378) rfl ((if0 _ _).trans (tlt ((lw_lt xv thc).mpr hc378)).2.1) k) ?_
          refine own_gs 383 [(.int cv)] (fun t' k => XS.iload X44.here hx rfl (hb hby at_381) rfl  k) ?_
          refine own_gs 391 [(.int cv)] (fun t' k => XS.goto X44.here hx rfl (pc0 := 383) (pc' := 391) rfl (hb hby at_383) (by decide) (by decide) k) ?_
          exact JF (cv) (show cv = (own_e5 cv alc xv thc) from (show (own_e5 cv alc xv thc) = cv from ((if_pos hc378).trans rfl)).symm)
        · skip
          refine own_gs 386 [] (fun t' k => XS.ifYes X44.here hx rfl (pc0 := 378) (pc' := 386) rfl (hb hby at_378) rfl ((if0 _ _).trans (flt (fun q => hc378 ((lw_lt xv thc).mp q))).2.1) (by decide) (by decide) k) ?_
          refine own_gs 388 [(.ref b36)] (fun t' k => XS.aload X44.here hx rfl (hb hby at_386) rfl rfl  k) ?_
          refine own_gs 390 [(.int cv), (.ref b36)] (fun t' k => XS.iload X44.here hx rfl (hb hby at_388) rfl  k) ?_
          refine X44.ldI hx hZ e44 A_b36 (v := (.int alc)) ci hci hal (hb hby at_390) ?_
          exact JF (alc) (show alc = (own_e5 cv alc xv thc) from (show (own_e5 cv alc xv thc) = alc from ((if_neg hc378).trans rfl)).symm)
      refine own_gs 245 [(.long (Int64.ofInt (A)))] (fun t' k => XS.lload X0.here hx rfl (hb hby at_243) rfl  k) ?_
      refine own_gs 246 [(.long (0 : Int64)), (.long (Int64.ofInt (A)))] (fun t' k => XS.lconst X0.here hx rfl (hb hby at_245) k) ?_
      refine own_gs 247 [(.int (lcmpW (Int64.ofInt (A)) (0 : Int64)))] (fun t' k => XS.lcmp X0.here hx rfl (hb hby at_246) rfl k) ?_
      by_cases hc247 : (Int64.ofInt (A)) = (0 : Int64)
      · skip
        refine own_gs 250 [] (fun t' k => XS.ifNo X0.here hx rfl (hb hby at_247) rfl ((if0 _ _).trans (teq ((lw_eq (Int64.ofInt (A)) (0 : Int64)).mpr hc247)).2) k) ?_
        refine own_gs 251 [(.long (1 : Int64))] (fun t' k => XS.lconst X0.here hx rfl (hb hby at_250) k) ?_
        refine own_go (mkF m 253 #[iv x0, iv x1, jv x2, .second, jv x3, .second, jv x4, .second, iv (x0 &&& (3 : Int32)), jv (1 : Int64), .second, jv (Int64.ofInt (B)), .second, jv ov, .second, .unset, .unset, .unset, .unset, .unset, .unset, .unset, .unset, .unset, .unset] []) (fun t' k => XS.lstore X0.here hx rfl (hb hby at_251) rfl rfl k) ?_
        exact JC ((1 : Int64)) ⟨1, rfl, by decide, by decide⟩
      · skip
        refine own_gs 253 [] (fun t' k => XS.ifYes X0.here hx rfl (pc0 := 247) (pc' := 253) rfl (hb hby at_247) rfl ((if0 _ _).trans (feq (fun q => hc247 ((lw_eq (Int64.ofInt (A)) (0 : Int64)).mp q))).2) (by decide) (by decide) k) ?_
        exact JC ((Int64.ofInt (A))) ⟨A, rfl, by have := own_ne0 hc247; omega, hA2⟩

set_option maxRecDepth 65536 in
set_option maxHeartbeats 40000000 in
theorem comes_1 {Post : Tables → Env → Array Value → State → Outcome → State → Prop} (hpost : ∀ tb e args s v u, (limb_1_1.after args s (.returned v) u = true ∧ limb_1_2.after args s (.returned v) u = true ∧ True) → FrameEnd s (.returned v) u (Jvm.fieldLocs frame_1_writes args s ++ Jvm.arrayLocs frame_1_arrays args s ++ Jvm.staticLocs frame_1_statics s) 32 256 → Post tb e args s (.returned v) u) :
    ArmFor flags0 classFile x code maxLocals ret World_1 tables_1 room_1 Calls_1 rest_1 Pre_1 Post := by
  intro l hfl _ _ p e ha hc hk s m args below hf hA hF happ hP
  obtain ⟨hcalls, hrest, hpre⟩ := hP
  obtain ⟨-, -, -, hnamed, -, -, -, hat⟩ := (Spec.applies_iff hf).mp happ
  obtain ⟨hg, hn⟩ := and_e (Cond.before_iff.mp (show (Jvm.Cond.and given_1 narrow_1).before args s = true from hpre))
  obtain ⟨g1, g2⟩ := and_e hg
  obtain ⟨g3, g4⟩ := and_e g2
  obtain ⟨g5, g6⟩ := and_e g4
  obtain ⟨g7, g8⟩ := and_e g6
  obtain ⟨g9, g10⟩ := and_e g8
  obtain ⟨w0, w1, w2, w3, w4, rfl⟩ : ∃ w0 w1 w2 w3 w4 : Value, args = #[w0, w1, w2, w3, w4] := by
    have hs : args.size = 5 := by simpa [Cond.value, given_1] using g1
    obtain ⟨L⟩ := args
    match L, hs with
    | [w0, w1, w2, w3, w4], _ => exact ⟨w0, w1, w2, w3, w4, rfl⟩
  have hw := fun d (hd : d ∈ tables_1) => atoms_spec (ws := Jvm.Cond.code x code maxLocals ret :: tables_1) hat d (List.mem_cons_of_mem _ hd)
  obtain ⟨i0, ei0⟩ := is_v g3
  obtain rfl : w0 = (.int i0) := Option.some.inj ei0
  obtain ⟨i1, ei1⟩ := is_v g5
  obtain rfl : w1 = (.int i1) := Option.some.inj ei1
  obtain ⟨i2, ei2⟩ := isL_v g7
  obtain rfl : w2 = (.long i2) := Option.some.inj ei2
  obtain ⟨i3, ei3⟩ := isL_v g9
  obtain rfl : w3 = (.long i3) := Option.some.inj ei3
  obtain ⟨i4, ei4⟩ := isL_v g10
  obtain rfl : w4 = (.long i4) := Option.some.inj ei4
  obtain ⟨n, o, h1, h2, h3, _, L, rfl, ⟨N, rfl⟩, hq⟩ := own_rm0 l s _ hw tables_1 s.heap i0 i1 i2 i3 i4  p e ha hc hk s m _ below hf ((Spec.applies_iff_loose hf).mp happ).1 ⟨rfl, State.Warmed39.refl s, rfl⟩ trivial
  refine ⟨n, _, h1, h2, h3, hpost _ _ _ _ _ _ ⟨Cond.after_iff.mpr rfl, Cond.after_iff.mpr (eq_i res_at (Term.int_eval (1)) rfl), trivial⟩ ⟨hq.1, hq.2.1, (hq.2.2.sift fun y hy => Or.inr (N y hy)).mono (by decide) (by decide)⟩⟩
theorem main_1_1 : Claimed_1_1 := comes_1 fun _ _ _ _ _ _ h hF => ⟨h.1, hF⟩
theorem main_1_2 : Claimed_1_2 := comes_1 fun _ _ _ _ _ _ h hF => ⟨h.2.1, hF⟩
end Jvm.Pilot.@@N@@
namespace Jvm.Pilot.@@N@@
open Jvm Jvm.ClassFile Sem Op Lib Jvm.Free Jvm.Stand Jvm.Pilot.@@N@@.Jvm.D
/-! MADE BY PROGRAM (witnessworld.py) out of the Statement's table words and the real class files: 16 classes; the members and pool entries that the words name. The judged class is class 1, her method 1. -/
namespace start1
open Jvm.ClassFile
def u (s : String) : CpInfo := .utf8 (stringToUtf16 s)
/-- a pool by its gaps: so many unusable entries, then the entry; so many at the end -/
def gap : Nat → List CpInfo → List CpInfo
  | 0, r => r
  | n + 1, r => .unusable :: gap n r
def poolList (es : List (Nat × CpInfo)) (last : Nat) : List CpInfo := es.foldr (fun e r => gap e.1 (e.2 :: r)) (gap last [])
def pool (es : List (Nat × CpInfo)) (last : Nat) : Array CpInfo := ⟨poolList es last⟩
def fileOf (pool : Array CpInfo) (this : Nat) (attrs : Array Attribute := #[]) (ms : Array MethodInfo := #[]) (fl : Nat := 33) (sup : Nat := 0) (ifs : Array Nat := #[]) (fds : Array FieldInfo := #[]) : ClassFile where
  minorVersion := 0
  majorVersion := 65
  constantPool := pool
  accessFlags := fl
  thisClass := this
  superClass := sup
  interfaces := ifs
  fields := fds
  methods := ms
  attributes := attrs
def plain (name : String) (sup : Option ClassId) : Class where
  name := name
  kind := .ordinary
  loader := none
  accessFlags := 33
  super := sup
  interfaces := #[]
  cf := none
  fields := #[]
  methods := #[]
  instanceTypes := #[]
  staticTypes := #[]
  resolved := #[]
  callSites := []
  init := .initialized
  statics := none
  mirror := none

def pool0 : Array CpInfo := pool [(5, u "<init>"), (0, u "()V"), (1, .class_ 10), (1, u "java/lang/Object")] 113

def k0c0 : Code := { maxStack := 0, maxLocals := 1, code := object_method_1_code, exceptionTable := #[], attributes := #[] }
def k0m0 : Method := { name := "<init>", desc := "()V", sig := { parameters := [], returnType := none }, accessFlags := 1, code := some k0c0 }
/-- java/lang/Object -/
def k0 : Class := { plain "java/lang/Object" none with
  accessFlags := 33
  interfaces := #[]
  cf := some (fileOf pool0 8 #[] #[{ accessFlags := 1, nameIndex := 5, descriptorIndex := 6, attributes := #[] }] 33 0 #[] #[])
  fields := #[]
  methods := #[k0m0]
  instanceTypes := #[]
  staticTypes := #[]
  resolved := Array.replicate 124 none
  statics := none }

def pool1 : Array CpInfo := pool [(2, .class_ 4), (1, u "java/lang/Object"), (0, u "<init>"), (0, u "()V"), (0, .long 2147483647), (3, .long 9223372036854775807), (1, .class_ 14), (0, u "com/example/load_across_peers/loadacrosspeers/internal/pick/AliasTable"), (0, .methodref 13 16), (0, .nameAndType 5 17), (0, u "([J)V"), (0, .methodref 13 19), (0, .nameAndType 20 21), (0, u "owner"), (0, u "(IJ)I"), (0, .long 2), (1, .long 5), (1, .long 4), (1, .long 3), (1, .class_ 31), (0, u "com/example/load_across_peers/loadacrosspeers/internal/pick/AliasTableOwnerPinLaw"), (2, u "law"), (0, u "(IIJJJ)Z")] 7

def k1m0 : Method := { name := "<init>", desc := "()V", sig := { parameters := [], returnType := none }, accessFlags := 1, code := none }
def k1c1 : Code := { maxStack := 7, maxLocals := 25, code := code, exceptionTable := #[], attributes := #[] }
def k1m1 : Method := { name := "law", desc := "(IIJJJ)Z", sig := { parameters := [.int, .int, .long, .long, .long], returnType := some .boolean }, accessFlags := 9, code := some k1c1 }
/-- com/example/load_across_peers/loadacrosspeers/internal/pick/AliasTableOwnerPinLaw -/
def k1 : Class := { plain "com/example/load_across_peers/loadacrosspeers/internal/pick/AliasTableOwnerPinLaw" (some 0) with
  accessFlags := 49
  interfaces := #[]
  cf := some (fileOf pool1 30 #[] #[{ accessFlags := 1, nameIndex := 5, descriptorIndex := 6, attributes := #[] }, { accessFlags := 9, nameIndex := 34, descriptorIndex := 35, attributes := #[] }] 49 2 #[] #[])
  fields := #[]
  methods := #[k1m0, k1m1]
  instanceTypes := #[]
  staticTypes := #[]
  resolved := Array.replicate 43 none
  statics := none }

def pool2 : Array CpInfo := pool [(1, .class_ 2), (0, u "com/example/load_across_peers/loadacrosspeers/internal/pick/AliasTable"), (2, .methodref 6 7), (0, .class_ 8), (0, .nameAndType 9 10), (0, u "java/lang/Object"), (0, u "<init>"), (0, u "()V"), (0, .methodref 12 13), (0, .class_ 14), (0, .nameAndType 15 16), (0, u "java/lang/Integer"), (0, u "highestOneBit"), (0, u "(I)I"), (0, .methodref 12 18), (0, .nameAndType 19 16), (0, u "numberOfTrailingZeros"), (0, .fieldref 1 21), (0, .nameAndType 22 23), (0, u "shift"), (0, u "I"), (0, .fieldref 1 25), (0, .nameAndType 26 27), (0, u "total"), (0, u "J"), (0, .long 8589934592), (1, .fieldref 1 31), (0, .nameAndType 32 33), (0, u "packed"), (0, u "[J"), (0, .fieldref 1 35), (0, .nameAndType 36 33), (0, u "thresholds"), (0, .fieldref 1 38), (0, .nameAndType 39 40), (0, u "aliases"), (0, u "[I"), (14, u "owner"), (0, u "(IJ)I"), (0, .long 2147483647), (1, u "ALIAS_BITS"), (2, u "ALIAS_MASK"), (0, u "MOST_PACKED_TOTAL"), (0, u "([J)V")] 11

def k2c0 : Code := { maxStack := 8, maxLocals := 14, code := prog_10_method_1_code, exceptionTable := #[], attributes := #[] }
def k2m0 : Method := { name := "<init>", desc := "([J)V", sig := { parameters := [(.array .long)], returnType := none }, accessFlags := 0, code := some k2c0 }
def k2c1 : Code := { maxStack := 4, maxLocals := 9, code := prog_10_method_3_code, exceptionTable := #[], attributes := #[] }
def k2m1 : Method := { name := "owner", desc := "(IJ)I", sig := { parameters := [.int, .long], returnType := some .int }, accessFlags := 0, code := some k2c1 }
/-- com/example/load_across_peers/loadacrosspeers/internal/pick/AliasTable -/
def k2 : Class := { plain "com/example/load_across_peers/loadacrosspeers/internal/pick/AliasTable" (some 0) with
  accessFlags := 48
  interfaces := #[]
  cf := some (fileOf pool2 1 #[] #[{ accessFlags := 0, nameIndex := 9, descriptorIndex := 64, attributes := #[] }, { accessFlags := 0, nameIndex := 55, descriptorIndex := 56, attributes := #[] }] 48 6 #[] #[{ accessFlags := 26, nameIndex := 59, descriptorIndex := 23, attributes := #[] }, { accessFlags := 26, nameIndex := 62, descriptorIndex := 27, attributes := #[] }, { accessFlags := 26, nameIndex := 63, descriptorIndex := 27, attributes := #[] }, { accessFlags := 18, nameIndex := 32, descriptorIndex := 33, attributes := #[] }, { accessFlags := 18, nameIndex := 36, descriptorIndex := 33, attributes := #[] }, { accessFlags := 18, nameIndex := 39, descriptorIndex := 40, attributes := #[] }, { accessFlags := 18, nameIndex := 22, descriptorIndex := 23, attributes := #[] }, { accessFlags := 18, nameIndex := 26, descriptorIndex := 27, attributes := #[] }])
  fields := #[{ name := "ALIAS_BITS", type := .int, accessFlags := 26, slot := 0, constantValue := 0 }, { name := "ALIAS_MASK", type := .long, accessFlags := 26, slot := 1, constantValue := 0 }, { name := "MOST_PACKED_TOTAL", type := .long, accessFlags := 26, slot := 2, constantValue := 0 }, { name := "packed", type := (.array .long), accessFlags := 18, slot := 0, constantValue := 0 }, { name := "thresholds", type := (.array .long), accessFlags := 18, slot := 1, constantValue := 0 }, { name := "aliases", type := (.array .int), accessFlags := 18, slot := 2, constantValue := 0 }, { name := "shift", type := .int, accessFlags := 18, slot := 3, constantValue := 0 }, { name := "total", type := .long, accessFlags := 18, slot := 4, constantValue := 0 }]
  methods := #[k2m0, k2m1]
  instanceTypes := #[(.array .long), (.array .long), (.array .int), .int, .long]
  staticTypes := #[.int, .long, .long]
  resolved := Array.replicate 76 none
  statics := none }

def pool3 : Array CpInfo := pool [(1, .class_ 2), (0, u "java/io/Serializable"), (0, .class_ 4), (0, u "java/lang/Object")] 2

/-- java/io/Serializable -/
def k3 : Class := { plain "java/io/Serializable" (some 0) with
  accessFlags := 1537
  interfaces := #[]
  cf := some (fileOf pool3 1 #[] #[] 1537 3 #[] #[])
  fields := #[]
  methods := #[]
  instanceTypes := #[]
  staticTypes := #[]
  resolved := Array.replicate 7 none
  statics := none }

def pool4 : Array CpInfo := pool [(2, .class_ 4), (1, u "java/lang/Object"), (0, u "<init>"), (0, u "()V"), (1, .class_ 10), (1, u "java/lang/Number"), (2, .class_ 14), (0, u "java/io/Serializable"), (0, u "serialVersionUID"), (0, u "J")] 20

def k4m0 : Method := { name := "<init>", desc := "()V", sig := { parameters := [], returnType := none }, accessFlags := 1, code := none }
/-- java/lang/Number -/
def k4 : Class := { plain "java/lang/Number" (some 0) with
  accessFlags := 1057
  interfaces := #[3]
  cf := some (fileOf pool4 8 #[] #[{ accessFlags := 1, nameIndex := 5, descriptorIndex := 6, attributes := #[] }] 1057 2 #[13] #[{ accessFlags := 26, nameIndex := 15, descriptorIndex := 16, attributes := #[] }])
  fields := #[{ name := "serialVersionUID", type := .long, accessFlags := 26, slot := 0, constantValue := 0 }]
  methods := #[k4m0]
  instanceTypes := #[]
  staticTypes := #[.long]
  resolved := Array.replicate 37 none
  statics := none }

def pool5 : Array CpInfo := pool [(1, .class_ 2), (0, u "java/lang/Comparable"), (0, .class_ 4), (0, u "java/lang/Object")] 7

/-- java/lang/Comparable -/
def k5 : Class := { plain "java/lang/Comparable" (some 0) with
  accessFlags := 1537
  interfaces := #[]
  cf := some (fileOf pool5 1 #[] #[] 1537 3 #[] #[])
  fields := #[]
  methods := #[]
  instanceTypes := #[]
  staticTypes := #[]
  resolved := Array.replicate 12 none
  statics := none }

def pool6 : Array CpInfo := pool [(1, .class_ 2), (0, u "java/lang/constant/Constable"), (0, .class_ 4), (0, u "java/lang/Object")] 6

/-- java/lang/constant/Constable -/
def k6 : Class := { plain "java/lang/constant/Constable" (some 0) with
  accessFlags := 1537
  interfaces := #[]
  cf := some (fileOf pool6 1 #[] #[] 1537 3 #[] #[])
  fields := #[]
  methods := #[]
  instanceTypes := #[]
  staticTypes := #[]
  resolved := Array.replicate 11 none
  statics := none }

def pool7 : Array CpInfo := pool [(1, .class_ 2), (0, u "java/lang/constant/ConstantDesc"), (0, .class_ 4), (0, u "java/lang/Object")] 32

/-- java/lang/constant/ConstantDesc -/
def k7 : Class := { plain "java/lang/constant/ConstantDesc" (some 0) with
  accessFlags := 1537
  interfaces := #[]
  cf := some (fileOf pool7 1 #[] #[] 1537 3 #[] #[])
  fields := #[]
  methods := #[]
  instanceTypes := #[]
  staticTypes := #[]
  resolved := Array.replicate 37 none
  statics := none }

def pool8 : Array CpInfo := pool [(1, .class_ 2), (0, u "java/lang/Integer"), (16, u "digits"), (0, u "[C"), (30, .methodref 1 52), (0, .nameAndType 53 54), (0, u "numberOfLeadingZeros"), (0, u "(I)I"), (30, u "DigitOnes"), (0, u "[B"), (2, u "DigitTens"), (37, .integer 2147483648), (61, .class_ 190), (0, u "java/lang/Integer$IntegerCache"), (3, u "I"), (8, .class_ 204), (0, u "java/lang/Number"), (2, u "value"), (56, .integer 65536), (37, u "TYPE"), (0, u "Ljava/lang/Class;"), (0, .class_ 305), (0, u "java/lang/Comparable"), (0, .class_ 307), (0, u "java/lang/constant/Constable"), (0, .class_ 309), (0, u "java/lang/constant/ConstantDesc"), (0, u "MIN_VALUE"), (1, u "MAX_VALUE"), (3, u "SIZE"), (1, u "BYTES"), (1, u "serialVersionUID"), (0, u "J"), (81, u "highestOneBit"), (2, u "numberOfTrailingZeros")] 46

def k8c0 : Code := { maxStack := 3, maxLocals := 1, code := jdk_33_method_45_code, exceptionTable := #[], attributes := #[] }
def k8m0 : Method := { name := "highestOneBit", desc := "(I)I", sig := { parameters := [.int], returnType := some .int }, accessFlags := 9, code := some k8c0 }
def k8c1 : Code := { maxStack := 3, maxLocals := 2, code := jdk_33_method_47_code, exceptionTable := #[], attributes := #[] }
def k8m1 : Method := { name := "numberOfLeadingZeros", desc := "(I)I", sig := { parameters := [.int], returnType := some .int }, accessFlags := 9, code := some k8c1 }
def k8c2 : Code := { maxStack := 3, maxLocals := 2, code := jdk_33_method_48_code, exceptionTable := #[], attributes := #[] }
def k8m2 : Method := { name := "numberOfTrailingZeros", desc := "(I)I", sig := { parameters := [.int], returnType := some .int }, accessFlags := 9, code := some k8c2 }
/-- java/lang/Integer -/
def k8 : Class := { plain "java/lang/Integer" (some 4) with
  accessFlags := 49
  interfaces := #[5, 6, 7]
  cf := some (fileOf pool8 1 #[.nestMembers #[189]] #[{ accessFlags := 9, nameIndex := 403, descriptorIndex := 54, attributes := #[] }, { accessFlags := 9, nameIndex := 53, descriptorIndex := 54, attributes := #[] }, { accessFlags := 9, nameIndex := 406, descriptorIndex := 54, attributes := #[] }] 49 203 #[304, 306, 308] #[{ accessFlags := 25, nameIndex := 310, descriptorIndex := 194, attributes := #[] }, { accessFlags := 25, nameIndex := 312, descriptorIndex := 194, attributes := #[] }, { accessFlags := 25, nameIndex := 302, descriptorIndex := 303, attributes := #[] }, { accessFlags := 24, nameIndex := 19, descriptorIndex := 20, attributes := #[] }, { accessFlags := 24, nameIndex := 89, descriptorIndex := 86, attributes := #[] }, { accessFlags := 24, nameIndex := 85, descriptorIndex := 86, attributes := #[] }, { accessFlags := 18, nameIndex := 207, descriptorIndex := 194, attributes := #[] }, { accessFlags := 25, nameIndex := 316, descriptorIndex := 194, attributes := #[] }, { accessFlags := 25, nameIndex := 318, descriptorIndex := 194, attributes := #[] }, { accessFlags := 26, nameIndex := 320, descriptorIndex := 321, attributes := #[] }])
  fields := #[{ name := "MIN_VALUE", type := .int, accessFlags := 25, slot := 0, constantValue := 0 }, { name := "MAX_VALUE", type := .int, accessFlags := 25, slot := 1, constantValue := 0 }, { name := "TYPE", type := (.object "java/lang/Class"), accessFlags := 25, slot := 2, constantValue := 0 }, { name := "digits", type := (.array .char), accessFlags := 24, slot := 3, constantValue := 0 }, { name := "DigitTens", type := (.array .byte), accessFlags := 24, slot := 4, constantValue := 0 }, { name := "DigitOnes", type := (.array .byte), accessFlags := 24, slot := 5, constantValue := 0 }, { name := "value", type := .int, accessFlags := 18, slot := 0, constantValue := 0 }, { name := "SIZE", type := .int, accessFlags := 25, slot := 6, constantValue := 0 }, { name := "BYTES", type := .int, accessFlags := 25, slot := 7, constantValue := 0 }, { name := "serialVersionUID", type := .long, accessFlags := 26, slot := 8, constantValue := 0 }]
  methods := #[k8m0, k8m1, k8m2]
  instanceTypes := #[.int]
  staticTypes := #[.int, .int, (.object "java/lang/Class"), (.array .char), (.array .byte), (.array .byte), .int, .int, .long]
  resolved := Array.replicate 453 none
  statics := none }

def pool9 : Array CpInfo := pool [(1, u "java/lang/Cloneable"), (0, .class_ 1), (0, u "java/lang/Object"), (0, .class_ 3)] 3

/-- java/lang/Cloneable -/
def k9 : Class := { plain "java/lang/Cloneable" (some 0) with
  accessFlags := 1537
  interfaces := #[]
  cf := some (fileOf pool9 2 #[] #[] 1537 4 #[] #[])
  fields := #[]
  methods := #[]
  instanceTypes := #[]
  staticTypes := #[]
  resolved := Array.replicate 8 none
  statics := none }

/-- the primitive byte -/
def k10 : Class := { plain "byte" none with kind := .primitive 'B', accessFlags := 0x411 }
/-- [B -/
def k11 : Class := { plain "[B" (some 0) with kind := .array 10 .byte, interfaces := #[9, 3], accessFlags := 1041 }

/-- the primitive int -/
def k12 : Class := { plain "int" none with kind := .primitive 'I', accessFlags := 0x411 }
/-- [I -/
def k13 : Class := { plain "[I" (some 0) with kind := .array 12 .int, interfaces := #[9, 3], accessFlags := 1041 }

/-- the primitive long -/
def k14 : Class := { plain "long" none with kind := .primitive 'J', accessFlags := 0x411 }
/-- [J -/
def k15 : Class := { plain "[J" (some 0) with kind := .array 14 .long, interfaces := #[9, 3], accessFlags := 1041 }

def heap : Heap := #[]
def classes : Array Class := #[k0, k1, k2, k3, k4, k5, k6, k7, k8, k9, k10, k11, k12, k13, k14, k15]
def interned : List (Array UInt16 × Addr) := []
def slotsUsed : Nat := 0
def theMethod : MethodId := ⟨1, 1⟩
def args0 : Array Value := #[.int 5, .int 7, .long 9, .long 9, .long 9]
def aboutOver (below : List Frame) : State where
  vm := { classes := classes, interned := interned.toArray }
  heap := heap
  slotsUsed := slotsUsed
  threads := #[{ frames := .invoking theMethod args0 :: below }]
def below0 : List Frame := [.native { method := ⟨0, 0⟩, args := #[] }]
def about1 : State := aboutOver below0
def p0 : Program := .bare "" "" ""
def e0 : Env := launch0.env 0 0 0
theorem w_frames : about1.frames = Frame.invoking theMethod args0 :: below0 := rfl
set_option maxRecDepth 65536 in
theorem w_args : argsFit about1.vm theMethod args0 = true := by decide +kernel
set_option maxRecDepth 65536 in
theorem w_heap : heapFits about1 = true := by decide +kernel
set_option maxRecDepth 65536 in
theorem w_runnable : about1.curStatus? = some .runnable := by decide +kernel
set_option maxRecDepth 65536 in
theorem w_alone : about1.alone = true := by decide +kernel
set_option maxRecDepth 65536 in
theorem w_named : about1.methodNamed? x = some theMethod := by decide +kernel
set_option maxRecDepth 65536 in
theorem w_hears : about1.hears theMethod below0 = true := by decide +kernel
set_option maxRecDepth 65536 in
theorem w_ripe : about1.ripe theMethod args0 below0 = true := by decide +kernel
theorem w_running : about1.status = .running := rfl
set_option maxRecDepth 65536 in
theorem w_room : about1.hasRoom e0.platform room_1 = true :=
  launch0.hasRoom_least _ room_1 (by decide +kernel) (by decide +kernel) (by decide +kernel) (by decide +kernel) (by decide +kernel) (by decide +kernel)
theorem allAtoms_all (ts : List Jvm.Cond) (a : Array Jvm.Value) (st : Jvm.State) : (allAtoms ts).before a st = ts.all (fun c => c.before a st) := by
  induction ts with
  | nil => rfl
  | cons c t ih =>
    show (Jvm.Cond.and c (allAtoms t)).before a st = _
    rw [Jvm.Cond.before_and, ih, List.all_cons]
def words1 : List Jvm.Cond := Jvm.Cond.code x code maxLocals ret :: tables_1
/-- a 'code' word, met by the world's own term for the bytes: nothing is compared byte by byte -/
theorem code_word {y : MethodName} {bytes : ByteArray} {mx : Nat} {rt : Option FieldType} {a : Array Value} {s : State} {m : MethodId} {meth : Method} {c : Code} (h1 : s.methodNamed? y = some m) (h2 : s.vm.method? m = some meth) (h3 : meth.code = some c) (h4 : c.code = bytes)
    (h5 : (c.maxLocals == mx && c.exceptionTable.isEmpty && decide (c.maxStack ≤ mostOperands) && decide (meth.sig.returnType = rt) && !meth.locks && decide (parseMethodDescriptor y.desc = some meth.sig)) = true) : (Jvm.Cond.code y bytes mx rt).before a s = true := by
  simp only [Bool.and_eq_true, beq_iff_eq, Bool.not_eq_true', decide_eq_true_eq] at h5
  obtain ⟨⟨⟨⟨⟨g1, g2⟩, g3⟩, g4⟩, g5⟩, g6⟩ := h5
  simp [Cond.before, Cond.holds, Cond.value, h1, h2, h3, h4, g1, g2, g3, g4, g5, g6]
def isCode : Jvm.Cond → Bool
  | .code _ _ _ _ => true
  | _ => false
theorem all_split {L : List Jvm.Cond} {P : Jvm.Cond → Bool} (h1 : L.all (fun c => isCode c || P c) = true) (h2 : ∀ c ∈ L.filter isCode, P c = true) : L.all P = true := by
  refine List.all_eq_true.mpr fun c hc => ?_
  have h := List.all_eq_true.mp h1 c hc
  rcases Bool.eq_false_or_eq_true (isCode c) with hi | hi
  · exact h2 c (List.mem_filter.mpr ⟨hc, hi⟩)
  · simpa [hi] using h
set_option maxRecDepth 65536 in
theorem w_c0 : (Jvm.Cond.code x code maxLocals ret).before args0 about1 = true := code_word (m := ⟨1, 1⟩) (meth := k1m1) (c := k1c1) (by decide +kernel) rfl rfl rfl (by decide +kernel)
set_option maxRecDepth 65536 in
theorem w_c1 : (Jvm.Cond.code ({ cls := "com/example/load_across_peers/loadacrosspeers/internal/pick/AliasTable", name := "<init>", desc := "([J)V" } : Jvm.MethodName) prog_10_method_1_code (14 : Nat) (Option.none : Option Jvm.ClassFile.FieldType)).before args0 about1 = true := code_word (m := ⟨2, 0⟩) (meth := k2m0) (c := k2c0) (by decide +kernel) rfl rfl rfl (by decide +kernel)
set_option maxRecDepth 65536 in
theorem w_c2 : (Jvm.Cond.code ({ cls := "java/lang/Object", name := "<init>", desc := "()V" } : Jvm.MethodName) object_method_1_code (1 : Nat) (Option.none : Option Jvm.ClassFile.FieldType)).before args0 about1 = true := code_word (m := ⟨0, 0⟩) (meth := k0m0) (c := k0c0) (by decide +kernel) rfl rfl rfl (by decide +kernel)
set_option maxRecDepth 65536 in
theorem w_c3 : (Jvm.Cond.code ({ cls := "java/lang/Integer", name := "numberOfTrailingZeros", desc := "(I)I" } : Jvm.MethodName) jdk_33_method_48_code (2 : Nat) (Option.some Jvm.ClassFile.FieldType.int)).before args0 about1 = true := code_word (m := ⟨8, 2⟩) (meth := k8m2) (c := k8c2) (by decide +kernel) rfl rfl rfl (by decide +kernel)
set_option maxRecDepth 65536 in
theorem w_c4 : (Jvm.Cond.code ({ cls := "com/example/load_across_peers/loadacrosspeers/internal/pick/AliasTable", name := "owner", desc := "(IJ)I" } : Jvm.MethodName) prog_10_method_3_code (9 : Nat) (Option.some Jvm.ClassFile.FieldType.int)).before args0 about1 = true := code_word (m := ⟨2, 1⟩) (meth := k2m1) (c := k2c1) (by decide +kernel) rfl rfl rfl (by decide +kernel)
set_option maxRecDepth 65536 in
theorem w_c5 : (Jvm.Cond.code ({ cls := "java/lang/Integer", name := "highestOneBit", desc := "(I)I" } : Jvm.MethodName) jdk_33_method_45_code (1 : Nat) (Option.some Jvm.ClassFile.FieldType.int)).before args0 about1 = true := code_word (m := ⟨8, 0⟩) (meth := k8m0) (c := k8c0) (by decide +kernel) rfl rfl rfl (by decide +kernel)
set_option maxRecDepth 65536 in
theorem w_c6 : (Jvm.Cond.code ({ cls := "java/lang/Integer", name := "numberOfLeadingZeros", desc := "(I)I" } : Jvm.MethodName) jdk_33_method_47_code (2 : Nat) (Option.some Jvm.ClassFile.FieldType.int)).before args0 about1 = true := code_word (m := ⟨8, 1⟩) (meth := k8m1) (c := k8c1) (by decide +kernel) rfl rfl rfl (by decide +kernel)
def codes1 : List Jvm.Cond := [Jvm.Cond.code x code maxLocals ret, Jvm.Cond.code ({ cls := "com/example/load_across_peers/loadacrosspeers/internal/pick/AliasTable", name := "<init>", desc := "([J)V" } : Jvm.MethodName) prog_10_method_1_code (14 : Nat) (Option.none : Option Jvm.ClassFile.FieldType), Jvm.Cond.code ({ cls := "java/lang/Object", name := "<init>", desc := "()V" } : Jvm.MethodName) object_method_1_code (1 : Nat) (Option.none : Option Jvm.ClassFile.FieldType), Jvm.Cond.code ({ cls := "java/lang/Integer", name := "numberOfTrailingZeros", desc := "(I)I" } : Jvm.MethodName) jdk_33_method_48_code (2 : Nat) (Option.some Jvm.ClassFile.FieldType.int), Jvm.Cond.code ({ cls := "com/example/load_across_peers/loadacrosspeers/internal/pick/AliasTable", name := "owner", desc := "(IJ)I" } : Jvm.MethodName) prog_10_method_3_code (9 : Nat) (Option.some Jvm.ClassFile.FieldType.int), Jvm.Cond.code ({ cls := "java/lang/Integer", name := "highestOneBit", desc := "(I)I" } : Jvm.MethodName) jdk_33_method_45_code (1 : Nat) (Option.some Jvm.ClassFile.FieldType.int), Jvm.Cond.code ({ cls := "java/lang/Integer", name := "numberOfLeadingZeros", desc := "(I)I" } : Jvm.MethodName) jdk_33_method_47_code (2 : Nat) (Option.some Jvm.ClassFile.FieldType.int)]
set_option maxRecDepth 65536 in
theorem codes_eq : words1.filter isCode = codes1 := rfl
theorem w_codes : ∀ c ∈ words1.filter isCode, c.before args0 about1 = true := by
  rw [codes_eq]
  intro c hc
  simp only [codes1, List.mem_cons, List.not_mem_nil, or_false] at hc
  rcases hc with rfl | rfl | rfl | rfl | rfl | rfl | rfl
  · exact w_c0
  · exact w_c1
  · exact w_c2
  · exact w_c3
  · exact w_c4
  · exact w_c5
  · exact w_c6
set_option maxRecDepth 65536 in
theorem w_t1 : (words1.take 24).all (fun c => isCode c || c.before args0 about1) = true := by decide +kernel
set_option maxRecDepth 65536 in
theorem w_t2 : (words1.drop 24).all (fun c => isCode c || c.before args0 about1) = true := by decide +kernel
theorem w_tables : (allAtoms (Jvm.Cond.code x code maxLocals ret :: tables_1)).before args0 about1 = true := by
  rw [allAtoms_all]
  show words1.all (fun c => c.before args0 about1) = true
  refine all_split ?_ w_codes
  rw [← List.take_append_drop 24 words1, List.all_append, w_t1, w_t2]
  rfl
set_option maxRecDepth 65536 in
theorem w_case : (Jvm.Cond.and given_1 narrow_1).before args0 about1 = true := by decide +kernel
theorem w_applies : (headSpec (Jvm.Cond.code x code maxLocals ret :: tables_1) room_1).applies x e0.platform about1 = true :=
  (Spec.applies_iff w_frames).mpr ⟨w_running, w_runnable, w_alone, w_named, w_hears, w_ripe, w_room, w_tables⟩
theorem atStart : AtStart classFile x code maxLocals ret World_1 tables_1 room_1 Calls_1 rest_1 Pre_1 launch0 p0 e0 about1 theMethod args0 below0 :=
  ⟨lists_1, trivial, launch0.admits_env _ _ _, launch0.least_env, fairChoices_fair.cas, fairChoices_fair.clock, w_frames, w_args, w_heap, w_applies, trivial, trivial, w_case⟩
end start1
theorem witness_1 : WitnessClaimed_1 := ⟨start1.p0, start1.e0, start1.about1, start1.theMethod, start1.args0, start1.below0, start1.atStart⟩
end Jvm.Pilot.@@N@@
