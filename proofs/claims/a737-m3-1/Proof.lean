import JvmDerived
import JvmDerived.Pilot.@@N@@Statement
import JvmDerived.Pilot.@@N@@Code
set_option linter.unusedVariables false
set_option linter.unusedSimpArgs false
@@BLOCK:NumsL.lean.txt@@
namespace Jvm.Pilot.@@N@@
open Jvm Jvm.ClassFile Sem Op Lib Jvm.Free Jvm.Stand Jvm.LawKit Jvm.RoadKit Bundle Jvm.Pilot.@@N@@.Jvm.D
/-- a long's slot, written short -/
abbrev jv (x : Int64) : Slot := .val (.long x)
section OwnKit
variable {p : Program} {l : Launch} {e : Env} {R : Room} {s : State} {m : MethodId} {args : Array Value} {below : List Frame} {meth : Method} {c : Code} {T T' : State} {locs : List Loc} {cells slots : Nat} {Q : Option Value → Heap → List Loc → Prop} {kc ks : Nat} {g : JFrame} {Z : State} {a0 : Array Value} {h : Heap}
/-- what is left to do, from the state T with the top frame g: the run comes to the invocation's end, returns, and the end is as Q says -/
def own_G (p : Program) (e : Env) (below : List Frame) (s : State) (Q : Option Value → Heap → List Loc → Prop) (kc ks : Nat) (T : State) (g : JFrame) : Prop :=
  ∃ t o, Steps p.tables e below (T.setTop g) t ∧ t.status = .running ∧ Ended t below o ∧ ∃ v L, o = .returned v ∧ Q v t.heap L ∧ FrameEnd s o t L kc ks
theorem own_go (g' : JFrame) (k : ∀ t, Steps p.tables e below (T'.setTop g') t → Steps p.tables e below (T.setTop g) t) (h : own_G p e below s Q kc ks T' g') : own_G p e below s Q kc ks T g := by
  obtain ⟨t, o, h1, h2⟩ := h
  exact ⟨t, o, k t h1, h2⟩
theorem own_out (X : Stand p l e R s m args below meth c T locs cells slots) (hlk : meth.locks = false) {v : Option Value} (hv : meth.sig.returnType = none → v = none)
    (st : ∀ fs, (∀ (f : JFrame) (acts : List Action), f.method = m → f.locked = none → f.entered = [] → (doReturn e (T.setTop f) acts v).1 = T.setFrames fs) → Steps p.tables e below (T.setTop g) (T.setFrames fs))
    (hQ : Q v T.heap locs) (h1 : cells ≤ kc) (h2 : slots ≤ ks) : own_G p e below s Q kc ks T g := by
  obtain ⟨fs, hr, hrun, hended, hW, hsame⟩ := X.leave (v := v) hv hlk
  exact ⟨_, _, st fs hr, hrun, hended, v, locs, rfl, hQ, ⟨_, rfl⟩, hW, hsame.mono h1 h2⟩
theorem own_retI (X : Stand p l e R s m args below meth c T locs cells slots) (hx : p.tables.exec = Jvm.exec) (hlk : meth.locks = false) (hret : meth.sig.returnType = some .int) {pc : Nat} {Ls : Array Slot} {z : Int32} {rest : List Value} (hd : decode c.code pc = .ok (.ireturn, 1))
    (hQ : Q (some (.int z)) T.heap locs) (h1 : cells ≤ kc) (h2 : slots ≤ ks) : own_G p e below s Q kc ks T (mkF m pc Ls (.int z :: rest)) := by
  refine own_out X hlk (v := some (.int z)) (fun h => by rw [hret] at h; cases h) (fun fs hl => ?_) hQ h1 h2
  have hm' : T.vm.method? m = some meth := X.method'
  have hn : narrow .int (.int z) = .int z := rfl
  show Steps p.tables e below (T.setTop { method := m, pc := pc, locals := Ls, stack := _ :: rest, locked := none }) _
  jvm_step X.here [X.here.top, hx, hd, hm', hret, hn]
  first | (intro acts; rw [hl _ acts rfl rfl rfl]) | rw [hl _ _ rfl rfl rfl]
  exact Steps.refl _
theorem own_retZ (X : Stand p l e R s m args below meth c T locs cells slots) (hx : p.tables.exec = Jvm.exec) (hlk : meth.locks = false) (hret : meth.sig.returnType = some .boolean) {pc : Nat} {Ls : Array Slot} {z : Int32} {rest : List Value} (hd : decode c.code pc = .ok (.ireturn, 1))
    (hQ : Q (some (.int (z &&& 1))) T.heap locs) (h1 : cells ≤ kc) (h2 : slots ≤ ks) : own_G p e below s Q kc ks T (mkF m pc Ls (.int z :: rest)) :=
  own_out X hlk (v := some (.int (z &&& 1))) (fun h => by rw [hret] at h; cases h) (fun fs hl => retN X hx (t := .boolean) hret (by simp) hd hl) hQ h1 h2
theorem own_retJ (X : Stand p l e R s m args below meth c T locs cells slots) (hx : p.tables.exec = Jvm.exec) (hlk : meth.locks = false) (hret : meth.sig.returnType = some .long) {pc : Nat} {Ls : Array Slot} {z : Int64} (hd : decode c.code pc = .ok (.lreturn, 1))
    (hQ : Q (some (.long z)) T.heap locs) (h1 : cells ≤ kc) (h2 : slots ≤ ks) : own_G p e below s Q kc ks T (mkF m pc Ls [.long z]) :=
  own_out X hlk (v := some (.long z)) (fun h => by rw [hret] at h; cases h) (fun fs hl => X.lreturnOut hx hret hd hl) hQ h1 h2
theorem own_retA (X : Stand p l e R s m args below meth c T locs cells slots) (hx : p.tables.exec = Jvm.exec) (hlk : meth.locks = false) {t : FieldType} (hret : meth.sig.returnType = some t) (ht : t.isReference = true) {pc : Nat} {Ls : Array Slot} {z : Value} (hz : z.isRef = true) (hd : decode c.code pc = .ok (.areturn, 1))
    (hQ : Q (some z) T.heap locs) (h1 : cells ≤ kc) (h2 : slots ≤ ks) : own_G p e below s Q kc ks T (mkF m pc Ls [z]) :=
  own_out X hlk (v := some z) (fun h => by rw [hret] at h; cases h) (fun fs hl => X.areturnOut hx hz hret ht hd hl) hQ h1 h2
theorem own_retV (X : Stand p l e R s m args below meth c T locs cells slots) (hx : p.tables.exec = Jvm.exec) (hlk : meth.locks = false) (hret : meth.sig.returnType = none) {pc : Nat} {Ls : Array Slot} (hd : decode c.code pc = .ok (.return_, 1))
    (hQ : Q none T.heap locs) (h1 : cells ≤ kc) (h2 : slots ≤ ks) : own_G p e below s Q kc ks T (mkF m pc Ls []) :=
  own_out X hlk (v := none) (fun _ => rfl) (fun fs hl => X.returnOut hx hret hd hl) hQ h1 h2
/-- a method's contract at one heap and one row of arguments -/
def own_C (l : Launch) (Z : State) (y : MethodName) (bytes : ByteArray) (mx : Nat) (ret : Option FieldType) (ws : List Jvm.Cond) (rm : Room) (as : Array Value) (h0 : Heap) (Q : Option Value → Heap → List Loc → Prop) : Prop :=
  MetFree l y (head1 (Jvm.Cond.code y bytes mx ret :: ws) rm) (fun a U => a = as ∧ Z.Warmed39 U.vm ∧ U.heap = h0) (fun _ _ _ _ _ => True) (fun _ U o U' => ∃ v L, o = .returned v ∧ Q v U'.heap L ∧ FrameEnd U o U' L rm.cells rm.slots)
theorem own_met {y : MethodName} {bytes : ByteArray} {mx : Nat} {ret : Option FieldType} {ws : List Jvm.Cond} {rm : Room} {as : Array Value} {h0 : Heap} (hp : plainFor y = true) (L0 : Array Slot) (hef : ∀ m, entryFrame m as mx = mkF m 0 L0 [])
    (body : ∀ (p : Program) (e : Env) (s : State) (m : MethodId) (below : List Frame) (meth : Method) (c : Code) (s₁ : State), p.tables.exec = Jvm.exec → c.code = bytes → c.maxLocals = mx → s.vm.findClass y.cls = some m.cls → meth.sig.returnType = ret → meth.locks = false → Z.Warmed39 s.vm → meth.name = y.name →
      Stand p l e rm s m as below meth c s₁ [] 0 0 → s₁.heap = h0 → own_G p e below s Q rm.cells rm.slots s₁ (mkF m 0 L0 [])) :
    own_C l Z y bytes mx ret ws rm as h0 Q := by
  refine MetFree.of_bodySF hp hisR ?_
  intro p e s m args below meth c s₁ Bd hml0 hP hK
  obtain ⟨rfl, hZ, hh⟩ := hP
  have hown : s.vm.findClass y.cls = some m.cls := findClass_of_methodNamed Bd.named
  have hnm := (name_of_methodNamed Bd.named Bd.method).1
  have X0 : Stand p l e rm s m args below meth c s₁ [] 0 0 := Stand.of_body Bd
  have e0 : s₁.heap = h0 := by rw [← hh, Bd.state]; rfl
  obtain ⟨t, o, h1, h2⟩ := body p e s m below meth c s₁ Bd.exec Bd.bytes hml0 hown Bd.returns Bd.notSynchronized hZ hnm X0 e0
  exact ⟨t, o, castTop (hef m) h1, h2⟩
/-- a static call by the callee's contract -/
theorem own_callS (X : Stand p l e R s m args below meth c T locs cells slots) (hx : p.tables.exec = Jvm.exec) (hZ : Z.Warmed39 s.vm) {own : String} {index : Nat} {y : MethodName} {bytes : ByteArray} {mx : Nat} {ret : Option FieldType} {rm : Room} {Qc : Option Value → Heap → List Loc → Prop}
    (hown : s.vm.findClass own = some m.cls) (w1 : (Jvm.Cond.methodLink own index y).before a0 Z = true) (w2 : (Jvm.Cond.static y).before a0 Z = true) (w3 : (Jvm.Cond.initialized y.cls).before a0 Z = true) (w4 : (Jvm.Cond.code y bytes mx ret).before a0 Z = true) (hy : y.cls ≠ "java/lang/invoke/MethodHandle" ∧ y.cls ≠ "java/lang/invoke/VarHandle")
    (eT : T.heap = h) (argsL rest : List Value) (hM : own_C l Z y bytes mx ret [] rm argsL.toArray h Qc) (W : Nat) (hf : rm.frames + 1 ≤ R.frames) (hlo : W + (mx + 11) + rm.locals ≤ R.locals) (hW : (rest.map fun v => v.category).sum ≤ W) (hc : cells + rm.cells ≤ R.cells) (hs : slots + rm.slots ≤ R.slots)
    {pc : Nat} {Ls : Array Slot} {S : List Value} (hsize : Ls.size = c.maxLocals) (hlen : ∀ sig, parseMethodDescriptor y.desc = some sig → argsL.length = sig.parameters.length) (hS : S = argsL.reverse ++ rest) (hd : decode c.code pc = .ok (.invokestatic index, 3))
    (k : ∀ (T' : State) (v : Option Value) (L : List Loc), Stand p l e R s m args below meth c T' (locs ++ L) (cells + rm.cells) (slots + rm.slots) → Qc v T'.heap L → own_G p e below s Q kc ks T' (mkF m (pc + 3) Ls (v.toList ++ rest))) :
    own_G p e below s Q kc ks T (mkF m pc Ls S) := by
  obtain ⟨v, _, ⟨T', L', k', n'⟩, -, X', ⟨L, hQ, q1, q2, q3⟩, st⟩ := Jvm.LawKit.callS X hx (y := y) hown (mvT hZ w1) (mvT hZ w2) (mvT hZ w3) (mvT hZ w4) hy (backOf (W := W) hM hZ w4 w3 hf hlo) (g := mkF m pc Ls S) rfl hsize (argsL := argsL) (rest := rest) hlen hS (by show 2 * 0 + _ ≤ _; omega) hd (fun _ _ => ⟨rfl, eT, hc, hs⟩)
  dsimp only [Pt.U, Pt.locs, Pt.cells, Pt.slots] at X' q1 q2 q3 st hQ
  subst q1 q2 q3
  exact own_go _ st (k T' v L X' hQ)
/-- what a pure method's end is: this value, the heap as it was, no place written -/
def own_P (r : Value) (h0 : Heap) (v : Option Value) (h : Heap) (L : List Loc) : Prop := v = some r ∧ h = h0 ∧ L = []
/-- a static call of a pure method -/
theorem own_callP (X : Stand p l e R s m args below meth c T locs cells slots) (hx : p.tables.exec = Jvm.exec) (hZ : Z.Warmed39 s.vm) {own : String} {index : Nat} {y : MethodName} {bytes : ByteArray} {mx : Nat} {ret : Option FieldType} {fr lo : Nat} {r : Value}
    (hown : s.vm.findClass own = some m.cls) (w1 : (Jvm.Cond.methodLink own index y).before a0 Z = true) (w2 : (Jvm.Cond.static y).before a0 Z = true) (w3 : (Jvm.Cond.initialized y.cls).before a0 Z = true) (w4 : (Jvm.Cond.code y bytes mx ret).before a0 Z = true) (hy : y.cls ≠ "java/lang/invoke/MethodHandle" ∧ y.cls ≠ "java/lang/invoke/VarHandle")
    (eT : T.heap = h) (argsL rest : List Value) (hM : own_C l Z y bytes mx ret [] { frames := fr, cells := 0, slots := 0, locals := lo } argsL.toArray h (own_P r h)) (W : Nat) (hf : fr + 1 ≤ R.frames) (hlo : W + (mx + 11) + lo ≤ R.locals) (hW : (rest.map fun v => v.category).sum ≤ W) (hc : cells ≤ R.cells) (hs : slots ≤ R.slots)
    {pc : Nat} {Ls : Array Slot} {S : List Value} (hsize : Ls.size = c.maxLocals) (hlen : ∀ sig, parseMethodDescriptor y.desc = some sig → argsL.length = sig.parameters.length) (hS : S = argsL.reverse ++ rest) (hd : decode c.code pc = .ok (.invokestatic index, 3))
    (k : ∀ (T' : State), Stand p l e R s m args below meth c T' locs cells slots → T'.heap = h → own_G p e below s Q kc ks T' (mkF m (pc + 3) Ls (r :: rest))) :
    own_G p e below s Q kc ks T (mkF m pc Ls S) := by
  refine own_callS X hx hZ hown w1 w2 w3 w4 hy eT argsL rest hM W hf hlo hW hc hs hsize hlen hS hd ?_
  rintro T' v L X' ⟨rfl, q2, rfl⟩
  rw [List.append_nil] at X'
  exact k T' X' q2
/-- a constructor's call -/
theorem own_callI (X : Stand p l e R s m args below meth c T locs cells slots) (hx : p.tables.exec = Jvm.exec) (hZ : Z.Warmed39 s.vm) {own : String} {index : Nat} {y : MethodName} {bytes : ByteArray} {mx : Nat} {rm : Room} {Qc : Option Value → Heap → List Loc → Prop} (hy1 : y.name = "<init>")
    (hown : s.vm.findClass own = some m.cls) (w1 : (Jvm.Cond.methodLink own index y).before a0 Z = true) (w2 : (Jvm.Cond.instanceMethod y).before a0 Z = true) (w3 : (Jvm.Cond.initialized y.cls).before a0 Z = true) (w4 : (Jvm.Cond.code y bytes mx none).before a0 Z = true) (hy : y.cls ≠ "java/lang/invoke/MethodHandle" ∧ y.cls ≠ "java/lang/invoke/VarHandle")
    (eT : T.heap = h) (a : Addr) (argsL rest : List Value) (hM : own_C l Z y bytes mx none [] rm (.ref a :: argsL).toArray h Qc) (W : Nat) (hf : rm.frames + 1 ≤ R.frames) (hlo : W + (mx + 11) + rm.locals ≤ R.locals) (hW : (rest.map fun v => v.category).sum ≤ W) (hc : cells + rm.cells ≤ R.cells) (hs : slots + rm.slots ≤ R.slots)
    {pc : Nat} {Ls : Array Slot} {S : List Value} (hsize : Ls.size = c.maxLocals) (hlen : ∀ sig, parseMethodDescriptor y.desc = some sig → argsL.length = sig.parameters.length) (hS : S = argsL.reverse ++ .ref a :: rest) (hd : decode c.code pc = .ok (.invokespecial index, 3))
    (k : ∀ (T' : State) (v : Option Value) (L : List Loc), Stand p l e R s m args below meth c T' (locs ++ L) (cells + rm.cells) (slots + rm.slots) → Qc v T'.heap L → own_G p e below s Q kc ks T' (mkF m (pc + 3) Ls (v.toList ++ rest))) :
    own_G p e below s Q kc ks T (mkF m pc Ls S) := by
  obtain ⟨v, _, ⟨T', L', k', n'⟩, -, X', ⟨L, hQ, q1, q2, q3⟩, st⟩ := X.specialBack hx (y := y) hy1 hown (mvT hZ w1) (mvT hZ w2) (mvT hZ w4) hy (backOf (W := W) hM hZ w4 w3 hf hlo) (g := mkF m pc Ls S) rfl hsize (Steps.refl _) (a := a) (argsL := argsL) (rest := rest) hlen hS (by show 2 * 0 + _ ≤ _; omega) hd (fun _ _ => ⟨rfl, eT, hc, hs⟩)
  dsimp only [Pt.U, Pt.locs, Pt.cells, Pt.slots] at X' q1 q2 q3 st hQ
  subst q1 q2 q3
  exact own_go _ (fun t kt => st.trans kt) (k T' v L X' hQ)
/-- an instance method's call -/
theorem own_callV (X : Stand p l e R s m args below meth c T locs cells slots) (hx : p.tables.exec = Jvm.exec) (hZ : Z.Warmed39 s.vm) {own C : String} {index : Nat} {y : MethodName} {bytes : ByteArray} {mx : Nat} {ret : Option FieldType} {rm : Room} {Qc : Option Value → Heap → List Loc → Prop}
    (hown : s.vm.findClass own = some m.cls) (w1 : (Jvm.Cond.methodLink own index y).before a0 Z = true) (w5 : (Jvm.Cond.declares y).before a0 Z = true) (w6 : (Jvm.Cond.selects C y y).before a0 Z = true) (w2 : (Jvm.Cond.instanceMethod y).before a0 Z = true) (w3 : (Jvm.Cond.initialized y.cls).before a0 Z = true) (w4 : (Jvm.Cond.code y bytes mx ret).before a0 Z = true) (hy : y.cls ≠ "java/lang/invoke/MethodHandle" ∧ y.cls ≠ "java/lang/invoke/VarHandle")
    (eT : T.heap = h) {a : Addr} (E : Exa Z h a C) (argsL rest : List Value) (hM : own_C l Z y bytes mx ret [] rm (.ref a :: argsL).toArray h Qc) (W : Nat) (hf : rm.frames + 1 ≤ R.frames) (hlo : W + (mx + 11) + rm.locals ≤ R.locals) (hW : (rest.map fun v => v.category).sum ≤ W) (hc : cells + rm.cells ≤ R.cells) (hs : slots + rm.slots ≤ R.slots)
    {pc : Nat} {Ls : Array Slot} {S : List Value} (hsize : Ls.size = c.maxLocals) (hlen : ∀ sig, parseMethodDescriptor y.desc = some sig → argsL.length = sig.parameters.length) (hS : S = argsL.reverse ++ .ref a :: rest) (hd : decode c.code pc = .ok (.invokevirtual index, 3))
    (k : ∀ (T' : State) (v : Option Value) (L : List Loc), Stand p l e R s m args below meth c T' (locs ++ L) (cells + rm.cells) (slots + rm.slots) → Qc v T'.heap L → own_G p e below s Q kc ks T' (mkF m (pc + 3) Ls (v.toList ++ rest))) :
    own_G p e below s Q kc ks T (mkF m pc Ls S) := by
  obtain ⟨cq, kq, qa, qb, qc⟩ := isOf hZ eT E
  obtain ⟨v, _, ⟨T', L', k', n'⟩, -, X', ⟨L, hQ, q1, q2, q3⟩, st⟩ := X.virtualBack hx (y := y) (z := y) hown (mvT hZ w1) (mvT hZ w5) (notFace_of_selects (args := #[]) (mvT hZ w6)) (mvT hZ w6) (mvT hZ w2) hy (backOf (W := W) hM hZ w4 w3 hf hlo) qa qc (g := mkF m pc Ls S) rfl hsize (Steps.refl _) (argsL := argsL) (rest := rest) hlen hS (by show 2 * 0 + _ ≤ _; omega) hd (fun _ _ => ⟨rfl, eT, hc, hs⟩)
  dsimp only [Pt.U, Pt.locs, Pt.cells, Pt.slots] at X' q1 q2 q3 st hQ
  subst q1 q2 q3
  exact own_go _ (fun t kt => st.trans kt) (k T' v L X' hQ)
end OwnKit
section OwnHeap
variable {p : Program} {l : Launch} {e : Env} {R : Room} {s : State} {m : MethodId} {args : Array Value} {below : List Frame} {meth : Method} {c : Code} {T T' : State} {locs : List Loc} {cells slots n0 : Nat} {Q : Option Value → Heap → List Loc → Prop} {kc ks : Nat} {g : JFrame} {Z : State} {a0 : Array Value} {h h' h0 : Heap} {a b : Addr} {vs : List Value} {ty : FieldType} {v w : Value} {sl pc : Nat} {Ls : Array Slot} {rest : List Value}
/-- the run stands here, and whatever was written lies in cells at or above n0 -/
def own_S (p : Program) (l : Launch) (e : Env) (R : Room) (s : State) (m : MethodId) (args : Array Value) (below : List Frame) (meth : Method) (c : Code) (n0 : Nat) (T : State) (cells slots : Nat) : Prop := ∃ locs, Stand p l e R s m args below meth c T locs cells slots ∧ Fr n0 locs
theorem own_S.of (X : Stand p l e R s m args below meth c T [] cells slots) (n0 : Nat) : own_S p l e R s m args below meth c n0 T cells slots := ⟨[], X, Fr.nil n0⟩
theorem own_S.here (X : own_S p l e R s m args below meth c n0 T cells slots) : At T m c below := X.elim fun _ q => q.1.here
theorem own_S.ldcInt (X : own_S p l e R s m args below meth c n0 T cells slots) (hx : p.tables.exec = Jvm.exec) {own : String} {index : Nat} {v : Int32} (hown : s.vm.findClass own = some m.cls)
    (hc : (Jvm.Cond.constant own index v).before args s = true) {g : JFrame} (hg : g.method = m) (hd : decode c.code g.pc = .ok (.ldc index, 2)) (t : State) (k : Steps p.tables e below (T.setTop { g with pc := g.pc + 2, stack := .int v :: g.stack }) t) : Steps p.tables e below (T.setTop g) t :=
  X.elim fun _ q => q.1.ldcInt hx hown hc hg hd t k
theorem own_S.ldcwInt (X : own_S p l e R s m args below meth c n0 T cells slots) (hx : p.tables.exec = Jvm.exec) {own : String} {index : Nat} {v : Int32} (hown : s.vm.findClass own = some m.cls)
    (hc : (Jvm.Cond.constant own index v).before args s = true) {g : JFrame} (hg : g.method = m) (hd : decode c.code g.pc = .ok (.ldc_w index, 3)) (t : State) (k : Steps p.tables e below (T.setTop { g with pc := g.pc + 3, stack := .int v :: g.stack }) t) : Steps p.tables e below (T.setTop g) t :=
  X.elim fun _ q => q.1.ldcwInt hx hown hc hg hd t k
theorem own_S.ldc2Long (X : own_S p l e R s m args below meth c n0 T cells slots) (hx : p.tables.exec = Jvm.exec) {own : String} {index : Nat} {v : Int64} (hown : s.vm.findClass own = some m.cls)
    (hc : (Jvm.Cond.constantLong own index v).before args s = true) {g : JFrame} (hg : g.method = m) (hd : decode c.code g.pc = .ok (.ldc2_w index, 3)) (t : State) (k : Steps p.tables e below (T.setTop { g with pc := g.pc + 3, stack := .long v :: g.stack }) t) : Steps p.tables e below (T.setTop g) t :=
  X.elim fun _ q => q.1.ldc2Long hx hown hc hg hd t k
theorem own_S.more (X : own_S p l e R s m args below meth c n0 T cells slots) {cells' slots' : Nat} (h1 : cells ≤ cells') (h2 : slots ≤ slots') : own_S p l e R s m args below meth c n0 T cells' slots' := X.elim fun L q => ⟨L, q.1.more h1 h2, q.2⟩
/-- what a contract with a heap says: the places written are new, and P -/
def own_Q (n0 : Nat) (P : Option Value → Heap → Prop) (v : Option Value) (h : Heap) (L : List Loc) : Prop := Fr n0 L ∧ P v h
theorem own_S.retI {P : Option Value → Heap → Prop} (X : own_S p l e R s m args below meth c n0 T cells slots) (hx : p.tables.exec = Jvm.exec) (hlk : meth.locks = false) (hret : meth.sig.returnType = some .int) {z : Int32} (hd : decode c.code pc = .ok (.ireturn, 1))
    (hQ : P (some (.int z)) T.heap) (h1 : cells ≤ kc) (h2 : slots ≤ ks) : own_G p e below s (own_Q n0 P) kc ks T (mkF m pc Ls (.int z :: rest)) := X.elim fun L q => own_retI q.1 hx hlk hret hd ⟨q.2, hQ⟩ h1 h2
theorem own_S.retZ {P : Option Value → Heap → Prop} (X : own_S p l e R s m args below meth c n0 T cells slots) (hx : p.tables.exec = Jvm.exec) (hlk : meth.locks = false) (hret : meth.sig.returnType = some .boolean) {z : Int32} (hd : decode c.code pc = .ok (.ireturn, 1))
    (hQ : P (some (.int (z &&& 1))) T.heap) (h1 : cells ≤ kc) (h2 : slots ≤ ks) : own_G p e below s (own_Q n0 P) kc ks T (mkF m pc Ls (.int z :: rest)) := X.elim fun L q => own_retZ q.1 hx hlk hret hd ⟨q.2, hQ⟩ h1 h2
theorem own_S.retJ {P : Option Value → Heap → Prop} (X : own_S p l e R s m args below meth c n0 T cells slots) (hx : p.tables.exec = Jvm.exec) (hlk : meth.locks = false) (hret : meth.sig.returnType = some .long) {z : Int64} (hd : decode c.code pc = .ok (.lreturn, 1))
    (hQ : P (some (.long z)) T.heap) (h1 : cells ≤ kc) (h2 : slots ≤ ks) : own_G p e below s (own_Q n0 P) kc ks T (mkF m pc Ls [.long z]) := X.elim fun L q => own_retJ q.1 hx hlk hret hd ⟨q.2, hQ⟩ h1 h2
theorem own_S.retA {P : Option Value → Heap → Prop} (X : own_S p l e R s m args below meth c n0 T cells slots) (hx : p.tables.exec = Jvm.exec) (hlk : meth.locks = false) {t : FieldType} (hret : meth.sig.returnType = some t) (ht : t.isReference = true) {z : Value} (hz : z.isRef = true) (hd : decode c.code pc = .ok (.areturn, 1))
    (hQ : P (some z) T.heap) (h1 : cells ≤ kc) (h2 : slots ≤ ks) : own_G p e below s (own_Q n0 P) kc ks T (mkF m pc Ls [z]) := X.elim fun L q => own_retA q.1 hx hlk hret ht hz hd ⟨q.2, hQ⟩ h1 h2
theorem own_S.retV {P : Option Value → Heap → Prop} (X : own_S p l e R s m args below meth c n0 T cells slots) (hx : p.tables.exec = Jvm.exec) (hlk : meth.locks = false) (hret : meth.sig.returnType = none) (hd : decode c.code pc = .ok (.return_, 1))
    (hQ : P none T.heap) (h1 : cells ≤ kc) (h2 : slots ≤ ks) : own_G p e below s (own_Q n0 P) kc ks T (mkF m pc Ls []) := X.elim fun L q => own_retV q.1 hx hlk hret hd ⟨q.2, hQ⟩ h1 h2
/-- fields -/
theorem own_S.getF (X : own_S p l e R s m args below meth c n0 T cells slots) (hx : p.tables.exec = Jvm.exec) (hZ : Z.Warmed39 s.vm) {own C n d : String} {index : Nat} (hown : s.vm.findClass own = some m.cls) (w1 : (Jvm.Cond.fieldLink own index C n d).before a0 Z = true) (eT : T.heap = h) (F : Fld Z h a C n d v) (hd : decode c.code pc = .ok (.getfield index, 3))
    (k : ∀ T', own_S p l e R s m args below meth c n0 T' cells slots → T'.heap = h → own_G p e below s Q kc ks T' (mkF m (pc + 3) Ls (v :: rest))) : own_G p e below s Q kc ks T (mkF m pc Ls (.ref a :: rest)) := by
  obtain ⟨locs, Y, N⟩ := X
  obtain ⟨T', Y', e', st⟩ := Jvm.RoadKit.getF Y hx hZ hown (host := "") (Or.inl w1) Via.refl eT F (g := mkF m pc Ls (.ref a :: rest)) rfl rfl hd
  exact own_go _ st (k T' ⟨locs, Y', N⟩ e')
theorem own_S.putF (X : own_S p l e R s m args below meth c n0 T cells slots) (hx : p.tables.exec = Jvm.exec) (hZ : Z.Warmed39 s.vm) {own C n d : String} {index kk : Nat} {ty : FieldType} (hown : s.vm.findClass own = some m.cls) (w1 : (Jvm.Cond.fieldLink own index C n d).before a0 Z = true) (eT : T.heap = h) {old : Value} (F : Fld Z h a C n d old) (E : Exa Z h a C) (g0 : n0 ≤ a)
    (L : (Jvm.Cond.lays C C n d).before a0 Z = true ∨ ((Jvm.Cond.laysFinal C C n d).before a0 Z = true ∧ own = C ∧ meth.name = "<init>")) (wi : (Jvm.Cond.instantiable C kk).before a0 Z = true) (hty : parseFieldDescriptor d = some ty) (hn : narrow ty v = v) (hf : fits ty v = true) (hd : decode c.code pc = .ok (.putfield index, 3))
    (k : ∀ T' h', own_S p l e R s m args below meth c n0 T' cells slots → T'.heap = h' → Wr h h' a (Jvm.RoadKit.slotOf Z C n d) v → own_G p e below s Q kc ks T' (mkF m (pc + 3) Ls rest)) : own_G p e below s Q kc ks T (mkF m pc Ls (v :: .ref a :: rest)) := by
  obtain ⟨locs, Y, N⟩ := X
  obtain ⟨T', h', Y', e', W, st⟩ := Jvm.RoadKit.putF Y hx hZ hown (host := "") (Or.inl w1) Via.refl eT F E L wi hty hn hf (g := mkF m pc Ls (v :: .ref a :: rest)) rfl rfl hd
  exact own_go _ st (k T' h' ⟨_, Y', Fr.snoc Y' N g0⟩ e' W)
theorem own_S.initO (X : own_S p l e R s m args below meth c n0 T cells slots) (hx : p.tables.exec = Jvm.exec) (hZ : Z.Warmed39 s.vm) {own : String} {idx : Nat} (hown : s.vm.findClass own = some m.cls) (w1 : (Jvm.Cond.methodLink own idx Lib.objectInit).before a0 Z = true) (w2 : (Jvm.Cond.instanceMethod Lib.objectInit).before a0 Z = true)
    (w3 : (Jvm.Cond.code Lib.objectInit ⟨#[0xb1]⟩ 1 none).before a0 Z = true) (eT : T.heap = h) (hsize : Ls.size = c.maxLocals) (hd : decode c.code pc = .ok (.invokespecial idx, 3)) (hf : 1 ≤ R.frames) (W : Nat) (hW : (rest.map fun v => v.category).sum ≤ W) (hl : W + 12 ≤ R.locals)
    (k : ∀ T', own_S p l e R s m args below meth c n0 T' cells slots → T'.heap = h → own_G p e below s Q kc ks T' (mkF m (pc + 3) Ls rest)) : own_G p e below s Q kc ks T (mkF m pc Ls (.ref a :: rest)) := by
  obtain ⟨locs, Y, N⟩ := X
  obtain ⟨T', Y', e', st⟩ := Jvm.RoadKit.initO Y hx hZ hown w1 w2 w3 eT (g := mkF m pc Ls (.ref a :: rest)) rfl hsize (a := a) (rest := rest) rfl hd hf (W := W) (by show 2 * 0 + _ ≤ _; omega) hl
  exact own_go _ st (k T' ⟨locs, Y', N⟩ e')
/-- new -/
theorem own_S.newO (X : own_S p l e R s m args below meth c n0 T cells slots) (hx : p.tables.exec = Jvm.exec) (hZ : Z.Warmed39 s.vm) {own C : String} {index n : Nat} (hown : s.vm.findClass own = some m.cls) (w1 : (Jvm.Cond.classLink own index C).before a0 Z = true) (wi : (Jvm.Cond.instantiable C n).before a0 Z = true) (wz : (Jvm.Cond.initialized C).before a0 Z = true) (eT : T.heap = h)
    (hd : decode c.code pc = .ok (.new index, 3)) (hc : cells + 1 ≤ R.cells) (hl : slots + n ≤ R.slots)
    (k : ∀ T' h' (b : Addr), own_S p l e R s m args below meth c n0 T' (cells + 1) (slots + n) → T'.heap = h' → b = h.size → Ext h h' → Exa Z h' b C → (∀ {O nm d : String} {ty : FieldType}, Laid Z a0 C O nm d → parseFieldDescriptor d = some ty → Fld Z h' b O nm d (defaultValue ty)) → own_G p e below s Q kc ks T' (mkF m (pc + 3) Ls (.ref b :: rest))) :
    own_G p e below s Q kc ks T (mkF m pc Ls rest) := by
  obtain ⟨locs, Y, N⟩ := X
  obtain ⟨T', h', Y', e', E, A, D, -, st⟩ := Jvm.RoadKit.newO Y hx hZ hown w1 wi wz eT (g := mkF m pc Ls rest) rfl hd hc hl
  exact own_go _ st (k T' h' h.size ⟨_, Y', N⟩ e' rfl E A D)
/-- an array, by the list of what it holds -/
def own_A (Z : State) (h : Heap) (ty : FieldType) (a : Addr) (vs : List Value) : Prop := ∃ cl : Cell, Arr Z h a cl ty ∧ cl.slots = vs.toArray ∧ vs.length < 2 ^ 31
theorem own_A.lt (A : own_A Z h ty a vs) : a < h.size := A.elim fun _ q => q.1.lt
theorem own_A.ext (A : own_A Z h ty a vs) (E : Ext h h') : own_A Z h' ty a vs := A.elim fun cl q => ⟨cl, q.1.ext E, q.2⟩
theorem own_A.other (A : own_A Z h ty b vs) (W : Wr h h' a sl v) (q : b ≠ a) : own_A Z h' ty b vs := A.elim fun cl r => ⟨cl, r.1.other W q, r.2⟩
theorem own_A.keep {ws : List Addr} (A : own_A Z h ty a vs) (K : Keep h h' ws) (q : a ∉ ws) : own_A Z h' ty a vs := A.elim fun cl r => ⟨cl, ⟨K.2.1 a cl r.1.1 q, r.1.2⟩, r.2⟩
theorem own_A.set (A : own_A Z h ty a vs) {i : Nat} (W : Wr h h' a i v) : own_A Z h' ty a (vs.set i v) := by
  obtain ⟨cl, A, q1, q2⟩ := A
  refine ⟨_, A.same W, ?_, by rw [List.length_set]; exact q2⟩
  simp [Cell.setSlot, q1]
theorem own_A.len (A : own_A Z h ty a vs) : vs.length < 2 ^ 31 := A.elim fun _ q => q.2.2
theorem own_clamp {j : Int32} {i : Nat} (hj : j.toInt = i) : j.toNatClampNeg = i ∧ ¬ j < 0 := by
  refine ⟨by simp [Int32.toNatClampNeg, hj], ?_⟩
  rw [Int32.lt_iff_toInt_lt, Int32.toInt_zero]; omega
theorem own_in {cl : Cell} (q1 : cl.slots = vs.toArray) {j : Int32} {i : Nat} (hj : j.toInt = i) (hi : i < vs.length) : ¬ (j < 0 ∨ cl.slots.size ≤ j.toNatClampNeg) := by
  obtain ⟨c1, c2⟩ := own_clamp hj
  rw [q1, c1]; intro r
  rcases r with r | r
  · exact c2 r
  · simp at r; omega
theorem own_lt_of {i : Nat} (hv : vs[i]? = some v) : i < vs.length := (List.getElem?_eq_some_iff.mp hv).1
theorem own_S.ldJ (X : own_S p l e R s m args below meth c n0 T cells slots) (hx : p.tables.exec = Jvm.exec) (hZ : Z.Warmed39 s.vm) (eT : T.heap = h) (A : own_A Z h .long a vs) {j : Int32} (i : Nat) (hj : j.toInt = i) (hv : vs[i]? = some v) (hd : decode c.code pc = .ok (.laload, 1))
    (k : own_G p e below s Q kc ks T (mkF m (pc + 1) Ls (v :: rest))) : own_G p e below s Q kc ks T (mkF m pc Ls (.int j :: .ref a :: rest)) := by
  obtain ⟨locs, Y, N⟩ := X
  obtain ⟨cl, A, q1, q2⟩ := A
  refine own_go _ (fun t kt => Y.laload hx (j := j) (v := v) (by rw [eT]; exact A.1) (State.isArrayOf_alike hZ.alike A.2.1) A.2.2 (own_in q1 hj (own_lt_of hv)) (by rw [(own_clamp hj).1, q1]; simpa using hv) (g := mkF m pc Ls (.int j :: .ref a :: rest)) rfl rfl hd t kt) k
theorem own_S.ldI (X : own_S p l e R s m args below meth c n0 T cells slots) (hx : p.tables.exec = Jvm.exec) (hZ : Z.Warmed39 s.vm) (eT : T.heap = h) (A : own_A Z h .int a vs) {j : Int32} (i : Nat) (hj : j.toInt = i) (hv : vs[i]? = some v) (hd : decode c.code pc = .ok (.iaload, 1))
    (k : own_G p e below s Q kc ks T (mkF m (pc + 1) Ls (v :: rest))) : own_G p e below s Q kc ks T (mkF m pc Ls (.int j :: .ref a :: rest)) := by
  obtain ⟨locs, Y, N⟩ := X
  obtain ⟨cl, A, q1, q2⟩ := A
  refine own_go _ (fun t kt => Y.iaload hx (j := j) (v := v) (by rw [eT]; exact A.1) (State.isArrayOf_alike hZ.alike A.2.1) A.2.2 (own_in q1 hj (own_lt_of hv)) (by rw [(own_clamp hj).1, q1]; simpa using hv) (g := mkF m pc Ls (.int j :: .ref a :: rest)) rfl rfl hd t kt) k
theorem own_S.ldB (X : own_S p l e R s m args below meth c n0 T cells slots) (hx : p.tables.exec = Jvm.exec) (hZ : Z.Warmed39 s.vm) (eT : T.heap = h) (A : own_A Z h .byte a vs) {j : Int32} (i : Nat) (hj : j.toInt = i) (hv : vs[i]? = some v) (hd : decode c.code pc = .ok (.baload, 1))
    (k : own_G p e below s Q kc ks T (mkF m (pc + 1) Ls (v :: rest))) : own_G p e below s Q kc ks T (mkF m pc Ls (.int j :: .ref a :: rest)) := by
  obtain ⟨locs, Y, N⟩ := X
  obtain ⟨cl, A, q1, q2⟩ := A
  refine own_go _ (fun t kt => Y.baloadBytes hx (j := j) (v := v) (by rw [eT]; exact A.1) (State.isArrayOf_alike hZ.alike A.2.1) A.2.2 (own_in q1 hj (own_lt_of hv)) (by rw [(own_clamp hj).1, q1]; simpa using hv) (g := mkF m pc Ls (.int j :: .ref a :: rest)) rfl rfl hd t kt) k
theorem own_S.alen (X : own_S p l e R s m args below meth c n0 T cells slots) (hx : p.tables.exec = Jvm.exec) (hZ : Z.Warmed39 s.vm) (eT : T.heap = h) (A : own_A Z h ty a vs) (hd : decode c.code pc = .ok (.arraylength, 1))
    (k : own_G p e below s Q kc ks T (mkF m (pc + 1) Ls (.int (Int32.ofNat vs.length) :: rest))) : own_G p e below s Q kc ks T (mkF m pc Ls (.ref a :: rest)) := by
  obtain ⟨locs, Y, N⟩ := X
  obtain ⟨cl, A, q1, q2⟩ := A
  have q : cl.slots.size.toInt32 = Int32.ofNat vs.length := by rw [q1]; simp
  refine own_go _ (fun t kt => Y.arraylength hx (by rw [eT]; exact A.1) (State.isArrayOf_alike hZ.alike A.2.1) (g := mkF m pc Ls (.ref a :: rest)) rfl rfl hd t (by rw [q]; exact kt)) k
theorem own_S.stJ (X : own_S p l e R s m args below meth c n0 T cells slots) (hx : p.tables.exec = Jvm.exec) (hZ : Z.Warmed39 s.vm) (eT : T.heap = h) (A : own_A Z h .long a vs) (g0 : n0 ≤ a) {j : Int32} {x : Int64} (i : Nat) (hj : j.toInt = i) (hi : i < vs.length) (hd : decode c.code pc = .ok (.lastore, 1))
    (k : ∀ T' h', own_S p l e R s m args below meth c n0 T' cells slots → T'.heap = h' → Wr h h' a i (.long x) → own_A Z h' .long a (vs.set i (.long x)) → own_G p e below s Q kc ks T' (mkF m (pc + 1) Ls rest)) : own_G p e below s Q kc ks T (mkF m pc Ls (.long x :: .int j :: .ref a :: rest)) := by
  obtain ⟨locs, Y, N⟩ := X
  have A' := A
  obtain ⟨cl, A, q1, q2⟩ := A
  obtain ⟨T', h', Y', e', W, st⟩ := Jvm.RoadKit.stJ Y hx hZ eT A (j := j) (x := x) (own_in q1 hj hi) (g := mkF m pc Ls (.long x :: .int j :: .ref a :: rest)) rfl rfl hd
  rw [(own_clamp hj).1] at W
  exact own_go _ st (k T' h' ⟨_, Y', Fr.snoc Y' N g0⟩ e' W (A'.set W))
theorem own_S.stI (X : own_S p l e R s m args below meth c n0 T cells slots) (hx : p.tables.exec = Jvm.exec) (hZ : Z.Warmed39 s.vm) (eT : T.heap = h) (A : own_A Z h .int a vs) (g0 : n0 ≤ a) {j : Int32} {x : Int32} (i : Nat) (hj : j.toInt = i) (hi : i < vs.length) (hd : decode c.code pc = .ok (.iastore, 1))
    (k : ∀ T' h', own_S p l e R s m args below meth c n0 T' cells slots → T'.heap = h' → Wr h h' a i (.int x) → own_A Z h' .int a (vs.set i (.int x)) → own_G p e below s Q kc ks T' (mkF m (pc + 1) Ls rest)) : own_G p e below s Q kc ks T (mkF m pc Ls (.int x :: .int j :: .ref a :: rest)) := by
  obtain ⟨locs, Y, N⟩ := X
  have A' := A
  obtain ⟨cl, A, q1, q2⟩ := A
  obtain ⟨T', h', Y', e', W, st⟩ := Jvm.RoadKit.stI Y hx hZ eT A (j := j) (x := x) (own_in q1 hj hi) (g := mkF m pc Ls (.int x :: .int j :: .ref a :: rest)) rfl rfl hd
  rw [(own_clamp hj).1] at W
  exact own_go _ st (k T' h' ⟨_, Y', Fr.snoc Y' N g0⟩ e' W (A'.set W))
theorem own_S.stB (X : own_S p l e R s m args below meth c n0 T cells slots) (hx : p.tables.exec = Jvm.exec) (hZ : Z.Warmed39 s.vm) (eT : T.heap = h) (A : own_A Z h .byte a vs) (g0 : n0 ≤ a) {j : Int32} {x : Int32} (i : Nat) (hj : j.toInt = i) (hi : i < vs.length) (hd : decode c.code pc = .ok (.bastore, 1))
    (k : ∀ T' h', own_S p l e R s m args below meth c n0 T' cells slots → T'.heap = h' → Wr h h' a i (.int x.toInt8.toInt32) → own_A Z h' .byte a (vs.set i (.int x.toInt8.toInt32)) → own_G p e below s Q kc ks T' (mkF m (pc + 1) Ls rest)) : own_G p e below s Q kc ks T (mkF m pc Ls (.int x :: .int j :: .ref a :: rest)) := by
  obtain ⟨locs, Y, N⟩ := X
  have A' := A
  obtain ⟨cl, A, q1, q2⟩ := A
  obtain ⟨T', h', Y', e', W, st⟩ := Jvm.RoadKit.stB Y hx hZ eT A (j := j) (x := x) (own_in q1 hj hi) (g := mkF m pc Ls (.int x :: .int j :: .ref a :: rest)) rfl rfl hd
  rw [(own_clamp hj).1] at W
  exact own_go _ st (k T' h' ⟨_, Y', Fr.snoc Y' N g0⟩ e' W (A'.set W))
theorem own_S.stZ (X : own_S p l e R s m args below meth c n0 T cells slots) (hx : p.tables.exec = Jvm.exec) (hZ : Z.Warmed39 s.vm) (eT : T.heap = h) (A : own_A Z h .boolean a vs) (g0 : n0 ≤ a) {j : Int32} {x : Int32} (i : Nat) (hj : j.toInt = i) (hi : i < vs.length) (hd : decode c.code pc = .ok (.bastore, 1))
    (k : ∀ T' h', own_S p l e R s m args below meth c n0 T' cells slots → T'.heap = h' → Wr h h' a i (.int (x &&& 1)) → own_A Z h' .boolean a (vs.set i (.int (x &&& 1))) → own_G p e below s Q kc ks T' (mkF m (pc + 1) Ls rest)) : own_G p e below s Q kc ks T (mkF m pc Ls (.int x :: .int j :: .ref a :: rest)) := by
  obtain ⟨locs, Y, N⟩ := X
  have A' := A
  obtain ⟨cl, A, q1, q2⟩ := A
  obtain ⟨T', h', Y', e', W, st⟩ := Jvm.RoadKit.stZ Y hx hZ eT A (j := j) (x := x) (own_in q1 hj hi) (g := mkF m pc Ls (.int x :: .int j :: .ref a :: rest)) rfl rfl hd
  rw [(own_clamp hj).1] at W
  exact own_go _ st (k T' h' ⟨_, Y', Fr.snoc Y' N g0⟩ e' W (A'.set W))
theorem own_S.newP (X : own_S p l e R s m args below meth c n0 T cells slots) (hx : p.tables.exec = Jvm.exec) (hZ : Z.Warmed39 s.vm) {aty : ArrayType} (w1 : (Jvm.Cond.arrayClass (newarray.typeOf aty)).before a0 Z = true) (eT : T.heap = h) {j : Int32} (n : Nat) (hj : j.toInt = n) (hd : decode c.code pc = .ok (.newarray aty, 2)) (cap : Nat) (hn : n ≤ cap) (hb : cap * 8 ≤ 536870912) (hc : cells + 1 ≤ R.cells) (hl : slots + cap ≤ R.slots)
    (k : ∀ T' h' (b : Addr), own_S p l e R s m args below meth c n0 T' (cells + 1) (slots + cap) → T'.heap = h' → b = h.size → Ext h h' → own_A Z h' (newarray.typeOf aty) b (List.replicate n (defaultValue (newarray.typeOf aty))) → own_G p e below s Q kc ks T' (mkF m (pc + 2) Ls (.ref b :: rest))) :
    own_G p e below s Q kc ks T (mkF m pc Ls (.int j :: rest)) := by
  obtain ⟨locs, Y, N⟩ := X
  obtain ⟨c1, c2⟩ := own_clamp hj
  obtain ⟨T', h', cA, Y', e', E, A, st⟩ := Jvm.RoadKit.newP Y hx hZ w1 eT (g := mkF m pc Ls (.int j :: rest)) rfl hd rfl c2 (cap := cap) (by rw [c1]; exact hn) hb hc hl
  refine own_go _ st (k T' h' h.size ⟨_, Y', N⟩ e' rfl E ⟨_, A, ?_, ?_⟩)
  · simp [newA, c1]
  · rw [List.length_replicate]; omega
/-- calls -/
theorem own_S.callS (X : own_S p l e R s m args below meth c n0 T cells slots) (hx : p.tables.exec = Jvm.exec) (hZ : Z.Warmed39 s.vm) {own : String} {index : Nat} {y : MethodName} {bytes : ByteArray} {mx : Nat} {ret : Option FieldType} {rm : Room} {P : Option Value → Heap → Prop}
    (hown : s.vm.findClass own = some m.cls) (w1 : (Jvm.Cond.methodLink own index y).before a0 Z = true) (w2 : (Jvm.Cond.static y).before a0 Z = true) (w3 : (Jvm.Cond.initialized y.cls).before a0 Z = true) (w4 : (Jvm.Cond.code y bytes mx ret).before a0 Z = true) (hy : y.cls ≠ "java/lang/invoke/MethodHandle" ∧ y.cls ≠ "java/lang/invoke/VarHandle")
    (eT : T.heap = h) (argsL rest : List Value) (hM : own_C l Z y bytes mx ret [] rm argsL.toArray h (own_Q n0 P)) (W : Nat) (hf : rm.frames + 1 ≤ R.frames) (hlo : W + (mx + 11) + rm.locals ≤ R.locals) (hW : (rest.map fun v => v.category).sum ≤ W) (hc : cells + rm.cells ≤ R.cells) (hs : slots + rm.slots ≤ R.slots)
    {S : List Value} (hsize : Ls.size = c.maxLocals) (hlen : ∀ sig, parseMethodDescriptor y.desc = some sig → argsL.length = sig.parameters.length) (hS : S = argsL.reverse ++ rest) (hd : decode c.code pc = .ok (.invokestatic index, 3))
    (k : ∀ (T' : State) (v : Option Value), own_S p l e R s m args below meth c n0 T' (cells + rm.cells) (slots + rm.slots) → P v T'.heap → own_G p e below s Q kc ks T' (mkF m (pc + 3) Ls (v.toList ++ rest))) :
    own_G p e below s Q kc ks T (mkF m pc Ls S) := by
  obtain ⟨locs, Y, N⟩ := X
  exact own_callS Y hx hZ hown w1 w2 w3 w4 hy eT argsL rest hM W hf hlo hW hc hs hsize hlen hS hd fun T' v L Y' hq => k T' v ⟨_, Y', N.app hq.1⟩ hq.2
theorem own_S.callP (X : own_S p l e R s m args below meth c n0 T cells slots) (hx : p.tables.exec = Jvm.exec) (hZ : Z.Warmed39 s.vm) {own : String} {index : Nat} {y : MethodName} {bytes : ByteArray} {mx : Nat} {ret : Option FieldType} {fr lo : Nat} {r : Value}
    (hown : s.vm.findClass own = some m.cls) (w1 : (Jvm.Cond.methodLink own index y).before a0 Z = true) (w2 : (Jvm.Cond.static y).before a0 Z = true) (w3 : (Jvm.Cond.initialized y.cls).before a0 Z = true) (w4 : (Jvm.Cond.code y bytes mx ret).before a0 Z = true) (hy : y.cls ≠ "java/lang/invoke/MethodHandle" ∧ y.cls ≠ "java/lang/invoke/VarHandle")
    (eT : T.heap = h) (argsL rest : List Value) (hM : own_C l Z y bytes mx ret [] { frames := fr, cells := 0, slots := 0, locals := lo } argsL.toArray h (own_P r h)) (W : Nat) (hf : fr + 1 ≤ R.frames) (hlo : W + (mx + 11) + lo ≤ R.locals) (hW : (rest.map fun v => v.category).sum ≤ W) (hc : cells ≤ R.cells) (hs : slots ≤ R.slots)
    {S : List Value} (hsize : Ls.size = c.maxLocals) (hlen : ∀ sig, parseMethodDescriptor y.desc = some sig → argsL.length = sig.parameters.length) (hS : S = argsL.reverse ++ rest) (hd : decode c.code pc = .ok (.invokestatic index, 3))
    (k : ∀ (T' : State), own_S p l e R s m args below meth c n0 T' cells slots → T'.heap = h → own_G p e below s Q kc ks T' (mkF m (pc + 3) Ls (r :: rest))) :
    own_G p e below s Q kc ks T (mkF m pc Ls S) := by
  obtain ⟨locs, Y, N⟩ := X
  exact own_callP Y hx hZ hown w1 w2 w3 w4 hy eT argsL rest hM W hf hlo hW hc hs hsize hlen hS hd fun T' Y' e' => k T' ⟨_, Y', N⟩ e'
theorem own_S.callI (X : own_S p l e R s m args below meth c n0 T cells slots) (hx : p.tables.exec = Jvm.exec) (hZ : Z.Warmed39 s.vm) {own : String} {index : Nat} {y : MethodName} {bytes : ByteArray} {mx : Nat} {rm : Room} {P : Option Value → Heap → Prop} (hy1 : y.name = "<init>")
    (hown : s.vm.findClass own = some m.cls) (w1 : (Jvm.Cond.methodLink own index y).before a0 Z = true) (w2 : (Jvm.Cond.instanceMethod y).before a0 Z = true) (w3 : (Jvm.Cond.initialized y.cls).before a0 Z = true) (w4 : (Jvm.Cond.code y bytes mx none).before a0 Z = true) (hy : y.cls ≠ "java/lang/invoke/MethodHandle" ∧ y.cls ≠ "java/lang/invoke/VarHandle")
    (eT : T.heap = h) (a : Addr) (argsL rest : List Value) (hM : own_C l Z y bytes mx none [] rm (.ref a :: argsL).toArray h (own_Q n0 P)) (W : Nat) (hf : rm.frames + 1 ≤ R.frames) (hlo : W + (mx + 11) + rm.locals ≤ R.locals) (hW : (rest.map fun v => v.category).sum ≤ W) (hc : cells + rm.cells ≤ R.cells) (hs : slots + rm.slots ≤ R.slots)
    {S : List Value} (hsize : Ls.size = c.maxLocals) (hlen : ∀ sig, parseMethodDescriptor y.desc = some sig → argsL.length = sig.parameters.length) (hS : S = argsL.reverse ++ .ref a :: rest) (hd : decode c.code pc = .ok (.invokespecial index, 3))
    (k : ∀ (T' : State) (v : Option Value), own_S p l e R s m args below meth c n0 T' (cells + rm.cells) (slots + rm.slots) → P v T'.heap → own_G p e below s Q kc ks T' (mkF m (pc + 3) Ls (v.toList ++ rest))) :
    own_G p e below s Q kc ks T (mkF m pc Ls S) := by
  obtain ⟨locs, Y, N⟩ := X
  exact own_callI Y hx hZ hy1 hown w1 w2 w3 w4 hy eT a argsL rest hM W hf hlo hW hc hs hsize hlen hS hd fun T' v L Y' hq => k T' v ⟨_, Y', N.app hq.1⟩ hq.2
theorem own_S.callV (X : own_S p l e R s m args below meth c n0 T cells slots) (hx : p.tables.exec = Jvm.exec) (hZ : Z.Warmed39 s.vm) {own C : String} {index : Nat} {y : MethodName} {bytes : ByteArray} {mx : Nat} {ret : Option FieldType} {rm : Room} {P : Option Value → Heap → Prop}
    (hown : s.vm.findClass own = some m.cls) (w1 : (Jvm.Cond.methodLink own index y).before a0 Z = true) (w5 : (Jvm.Cond.declares y).before a0 Z = true) (w6 : (Jvm.Cond.selects C y y).before a0 Z = true) (w2 : (Jvm.Cond.instanceMethod y).before a0 Z = true) (w3 : (Jvm.Cond.initialized y.cls).before a0 Z = true) (w4 : (Jvm.Cond.code y bytes mx ret).before a0 Z = true) (hy : y.cls ≠ "java/lang/invoke/MethodHandle" ∧ y.cls ≠ "java/lang/invoke/VarHandle")
    (eT : T.heap = h) {a : Addr} (E : Exa Z h a C) (argsL rest : List Value) (hM : own_C l Z y bytes mx ret [] rm (.ref a :: argsL).toArray h (own_Q n0 P)) (W : Nat) (hf : rm.frames + 1 ≤ R.frames) (hlo : W + (mx + 11) + rm.locals ≤ R.locals) (hW : (rest.map fun v => v.category).sum ≤ W) (hc : cells + rm.cells ≤ R.cells) (hs : slots + rm.slots ≤ R.slots)
    {S : List Value} (hsize : Ls.size = c.maxLocals) (hlen : ∀ sig, parseMethodDescriptor y.desc = some sig → argsL.length = sig.parameters.length) (hS : S = argsL.reverse ++ .ref a :: rest) (hd : decode c.code pc = .ok (.invokevirtual index, 3))
    (k : ∀ (T' : State) (v : Option Value), own_S p l e R s m args below meth c n0 T' (cells + rm.cells) (slots + rm.slots) → P v T'.heap → own_G p e below s Q kc ks T' (mkF m (pc + 3) Ls (v.toList ++ rest))) :
    own_G p e below s Q kc ks T (mkF m pc Ls S) := by
  obtain ⟨locs, Y, N⟩ := X
  exact own_callV Y hx hZ hown w1 w5 w6 w2 w3 w4 hy eT E argsL rest hM W hf hlo hW hc hs hsize hlen hS hd fun T' v L Y' hq => k T' v ⟨_, Y', N.app hq.1⟩ hq.2
end OwnHeap
theorem own_pd0 : parseMethodDescriptor "(II)V" = some ⟨[.int, .int], none⟩ := by decide +kernel
theorem own_pd1 : parseMethodDescriptor "(II)Z" = some ⟨[.int, .int], some .boolean⟩ := by decide +kernel
theorem own_pd2 : parseMethodDescriptor "(JJ)J" = some ⟨[.long, .long], some .long⟩ := by decide +kernel
theorem own_sn_EreSweeping_fewestPositions_share {Z : State} {a0 : Array Value} (hw : ∀ d ∈ tables_1, d.before a0 Z = true) : Jvm.RoadKit.slotOf Z "com/example/alcuin/alcuin/service/EreSweeping" "fewestPositions" "I" ≠ Jvm.RoadKit.slotOf Z "com/example/alcuin/alcuin/service/EreSweeping" "share" "I" := slot_ne (Or.inr (hw _ (List.mem_of_getElem? (i := 12) rfl))) (Or.inr (hw _ (List.mem_of_getElem? (i := 10) rfl))) (by decide) (t := .int) (t' := .int) (by decide) (by decide)
theorem own_sn_EreSweeping_share_fewestPositions {Z : State} {a0 : Array Value} (hw : ∀ d ∈ tables_1, d.before a0 Z = true) : Jvm.RoadKit.slotOf Z "com/example/alcuin/alcuin/service/EreSweeping" "share" "I" ≠ Jvm.RoadKit.slotOf Z "com/example/alcuin/alcuin/service/EreSweeping" "fewestPositions" "I" := slot_ne (Or.inr (hw _ (List.mem_of_getElem? (i := 10) rfl))) (Or.inr (hw _ (List.mem_of_getElem? (i := 12) rfl))) (by decide) (t := .int) (t' := .int) (by decide) (by decide)
theorem own_d1_0 : decode prog_89_method_1_code 0 = .ok (.aload_n 0, 1) := by decide +kernel
theorem own_d1_1 : decode prog_89_method_1_code 1 = .ok (.invokespecial 1, 3) := by decide +kernel
theorem own_d1_4 : decode prog_89_method_1_code 4 = .ok (.aload_n 0, 1) := by decide +kernel
theorem own_d1_5 : decode prog_89_method_1_code 5 = .ok (.iload_n 1, 1) := by decide +kernel
theorem own_d1_6 : decode prog_89_method_1_code 6 = .ok (.putfield 7, 3) := by decide +kernel
theorem own_d1_9 : decode prog_89_method_1_code 9 = .ok (.aload_n 0, 1) := by decide +kernel
theorem own_d1_10 : decode prog_89_method_1_code 10 = .ok (.iload_n 2, 1) := by decide +kernel
theorem own_d1_11 : decode prog_89_method_1_code 11 = .ok (.putfield 13, 3) := by decide +kernel
theorem own_d1_14 : decode prog_89_method_1_code 14 = .ok (.return_, 1) := by decide +kernel
theorem own_pn_own_rm1 : plainFor (⟨"com/example/alcuin/alcuin/service/EreSweeping", "<init>", "(II)V"⟩ : MethodName) = true := plainFor_of_name (show plainName "com/example/alcuin/alcuin/service/EreSweeping" = true by first | (simp [plainName, overriddenIn]; done) | decide +kernel)
set_option maxRecDepth 65536 in
set_option maxHeartbeats 40000000 in
theorem own_rm1 (l : Launch) (Z : State) (a0 : Array Value) (hw : ∀ d ∈ tables_1, d.before a0 Z = true) (ws : List Jvm.Cond) (h0 : Heap) (n0 : Nat) (Z0 : n0 ≤ h0.size) (a : Addr) (g_a : n0 ≤ a) (u1 u2 x2 x3 : Int32) (E_a : Exa Z h0 a "com/example/alcuin/alcuin/service/EreSweeping") (F_a_share : Fld Z h0 a "com/example/alcuin/alcuin/service/EreSweeping" "share" "I" (.int u1)) (F_a_few : Fld Z h0 a "com/example/alcuin/alcuin/service/EreSweeping" "fewestPositions" "I" (.int u2))  :
    own_C l Z (⟨"com/example/alcuin/alcuin/service/EreSweeping", "<init>", "(II)V"⟩ : MethodName) prog_89_method_1_code 3 none ws ({ frames := 1, cells := 0, slots := 0, locals := 12 } : Room) #[(.ref a), (.int x2), (.int x3)] h0 (own_Q n0 (fun v h => v = none ∧ Exa Z h a "com/example/alcuin/alcuin/service/EreSweeping" ∧ Fld Z h a "com/example/alcuin/alcuin/service/EreSweeping" "share" "I" (.int x2) ∧ n0 ≤ h.size)) := by
  refine own_met own_pn_own_rm1 #[rv a, iv x2, iv x3] (fun m => by first | (simp [entryFrame, mkF, argsToLocals, Value.category]; done) | rfl) ?_
  intro p e s m below meth c s₁ hx hby hml hown hret hlk hZ hnm X0 e0
  replace X0 := own_S.of X0 (n0)
  have hn : n0 ≤ h0.size := Z0
  refine own_go (mkF m 1 #[rv a, iv x2, iv x3] [(.ref a)]) (fun t k => XS.aloadN X0.here hx rfl (hb hby own_d1_0) rfl rfl  k) ?_
  refine X0.initO hx hZ hown (hw _ (List.mem_of_getElem? (i := 6) rfl)) (hw _ (List.mem_of_getElem? (i := 7) rfl)) (hw _ (List.mem_of_getElem? (i := 8) rfl)) e0 (by rw [hml]; rfl) (hb hby own_d1_1) (by decide) 0 (Nat.le_of_eq rfl) (by decide) ?_
  intro T1 X1 e1
  refine own_go (mkF m 5 #[rv a, iv x2, iv x3] [(.ref a)]) (fun t k => XS.aloadN X1.here hx rfl (hb hby own_d1_4) rfl rfl  k) ?_
  refine own_go (mkF m 6 #[rv a, iv x2, iv x3] [(.int x2), (.ref a)]) (fun t k => XS.iloadN X1.here hx rfl (hb hby own_d1_5) rfl  k) ?_
  refine X1.putF hx hZ hown (hw _ (List.mem_of_getElem? (i := 9) rfl)) e1 F_a_share E_a g_a (Or.inr ⟨(hw _ (List.mem_of_getElem? (i := 10) rfl)), rfl, hnm⟩) (hw _ (List.mem_of_getElem? (i := 1) rfl)) (ty := .int) (by decide) rfl rfl (hb hby own_d1_6) ?_
  intro T2 h2 X2 e2 W2
  replace E_a := E_a.wr W2
  replace F_a_share := F_a_share.same W2
  replace F_a_few := F_a_few.other W2 (Or.inr (own_sn_EreSweeping_fewestPositions_share hw))
  replace hn := Nat.le_trans hn (Keep.of_wr W2).1
  refine own_go (mkF m 10 #[rv a, iv x2, iv x3] [(.ref a)]) (fun t k => XS.aloadN X2.here hx rfl (hb hby own_d1_9) rfl rfl  k) ?_
  refine own_go (mkF m 11 #[rv a, iv x2, iv x3] [(.int x3), (.ref a)]) (fun t k => XS.iloadN X2.here hx rfl (hb hby own_d1_10) rfl  k) ?_
  refine X2.putF hx hZ hown (hw _ (List.mem_of_getElem? (i := 11) rfl)) e2 F_a_few E_a g_a (Or.inr ⟨(hw _ (List.mem_of_getElem? (i := 12) rfl)), rfl, hnm⟩) (hw _ (List.mem_of_getElem? (i := 1) rfl)) (ty := .int) (by decide) rfl rfl (hb hby own_d1_11) ?_
  intro T3 h3 X3 e3 W3
  replace E_a := E_a.wr W3
  replace F_a_share := F_a_share.other W3 (Or.inr (own_sn_EreSweeping_share_fewestPositions hw))
  replace F_a_few := F_a_few.same W3
  replace hn := Nat.le_trans hn (Keep.of_wr W3).1
  refine X3.retV hx hlk hret (hb hby own_d1_14) ?_ (by decide) (by decide)
  rw [e3]
  exact ⟨rfl, E_a, F_a_share, hn⟩

def own_w (x0 : Int32) (x1 : Int32) (x2 : Int32) : Int32 := (if ((x0.toInt64) * (x2.toInt64)) < (x1.toInt64) then (0 : Int32) else (1 : Int32))
theorem own_d2_0 : decode prog_89_method_2_code 0 = .ok (.iload_n 1, 1) := by decide +kernel
theorem own_d2_1 : decode prog_89_method_2_code 1 = .ok (.i2l, 1) := by decide +kernel
theorem own_d2_2 : decode prog_89_method_2_code 2 = .ok (.aload_n 0, 1) := by decide +kernel
theorem own_d2_3 : decode prog_89_method_2_code 3 = .ok (.getfield 7, 3) := by decide +kernel
theorem own_d2_6 : decode prog_89_method_2_code 6 = .ok (.i2l, 1) := by decide +kernel
theorem own_d2_7 : decode prog_89_method_2_code 7 = .ok (.lmul, 1) := by decide +kernel
theorem own_d2_8 : decode prog_89_method_2_code 8 = .ok (.iload_n 2, 1) := by decide +kernel
theorem own_d2_9 : decode prog_89_method_2_code 9 = .ok (.i2l, 1) := by decide +kernel
theorem own_d2_10 : decode prog_89_method_2_code 10 = .ok (.lcmp, 1) := by decide +kernel
theorem own_d2_11 : decode prog_89_method_2_code 11 = .ok (.ifCond .lt 7, 3) := by decide +kernel
theorem own_d2_14 : decode prog_89_method_2_code 14 = .ok (.iconst 1, 1) := by decide +kernel
theorem own_d2_15 : decode prog_89_method_2_code 15 = .ok (.goto 4, 3) := by decide +kernel
theorem own_d2_18 : decode prog_89_method_2_code 18 = .ok (.iconst 0, 1) := by decide +kernel
theorem own_d2_19 : decode prog_89_method_2_code 19 = .ok (.ireturn, 1) := by decide +kernel
theorem own_pn_own_rm2 : plainFor (⟨"com/example/alcuin/alcuin/service/EreSweeping", "worthSweeping", "(II)Z"⟩ : MethodName) = true := plainFor_of_name (show plainName "com/example/alcuin/alcuin/service/EreSweeping" = true by first | (simp [plainName, overriddenIn]; done) | decide +kernel)
set_option maxRecDepth 65536 in
set_option maxHeartbeats 40000000 in
theorem own_rm2 (l : Launch) (Z : State) (a0 : Array Value) (hw : ∀ d ∈ tables_1, d.before a0 Z = true) (ws : List Jvm.Cond) (h0 : Heap) (n0 : Nat) (Z0 : n0 ≤ h0.size) (a : Addr) (x0 x1 x2 : Int32) (F_a_share : Fld Z h0 a "com/example/alcuin/alcuin/service/EreSweeping" "share" "I" (.int x2))  :
    own_C l Z (⟨"com/example/alcuin/alcuin/service/EreSweeping", "worthSweeping", "(II)Z"⟩ : MethodName) prog_89_method_2_code 3 (some .boolean) ws ({ frames := 0, cells := 0, slots := 0, locals := 0 } : Room) #[(.ref a), (.int x0), (.int x1)] h0 (own_Q n0 (fun v h => v = some (.int (own_w x0 x1 x2)) ∧ h = h0)) := by
  refine own_met own_pn_own_rm2 #[rv a, iv x0, iv x1] (fun m => by first | (simp [entryFrame, mkF, argsToLocals, Value.category]; done) | rfl) ?_
  intro p e s m below meth c s₁ hx hby hml hown hret hlk hZ hnm X0 e0
  replace X0 := own_S.of X0 (n0)
  have hn : n0 ≤ h0.size := Z0
  refine own_go (mkF m 1 #[rv a, iv x0, iv x1] [(.int x0)]) (fun t k => XS.iloadN X0.here hx rfl (hb hby own_d2_0) rfl  k) ?_
  refine own_go (mkF m 2 #[rv a, iv x0, iv x1] [(.long (x0.toInt64))]) (fun t k => XS.i2l X0.here hx rfl (hb hby own_d2_1) rfl k) ?_
  refine own_go (mkF m 3 #[rv a, iv x0, iv x1] [(.ref a), (.long (x0.toInt64))]) (fun t k => XS.aloadN X0.here hx rfl (hb hby own_d2_2) rfl rfl  k) ?_
  refine X0.getF hx hZ hown (hw _ (List.mem_of_getElem? (i := 9) rfl)) e0 F_a_share (hb hby own_d2_3) ?_
  intro T1 X1 e1
  refine own_go (mkF m 7 #[rv a, iv x0, iv x1] [(.long (x2.toInt64)), (.long (x0.toInt64))]) (fun t k => XS.i2l X1.here hx rfl (hb hby own_d2_6) rfl k) ?_
  refine own_go (mkF m 8 #[rv a, iv x0, iv x1] [(.long ((x0.toInt64) * (x2.toInt64)))]) (fun t k => XS.lmul X1.here hx rfl (hb hby own_d2_7) rfl k) ?_
  refine own_go (mkF m 9 #[rv a, iv x0, iv x1] [(.int x1), (.long ((x0.toInt64) * (x2.toInt64)))]) (fun t k => XS.iloadN X1.here hx rfl (hb hby own_d2_8) rfl  k) ?_
  refine own_go (mkF m 10 #[rv a, iv x0, iv x1] [(.long (x1.toInt64)), (.long ((x0.toInt64) * (x2.toInt64)))]) (fun t k => XS.i2l X1.here hx rfl (hb hby own_d2_9) rfl k) ?_
  refine own_go (mkF m 11 #[rv a, iv x0, iv x1] [(.int (lcmpW ((x0.toInt64) * (x2.toInt64)) (x1.toInt64)))]) (fun t k => XS.lcmp X1.here hx rfl (hb hby own_d2_10) rfl k) ?_
  by_cases hc11 : ((x0.toInt64) * (x2.toInt64)) < (x1.toInt64)
  · skip
    refine own_go (mkF m 18 #[rv a, iv x0, iv x1] []) (fun t k => XS.ifYes X1.here hx rfl (pc0 := 11) (pc' := 18) rfl (hb hby own_d2_11) rfl ((if0 _ _).trans (tlt ((lw_lt ((x0.toInt64) * (x2.toInt64)) (x1.toInt64)).mpr hc11)).1) (by decide) (by decide) k) ?_
    refine own_go (mkF m 19 #[rv a, iv x0, iv x1] [(.int (0 : Int32))]) (fun t k => XS.iconst X1.here hx rfl (hb hby own_d2_18) k) ?_
    refine X1.retZ hx hlk hret (hb hby own_d2_19) ?_ (by decide) (by decide)
    exact ⟨congrArg (fun z => some (Value.int z)) ((show (own_w x0 x1 x2) = (0 : Int32) from ((if_pos hc11).trans rfl)).trans (by decide : (0 : Int32) = ((0 : Int32) &&& 1))).symm, e1⟩
  · skip
    refine own_go (mkF m 14 #[rv a, iv x0, iv x1] []) (fun t k => XS.ifNo X1.here hx rfl (hb hby own_d2_11) rfl ((if0 _ _).trans (flt (fun q => hc11 ((lw_lt ((x0.toInt64) * (x2.toInt64)) (x1.toInt64)).mp q))).1) k) ?_
    refine own_go (mkF m 15 #[rv a, iv x0, iv x1] [(.int (1 : Int32))]) (fun t k => XS.iconst X1.here hx rfl (hb hby own_d2_14) k) ?_
    refine own_go (mkF m 19 #[rv a, iv x0, iv x1] [(.int (1 : Int32))]) (fun t k => XS.goto X1.here hx rfl (pc0 := 15) (pc' := 19) rfl (hb hby own_d2_15) (by decide) (by decide) k) ?_
    refine X1.retZ hx hlk hret (hb hby own_d2_19) ?_ (by decide) (by decide)
    exact ⟨congrArg (fun z => some (Value.int z)) ((show (own_w x0 x1 x2) = (1 : Int32) from ((if_neg hc11).trans rfl)).trans (by decide : (1 : Int32) = ((1 : Int32) &&& 1))).symm, e1⟩

def own_cd (n : Int64) (sv : Int64) : Int64 := (if n < (0 : Int64) then (n / sv) else (((n + sv) - (1 : Int64)) / sv))
theorem own_d3_0 : decode method_2_code 0 = .ok (.lload_n 0, 1) := by decide +kernel
theorem own_d3_1 : decode method_2_code 1 = .ok (.lconst 0, 1) := by decide +kernel
theorem own_d3_2 : decode method_2_code 2 = .ok (.lcmp, 1) := by decide +kernel
theorem own_d3_3 : decode method_2_code 3 = .ok (.ifCond .lt 11, 3) := by decide +kernel
theorem own_d3_6 : decode method_2_code 6 = .ok (.lload_n 0, 1) := by decide +kernel
theorem own_d3_7 : decode method_2_code 7 = .ok (.lload_n 2, 1) := by decide +kernel
theorem own_d3_8 : decode method_2_code 8 = .ok (.ladd, 1) := by decide +kernel
theorem own_d3_9 : decode method_2_code 9 = .ok (.lconst 1, 1) := by decide +kernel
theorem own_d3_10 : decode method_2_code 10 = .ok (.lsub, 1) := by decide +kernel
theorem own_d3_11 : decode method_2_code 11 = .ok (.lload_n 2, 1) := by decide +kernel
theorem own_d3_12 : decode method_2_code 12 = .ok (.ldiv, 1) := by decide +kernel
theorem own_d3_13 : decode method_2_code 13 = .ok (.lreturn, 1) := by decide +kernel
theorem own_d3_14 : decode method_2_code 14 = .ok (.lload_n 0, 1) := by decide +kernel
theorem own_d3_15 : decode method_2_code 15 = .ok (.lload_n 2, 1) := by decide +kernel
theorem own_d3_16 : decode method_2_code 16 = .ok (.ldiv, 1) := by decide +kernel
theorem own_d3_17 : decode method_2_code 17 = .ok (.lreturn, 1) := by decide +kernel
theorem own_pn_own_rm3 : plainFor (⟨"com/example/alcuin/alcuin/service/EreSweepingWorthSweepingPinLaw", "ceilDiv", "(JJ)J"⟩ : MethodName) = true := plainFor_of_name (show plainName "com/example/alcuin/alcuin/service/EreSweepingWorthSweepingPinLaw" = true by first | (simp [plainName, overriddenIn]; done) | decide +kernel)
set_option maxRecDepth 65536 in
set_option maxHeartbeats 40000000 in
theorem own_rm3 (l : Launch) (Z : State) (a0 : Array Value) (hw : ∀ d ∈ tables_1, d.before a0 Z = true) (ws : List Jvm.Cond) (h0 : Heap) (n sv : Int64) (hs0 : ¬ sv = 0)  :
    own_C l Z (⟨"com/example/alcuin/alcuin/service/EreSweepingWorthSweepingPinLaw", "ceilDiv", "(JJ)J"⟩ : MethodName) method_2_code 4 (some .long) ws ({ frames := 0, cells := 0, slots := 0, locals := 0 } : Room) #[(.long n), (.long sv)] h0 (own_P (.long (own_cd n sv)) h0) := by
  refine own_met own_pn_own_rm3 #[jv n, .second, jv sv, .second] (fun m => by first | (simp [entryFrame, mkF, argsToLocals, Value.category]; done) | rfl) ?_
  intro p e s m below meth c s₁ hx hby hml hown hret hlk hZ hnm X0 e0
  refine own_go (mkF m 1 #[jv n, .second, jv sv, .second] [(.long n)]) (fun t k => XS.lloadN X0.here hx rfl (hb hby own_d3_0) rfl  k) ?_
  refine own_go (mkF m 2 #[jv n, .second, jv sv, .second] [(.long (0 : Int64)), (.long n)]) (fun t k => XS.lconst X0.here hx rfl (hb hby own_d3_1) k) ?_
  refine own_go (mkF m 3 #[jv n, .second, jv sv, .second] [(.int (lcmpW n (0 : Int64)))]) (fun t k => XS.lcmp X0.here hx rfl (hb hby own_d3_2) rfl k) ?_
  by_cases hc3 : n < (0 : Int64)
  · skip
    refine own_go (mkF m 14 #[jv n, .second, jv sv, .second] []) (fun t k => XS.ifYes X0.here hx rfl (pc0 := 3) (pc' := 14) rfl (hb hby own_d3_3) rfl ((if0 _ _).trans (tlt ((lw_lt n (0 : Int64)).mpr hc3)).1) (by decide) (by decide) k) ?_
    refine own_go (mkF m 15 #[jv n, .second, jv sv, .second] [(.long n)]) (fun t k => XS.lloadN X0.here hx rfl (hb hby own_d3_14) rfl  k) ?_
    refine own_go (mkF m 16 #[jv n, .second, jv sv, .second] [(.long sv), (.long n)]) (fun t k => XS.lloadN X0.here hx rfl (hb hby own_d3_15) rfl  k) ?_
    refine own_go (mkF m 17 #[jv n, .second, jv sv, .second] [(.long (n / sv))]) (fun t k => XS.ldiv X0.here hx rfl (hb hby own_d3_16) rfl hs0 k) ?_
    refine own_retJ X0 hx hlk hret (hb hby own_d3_17) ?_ (by decide) (by decide)
    exact ⟨congrArg (fun z => some (Value.long z)) ((show (own_cd n sv) = (n / sv) from ((if_pos hc3).trans rfl)).trans (by rfl : (n / sv) = (n / sv))).symm, e0, rfl⟩
  · skip
    refine own_go (mkF m 6 #[jv n, .second, jv sv, .second] []) (fun t k => XS.ifNo X0.here hx rfl (hb hby own_d3_3) rfl ((if0 _ _).trans (flt (fun q => hc3 ((lw_lt n (0 : Int64)).mp q))).1) k) ?_
    refine own_go (mkF m 7 #[jv n, .second, jv sv, .second] [(.long n)]) (fun t k => XS.lloadN X0.here hx rfl (hb hby own_d3_6) rfl  k) ?_
    refine own_go (mkF m 8 #[jv n, .second, jv sv, .second] [(.long sv), (.long n)]) (fun t k => XS.lloadN X0.here hx rfl (hb hby own_d3_7) rfl  k) ?_
    refine own_go (mkF m 9 #[jv n, .second, jv sv, .second] [(.long (n + sv))]) (fun t k => XS.ladd X0.here hx rfl (hb hby own_d3_8) rfl k) ?_
    refine own_go (mkF m 10 #[jv n, .second, jv sv, .second] [(.long (1 : Int64)), (.long (n + sv))]) (fun t k => XS.lconst X0.here hx rfl (hb hby own_d3_9) k) ?_
    refine own_go (mkF m 11 #[jv n, .second, jv sv, .second] [(.long ((n + sv) - (1 : Int64)))]) (fun t k => XS.lsub X0.here hx rfl (hb hby own_d3_10) rfl k) ?_
    refine own_go (mkF m 12 #[jv n, .second, jv sv, .second] [(.long sv), (.long ((n + sv) - (1 : Int64)))]) (fun t k => XS.lloadN X0.here hx rfl (hb hby own_d3_11) rfl  k) ?_
    refine own_go (mkF m 13 #[jv n, .second, jv sv, .second] [(.long (((n + sv) - (1 : Int64)) / sv))]) (fun t k => XS.ldiv X0.here hx rfl (hb hby own_d3_12) rfl hs0 k) ?_
    refine own_retJ X0 hx hlk hret (hb hby own_d3_13) ?_ (by decide) (by decide)
    exact ⟨congrArg (fun z => some (Value.long z)) ((show (own_cd n sv) = (((n + sv) - (1 : Int64)) / sv) from ((if_neg hc3).trans rfl)).trans (by rfl : (((n + sv) - (1 : Int64)) / sv) = (((n + sv) - (1 : Int64)) / sv))).symm, e0, rfl⟩


theorem own_mulb {a b : Int} (h1 : -2147483648 ≤ a) (h2 : a ≤ 2147483648) (h3 : -2147483648 ≤ b) (h4 : b ≤ 2147483648) : -4611686018427387904 ≤ a * b ∧ a * b ≤ 4611686018427387904 := by
  have q : (a * b).natAbs ≤ 2147483648 * 2147483648 := by rw [Int.natAbs_mul]; exact Nat.mul_le_mul (by omega) (by omega)
  omega
theorem own_wI (x0 x1 x2 : Int32) : own_w x0 x1 x2 = if x0.toInt * x2.toInt < x1.toInt then 0 else 1 := by
  have a1 := x0.toInt_lt; have a2 := x0.le_toInt; have b1 := x2.toInt_lt; have b2 := x2.le_toInt
  have q := own_mulb (a := x0.toInt) (b := x2.toInt) (by omega) (by omega) (by omega) (by omega)
  have e : (x0.toInt64 * x2.toInt64).toInt = x0.toInt * x2.toInt := by
    rw [Jvm.Kit.i64_mul (by simp only [Int32.toInt_toInt64]; omega) (by simp only [Int32.toInt_toInt64]; omega)]
    simp only [Int32.toInt_toInt64]
  unfold own_w
  simp only [Int64.lt_iff_toInt_lt, e, Int32.toInt_toInt64]
def own_J (x0 x2 : Int32) (tv sv : Int64) : Prop := 0 ≤ sv.toInt ∧ sv.toInt ≤ 2147483648 ∧ -2147483648 ≤ tv.toInt ∧ tv.toInt ≤ 2147483648 ∧ tv.toInt * sv.toInt = x0.toInt * x2.toInt
theorem own_Jp {x0 x2 : Int32} (h : ¬ x2.toInt64 < 0) : own_J x0 x2 x0.toInt64 x2.toInt64 := by
  have a1 := x0.toInt_lt; have a2 := x0.le_toInt; have b1 := x2.toInt_lt
  have e0 : (0 : Int64).toInt = 0 := rfl
  rw [Int64.lt_iff_toInt_lt, e0] at h
  simp only [own_J, Int32.toInt_toInt64] at h ⊢
  refine ⟨by omega, by omega, by omega, by omega, by first | trivial | rfl⟩
theorem own_Jn {x0 x2 : Int32} (h : x2.toInt64 < 0) : own_J x0 x2 (-x0.toInt64) (-x2.toInt64) := by
  have a1 := x0.toInt_lt; have a2 := x0.le_toInt; have b1 := x2.toInt_lt; have b2 := x2.le_toInt
  have e0 : (0 : Int64).toInt = 0 := rfl
  rw [Int64.lt_iff_toInt_lt, e0] at h
  have n0 : (-x0.toInt64).toInt = -x0.toInt := by rw [Jvm.Kit.i64_neg (by simp only [Int32.toInt_toInt64]; omega), Int32.toInt_toInt64]
  have n2 : (-x2.toInt64).toInt = -x2.toInt := by rw [Jvm.Kit.i64_neg (by simp only [Int32.toInt_toInt64]; omega), Int32.toInt_toInt64]
  simp only [own_J, Int32.toInt_toInt64, n0, n2] at h ⊢
  refine ⟨by omega, by omega, by omega, by omega, by first | trivial | rw [Int.neg_mul_neg]⟩
theorem own_L0 {x0 x1 x2 : Int32} {tv sv : Int64} (h : own_J x0 x2 tv sv) (hs : sv = 0) : own_w x0 x1 x2 = if 0 < x1 then 0 else 1 := by
  obtain ⟨-, -, -, -, h⟩ := h
  subst hs
  have e0 : (0 : Int64).toInt = 0 := rfl
  have e1 : (0 : Int32).toInt = 0 := rfl
  rw [e0, Int.mul_zero] at h
  rw [own_wI, ← h]
  simp only [Int32.lt_iff_toInt_lt, e1]
theorem own_ceil {t n s : Int} (hs : 0 < s) : (t < if n < 0 then n.tdiv s else (n + s - 1) / s) ↔ t * s < n := by
  by_cases hn : n < 0
  · rw [if_pos hn]
    have e : n.tdiv s = -((-n) / s) := by
      have : n.tdiv s = -((-n).tdiv s) := by rw [Int.neg_tdiv, Int.neg_neg]
      rw [this, Int.tdiv_eq_ediv_of_nonneg (by omega)]
    rw [e]
    have q : -t ≤ (-n) / s ↔ (-t) * s ≤ -n := Int.le_ediv_iff_mul_le hs
    rw [Int.neg_mul] at q
    constructor
    · intro r
      have : ¬ (-t ≤ (-n) / s) := by omega
      rw [q] at this; omega
    · intro r
      have : ¬ (-t ≤ (-n) / s) := by rw [q]; omega
      omega
  · rw [if_neg hn]
    have q : (n + s - 1) / s < t + 1 ↔ n + s - 1 < (t + 1) * s := Int.ediv_lt_iff_lt_mul hs
    rw [Int.add_mul, Int.one_mul] at q
    constructor
    · intro r
      have : ¬ ((n + s - 1) / s < t + 1) := by omega
      rw [q] at this; omega
    · intro r
      have : ¬ ((n + s - 1) / s < t + 1) := by rw [q]; omega
      omega
theorem own_L1 {x0 x1 x2 : Int32} {tv sv : Int64} (h : own_J x0 x2 tv sv) (hs : ¬ sv = 0) : own_w x0 x1 x2 = if tv < own_cd x1.toInt64 sv then 0 else 1 := by
  obtain ⟨h1, h2, h3, h4, h5⟩ := h
  have a1 := x1.toInt_lt; have a2 := x1.le_toInt
  have e0 : (0 : Int64).toInt = 0 := rfl
  have e1 : (1 : Int64).toInt = 1 := rfl
  have hs' : sv.toInt ≠ 0 := fun q => hs (Int64.toInt_inj.mp (q.trans e0.symm))
  have hp : 0 < sv.toInt := by omega
  have k1 : (x1.toInt64 + sv).toInt = x1.toInt + sv.toInt := by rw [Jvm.Kit.i64_add (by simp only [Int32.toInt_toInt64]; omega) (by simp only [Int32.toInt_toInt64]; omega), Int32.toInt_toInt64]
  have k2 : ((x1.toInt64 + sv) - 1).toInt = x1.toInt + sv.toInt - 1 := by rw [Jvm.Kit.i64_sub (by omega) (by omega), k1, e1]
  have c1 : (own_cd x1.toInt64 sv).toInt = if x1.toInt < 0 then x1.toInt.tdiv sv.toInt else (x1.toInt + sv.toInt - 1) / sv.toInt := by
    unfold own_cd
    simp only [Int64.lt_iff_toInt_lt, Int32.toInt_toInt64, e0]
    by_cases q : x1.toInt < 0
    · rw [if_pos q, if_pos q, Jvm.Kit.i64_div (by omega), Int32.toInt_toInt64]
    · rw [if_neg q, if_neg q, Jvm.Kit.i64_div (by omega), k2, Int.tdiv_eq_ediv_of_nonneg (by omega)]
  rw [own_wI, ← h5]
  simp only [Int64.lt_iff_toInt_lt, c1, own_ceil hp]

theorem own_pn_own_rm0 : plainFor x = true := plainFor_of_name (show plainName "com/example/alcuin/alcuin/service/EreSweepingWorthSweepingPinLaw" = true by first | (simp [plainName, overriddenIn]; done) | decide +kernel)
set_option maxRecDepth 65536 in
set_option maxHeartbeats 40000000 in
theorem own_rm0 (l : Launch) (Z : State) (a0 : Array Value) (hw : ∀ d ∈ tables_1, d.before a0 Z = true) (ws : List Jvm.Cond) (h0 : Heap) (x0 x1 x2 x3 : Int32)  :
    own_C l Z x code maxLocals ret ws room_1 #[(.int x0), (.int x1), (.int x2), (.int x3)] h0 (own_Q h0.size (fun v h => v = some (.int 1))) := by
  refine own_met own_pn_own_rm0 #[iv x0, iv x1, iv x2, iv x3, .unset, .unset, .unset, .unset, .unset, .unset, .unset] (fun m => by first | (simp [entryFrame, mkF, argsToLocals, Value.category, maxLocals]; done) | rfl) ?_
  intro p e s m below meth c s₁ hx hby hml hown hret hlk hZ hnm X0 e0
  replace hml : c.maxLocals = 11 := hml
  replace X0 := own_S.of X0 (h0.size)
  have hn : h0.size ≤ h0.size := Nat.le_refl _
  refine X0.newO hx hZ hown (hw _ (List.mem_of_getElem? (i := 0) rfl)) (hw _ (List.mem_of_getElem? (i := 1) rfl)) (hw _ (List.mem_of_getElem? (i := 2) rfl)) e0 (hb hby at_0) (by decide) (by decide) ?_
  intro T1 h1 b1 X1 e1 q1 xt1 E_b1 D1
  have g_b1 : h0.size ≤ b1 := by rw [q1]; exact hn
  replace hn := Nat.le_trans hn xt1.1
  have F_b1_share : Fld Z h1 b1 "com/example/alcuin/alcuin/service/EreSweeping" "share" "I" (.int (0 : Int32)) := D1 (Or.inr (hw _ (List.mem_of_getElem? (i := 10) rfl))) (ty := .int) (by decide)
  have F_b1_fewestPositions : Fld Z h1 b1 "com/example/alcuin/alcuin/service/EreSweeping" "fewestPositions" "I" (.int (0 : Int32)) := D1 (Or.inr (hw _ (List.mem_of_getElem? (i := 12) rfl))) (ty := .int) (by decide)
  refine own_go (mkF m 4 #[iv x0, iv x1, iv x2, iv x3, .unset, .unset, .unset, .unset, .unset, .unset, .unset] [(.ref b1), (.ref b1)]) (fun t k => XS.dup X1.here hx rfl (hb hby at_3) rfl rfl k) ?_
  refine own_go (mkF m 5 #[iv x0, iv x1, iv x2, iv x3, .unset, .unset, .unset, .unset, .unset, .unset, .unset] [(.int x2), (.ref b1), (.ref b1)]) (fun t k => XS.iloadN X1.here hx rfl (hb hby at_4) rfl  k) ?_
  refine own_go (mkF m 6 #[iv x0, iv x1, iv x2, iv x3, .unset, .unset, .unset, .unset, .unset, .unset, .unset] [(.int x3), (.int x2), (.ref b1), (.ref b1)]) (fun t k => XS.iloadN X1.here hx rfl (hb hby at_5) rfl  k) ?_
  refine X1.callI hx hZ (y := (⟨"com/example/alcuin/alcuin/service/EreSweeping", "<init>", "(II)V"⟩ : MethodName)) rfl hown (hw _ (List.mem_of_getElem? (i := 3) rfl)) (hw _ (List.mem_of_getElem? (i := 4) rfl)) (hw _ (List.mem_of_getElem? (i := 2) rfl)) (hw _ (List.mem_of_getElem? (i := 5) rfl)) (by decide) e1 b1 [(.int x2), (.int x3)] [(.ref b1)] (own_rm1 l Z a0 hw [] h1 h0.size hn b1 g_b1 0 0 x2 x3 E_b1 F_b1_share F_b1_fewestPositions) 1 (by decide) (by decide) (Nat.le_of_eq rfl) (by decide) (by decide) (by rw [hml]; rfl) (lenOf own_pd0 rfl) rfl (hb hby at_6) ?_
  rintro T2 _ X2 ⟨rfl, E_o, F_o, hn2⟩
  show own_G p e below s _ _ _ T2 (mkF m 9 #[iv x0, iv x1, iv x2, iv x3, .unset, .unset, .unset, .unset, .unset, .unset, .unset] [(.ref b1)])
  refine own_go (mkF m 11 #[iv x0, iv x1, iv x2, iv x3, rv b1, .unset, .unset, .unset, .unset, .unset, .unset] []) (fun t k => XS.astore X2.here hx rfl (hb hby at_9) rfl rfl (l' := #[iv x0, iv x1, iv x2, iv x3, rv b1, .unset, .unset, .unset, .unset, .unset, .unset]) rfl k) ?_
  refine own_go (mkF m 13 #[iv x0, iv x1, iv x2, iv x3, rv b1, .unset, .unset, .unset, .unset, .unset, .unset] [(.ref b1)]) (fun t k => XS.aload X2.here hx rfl (hb hby at_11) rfl rfl  k) ?_
  refine own_go (mkF m 14 #[iv x0, iv x1, iv x2, iv x3, rv b1, .unset, .unset, .unset, .unset, .unset, .unset] [(.int x0), (.ref b1)]) (fun t k => XS.iloadN X2.here hx rfl (hb hby at_13) rfl  k) ?_
  refine own_go (mkF m 15 #[iv x0, iv x1, iv x2, iv x3, rv b1, .unset, .unset, .unset, .unset, .unset, .unset] [(.int x1), (.int x0), (.ref b1)]) (fun t k => XS.iloadN X2.here hx rfl (hb hby at_14) rfl  k) ?_
  refine X2.callV hx hZ (y := (⟨"com/example/alcuin/alcuin/service/EreSweeping", "worthSweeping", "(II)Z"⟩ : MethodName)) (C := "com/example/alcuin/alcuin/service/EreSweeping") hown (hw _ (List.mem_of_getElem? (i := 13) rfl)) (hw _ (List.mem_of_getElem? (i := 14) rfl)) (hw _ (List.mem_of_getElem? (i := 16) rfl)) (hw _ (List.mem_of_getElem? (i := 15) rfl)) (hw _ (List.mem_of_getElem? (i := 2) rfl)) (hw _ (List.mem_of_getElem? (i := 17) rfl)) (by decide) rfl E_o [(.int x0), (.int x1)] [] (own_rm2 l Z a0 hw [] T2.heap h0.size hn2 b1 x0 x1 x2 F_o) 0 (by decide) (by decide) (Nat.le_of_eq rfl) (by decide) (by decide) (by rw [hml]; rfl) (lenOf own_pd1 rfl) rfl (hb hby at_15) ?_
  rintro T3 _ X3 ⟨rfl, e3⟩
  show own_G p e below s _ _ _ T3 (mkF m 18 #[iv x0, iv x1, iv x2, iv x3, rv b1, .unset, .unset, .unset, .unset, .unset, .unset] [(.int (own_w x0 x1 x2))])
  refine own_go (mkF m 20 #[iv x0, iv x1, iv x2, iv x3, rv b1, iv (own_w x0 x1 x2), .unset, .unset, .unset, .unset, .unset] []) (fun t k => XS.istore X3.here hx rfl (hb hby at_18) rfl (l' := #[iv x0, iv x1, iv x2, iv x3, rv b1, iv (own_w x0 x1 x2), .unset, .unset, .unset, .unset, .unset]) rfl k) ?_
  refine own_go (mkF m 21 #[iv x0, iv x1, iv x2, iv x3, rv b1, iv (own_w x0 x1 x2), .unset, .unset, .unset, .unset, .unset] [(.int x0)]) (fun t k => XS.iloadN X3.here hx rfl (hb hby at_20) rfl  k) ?_
  refine own_go (mkF m 22 #[iv x0, iv x1, iv x2, iv x3, rv b1, iv (own_w x0 x1 x2), .unset, .unset, .unset, .unset, .unset] [(.long (x0.toInt64))]) (fun t k => XS.i2l X3.here hx rfl (hb hby at_21) rfl k) ?_
  refine own_go (mkF m 24 #[iv x0, iv x1, iv x2, iv x3, rv b1, iv (own_w x0 x1 x2), jv (x0.toInt64), .second, .unset, .unset, .unset] []) (fun t k => XS.lstore X3.here hx rfl (hb hby at_22) rfl (l' := #[iv x0, iv x1, iv x2, iv x3, rv b1, iv (own_w x0 x1 x2), jv (x0.toInt64), .second, .unset, .unset, .unset]) rfl k) ?_
  refine own_go (mkF m 25 #[iv x0, iv x1, iv x2, iv x3, rv b1, iv (own_w x0 x1 x2), jv (x0.toInt64), .second, .unset, .unset, .unset] [(.int x2)]) (fun t k => XS.iloadN X3.here hx rfl (hb hby at_24) rfl  k) ?_
  refine own_go (mkF m 26 #[iv x0, iv x1, iv x2, iv x3, rv b1, iv (own_w x0 x1 x2), jv (x0.toInt64), .second, .unset, .unset, .unset] [(.long (x2.toInt64))]) (fun t k => XS.i2l X3.here hx rfl (hb hby at_25) rfl k) ?_
  refine own_go (mkF m 28 #[iv x0, iv x1, iv x2, iv x3, rv b1, iv (own_w x0 x1 x2), jv (x0.toInt64), .second, jv (x2.toInt64), .second, .unset] []) (fun t k => XS.lstore X3.here hx rfl (hb hby at_26) rfl (l' := #[iv x0, iv x1, iv x2, iv x3, rv b1, iv (own_w x0 x1 x2), jv (x0.toInt64), .second, jv (x2.toInt64), .second, .unset]) rfl k) ?_
  have J1 : ∀ (tv : Int64) (sv : Int64), own_J x0 x2 tv sv → own_G p e below s (own_Q h0.size (fun v h => v = some (.int 1))) room_1.cells room_1.slots T3 (mkF m 45 #[iv x0, iv x1, iv x2, iv x3, rv b1, iv (own_w x0 x1 x2), jv tv, .second, jv sv, .second, .unset] []) := by
    intro tv sv hJ1
    refine own_go (mkF m 47 #[iv x0, iv x1, iv x2, iv x3, rv b1, iv (own_w x0 x1 x2), jv tv, .second, jv sv, .second, .unset] [(.long sv)]) (fun t k => XS.lload X3.here hx rfl (hb hby at_45) rfl  k) ?_
    refine own_go (mkF m 48 #[iv x0, iv x1, iv x2, iv x3, rv b1, iv (own_w x0 x1 x2), jv tv, .second, jv sv, .second, .unset] [(.long (0 : Int64)), (.long sv)]) (fun t k => XS.lconst X3.here hx rfl (hb hby at_47) k) ?_
    refine own_go (mkF m 49 #[iv x0, iv x1, iv x2, iv x3, rv b1, iv (own_w x0 x1 x2), jv tv, .second, jv sv, .second, .unset] [(.int (lcmpW sv (0 : Int64)))]) (fun t k => XS.lcmp X3.here hx rfl (hb hby at_48) rfl k) ?_
    by_cases hc49 : sv = (0 : Int64)
    · skip
      refine own_go (mkF m 52 #[iv x0, iv x1, iv x2, iv x3, rv b1, iv (own_w x0 x1 x2), jv tv, .second, jv sv, .second, .unset] []) (fun t k => XS.ifNo X3.here hx rfl (hb hby at_49) rfl ((if0 _ _).trans (teq ((lw_eq sv (0 : Int64)).mpr hc49)).2) k) ?_
      refine own_go (mkF m 53 #[iv x0, iv x1, iv x2, iv x3, rv b1, iv (own_w x0 x1 x2), jv tv, .second, jv sv, .second, .unset] [(.int x1)]) (fun t k => XS.iloadN X3.here hx rfl (hb hby at_52) rfl  k) ?_
      by_cases hc53 : (0 : Int32) < x1
      · skip
        refine own_go (mkF m 60 #[iv x0, iv x1, iv x2, iv x3, rv b1, iv (own_w x0 x1 x2), jv tv, .second, jv sv, .second, .unset] []) (fun t k => XS.ifYes X3.here hx rfl (pc0 := 53) (pc' := 60) rfl (hb hby at_53) rfl ((if0 _ _).trans (tlt hc53).2.2.1) (by decide) (by decide) k) ?_
        refine own_go (mkF m 61 #[iv x0, iv x1, iv x2, iv x3, rv b1, iv (own_w x0 x1 x2), jv tv, .second, jv sv, .second, .unset] [(.int (0 : Int32))]) (fun t k => XS.iconst X3.here hx rfl (hb hby at_60) k) ?_
        refine own_go (mkF m 63 #[iv x0, iv x1, iv x2, iv x3, rv b1, iv (own_w x0 x1 x2), jv tv, .second, jv sv, .second, iv (0 : Int32)] []) (fun t k => XS.istore X3.here hx rfl (hb hby at_61) rfl (l' := #[iv x0, iv x1, iv x2, iv x3, rv b1, iv (own_w x0 x1 x2), jv tv, .second, jv sv, .second, iv (0 : Int32)]) rfl k) ?_
        refine own_go (mkF m 86 #[iv x0, iv x1, iv x2, iv x3, rv b1, iv (own_w x0 x1 x2), jv tv, .second, jv sv, .second, iv (0 : Int32)] []) (fun t k => XS.goto X3.here hx rfl (pc0 := 63) (pc' := 86) rfl (hb hby at_63) (by decide) (by decide) k) ?_
        refine own_go (mkF m 88 #[iv x0, iv x1, iv x2, iv x3, rv b1, iv (own_w x0 x1 x2), jv tv, .second, jv sv, .second, iv (0 : Int32)] [(.int (own_w x0 x1 x2))]) (fun t k => XS.iload X3.here hx rfl (hb hby at_86) rfl  k) ?_
        refine own_go (mkF m 90 #[iv x0, iv x1, iv x2, iv x3, rv b1, iv (own_w x0 x1 x2), jv tv, .second, jv sv, .second, iv (0 : Int32)] [(.int (0 : Int32)), (.int (own_w x0 x1 x2))]) (fun t k => XS.iload X3.here hx rfl (hb hby at_88) rfl  k) ?_
        refine own_go (mkF m 93 #[iv x0, iv x1, iv x2, iv x3, rv b1, iv (own_w x0 x1 x2), jv tv, .second, jv sv, .second, iv (0 : Int32)] []) (fun t k => XS.icmpNo X3.here hx rfl (hb hby at_90) rfl (teq ((own_L0 hJ1 hc49).trans (if_pos hc53))).2 k) ?_
        refine own_go (mkF m 94 #[iv x0, iv x1, iv x2, iv x3, rv b1, iv (own_w x0 x1 x2), jv tv, .second, jv sv, .second, iv (0 : Int32)] [(.int (1 : Int32))]) (fun t k => XS.iconst X3.here hx rfl (hb hby at_93) k) ?_
        refine own_go (mkF m 98 #[iv x0, iv x1, iv x2, iv x3, rv b1, iv (own_w x0 x1 x2), jv tv, .second, jv sv, .second, iv (0 : Int32)] [(.int (1 : Int32))]) (fun t k => XS.goto X3.here hx rfl (pc0 := 94) (pc' := 98) rfl (hb hby at_94) (by decide) (by decide) k) ?_
        refine X3.retZ hx hlk hret (hb hby at_98) ?_ (by decide) (by decide)
        exact rfl
      · skip
        refine own_go (mkF m 56 #[iv x0, iv x1, iv x2, iv x3, rv b1, iv (own_w x0 x1 x2), jv tv, .second, jv sv, .second, .unset] []) (fun t k => XS.ifNo X3.here hx rfl (hb hby at_53) rfl ((if0 _ _).trans (flt hc53).2.2.1) k) ?_
        refine own_go (mkF m 57 #[iv x0, iv x1, iv x2, iv x3, rv b1, iv (own_w x0 x1 x2), jv tv, .second, jv sv, .second, .unset] [(.int (1 : Int32))]) (fun t k => XS.iconst X3.here hx rfl (hb hby at_56) k) ?_
        refine own_go (mkF m 61 #[iv x0, iv x1, iv x2, iv x3, rv b1, iv (own_w x0 x1 x2), jv tv, .second, jv sv, .second, .unset] [(.int (1 : Int32))]) (fun t k => XS.goto X3.here hx rfl (pc0 := 57) (pc' := 61) rfl (hb hby at_57) (by decide) (by decide) k) ?_
        refine own_go (mkF m 63 #[iv x0, iv x1, iv x2, iv x3, rv b1, iv (own_w x0 x1 x2), jv tv, .second, jv sv, .second, iv (1 : Int32)] []) (fun t k => XS.istore X3.here hx rfl (hb hby at_61) rfl (l' := #[iv x0, iv x1, iv x2, iv x3, rv b1, iv (own_w x0 x1 x2), jv tv, .second, jv sv, .second, iv (1 : Int32)]) rfl k) ?_
        refine own_go (mkF m 86 #[iv x0, iv x1, iv x2, iv x3, rv b1, iv (own_w x0 x1 x2), jv tv, .second, jv sv, .second, iv (1 : Int32)] []) (fun t k => XS.goto X3.here hx rfl (pc0 := 63) (pc' := 86) rfl (hb hby at_63) (by decide) (by decide) k) ?_
        refine own_go (mkF m 88 #[iv x0, iv x1, iv x2, iv x3, rv b1, iv (own_w x0 x1 x2), jv tv, .second, jv sv, .second, iv (1 : Int32)] [(.int (own_w x0 x1 x2))]) (fun t k => XS.iload X3.here hx rfl (hb hby at_86) rfl  k) ?_
        refine own_go (mkF m 90 #[iv x0, iv x1, iv x2, iv x3, rv b1, iv (own_w x0 x1 x2), jv tv, .second, jv sv, .second, iv (1 : Int32)] [(.int (1 : Int32)), (.int (own_w x0 x1 x2))]) (fun t k => XS.iload X3.here hx rfl (hb hby at_88) rfl  k) ?_
        refine own_go (mkF m 93 #[iv x0, iv x1, iv x2, iv x3, rv b1, iv (own_w x0 x1 x2), jv tv, .second, jv sv, .second, iv (1 : Int32)] []) (fun t k => XS.icmpNo X3.here hx rfl (hb hby at_90) rfl (teq ((own_L0 hJ1 hc49).trans (if_neg hc53))).2 k) ?_
        refine own_go (mkF m 94 #[iv x0, iv x1, iv x2, iv x3, rv b1, iv (own_w x0 x1 x2), jv tv, .second, jv sv, .second, iv (1 : Int32)] [(.int (1 : Int32))]) (fun t k => XS.iconst X3.here hx rfl (hb hby at_93) k) ?_
        refine own_go (mkF m 98 #[iv x0, iv x1, iv x2, iv x3, rv b1, iv (own_w x0 x1 x2), jv tv, .second, jv sv, .second, iv (1 : Int32)] [(.int (1 : Int32))]) (fun t k => XS.goto X3.here hx rfl (pc0 := 94) (pc' := 98) rfl (hb hby at_94) (by decide) (by decide) k) ?_
        refine X3.retZ hx hlk hret (hb hby at_98) ?_ (by decide) (by decide)
        exact rfl
    · skip
      refine own_go (mkF m 66 #[iv x0, iv x1, iv x2, iv x3, rv b1, iv (own_w x0 x1 x2), jv tv, .second, jv sv, .second, .unset] []) (fun t k => XS.ifYes X3.here hx rfl (pc0 := 49) (pc' := 66) rfl (hb hby at_49) rfl ((if0 _ _).trans (feq (fun q => hc49 ((lw_eq sv (0 : Int64)).mp q))).2) (by decide) (by decide) k) ?_
      refine own_go (mkF m 68 #[iv x0, iv x1, iv x2, iv x3, rv b1, iv (own_w x0 x1 x2), jv tv, .second, jv sv, .second, .unset] [(.long tv)]) (fun t k => XS.lload X3.here hx rfl (hb hby at_66) rfl  k) ?_
      refine own_go (mkF m 69 #[iv x0, iv x1, iv x2, iv x3, rv b1, iv (own_w x0 x1 x2), jv tv, .second, jv sv, .second, .unset] [(.int x1), (.long tv)]) (fun t k => XS.iloadN X3.here hx rfl (hb hby at_68) rfl  k) ?_
      refine own_go (mkF m 70 #[iv x0, iv x1, iv x2, iv x3, rv b1, iv (own_w x0 x1 x2), jv tv, .second, jv sv, .second, .unset] [(.long (x1.toInt64)), (.long tv)]) (fun t k => XS.i2l X3.here hx rfl (hb hby at_69) rfl k) ?_
      refine own_go (mkF m 72 #[iv x0, iv x1, iv x2, iv x3, rv b1, iv (own_w x0 x1 x2), jv tv, .second, jv sv, .second, .unset] [(.long sv), (.long (x1.toInt64)), (.long tv)]) (fun t k => XS.lload X3.here hx rfl (hb hby at_70) rfl  k) ?_
      refine X3.callP hx hZ (y := (⟨"com/example/alcuin/alcuin/service/EreSweepingWorthSweepingPinLaw", "ceilDiv", "(JJ)J"⟩ : MethodName)) (fr := 0) (lo := 0) (r := (.long (own_cd (x1.toInt64) sv))) hown (hw _ (List.mem_of_getElem? (i := 18) rfl)) (hw _ (List.mem_of_getElem? (i := 19) rfl)) (hw _ (List.mem_of_getElem? (i := 20) rfl)) (hw _ (List.mem_of_getElem? (i := 21) rfl)) (by decide) rfl [(.long (x1.toInt64)), (.long sv)] [(.long tv)] (own_rm3 l Z a0 hw [] T3.heap (x1.toInt64) sv hc49) 2 (by decide) (by decide) (Nat.le_of_eq rfl) (by decide) (by decide) (by rw [hml]; rfl) (lenOf own_pd2 rfl) rfl (hb hby at_72) ?_
      intro T4 X4 e4
      refine own_go (mkF m 76 #[iv x0, iv x1, iv x2, iv x3, rv b1, iv (own_w x0 x1 x2), jv tv, .second, jv sv, .second, .unset] [(.int (lcmpW tv (own_cd (x1.toInt64) sv)))]) (fun t k => XS.lcmp X4.here hx rfl (hb hby at_75) rfl k) ?_
      by_cases hc76 : tv < (own_cd (x1.toInt64) sv)
      · skip
        refine own_go (mkF m 83 #[iv x0, iv x1, iv x2, iv x3, rv b1, iv (own_w x0 x1 x2), jv tv, .second, jv sv, .second, .unset] []) (fun t k => XS.ifYes X4.here hx rfl (pc0 := 76) (pc' := 83) rfl (hb hby at_76) rfl ((if0 _ _).trans (tlt ((lw_lt tv (own_cd (x1.toInt64) sv)).mpr hc76)).1) (by decide) (by decide) k) ?_
        refine own_go (mkF m 84 #[iv x0, iv x1, iv x2, iv x3, rv b1, iv (own_w x0 x1 x2), jv tv, .second, jv sv, .second, .unset] [(.int (0 : Int32))]) (fun t k => XS.iconst X4.here hx rfl (hb hby at_83) k) ?_
        refine own_go (mkF m 86 #[iv x0, iv x1, iv x2, iv x3, rv b1, iv (own_w x0 x1 x2), jv tv, .second, jv sv, .second, iv (0 : Int32)] []) (fun t k => XS.istore X4.here hx rfl (hb hby at_84) rfl (l' := #[iv x0, iv x1, iv x2, iv x3, rv b1, iv (own_w x0 x1 x2), jv tv, .second, jv sv, .second, iv (0 : Int32)]) rfl k) ?_
        refine own_go (mkF m 88 #[iv x0, iv x1, iv x2, iv x3, rv b1, iv (own_w x0 x1 x2), jv tv, .second, jv sv, .second, iv (0 : Int32)] [(.int (own_w x0 x1 x2))]) (fun t k => XS.iload X4.here hx rfl (hb hby at_86) rfl  k) ?_
        refine own_go (mkF m 90 #[iv x0, iv x1, iv x2, iv x3, rv b1, iv (own_w x0 x1 x2), jv tv, .second, jv sv, .second, iv (0 : Int32)] [(.int (0 : Int32)), (.int (own_w x0 x1 x2))]) (fun t k => XS.iload X4.here hx rfl (hb hby at_88) rfl  k) ?_
        refine own_go (mkF m 93 #[iv x0, iv x1, iv x2, iv x3, rv b1, iv (own_w x0 x1 x2), jv tv, .second, jv sv, .second, iv (0 : Int32)] []) (fun t k => XS.icmpNo X4.here hx rfl (hb hby at_90) rfl (teq ((own_L1 hJ1 hc49).trans (if_pos hc76))).2 k) ?_
        refine own_go (mkF m 94 #[iv x0, iv x1, iv x2, iv x3, rv b1, iv (own_w x0 x1 x2), jv tv, .second, jv sv, .second, iv (0 : Int32)] [(.int (1 : Int32))]) (fun t k => XS.iconst X4.here hx rfl (hb hby at_93) k) ?_
        refine own_go (mkF m 98 #[iv x0, iv x1, iv x2, iv x3, rv b1, iv (own_w x0 x1 x2), jv tv, .second, jv sv, .second, iv (0 : Int32)] [(.int (1 : Int32))]) (fun t k => XS.goto X4.here hx rfl (pc0 := 94) (pc' := 98) rfl (hb hby at_94) (by decide) (by decide) k) ?_
        refine X4.retZ hx hlk hret (hb hby at_98) ?_ (by decide) (by decide)
        exact rfl
      · skip
        refine own_go (mkF m 79 #[iv x0, iv x1, iv x2, iv x3, rv b1, iv (own_w x0 x1 x2), jv tv, .second, jv sv, .second, .unset] []) (fun t k => XS.ifNo X4.here hx rfl (hb hby at_76) rfl ((if0 _ _).trans (flt (fun q => hc76 ((lw_lt tv (own_cd (x1.toInt64) sv)).mp q))).1) k) ?_
        refine own_go (mkF m 80 #[iv x0, iv x1, iv x2, iv x3, rv b1, iv (own_w x0 x1 x2), jv tv, .second, jv sv, .second, .unset] [(.int (1 : Int32))]) (fun t k => XS.iconst X4.here hx rfl (hb hby at_79) k) ?_
        refine own_go (mkF m 84 #[iv x0, iv x1, iv x2, iv x3, rv b1, iv (own_w x0 x1 x2), jv tv, .second, jv sv, .second, .unset] [(.int (1 : Int32))]) (fun t k => XS.goto X4.here hx rfl (pc0 := 80) (pc' := 84) rfl (hb hby at_80) (by decide) (by decide) k) ?_
        refine own_go (mkF m 86 #[iv x0, iv x1, iv x2, iv x3, rv b1, iv (own_w x0 x1 x2), jv tv, .second, jv sv, .second, iv (1 : Int32)] []) (fun t k => XS.istore X4.here hx rfl (hb hby at_84) rfl (l' := #[iv x0, iv x1, iv x2, iv x3, rv b1, iv (own_w x0 x1 x2), jv tv, .second, jv sv, .second, iv (1 : Int32)]) rfl k) ?_
        refine own_go (mkF m 88 #[iv x0, iv x1, iv x2, iv x3, rv b1, iv (own_w x0 x1 x2), jv tv, .second, jv sv, .second, iv (1 : Int32)] [(.int (own_w x0 x1 x2))]) (fun t k => XS.iload X4.here hx rfl (hb hby at_86) rfl  k) ?_
        refine own_go (mkF m 90 #[iv x0, iv x1, iv x2, iv x3, rv b1, iv (own_w x0 x1 x2), jv tv, .second, jv sv, .second, iv (1 : Int32)] [(.int (1 : Int32)), (.int (own_w x0 x1 x2))]) (fun t k => XS.iload X4.here hx rfl (hb hby at_88) rfl  k) ?_
        refine own_go (mkF m 93 #[iv x0, iv x1, iv x2, iv x3, rv b1, iv (own_w x0 x1 x2), jv tv, .second, jv sv, .second, iv (1 : Int32)] []) (fun t k => XS.icmpNo X4.here hx rfl (hb hby at_90) rfl (teq ((own_L1 hJ1 hc49).trans (if_neg hc76))).2 k) ?_
        refine own_go (mkF m 94 #[iv x0, iv x1, iv x2, iv x3, rv b1, iv (own_w x0 x1 x2), jv tv, .second, jv sv, .second, iv (1 : Int32)] [(.int (1 : Int32))]) (fun t k => XS.iconst X4.here hx rfl (hb hby at_93) k) ?_
        refine own_go (mkF m 98 #[iv x0, iv x1, iv x2, iv x3, rv b1, iv (own_w x0 x1 x2), jv tv, .second, jv sv, .second, iv (1 : Int32)] [(.int (1 : Int32))]) (fun t k => XS.goto X4.here hx rfl (pc0 := 94) (pc' := 98) rfl (hb hby at_94) (by decide) (by decide) k) ?_
        refine X4.retZ hx hlk hret (hb hby at_98) ?_ (by decide) (by decide)
        exact rfl
  refine own_go (mkF m 30 #[iv x0, iv x1, iv x2, iv x3, rv b1, iv (own_w x0 x1 x2), jv (x0.toInt64), .second, jv (x2.toInt64), .second, .unset] [(.long (x2.toInt64))]) (fun t k => XS.lload X3.here hx rfl (hb hby at_28) rfl  k) ?_
  refine own_go (mkF m 31 #[iv x0, iv x1, iv x2, iv x3, rv b1, iv (own_w x0 x1 x2), jv (x0.toInt64), .second, jv (x2.toInt64), .second, .unset] [(.long (0 : Int64)), (.long (x2.toInt64))]) (fun t k => XS.lconst X3.here hx rfl (hb hby at_30) k) ?_
  refine own_go (mkF m 32 #[iv x0, iv x1, iv x2, iv x3, rv b1, iv (own_w x0 x1 x2), jv (x0.toInt64), .second, jv (x2.toInt64), .second, .unset] [(.int (lcmpW (x2.toInt64) (0 : Int64)))]) (fun t k => XS.lcmp X3.here hx rfl (hb hby at_31) rfl k) ?_
  by_cases hc32 : (x2.toInt64) < (0 : Int64)
  · skip
    refine own_go (mkF m 35 #[iv x0, iv x1, iv x2, iv x3, rv b1, iv (own_w x0 x1 x2), jv (x0.toInt64), .second, jv (x2.toInt64), .second, .unset] []) (fun t k => XS.ifNo X3.here hx rfl (hb hby at_32) rfl ((if0 _ _).trans (tlt ((lw_lt (x2.toInt64) (0 : Int64)).mpr hc32)).2.1) k) ?_
    refine own_go (mkF m 37 #[iv x0, iv x1, iv x2, iv x3, rv b1, iv (own_w x0 x1 x2), jv (x0.toInt64), .second, jv (x2.toInt64), .second, .unset] [(.long (x0.toInt64))]) (fun t k => XS.lload X3.here hx rfl (hb hby at_35) rfl  k) ?_
    refine own_go (mkF m 38 #[iv x0, iv x1, iv x2, iv x3, rv b1, iv (own_w x0 x1 x2), jv (x0.toInt64), .second, jv (x2.toInt64), .second, .unset] [(.long (-(x0.toInt64)))]) (fun t k => XS.lneg X3.here hx rfl (hb hby at_37) rfl k) ?_
    refine own_go (mkF m 40 #[iv x0, iv x1, iv x2, iv x3, rv b1, iv (own_w x0 x1 x2), jv (-(x0.toInt64)), .second, jv (x2.toInt64), .second, .unset] []) (fun t k => XS.lstore X3.here hx rfl (hb hby at_38) rfl (l' := #[iv x0, iv x1, iv x2, iv x3, rv b1, iv (own_w x0 x1 x2), jv (-(x0.toInt64)), .second, jv (x2.toInt64), .second, .unset]) rfl k) ?_
    refine own_go (mkF m 42 #[iv x0, iv x1, iv x2, iv x3, rv b1, iv (own_w x0 x1 x2), jv (-(x0.toInt64)), .second, jv (x2.toInt64), .second, .unset] [(.long (x2.toInt64))]) (fun t k => XS.lload X3.here hx rfl (hb hby at_40) rfl  k) ?_
    refine own_go (mkF m 43 #[iv x0, iv x1, iv x2, iv x3, rv b1, iv (own_w x0 x1 x2), jv (-(x0.toInt64)), .second, jv (x2.toInt64), .second, .unset] [(.long (-(x2.toInt64)))]) (fun t k => XS.lneg X3.here hx rfl (hb hby at_42) rfl k) ?_
    refine own_go (mkF m 45 #[iv x0, iv x1, iv x2, iv x3, rv b1, iv (own_w x0 x1 x2), jv (-(x0.toInt64)), .second, jv (-(x2.toInt64)), .second, .unset] []) (fun t k => XS.lstore X3.here hx rfl (hb hby at_43) rfl (l' := #[iv x0, iv x1, iv x2, iv x3, rv b1, iv (own_w x0 x1 x2), jv (-(x0.toInt64)), .second, jv (-(x2.toInt64)), .second, .unset]) rfl k) ?_
    exact J1 ((-(x0.toInt64))) ((-(x2.toInt64))) (own_Jn hc32)
  · skip
    refine own_go (mkF m 45 #[iv x0, iv x1, iv x2, iv x3, rv b1, iv (own_w x0 x1 x2), jv (x0.toInt64), .second, jv (x2.toInt64), .second, .unset] []) (fun t k => XS.ifYes X3.here hx rfl (pc0 := 32) (pc' := 45) rfl (hb hby at_32) rfl ((if0 _ _).trans (flt (fun q => hc32 ((lw_lt (x2.toInt64) (0 : Int64)).mp q))).2.1) (by decide) (by decide) k) ?_
    exact J1 ((x0.toInt64)) ((x2.toInt64)) (own_Jp hc32)

set_option maxRecDepth 65536 in
set_option maxHeartbeats 40000000 in
theorem comes_1 {Post : Tables → Env → Array Value → State → Outcome → State → Prop} (hpost : ∀ tb e args s v u, (limb_1_1.after args s (.returned v) u = true ∧ limb_1_2.after args s (.returned v) u = true ∧ True) → FrameEnd s (.returned v) u (Jvm.fieldLocs frame_1_writes args s ++ Jvm.arrayLocs frame_1_arrays args s ++ Jvm.staticLocs frame_1_statics s) 16 128 → Post tb e args s (.returned v) u) :
    ArmFor flags0 classFile x code maxLocals ret World_1 tables_1 room_1 Calls_1 rest_1 Pre_1 Post := by
  intro l hfl _ _ p e ha hc hk s m args below hf hA hF happ hP
  obtain ⟨hcalls, hrest, hpre⟩ := hP
  obtain ⟨-, -, -, hnamed, -, -, -, hat⟩ := (Spec.applies_iff hf).mp happ
  obtain ⟨hg, hn⟩ := and_e (Cond.before_iff.mp (show (Jvm.Cond.and given_1 narrow_1).before args s = true from hpre))
  obtain ⟨g1, g2⟩ := and_e hg
  obtain ⟨g3, g4⟩ := and_e g2
  obtain ⟨g5, g6⟩ := and_e g4
  obtain ⟨g7, g8⟩ := and_e g6
  obtain ⟨w0, w1, w2, w3, rfl⟩ : ∃ w0 w1 w2 w3 : Value, args = #[w0, w1, w2, w3] := by
    have hs : args.size = 4 := by simpa [Cond.value, given_1] using g1
    obtain ⟨L⟩ := args
    match L, hs with
    | [w0, w1, w2, w3], _ => exact ⟨w0, w1, w2, w3, rfl⟩
  have hw := fun d (hd : d ∈ tables_1) => atoms_spec (ws := Jvm.Cond.code x code maxLocals ret :: tables_1) hat d (List.mem_cons_of_mem _ hd)
  obtain ⟨i0, ei0⟩ := is_v g3
  obtain rfl : w0 = (.int i0) := Option.some.inj ei0
  obtain ⟨i1, ei1⟩ := is_v g5
  obtain rfl : w1 = (.int i1) := Option.some.inj ei1
  obtain ⟨i2, ei2⟩ := is_v g7
  obtain rfl : w2 = (.int i2) := Option.some.inj ei2
  obtain ⟨i3, ei3⟩ := is_v g8
  obtain rfl : w3 = (.int i3) := Option.some.inj ei3
  obtain ⟨n, o, h1, h2, h3, _, L, rfl, ⟨N, rfl⟩, hq⟩ := own_rm0 l s _ hw tables_1 s.heap i0 i1 i2 i3  p e ha hc hk s m _ below hf ((Spec.applies_iff_loose hf).mp happ).1 ⟨rfl, State.Warmed39.refl s, rfl⟩ trivial
  refine ⟨n, _, h1, h2, h3, hpost _ _ _ _ _ _ ⟨Cond.after_iff.mpr rfl, Cond.after_iff.mpr (eq_i res_at (Term.int_eval (1)) rfl), trivial⟩ ⟨hq.1, hq.2.1, (hq.2.2.sift fun y hy => Or.inr (N y hy)).mono (by decide) (by decide)⟩⟩
theorem main_1_1 : Claimed_1_1 := comes_1 fun _ _ _ _ _ _ h hF => ⟨h.1, hF⟩
theorem main_1_2 : Claimed_1_2 := comes_1 fun _ _ _ _ _ _ h hF => ⟨h.2.1, hF⟩
end Jvm.Pilot.@@N@@
namespace Jvm.Pilot.@@N@@
open Jvm Jvm.ClassFile Sem Op Lib Jvm.Free Jvm.Stand Jvm.Pilot.@@N@@.Jvm.D
/-! MADE BY PROGRAM (witnessworld.py) out of the Statement's table words and the real class files: 9 classes; the members and pool entries that the words name. The judged class is class 1, her method 2. -/
namespace start1
open Jvm.ClassFile
def u (s : String) : CpInfo := .utf8 (stringToUtf16 s)
/-- a pool by its gaps: so many unusable entries, then the entry; so many at the end -/
def gap : Nat → List CpInfo → List CpInfo
  | 0, r => r
  | n + 1, r => .unusable :: gap n r
def poolList (es : List (Nat × CpInfo)) (last : Nat) : List CpInfo := es.foldr (fun e r => gap e.1 (e.2 :: r)) (gap last [])
def pool (es : List (Nat × CpInfo)) (last : Nat) : Array CpInfo := ⟨poolList es last⟩
def fileOf (pool : Array CpInfo) (this : Nat) (attrs : Array Attribute := #[]) (ms : Array MethodInfo := #[]) (fl : Nat := 33) (sup : Nat := 0) (ifs : Array Nat := #[]) (fds : Array FieldInfo := #[]) : ClassFile where
  minorVersion := 0
  majorVersion := 65
  constantPool := pool
  accessFlags := fl
  thisClass := this
  superClass := sup
  interfaces := ifs
  fields := fds
  methods := ms
  attributes := attrs
def plain (name : String) (sup : Option ClassId) : Class where
  name := name
  kind := .ordinary
  loader := none
  accessFlags := 33
  super := sup
  interfaces := #[]
  cf := none
  fields := #[]
  methods := #[]
  instanceTypes := #[]
  staticTypes := #[]
  resolved := #[]
  callSites := []
  init := .initialized
  statics := none
  mirror := none

def pool0 : Array CpInfo := pool [(5, u "<init>"), (0, u "()V"), (1, .class_ 10), (1, u "java/lang/Object")] 113

def k0c0 : Code := { maxStack := 0, maxLocals := 1, code := object_method_1_code, exceptionTable := #[], attributes := #[] }
def k0m0 : Method := { name := "<init>", desc := "()V", sig := { parameters := [], returnType := none }, accessFlags := 1, code := some k0c0 }
/-- java/lang/Object -/
def k0 : Class := { plain "java/lang/Object" none with
  accessFlags := 33
  interfaces := #[]
  cf := some (fileOf pool0 8 #[] #[{ accessFlags := 1, nameIndex := 5, descriptorIndex := 6, attributes := #[] }] 33 0 #[] #[])
  fields := #[]
  methods := #[k0m0]
  instanceTypes := #[]
  staticTypes := #[]
  resolved := Array.replicate 124 none
  statics := none }

def pool1 : Array CpInfo := pool [(2, .class_ 4), (1, u "java/lang/Object"), (0, u "<init>"), (0, u "()V"), (0, .class_ 8), (0, u "com/example/alcuin/alcuin/service/EreSweeping"), (0, .methodref 7 10), (0, .nameAndType 5 11), (0, u "(II)V"), (0, .methodref 7 13), (0, .nameAndType 14 15), (0, u "worthSweeping"), (0, u "(II)Z"), (0, .methodref 17 18), (0, .class_ 19), (0, .nameAndType 20 21), (0, u "com/example/alcuin/alcuin/service/EreSweepingWorthSweepingPinLaw"), (0, u "ceilDiv"), (0, u "(JJ)J"), (3, u "law"), (0, u "(IIII)Z")] 2

def k1m0 : Method := { name := "<init>", desc := "()V", sig := { parameters := [], returnType := none }, accessFlags := 2, code := none }
def k1c1 : Code := { maxStack := 4, maxLocals := 4, code := method_2_code, exceptionTable := #[], attributes := #[] }
def k1m1 : Method := { name := "ceilDiv", desc := "(JJ)J", sig := { parameters := [.long, .long], returnType := some .long }, accessFlags := 10, code := some k1c1 }
def k1c2 : Code := { maxStack := 6, maxLocals := 11, code := code, exceptionTable := #[], attributes := #[] }
def k1m2 : Method := { name := "law", desc := "(IIII)Z", sig := { parameters := [.int, .int, .int, .int], returnType := some .boolean }, accessFlags := 9, code := some k1c2 }
/-- com/example/alcuin/alcuin/service/EreSweepingWorthSweepingPinLaw -/
def k1 : Class := { plain "com/example/alcuin/alcuin/service/EreSweepingWorthSweepingPinLaw" (some 0) with
  accessFlags := 49
  interfaces := #[]
  cf := some (fileOf pool1 17 #[] #[{ accessFlags := 2, nameIndex := 5, descriptorIndex := 6, attributes := #[] }, { accessFlags := 10, nameIndex := 20, descriptorIndex := 21, attributes := #[] }, { accessFlags := 9, nameIndex := 25, descriptorIndex := 26, attributes := #[] }] 49 2 #[] #[])
  fields := #[]
  methods := #[k1m0, k1m1, k1m2]
  instanceTypes := #[]
  staticTypes := #[]
  resolved := Array.replicate 29 none
  statics := none }

def pool2 : Array CpInfo := pool [(1, .methodref 2 3), (0, .class_ 4), (0, .nameAndType 5 6), (0, u "java/lang/Object"), (0, u "<init>"), (0, u "()V"), (0, .fieldref 8 9), (0, .class_ 10), (0, .nameAndType 11 12), (0, u "com/example/alcuin/alcuin/service/EreSweeping"), (0, u "share"), (0, u "I"), (0, .fieldref 8 14), (0, .nameAndType 15 12), (0, u "fewestPositions"), (2, u "(II)V"), (2, u "WHERE_WORTH"), (0, u "Lcom/example/alcuin/alcuin/service/EreSweeping;"), (2, u "worthSweeping"), (0, u "(II)Z")] 6

def k2c0 : Code := { maxStack := 2, maxLocals := 3, code := prog_89_method_1_code, exceptionTable := #[], attributes := #[] }
def k2m0 : Method := { name := "<init>", desc := "(II)V", sig := { parameters := [.int, .int], returnType := none }, accessFlags := 0, code := some k2c0 }
def k2c1 : Code := { maxStack := 4, maxLocals := 3, code := prog_89_method_2_code, exceptionTable := #[], attributes := #[] }
def k2m1 : Method := { name := "worthSweeping", desc := "(II)Z", sig := { parameters := [.int, .int], returnType := some .boolean }, accessFlags := 0, code := some k2c1 }
/-- com/example/alcuin/alcuin/service/EreSweeping -/
def k2 : Class := { plain "com/example/alcuin/alcuin/service/EreSweeping" (some 0) with
  accessFlags := 48
  interfaces := #[]
  cf := some (fileOf pool2 8 #[] #[{ accessFlags := 0, nameIndex := 5, descriptorIndex := 18, attributes := #[] }, { accessFlags := 0, nameIndex := 25, descriptorIndex := 26, attributes := #[] }] 48 2 #[] #[{ accessFlags := 24, nameIndex := 21, descriptorIndex := 22, attributes := #[] }, { accessFlags := 18, nameIndex := 11, descriptorIndex := 12, attributes := #[] }, { accessFlags := 18, nameIndex := 15, descriptorIndex := 12, attributes := #[] }])
  fields := #[{ name := "WHERE_WORTH", type := (.object "com/example/alcuin/alcuin/service/EreSweeping"), accessFlags := 24, slot := 0, constantValue := 0 }, { name := "share", type := .int, accessFlags := 18, slot := 0, constantValue := 0 }, { name := "fewestPositions", type := .int, accessFlags := 18, slot := 1, constantValue := 0 }]
  methods := #[k2m0, k2m1]
  instanceTypes := #[.int, .int]
  staticTypes := #[(.object "com/example/alcuin/alcuin/service/EreSweeping")]
  resolved := Array.replicate 33 none
  statics := none }

def pool3 : Array CpInfo := pool [(1, u "java/lang/Cloneable"), (0, .class_ 1), (0, u "java/lang/Object"), (0, .class_ 3)] 3

/-- java/lang/Cloneable -/
def k3 : Class := { plain "java/lang/Cloneable" (some 0) with
  accessFlags := 1537
  interfaces := #[]
  cf := some (fileOf pool3 2 #[] #[] 1537 4 #[] #[])
  fields := #[]
  methods := #[]
  instanceTypes := #[]
  staticTypes := #[]
  resolved := Array.replicate 8 none
  statics := none }

def pool4 : Array CpInfo := pool [(1, u "java/io/Serializable"), (0, .class_ 1), (0, u "java/lang/Object"), (0, .class_ 3)] 3

/-- java/io/Serializable -/
def k4 : Class := { plain "java/io/Serializable" (some 0) with
  accessFlags := 1537
  interfaces := #[]
  cf := some (fileOf pool4 2 #[] #[] 1537 4 #[] #[])
  fields := #[]
  methods := #[]
  instanceTypes := #[]
  staticTypes := #[]
  resolved := Array.replicate 8 none
  statics := none }

/-- the primitive byte -/
def k5 : Class := { plain "byte" none with kind := .primitive 'B', accessFlags := 0x411 }
/-- [B -/
def k6 : Class := { plain "[B" (some 0) with kind := .array 5 .byte, interfaces := #[3, 4], accessFlags := 1041 }

/-- the primitive int -/
def k7 : Class := { plain "int" none with kind := .primitive 'I', accessFlags := 0x411 }
/-- [I -/
def k8 : Class := { plain "[I" (some 0) with kind := .array 7 .int, interfaces := #[3, 4], accessFlags := 1041 }

def heap : Heap := #[]
def classes : Array Class := #[k0, k1, k2, k3, k4, k5, k6, k7, k8]
def interned : List (Array UInt16 × Addr) := []
def slotsUsed : Nat := 0
def theMethod : MethodId := ⟨1, 2⟩
def args0 : Array Value := #[.int 5, .int 7, .int 3, .int 2]
def aboutOver (below : List Frame) : State where
  vm := { classes := classes, interned := interned.toArray }
  heap := heap
  slotsUsed := slotsUsed
  threads := #[{ frames := .invoking theMethod args0 :: below }]
def below0 : List Frame := [.native { method := ⟨0, 0⟩, args := #[] }]
def about1 : State := aboutOver below0
def p0 : Program := .bare "" "" ""
def e0 : Env := launch0.env 0 0 0
theorem w_frames : about1.frames = Frame.invoking theMethod args0 :: below0 := rfl
set_option maxRecDepth 65536 in
theorem w_args : argsFit about1.vm theMethod args0 = true := by decide +kernel
set_option maxRecDepth 65536 in
theorem w_heap : heapFits about1 = true := by decide +kernel
set_option maxRecDepth 65536 in
theorem w_runnable : about1.curStatus? = some .runnable := by decide +kernel
set_option maxRecDepth 65536 in
theorem w_alone : about1.alone = true := by decide +kernel
set_option maxRecDepth 65536 in
theorem w_named : about1.methodNamed? x = some theMethod := by decide +kernel
set_option maxRecDepth 65536 in
theorem w_hears : about1.hears theMethod below0 = true := by decide +kernel
set_option maxRecDepth 65536 in
theorem w_ripe : about1.ripe theMethod args0 below0 = true := by decide +kernel
theorem w_running : about1.status = .running := rfl
set_option maxRecDepth 65536 in
theorem w_room : about1.hasRoom e0.platform room_1 = true :=
  launch0.hasRoom_least _ room_1 (by decide +kernel) (by decide +kernel) (by decide +kernel) (by decide +kernel) (by decide +kernel) (by decide +kernel)
theorem allAtoms_all (ts : List Jvm.Cond) (a : Array Jvm.Value) (st : Jvm.State) : (allAtoms ts).before a st = ts.all (fun c => c.before a st) := by
  induction ts with
  | nil => rfl
  | cons c t ih =>
    show (Jvm.Cond.and c (allAtoms t)).before a st = _
    rw [Jvm.Cond.before_and, ih, List.all_cons]
def words1 : List Jvm.Cond := Jvm.Cond.code x code maxLocals ret :: tables_1
/-- a 'code' word, met by the world's own term for the bytes: nothing is compared byte by byte -/
theorem code_word {y : MethodName} {bytes : ByteArray} {mx : Nat} {rt : Option FieldType} {a : Array Value} {s : State} {m : MethodId} {meth : Method} {c : Code} (h1 : s.methodNamed? y = some m) (h2 : s.vm.method? m = some meth) (h3 : meth.code = some c) (h4 : c.code = bytes)
    (h5 : (c.maxLocals == mx && c.exceptionTable.isEmpty && decide (c.maxStack ≤ mostOperands) && decide (meth.sig.returnType = rt) && !meth.locks && decide (parseMethodDescriptor y.desc = some meth.sig)) = true) : (Jvm.Cond.code y bytes mx rt).before a s = true := by
  simp only [Bool.and_eq_true, beq_iff_eq, Bool.not_eq_true', decide_eq_true_eq] at h5
  obtain ⟨⟨⟨⟨⟨g1, g2⟩, g3⟩, g4⟩, g5⟩, g6⟩ := h5
  simp [Cond.before, Cond.holds, Cond.value, h1, h2, h3, h4, g1, g2, g3, g4, g5, g6]
def isCode : Jvm.Cond → Bool
  | .code _ _ _ _ => true
  | _ => false
theorem all_split {L : List Jvm.Cond} {P : Jvm.Cond → Bool} (h1 : L.all (fun c => isCode c || P c) = true) (h2 : ∀ c ∈ L.filter isCode, P c = true) : L.all P = true := by
  refine List.all_eq_true.mpr fun c hc => ?_
  have h := List.all_eq_true.mp h1 c hc
  rcases Bool.eq_false_or_eq_true (isCode c) with hi | hi
  · exact h2 c (List.mem_filter.mpr ⟨hc, hi⟩)
  · simpa [hi] using h
set_option maxRecDepth 65536 in
theorem w_c0 : (Jvm.Cond.code x code maxLocals ret).before args0 about1 = true := code_word (m := ⟨1, 2⟩) (meth := k1m2) (c := k1c2) (by decide +kernel) rfl rfl rfl (by decide +kernel)
set_option maxRecDepth 65536 in
theorem w_c1 : (Jvm.Cond.code ({ cls := "com/example/alcuin/alcuin/service/EreSweeping", name := "<init>", desc := "(II)V" } : Jvm.MethodName) prog_89_method_1_code (3 : Nat) (Option.none : Option Jvm.ClassFile.FieldType)).before args0 about1 = true := code_word (m := ⟨2, 0⟩) (meth := k2m0) (c := k2c0) (by decide +kernel) rfl rfl rfl (by decide +kernel)
set_option maxRecDepth 65536 in
theorem w_c2 : (Jvm.Cond.code ({ cls := "java/lang/Object", name := "<init>", desc := "()V" } : Jvm.MethodName) object_method_1_code (1 : Nat) (Option.none : Option Jvm.ClassFile.FieldType)).before args0 about1 = true := code_word (m := ⟨0, 0⟩) (meth := k0m0) (c := k0c0) (by decide +kernel) rfl rfl rfl (by decide +kernel)
set_option maxRecDepth 65536 in
theorem w_c3 : (Jvm.Cond.code ({ cls := "com/example/alcuin/alcuin/service/EreSweeping", name := "worthSweeping", desc := "(II)Z" } : Jvm.MethodName) prog_89_method_2_code (3 : Nat) (Option.some Jvm.ClassFile.FieldType.boolean)).before args0 about1 = true := code_word (m := ⟨2, 1⟩) (meth := k2m1) (c := k2c1) (by decide +kernel) rfl rfl rfl (by decide +kernel)
set_option maxRecDepth 65536 in
theorem w_c4 : (Jvm.Cond.code ({ cls := "com/example/alcuin/alcuin/service/EreSweepingWorthSweepingPinLaw", name := "ceilDiv", desc := "(JJ)J" } : Jvm.MethodName) method_2_code (4 : Nat) (Option.some Jvm.ClassFile.FieldType.long)).before args0 about1 = true := code_word (m := ⟨1, 1⟩) (meth := k1m1) (c := k1c1) (by decide +kernel) rfl rfl rfl (by decide +kernel)
def codes1 : List Jvm.Cond := [Jvm.Cond.code x code maxLocals ret, Jvm.Cond.code ({ cls := "com/example/alcuin/alcuin/service/EreSweeping", name := "<init>", desc := "(II)V" } : Jvm.MethodName) prog_89_method_1_code (3 : Nat) (Option.none : Option Jvm.ClassFile.FieldType), Jvm.Cond.code ({ cls := "java/lang/Object", name := "<init>", desc := "()V" } : Jvm.MethodName) object_method_1_code (1 : Nat) (Option.none : Option Jvm.ClassFile.FieldType), Jvm.Cond.code ({ cls := "com/example/alcuin/alcuin/service/EreSweeping", name := "worthSweeping", desc := "(II)Z" } : Jvm.MethodName) prog_89_method_2_code (3 : Nat) (Option.some Jvm.ClassFile.FieldType.boolean), Jvm.Cond.code ({ cls := "com/example/alcuin/alcuin/service/EreSweepingWorthSweepingPinLaw", name := "ceilDiv", desc := "(JJ)J" } : Jvm.MethodName) method_2_code (4 : Nat) (Option.some Jvm.ClassFile.FieldType.long)]
set_option maxRecDepth 65536 in
theorem codes_eq : words1.filter isCode = codes1 := rfl
theorem w_codes : ∀ c ∈ words1.filter isCode, c.before args0 about1 = true := by
  rw [codes_eq]
  intro c hc
  simp only [codes1, List.mem_cons, List.not_mem_nil, or_false] at hc
  rcases hc with rfl | rfl | rfl | rfl | rfl
  · exact w_c0
  · exact w_c1
  · exact w_c2
  · exact w_c3
  · exact w_c4
set_option maxRecDepth 65536 in
theorem w_t1 : words1.all (fun c => isCode c || c.before args0 about1) = true := by decide +kernel
theorem w_tables : (allAtoms (Jvm.Cond.code x code maxLocals ret :: tables_1)).before args0 about1 = true := by
  rw [allAtoms_all]
  show words1.all (fun c => c.before args0 about1) = true
  refine all_split ?_ w_codes
  rw [w_t1]
set_option maxRecDepth 65536 in
theorem w_case : (Jvm.Cond.and given_1 narrow_1).before args0 about1 = true := by decide +kernel
theorem w_applies : (headSpec (Jvm.Cond.code x code maxLocals ret :: tables_1) room_1).applies x e0.platform about1 = true :=
  (Spec.applies_iff w_frames).mpr ⟨w_running, w_runnable, w_alone, w_named, w_hears, w_ripe, w_room, w_tables⟩
theorem atStart : AtStart classFile x code maxLocals ret World_1 tables_1 room_1 Calls_1 rest_1 Pre_1 launch0 p0 e0 about1 theMethod args0 below0 :=
  ⟨lists_1, trivial, launch0.admits_env _ _ _, launch0.least_env, fairChoices_fair.cas, fairChoices_fair.clock, w_frames, w_args, w_heap, w_applies, trivial, trivial, w_case⟩
end start1
theorem witness_1 : WitnessClaimed_1 := ⟨start1.p0, start1.e0, start1.about1, start1.theMethod, start1.args0, start1.below0, start1.atStart⟩
end Jvm.Pilot.@@N@@
