import JvmDerived
import JvmDerived.Pilot.@@N@@Statement
import JvmDerived.Pilot.@@N@@Code
set_option linter.unusedVariables false
set_option linter.unusedSimpArgs false
@@BLOCK:NumsL.lean.txt@@
namespace Jvm.Pilot.@@N@@
open Jvm Jvm.ClassFile Sem Op Lib Jvm.Free Jvm.Stand Jvm.LawKit Jvm.RoadKit Bundle Jvm.Pilot.@@N@@.Jvm.D
/-- a long's slot, written short -/
abbrev jv (x : Int64) : Slot := .val (.long x)
section OwnKit
variable {p : Program} {l : Launch} {e : Env} {R : Room} {s : State} {m : MethodId} {args : Array Value} {below : List Frame} {meth : Method} {c : Code} {T T' : State} {locs : List Loc} {cells slots : Nat} {Q : Option Value → Heap → List Loc → Prop} {kc ks : Nat} {g : JFrame} {Z : State} {a0 : Array Value} {h : Heap}
/-- what is left to do, from the state T with the top frame g: the run comes to the invocation's end, returns, and the end is as Q says -/
def own_G (p : Program) (e : Env) (below : List Frame) (s : State) (Q : Option Value → Heap → List Loc → Prop) (kc ks : Nat) (T : State) (g : JFrame) : Prop :=
  ∃ t o, Steps p.tables e below (T.setTop g) t ∧ t.status = .running ∧ Ended t below o ∧ ∃ v L, o = .returned v ∧ Q v t.heap L ∧ FrameEnd s o t L kc ks
theorem own_go (g' : JFrame) (k : ∀ t, Steps p.tables e below (T'.setTop g') t → Steps p.tables e below (T.setTop g) t) (h : own_G p e below s Q kc ks T' g') : own_G p e below s Q kc ks T g := by
  obtain ⟨t, o, h1, h2⟩ := h
  exact ⟨t, o, k t h1, h2⟩
theorem own_out (X : Stand p l e R s m args below meth c T locs cells slots) (hlk : meth.locks = false) {v : Option Value} (hv : meth.sig.returnType = none → v = none)
    (st : ∀ fs, (∀ (f : JFrame) (acts : List Action), f.method = m → f.locked = none → f.entered = [] → (doReturn e (T.setTop f) acts v).1 = T.setFrames fs) → Steps p.tables e below (T.setTop g) (T.setFrames fs))
    (hQ : Q v T.heap locs) (h1 : cells ≤ kc) (h2 : slots ≤ ks) : own_G p e below s Q kc ks T g := by
  obtain ⟨fs, hr, hrun, hended, hW, hsame⟩ := X.leave (v := v) hv hlk
  exact ⟨_, _, st fs hr, hrun, hended, v, locs, rfl, hQ, ⟨_, rfl⟩, hW, hsame.mono h1 h2⟩
theorem own_retI (X : Stand p l e R s m args below meth c T locs cells slots) (hx : p.tables.exec = Jvm.exec) (hlk : meth.locks = false) (hret : meth.sig.returnType = some .int) {pc : Nat} {Ls : Array Slot} {z : Int32} {rest : List Value} (hd : decode c.code pc = .ok (.ireturn, 1))
    (hQ : Q (some (.int z)) T.heap locs) (h1 : cells ≤ kc) (h2 : slots ≤ ks) : own_G p e below s Q kc ks T (mkF m pc Ls (.int z :: rest)) := by
  refine own_out X hlk (v := some (.int z)) (fun h => by rw [hret] at h; cases h) (fun fs hl => ?_) hQ h1 h2
  have hm' : T.vm.method? m = some meth := X.method'
  have hn : narrow .int (.int z) = .int z := rfl
  show Steps p.tables e below (T.setTop { method := m, pc := pc, locals := Ls, stack := _ :: rest, locked := none }) _
  jvm_step X.here [X.here.top, hx, hd, hm', hret, hn]
  first | (intro acts; rw [hl _ acts rfl rfl rfl]) | rw [hl _ _ rfl rfl rfl]
  exact Steps.refl _
theorem own_retZ (X : Stand p l e R s m args below meth c T locs cells slots) (hx : p.tables.exec = Jvm.exec) (hlk : meth.locks = false) (hret : meth.sig.returnType = some .boolean) {pc : Nat} {Ls : Array Slot} {z : Int32} {rest : List Value} (hd : decode c.code pc = .ok (.ireturn, 1))
    (hQ : Q (some (.int (z &&& 1))) T.heap locs) (h1 : cells ≤ kc) (h2 : slots ≤ ks) : own_G p e below s Q kc ks T (mkF m pc Ls (.int z :: rest)) :=
  own_out X hlk (v := some (.int (z &&& 1))) (fun h => by rw [hret] at h; cases h) (fun fs hl => retN X hx (t := .boolean) hret (by simp) hd hl) hQ h1 h2
theorem own_retJ (X : Stand p l e R s m args below meth c T locs cells slots) (hx : p.tables.exec = Jvm.exec) (hlk : meth.locks = false) (hret : meth.sig.returnType = some .long) {pc : Nat} {Ls : Array Slot} {z : Int64} (hd : decode c.code pc = .ok (.lreturn, 1))
    (hQ : Q (some (.long z)) T.heap locs) (h1 : cells ≤ kc) (h2 : slots ≤ ks) : own_G p e below s Q kc ks T (mkF m pc Ls [.long z]) :=
  own_out X hlk (v := some (.long z)) (fun h => by rw [hret] at h; cases h) (fun fs hl => X.lreturnOut hx hret hd hl) hQ h1 h2
theorem own_retA (X : Stand p l e R s m args below meth c T locs cells slots) (hx : p.tables.exec = Jvm.exec) (hlk : meth.locks = false) {t : FieldType} (hret : meth.sig.returnType = some t) (ht : t.isReference = true) {pc : Nat} {Ls : Array Slot} {z : Value} (hz : z.isRef = true) (hd : decode c.code pc = .ok (.areturn, 1))
    (hQ : Q (some z) T.heap locs) (h1 : cells ≤ kc) (h2 : slots ≤ ks) : own_G p e below s Q kc ks T (mkF m pc Ls [z]) :=
  own_out X hlk (v := some z) (fun h => by rw [hret] at h; cases h) (fun fs hl => X.areturnOut hx hz hret ht hd hl) hQ h1 h2
theorem own_retV (X : Stand p l e R s m args below meth c T locs cells slots) (hx : p.tables.exec = Jvm.exec) (hlk : meth.locks = false) (hret : meth.sig.returnType = none) {pc : Nat} {Ls : Array Slot} (hd : decode c.code pc = .ok (.return_, 1))
    (hQ : Q none T.heap locs) (h1 : cells ≤ kc) (h2 : slots ≤ ks) : own_G p e below s Q kc ks T (mkF m pc Ls []) :=
  own_out X hlk (v := none) (fun _ => rfl) (fun fs hl => X.returnOut hx hret hd hl) hQ h1 h2
/-- a method's contract at one heap and one row of arguments -/
def own_C (l : Launch) (Z : State) (y : MethodName) (bytes : ByteArray) (mx : Nat) (ret : Option FieldType) (ws : List Jvm.Cond) (rm : Room) (as : Array Value) (h0 : Heap) (Q : Option Value → Heap → List Loc → Prop) : Prop :=
  MetFree l y (head1 (Jvm.Cond.code y bytes mx ret :: ws) rm) (fun a U => a = as ∧ Z.Warmed39 U.vm ∧ U.heap = h0) (fun _ _ _ _ _ => True) (fun _ U o U' => ∃ v L, o = .returned v ∧ Q v U'.heap L ∧ FrameEnd U o U' L rm.cells rm.slots)
theorem own_met {y : MethodName} {bytes : ByteArray} {mx : Nat} {ret : Option FieldType} {ws : List Jvm.Cond} {rm : Room} {as : Array Value} {h0 : Heap} (hp : plainFor y = true) (L0 : Array Slot) (hef : ∀ m, entryFrame m as mx = mkF m 0 L0 [])
    (body : ∀ (p : Program) (e : Env) (s : State) (m : MethodId) (below : List Frame) (meth : Method) (c : Code) (s₁ : State), p.tables.exec = Jvm.exec → c.code = bytes → c.maxLocals = mx → s.vm.findClass y.cls = some m.cls → meth.sig.returnType = ret → meth.locks = false → Z.Warmed39 s.vm → meth.name = y.name →
      Stand p l e rm s m as below meth c s₁ [] 0 0 → s₁.heap = h0 → own_G p e below s Q rm.cells rm.slots s₁ (mkF m 0 L0 [])) :
    own_C l Z y bytes mx ret ws rm as h0 Q := by
  refine MetFree.of_bodySF hp hisR ?_
  intro p e s m args below meth c s₁ Bd hml0 hP hK
  obtain ⟨rfl, hZ, hh⟩ := hP
  have hown : s.vm.findClass y.cls = some m.cls := findClass_of_methodNamed Bd.named
  have hnm := (name_of_methodNamed Bd.named Bd.method).1
  have X0 : Stand p l e rm s m args below meth c s₁ [] 0 0 := Stand.of_body Bd
  have e0 : s₁.heap = h0 := by rw [← hh, Bd.state]; rfl
  obtain ⟨t, o, h1, h2⟩ := body p e s m below meth c s₁ Bd.exec Bd.bytes hml0 hown Bd.returns Bd.notSynchronized hZ hnm X0 e0
  exact ⟨t, o, castTop (hef m) h1, h2⟩
/-- a static call by the callee's contract -/
theorem own_callS (X : Stand p l e R s m args below meth c T locs cells slots) (hx : p.tables.exec = Jvm.exec) (hZ : Z.Warmed39 s.vm) {own : String} {index : Nat} {y : MethodName} {bytes : ByteArray} {mx : Nat} {ret : Option FieldType} {rm : Room} {Qc : Option Value → Heap → List Loc → Prop}
    (hown : s.vm.findClass own = some m.cls) (w1 : (Jvm.Cond.methodLink own index y).before a0 Z = true) (w2 : (Jvm.Cond.static y).before a0 Z = true) (w3 : (Jvm.Cond.initialized y.cls).before a0 Z = true) (w4 : (Jvm.Cond.code y bytes mx ret).before a0 Z = true) (hy : y.cls ≠ "java/lang/invoke/MethodHandle" ∧ y.cls ≠ "java/lang/invoke/VarHandle")
    (eT : T.heap = h) (argsL rest : List Value) (hM : own_C l Z y bytes mx ret [] rm argsL.toArray h Qc) (W : Nat) (hf : rm.frames + 1 ≤ R.frames) (hlo : W + (mx + 11) + rm.locals ≤ R.locals) (hW : (rest.map fun v => v.category).sum ≤ W) (hc : cells + rm.cells ≤ R.cells) (hs : slots + rm.slots ≤ R.slots)
    {pc : Nat} {Ls : Array Slot} {S : List Value} (hsize : Ls.size = c.maxLocals) (hlen : ∀ sig, parseMethodDescriptor y.desc = some sig → argsL.length = sig.parameters.length) (hS : S = argsL.reverse ++ rest) (hd : decode c.code pc = .ok (.invokestatic index, 3))
    (k : ∀ (T' : State) (v : Option Value) (L : List Loc), Stand p l e R s m args below meth c T' (locs ++ L) (cells + rm.cells) (slots + rm.slots) → Qc v T'.heap L → own_G p e below s Q kc ks T' (mkF m (pc + 3) Ls (v.toList ++ rest))) :
    own_G p e below s Q kc ks T (mkF m pc Ls S) := by
  obtain ⟨v, _, ⟨T', L', k', n'⟩, -, X', ⟨L, hQ, q1, q2, q3⟩, st⟩ := Jvm.LawKit.callS X hx (y := y) hown (mvT hZ w1) (mvT hZ w2) (mvT hZ w3) (mvT hZ w4) hy (backOf (W := W) hM hZ w4 w3 hf hlo) (g := mkF m pc Ls S) rfl hsize (argsL := argsL) (rest := rest) hlen hS (by show 2 * 0 + _ ≤ _; omega) hd (fun _ _ => ⟨rfl, eT, hc, hs⟩)
  dsimp only [Pt.U, Pt.locs, Pt.cells, Pt.slots] at X' q1 q2 q3 st hQ
  subst q1 q2 q3
  exact own_go _ st (k T' v L X' hQ)
/-- what a pure method's end is: this value, the heap as it was, no place written -/
def own_P (r : Value) (h0 : Heap) (v : Option Value) (h : Heap) (L : List Loc) : Prop := v = some r ∧ h = h0 ∧ L = []
/-- a static call of a pure method -/
theorem own_callP (X : Stand p l e R s m args below meth c T locs cells slots) (hx : p.tables.exec = Jvm.exec) (hZ : Z.Warmed39 s.vm) {own : String} {index : Nat} {y : MethodName} {bytes : ByteArray} {mx : Nat} {ret : Option FieldType} {fr lo : Nat} {r : Value}
    (hown : s.vm.findClass own = some m.cls) (w1 : (Jvm.Cond.methodLink own index y).before a0 Z = true) (w2 : (Jvm.Cond.static y).before a0 Z = true) (w3 : (Jvm.Cond.initialized y.cls).before a0 Z = true) (w4 : (Jvm.Cond.code y bytes mx ret).before a0 Z = true) (hy : y.cls ≠ "java/lang/invoke/MethodHandle" ∧ y.cls ≠ "java/lang/invoke/VarHandle")
    (eT : T.heap = h) (argsL rest : List Value) (hM : own_C l Z y bytes mx ret [] { frames := fr, cells := 0, slots := 0, locals := lo } argsL.toArray h (own_P r h)) (W : Nat) (hf : fr + 1 ≤ R.frames) (hlo : W + (mx + 11) + lo ≤ R.locals) (hW : (rest.map fun v => v.category).sum ≤ W) (hc : cells ≤ R.cells) (hs : slots ≤ R.slots)
    {pc : Nat} {Ls : Array Slot} {S : List Value} (hsize : Ls.size = c.maxLocals) (hlen : ∀ sig, parseMethodDescriptor y.desc = some sig → argsL.length = sig.parameters.length) (hS : S = argsL.reverse ++ rest) (hd : decode c.code pc = .ok (.invokestatic index, 3))
    (k : ∀ (T' : State), Stand p l e R s m args below meth c T' locs cells slots → T'.heap = h → own_G p e below s Q kc ks T' (mkF m (pc + 3) Ls (r :: rest))) :
    own_G p e below s Q kc ks T (mkF m pc Ls S) := by
  refine own_callS X hx hZ hown w1 w2 w3 w4 hy eT argsL rest hM W hf hlo hW hc hs hsize hlen hS hd ?_
  rintro T' v L X' ⟨rfl, q2, rfl⟩
  rw [List.append_nil] at X'
  exact k T' X' q2
/-- a constructor's call -/
theorem own_callI (X : Stand p l e R s m args below meth c T locs cells slots) (hx : p.tables.exec = Jvm.exec) (hZ : Z.Warmed39 s.vm) {own : String} {index : Nat} {y : MethodName} {bytes : ByteArray} {mx : Nat} {rm : Room} {Qc : Option Value → Heap → List Loc → Prop} (hy1 : y.name = "<init>")
    (hown : s.vm.findClass own = some m.cls) (w1 : (Jvm.Cond.methodLink own index y).before a0 Z = true) (w2 : (Jvm.Cond.instanceMethod y).before a0 Z = true) (w3 : (Jvm.Cond.initialized y.cls).before a0 Z = true) (w4 : (Jvm.Cond.code y bytes mx none).before a0 Z = true) (hy : y.cls ≠ "java/lang/invoke/MethodHandle" ∧ y.cls ≠ "java/lang/invoke/VarHandle")
    (eT : T.heap = h) (a : Addr) (argsL rest : List Value) (hM : own_C l Z y bytes mx none [] rm (.ref a :: argsL).toArray h Qc) (W : Nat) (hf : rm.frames + 1 ≤ R.frames) (hlo : W + (mx + 11) + rm.locals ≤ R.locals) (hW : (rest.map fun v => v.category).sum ≤ W) (hc : cells + rm.cells ≤ R.cells) (hs : slots + rm.slots ≤ R.slots)
    {pc : Nat} {Ls : Array Slot} {S : List Value} (hsize : Ls.size = c.maxLocals) (hlen : ∀ sig, parseMethodDescriptor y.desc = some sig → argsL.length = sig.parameters.length) (hS : S = argsL.reverse ++ .ref a :: rest) (hd : decode c.code pc = .ok (.invokespecial index, 3))
    (k : ∀ (T' : State) (v : Option Value) (L : List Loc), Stand p l e R s m args below meth c T' (locs ++ L) (cells + rm.cells) (slots + rm.slots) → Qc v T'.heap L → own_G p e below s Q kc ks T' (mkF m (pc + 3) Ls (v.toList ++ rest))) :
    own_G p e below s Q kc ks T (mkF m pc Ls S) := by
  obtain ⟨v, _, ⟨T', L', k', n'⟩, -, X', ⟨L, hQ, q1, q2, q3⟩, st⟩ := X.specialBack hx (y := y) hy1 hown (mvT hZ w1) (mvT hZ w2) (mvT hZ w4) hy (backOf (W := W) hM hZ w4 w3 hf hlo) (g := mkF m pc Ls S) rfl hsize (Steps.refl _) (a := a) (argsL := argsL) (rest := rest) hlen hS (by show 2 * 0 + _ ≤ _; omega) hd (fun _ _ => ⟨rfl, eT, hc, hs⟩)
  dsimp only [Pt.U, Pt.locs, Pt.cells, Pt.slots] at X' q1 q2 q3 st hQ
  subst q1 q2 q3
  exact own_go _ (fun t kt => st.trans kt) (k T' v L X' hQ)
/-- an instance method's call -/
theorem own_callV (X : Stand p l e R s m args below meth c T locs cells slots) (hx : p.tables.exec = Jvm.exec) (hZ : Z.Warmed39 s.vm) {own C : String} {index : Nat} {y : MethodName} {bytes : ByteArray} {mx : Nat} {ret : Option FieldType} {rm : Room} {Qc : Option Value → Heap → List Loc → Prop}
    (hown : s.vm.findClass own = some m.cls) (w1 : (Jvm.Cond.methodLink own index y).before a0 Z = true) (w5 : (Jvm.Cond.declares y).before a0 Z = true) (w6 : (Jvm.Cond.selects C y y).before a0 Z = true) (w2 : (Jvm.Cond.instanceMethod y).before a0 Z = true) (w3 : (Jvm.Cond.initialized y.cls).before a0 Z = true) (w4 : (Jvm.Cond.code y bytes mx ret).before a0 Z = true) (hy : y.cls ≠ "java/lang/invoke/MethodHandle" ∧ y.cls ≠ "java/lang/invoke/VarHandle")
    (eT : T.heap = h) {a : Addr} (E : Exa Z h a C) (argsL rest : List Value) (hM : own_C l Z y bytes mx ret [] rm (.ref a :: argsL).toArray h Qc) (W : Nat) (hf : rm.frames + 1 ≤ R.frames) (hlo : W + (mx + 11) + rm.locals ≤ R.locals) (hW : (rest.map fun v => v.category).sum ≤ W) (hc : cells + rm.cells ≤ R.cells) (hs : slots + rm.slots ≤ R.slots)
    {pc : Nat} {Ls : Array Slot} {S : List Value} (hsize : Ls.size = c.maxLocals) (hlen : ∀ sig, parseMethodDescriptor y.desc = some sig → argsL.length = sig.parameters.length) (hS : S = argsL.reverse ++ .ref a :: rest) (hd : decode c.code pc = .ok (.invokevirtual index, 3))
    (k : ∀ (T' : State) (v : Option Value) (L : List Loc), Stand p l e R s m args below meth c T' (locs ++ L) (cells + rm.cells) (slots + rm.slots) → Qc v T'.heap L → own_G p e below s Q kc ks T' (mkF m (pc + 3) Ls (v.toList ++ rest))) :
    own_G p e below s Q kc ks T (mkF m pc Ls S) := by
  obtain ⟨cq, kq, qa, qb, qc⟩ := isOf hZ eT E
  obtain ⟨v, _, ⟨T', L', k', n'⟩, -, X', ⟨L, hQ, q1, q2, q3⟩, st⟩ := X.virtualBack hx (y := y) (z := y) hown (mvT hZ w1) (mvT hZ w5) (notFace_of_selects (args := #[]) (mvT hZ w6)) (mvT hZ w6) (mvT hZ w2) hy (backOf (W := W) hM hZ w4 w3 hf hlo) qa qc (g := mkF m pc Ls S) rfl hsize (Steps.refl _) (argsL := argsL) (rest := rest) hlen hS (by show 2 * 0 + _ ≤ _; omega) hd (fun _ _ => ⟨rfl, eT, hc, hs⟩)
  dsimp only [Pt.U, Pt.locs, Pt.cells, Pt.slots] at X' q1 q2 q3 st hQ
  subst q1 q2 q3
  exact own_go _ (fun t kt => st.trans kt) (k T' v L X' hQ)
end OwnKit
theorem own_pd0 : parseMethodDescriptor "(IZ)Z" = some ⟨[.int, .boolean], some .boolean⟩ := by decide +kernel
def own_ends (x : Int32) (z : Int32) : Int32 := (if (13 : Int32) < x then (if x < (133 : Int32) then (0 : Int32) else (if z = (0 : Int32) then (0 : Int32) else (if x = (133 : Int32) then (1 : Int32) else (if x = (8232 : Int32) then (1 : Int32) else (0 : Int32))))) else (if x = (10 : Int32) then (1 : Int32) else (if x = (13 : Int32) then (1 : Int32) else (0 : Int32))))
theorem own_d1_0 : decode prog_8_method_2_code 0 = .ok (.iload_n 0, 1) := by decide +kernel
theorem own_d1_1 : decode prog_8_method_2_code 1 = .ok (.bipush 13, 2) := by decide +kernel
theorem own_d1_3 : decode prog_8_method_2_code 3 = .ok (.if_icmp .gt 21, 3) := by decide +kernel
theorem own_d1_6 : decode prog_8_method_2_code 6 = .ok (.iload_n 0, 1) := by decide +kernel
theorem own_d1_7 : decode prog_8_method_2_code 7 = .ok (.bipush 10, 2) := by decide +kernel
theorem own_d1_9 : decode prog_8_method_2_code 9 = .ok (.if_icmp .eq 9, 3) := by decide +kernel
theorem own_d1_12 : decode prog_8_method_2_code 12 = .ok (.iload_n 0, 1) := by decide +kernel
theorem own_d1_13 : decode prog_8_method_2_code 13 = .ok (.bipush 13, 2) := by decide +kernel
theorem own_d1_15 : decode prog_8_method_2_code 15 = .ok (.if_icmp .ne 7, 3) := by decide +kernel
theorem own_d1_18 : decode prog_8_method_2_code 18 = .ok (.iconst 1, 1) := by decide +kernel
theorem own_d1_19 : decode prog_8_method_2_code 19 = .ok (.goto 4, 3) := by decide +kernel
theorem own_d1_22 : decode prog_8_method_2_code 22 = .ok (.iconst 0, 1) := by decide +kernel
theorem own_d1_23 : decode prog_8_method_2_code 23 = .ok (.ireturn, 1) := by decide +kernel
theorem own_d1_24 : decode prog_8_method_2_code 24 = .ok (.iload_n 0, 1) := by decide +kernel
theorem own_d1_25 : decode prog_8_method_2_code 25 = .ok (.sipush 133, 3) := by decide +kernel
theorem own_d1_28 : decode prog_8_method_2_code 28 = .ok (.if_icmp .lt 25, 3) := by decide +kernel
theorem own_d1_31 : decode prog_8_method_2_code 31 = .ok (.iload_n 1, 1) := by decide +kernel
theorem own_d1_32 : decode prog_8_method_2_code 32 = .ok (.ifCond .eq 21, 3) := by decide +kernel
theorem own_d1_35 : decode prog_8_method_2_code 35 = .ok (.iload_n 0, 1) := by decide +kernel
theorem own_d1_36 : decode prog_8_method_2_code 36 = .ok (.sipush 133, 3) := by decide +kernel
theorem own_d1_39 : decode prog_8_method_2_code 39 = .ok (.if_icmp .eq 10, 3) := by decide +kernel
theorem own_d1_42 : decode prog_8_method_2_code 42 = .ok (.iload_n 0, 1) := by decide +kernel
theorem own_d1_43 : decode prog_8_method_2_code 43 = .ok (.sipush 8232, 3) := by decide +kernel
theorem own_d1_46 : decode prog_8_method_2_code 46 = .ok (.if_icmp .ne 7, 3) := by decide +kernel
theorem own_d1_49 : decode prog_8_method_2_code 49 = .ok (.iconst 1, 1) := by decide +kernel
theorem own_d1_50 : decode prog_8_method_2_code 50 = .ok (.goto 4, 3) := by decide +kernel
theorem own_d1_53 : decode prog_8_method_2_code 53 = .ok (.iconst 0, 1) := by decide +kernel
theorem own_d1_54 : decode prog_8_method_2_code 54 = .ok (.ireturn, 1) := by decide +kernel
theorem own_pn_own_rm1 : plainFor (⟨"org/formwright/LineEnds", "endsLine", "(IZ)Z"⟩ : MethodName) = true := plainFor_of_name (show plainName "org/formwright/LineEnds" = true by first | (simp [plainName, overriddenIn]; done) | decide +kernel)
set_option maxRecDepth 65536 in
set_option maxHeartbeats 40000000 in
theorem own_rm1 (l : Launch) (Z : State) (a0 : Array Value) (hw : ∀ d ∈ tables_1, d.before a0 Z = true) (ws : List Jvm.Cond) (h0 : Heap) (x z : Int32)  :
    own_C l Z (⟨"org/formwright/LineEnds", "endsLine", "(IZ)Z"⟩ : MethodName) prog_8_method_2_code 2 (some .boolean) ws ({ frames := 0, cells := 0, slots := 0, locals := 0 } : Room) #[(.int x), (.int z)] h0 (own_P (.int (own_ends x z)) h0) := by
  refine own_met own_pn_own_rm1 #[iv x, iv z] (fun m => by first | (simp [entryFrame, mkF, argsToLocals, Value.category]; done) | rfl) ?_
  intro p e s m below meth c s₁ hx hby hml hown hret hlk hZ hnm X0 e0
  refine own_go (mkF m 1 #[iv x, iv z] [(.int x)]) (fun t k => XS.iloadN X0.here hx rfl (hb hby own_d1_0) rfl  k) ?_
  refine own_go (mkF m 3 #[iv x, iv z] [(.int (13 : Int32)), (.int x)]) (fun t k => XS.bipush X0.here hx rfl (hb hby own_d1_1) k) ?_
  by_cases hc3 : (13 : Int32) < x
  · skip
    refine own_go (mkF m 24 #[iv x, iv z] []) (fun t k => XS.icmpYes X0.here hx rfl (pc0 := 3) (pc' := 24) rfl (hb hby own_d1_3) rfl (tlt hc3).2.2.1 (by decide) (by decide) k) ?_
    refine own_go (mkF m 25 #[iv x, iv z] [(.int x)]) (fun t k => XS.iloadN X0.here hx rfl (hb hby own_d1_24) rfl  k) ?_
    refine own_go (mkF m 28 #[iv x, iv z] [(.int (133 : Int32)), (.int x)]) (fun t k => XS.sipush X0.here hx rfl (hb hby own_d1_25) k) ?_
    by_cases hc28 : x < (133 : Int32)
    · skip
      refine own_go (mkF m 53 #[iv x, iv z] []) (fun t k => XS.icmpYes X0.here hx rfl (pc0 := 28) (pc' := 53) rfl (hb hby own_d1_28) rfl (tlt hc28).1 (by decide) (by decide) k) ?_
      refine own_go (mkF m 54 #[iv x, iv z] [(.int (0 : Int32))]) (fun t k => XS.iconst X0.here hx rfl (hb hby own_d1_53) k) ?_
      refine own_retZ X0 hx hlk hret (hb hby own_d1_54) ?_ (by decide) (by decide)
      exact ⟨congrArg (fun z => some (Value.int z)) ((show (own_ends x z) = (0 : Int32) from ((if_pos hc3).trans ((if_pos hc28).trans rfl))).trans (by decide : (0 : Int32) = ((0 : Int32) &&& 1))).symm, e0, rfl⟩
    · skip
      refine own_go (mkF m 31 #[iv x, iv z] []) (fun t k => XS.icmpNo X0.here hx rfl (hb hby own_d1_28) rfl (flt hc28).1 k) ?_
      refine own_go (mkF m 32 #[iv x, iv z] [(.int z)]) (fun t k => XS.iloadN X0.here hx rfl (hb hby own_d1_31) rfl  k) ?_
      by_cases hc32 : z = (0 : Int32)
      · skip
        refine own_go (mkF m 53 #[iv x, iv z] []) (fun t k => XS.ifYes X0.here hx rfl (pc0 := 32) (pc' := 53) rfl (hb hby own_d1_32) rfl ((if0 _ _).trans (teq hc32).1) (by decide) (by decide) k) ?_
        refine own_go (mkF m 54 #[iv x, iv z] [(.int (0 : Int32))]) (fun t k => XS.iconst X0.here hx rfl (hb hby own_d1_53) k) ?_
        refine own_retZ X0 hx hlk hret (hb hby own_d1_54) ?_ (by decide) (by decide)
        exact ⟨congrArg (fun z => some (Value.int z)) ((show (own_ends x z) = (0 : Int32) from ((if_pos hc3).trans ((if_neg hc28).trans ((if_pos hc32).trans rfl)))).trans (by decide : (0 : Int32) = ((0 : Int32) &&& 1))).symm, e0, rfl⟩
      · skip
        refine own_go (mkF m 35 #[iv x, iv z] []) (fun t k => XS.ifNo X0.here hx rfl (hb hby own_d1_32) rfl ((if0 _ _).trans (feq hc32).1) k) ?_
        refine own_go (mkF m 36 #[iv x, iv z] [(.int x)]) (fun t k => XS.iloadN X0.here hx rfl (hb hby own_d1_35) rfl  k) ?_
        refine own_go (mkF m 39 #[iv x, iv z] [(.int (133 : Int32)), (.int x)]) (fun t k => XS.sipush X0.here hx rfl (hb hby own_d1_36) k) ?_
        by_cases hc39 : x = (133 : Int32)
        · skip
          refine own_go (mkF m 49 #[iv x, iv z] []) (fun t k => XS.icmpYes X0.here hx rfl (pc0 := 39) (pc' := 49) rfl (hb hby own_d1_39) rfl (teq hc39).1 (by decide) (by decide) k) ?_
          refine own_go (mkF m 50 #[iv x, iv z] [(.int (1 : Int32))]) (fun t k => XS.iconst X0.here hx rfl (hb hby own_d1_49) k) ?_
          refine own_go (mkF m 54 #[iv x, iv z] [(.int (1 : Int32))]) (fun t k => XS.goto X0.here hx rfl (pc0 := 50) (pc' := 54) rfl (hb hby own_d1_50) (by decide) (by decide) k) ?_
          refine own_retZ X0 hx hlk hret (hb hby own_d1_54) ?_ (by decide) (by decide)
          exact ⟨congrArg (fun z => some (Value.int z)) ((show (own_ends x z) = (1 : Int32) from ((if_pos hc3).trans ((if_neg hc28).trans ((if_neg hc32).trans ((if_pos hc39).trans rfl))))).trans (by decide : (1 : Int32) = ((1 : Int32) &&& 1))).symm, e0, rfl⟩
        · skip
          refine own_go (mkF m 42 #[iv x, iv z] []) (fun t k => XS.icmpNo X0.here hx rfl (hb hby own_d1_39) rfl (feq hc39).1 k) ?_
          refine own_go (mkF m 43 #[iv x, iv z] [(.int x)]) (fun t k => XS.iloadN X0.here hx rfl (hb hby own_d1_42) rfl  k) ?_
          refine own_go (mkF m 46 #[iv x, iv z] [(.int (8232 : Int32)), (.int x)]) (fun t k => XS.sipush X0.here hx rfl (hb hby own_d1_43) k) ?_
          by_cases hc46 : x = (8232 : Int32)
          · skip
            refine own_go (mkF m 49 #[iv x, iv z] []) (fun t k => XS.icmpNo X0.here hx rfl (hb hby own_d1_46) rfl (teq hc46).2 k) ?_
            refine own_go (mkF m 50 #[iv x, iv z] [(.int (1 : Int32))]) (fun t k => XS.iconst X0.here hx rfl (hb hby own_d1_49) k) ?_
            refine own_go (mkF m 54 #[iv x, iv z] [(.int (1 : Int32))]) (fun t k => XS.goto X0.here hx rfl (pc0 := 50) (pc' := 54) rfl (hb hby own_d1_50) (by decide) (by decide) k) ?_
            refine own_retZ X0 hx hlk hret (hb hby own_d1_54) ?_ (by decide) (by decide)
            exact ⟨congrArg (fun z => some (Value.int z)) ((show (own_ends x z) = (1 : Int32) from ((if_pos hc3).trans ((if_neg hc28).trans ((if_neg hc32).trans ((if_neg hc39).trans ((if_pos hc46).trans rfl)))))).trans (by decide : (1 : Int32) = ((1 : Int32) &&& 1))).symm, e0, rfl⟩
          · skip
            refine own_go (mkF m 53 #[iv x, iv z] []) (fun t k => XS.icmpYes X0.here hx rfl (pc0 := 46) (pc' := 53) rfl (hb hby own_d1_46) rfl (feq hc46).2 (by decide) (by decide) k) ?_
            refine own_go (mkF m 54 #[iv x, iv z] [(.int (0 : Int32))]) (fun t k => XS.iconst X0.here hx rfl (hb hby own_d1_53) k) ?_
            refine own_retZ X0 hx hlk hret (hb hby own_d1_54) ?_ (by decide) (by decide)
            exact ⟨congrArg (fun z => some (Value.int z)) ((show (own_ends x z) = (0 : Int32) from ((if_pos hc3).trans ((if_neg hc28).trans ((if_neg hc32).trans ((if_neg hc39).trans ((if_neg hc46).trans rfl)))))).trans (by decide : (0 : Int32) = ((0 : Int32) &&& 1))).symm, e0, rfl⟩
  · skip
    refine own_go (mkF m 6 #[iv x, iv z] []) (fun t k => XS.icmpNo X0.here hx rfl (hb hby own_d1_3) rfl (flt hc3).2.2.1 k) ?_
    refine own_go (mkF m 7 #[iv x, iv z] [(.int x)]) (fun t k => XS.iloadN X0.here hx rfl (hb hby own_d1_6) rfl  k) ?_
    refine own_go (mkF m 9 #[iv x, iv z] [(.int (10 : Int32)), (.int x)]) (fun t k => XS.bipush X0.here hx rfl (hb hby own_d1_7) k) ?_
    by_cases hc9 : x = (10 : Int32)
    · skip
      refine own_go (mkF m 18 #[iv x, iv z] []) (fun t k => XS.icmpYes X0.here hx rfl (pc0 := 9) (pc' := 18) rfl (hb hby own_d1_9) rfl (teq hc9).1 (by decide) (by decide) k) ?_
      refine own_go (mkF m 19 #[iv x, iv z] [(.int (1 : Int32))]) (fun t k => XS.iconst X0.here hx rfl (hb hby own_d1_18) k) ?_
      refine own_go (mkF m 23 #[iv x, iv z] [(.int (1 : Int32))]) (fun t k => XS.goto X0.here hx rfl (pc0 := 19) (pc' := 23) rfl (hb hby own_d1_19) (by decide) (by decide) k) ?_
      refine own_retZ X0 hx hlk hret (hb hby own_d1_23) ?_ (by decide) (by decide)
      exact ⟨congrArg (fun z => some (Value.int z)) ((show (own_ends x z) = (1 : Int32) from ((if_neg hc3).trans ((if_pos hc9).trans rfl))).trans (by decide : (1 : Int32) = ((1 : Int32) &&& 1))).symm, e0, rfl⟩
    · skip
      refine own_go (mkF m 12 #[iv x, iv z] []) (fun t k => XS.icmpNo X0.here hx rfl (hb hby own_d1_9) rfl (feq hc9).1 k) ?_
      refine own_go (mkF m 13 #[iv x, iv z] [(.int x)]) (fun t k => XS.iloadN X0.here hx rfl (hb hby own_d1_12) rfl  k) ?_
      refine own_go (mkF m 15 #[iv x, iv z] [(.int (13 : Int32)), (.int x)]) (fun t k => XS.bipush X0.here hx rfl (hb hby own_d1_13) k) ?_
      by_cases hc15 : x = (13 : Int32)
      · skip
        refine own_go (mkF m 18 #[iv x, iv z] []) (fun t k => XS.icmpNo X0.here hx rfl (hb hby own_d1_15) rfl (teq hc15).2 k) ?_
        refine own_go (mkF m 19 #[iv x, iv z] [(.int (1 : Int32))]) (fun t k => XS.iconst X0.here hx rfl (hb hby own_d1_18) k) ?_
        refine own_go (mkF m 23 #[iv x, iv z] [(.int (1 : Int32))]) (fun t k => XS.goto X0.here hx rfl (pc0 := 19) (pc' := 23) rfl (hb hby own_d1_19) (by decide) (by decide) k) ?_
        refine own_retZ X0 hx hlk hret (hb hby own_d1_23) ?_ (by decide) (by decide)
        exact ⟨congrArg (fun z => some (Value.int z)) ((show (own_ends x z) = (1 : Int32) from ((if_neg hc3).trans ((if_neg hc9).trans ((if_pos hc15).trans rfl)))).trans (by decide : (1 : Int32) = ((1 : Int32) &&& 1))).symm, e0, rfl⟩
      · skip
        refine own_go (mkF m 22 #[iv x, iv z] []) (fun t k => XS.icmpYes X0.here hx rfl (pc0 := 15) (pc' := 22) rfl (hb hby own_d1_15) rfl (feq hc15).2 (by decide) (by decide) k) ?_
        refine own_go (mkF m 23 #[iv x, iv z] [(.int (0 : Int32))]) (fun t k => XS.iconst X0.here hx rfl (hb hby own_d1_22) k) ?_
        refine own_retZ X0 hx hlk hret (hb hby own_d1_23) ?_ (by decide) (by decide)
        exact ⟨congrArg (fun z => some (Value.int z)) ((show (own_ends x z) = (0 : Int32) from ((if_neg hc3).trans ((if_neg hc9).trans ((if_neg hc15).trans rfl)))).trans (by decide : (0 : Int32) = ((0 : Int32) &&& 1))).symm, e0, rfl⟩

def own_exp (x z : Int32) : Int32 := (if x = (10 : Int32) then (1 : Int32) else (if x = (13 : Int32) then (1 : Int32) else (if z = (0 : Int32) then (0 : Int32) else (if x = (133 : Int32) then (1 : Int32) else (if x = (8232 : Int32) then (1 : Int32) else (0 : Int32))))))


theorem own_law (x z : Int32) : own_ends x z = own_exp x z := by
  have e32_13 : (13 : Int32).toInt = 13 := rfl
  have e32_133 : (133 : Int32).toInt = 133 := rfl
  have e32_10 : (10 : Int32).toInt = 10 := rfl
  have e32_8232 : (8232 : Int32).toInt = 8232 := rfl
  have e32_0 : (0 : Int32).toInt = 0 := rfl
  unfold own_ends own_exp
  simp only [Int32.lt_iff_toInt_lt, ← Int32.toInt_inj, e32_13, e32_133, e32_10, e32_8232, e32_0]
  (repeat' split) <;> first | rfl | omega

theorem own_pn_own_rm0 : plainFor x = true := plainFor_of_name (show plainName "org/formwright/LineEndsEndsLinePinLaw" = true by first | (simp [plainName, overriddenIn]; done) | decide +kernel)
set_option maxRecDepth 65536 in
set_option maxHeartbeats 40000000 in
theorem own_rm0 (l : Launch) (Z : State) (a0 : Array Value) (hw : ∀ d ∈ tables_1, d.before a0 Z = true) (ws : List Jvm.Cond) (h0 : Heap) (x0 x1 x2 : Int32)  :
    own_C l Z x code maxLocals ret ws room_1 #[(.int x0), (.int x1), (.int x2)] h0 (fun v h L => v = some (.int 1) ∧ Fr h0.size L) := by
  refine own_met own_pn_own_rm0 #[iv x0, iv x1, iv x2, .unset, .unset, .unset, .unset, .unset] (fun m => by first | (simp [entryFrame, mkF, argsToLocals, Value.category, maxLocals]; done) | rfl) ?_
  intro p e s m below meth c s₁ hx hby hml hown hret hlk hZ hnm X0 e0
  replace hml : c.maxLocals = 8 := hml
  have J1 : ∀ (b : Int32), True → own_G p e below s (fun v h L => v = some (.int 1) ∧ Fr h0.size L) room_1.cells room_1.slots s₁ (mkF m 11 #[iv x0, iv x1, iv x2, .unset, .unset, .unset, .unset, .unset] [(.int b)]) := by
    intro b hJ1
    refine own_go (mkF m 12 #[iv x0, iv x1, iv x2, iv b, .unset, .unset, .unset, .unset] []) (fun t k => XS.istoreN X0.here hx rfl (hb hby at_11) rfl (l' := #[iv x0, iv x1, iv x2, iv b, .unset, .unset, .unset, .unset]) rfl k) ?_
    refine own_go (mkF m 13 #[iv x0, iv x1, iv x2, iv b, .unset, .unset, .unset, .unset] [(.int x1)]) (fun t k => XS.iloadN X0.here hx rfl (hb hby at_12) rfl  k) ?_
    refine own_go (mkF m 15 #[iv x0, iv x1, iv x2, iv b, .unset, .unset, .unset, .unset] [(.int (2147483647 : Int32)), (.int x1)]) (fun t k => X0.ldcInt hx hown (mvT hZ (hw _ (List.mem_of_getElem? (i := 0) rfl))) (g := (mkF m 13 #[iv x0, iv x1, iv x2, iv b, .unset, .unset, .unset, .unset] [(.int x1)])) rfl (hb hby at_13) _ k) ?_
    refine own_go (mkF m 16 #[iv x0, iv x1, iv x2, iv b, .unset, .unset, .unset, .unset] [(.int (x1 &&& (2147483647 : Int32)))]) (fun t k => XS.iand X0.here hx rfl (hb hby at_15) rfl k) ?_
    refine own_go (mkF m 18 #[iv x0, iv x1, iv x2, iv b, .unset, .unset, .unset, .unset] [(.int (6 : Int32)), (.int (x1 &&& (2147483647 : Int32)))]) (fun t k => XS.bipush X0.here hx rfl (hb hby at_16) k) ?_
    refine own_go (mkF m 19 #[iv x0, iv x1, iv x2, iv b, .unset, .unset, .unset, .unset] [(.int ((x1 &&& (2147483647 : Int32)) - ((x1 &&& (2147483647 : Int32)) / (6 : Int32)) * (6 : Int32)))]) (fun t k => XS.irem X0.here hx rfl (hb hby at_18) rfl (by decide) k) ?_
    generalize ((x1 &&& (2147483647 : Int32)) - ((x1 &&& (2147483647 : Int32)) / (6 : Int32)) * (6 : Int32)) = kk
    refine own_go (mkF m 21 #[iv x0, iv x1, iv x2, iv b, iv kk, .unset, .unset, .unset] []) (fun t k => XS.istore X0.here hx rfl (hb hby at_19) rfl (l' := #[iv x0, iv x1, iv x2, iv b, iv kk, .unset, .unset, .unset]) rfl k) ?_
    refine own_go (mkF m 23 #[iv x0, iv x1, iv x2, iv b, iv kk, .unset, .unset, .unset] [(.int kk)]) (fun t k => XS.iload X0.here hx rfl (hb hby at_21) rfl  k) ?_
    by_cases hc23 : kk = (0 : Int32)
    · skip
      refine own_go (mkF m 26 #[iv x0, iv x1, iv x2, iv b, iv kk, .unset, .unset, .unset] []) (fun t k => XS.ifNo X0.here hx rfl (hb hby at_23) rfl ((if0 _ _).trans (teq hc23).2) k) ?_
      refine own_go (mkF m 27 #[iv x0, iv x1, iv x2, iv b, iv kk, .unset, .unset, .unset] [(.int x0)]) (fun t k => XS.iloadN X0.here hx rfl (hb hby at_26) rfl  k) ?_
      refine own_go (mkF m 29 #[iv x0, iv x1, iv x2, iv b, iv kk, iv x0, .unset, .unset] []) (fun t k => XS.istore X0.here hx rfl (hb hby at_27) rfl (l' := #[iv x0, iv x1, iv x2, iv b, iv kk, iv x0, .unset, .unset]) rfl k) ?_
      refine own_go (mkF m 106 #[iv x0, iv x1, iv x2, iv b, iv kk, iv x0, .unset, .unset] []) (fun t k => XS.goto X0.here hx rfl (pc0 := 29) (pc' := 106) rfl (hb hby at_29) (by decide) (by decide) k) ?_
      have JE : ∀ (ex : Int32), ex = (own_exp x0 b) → own_G p e below s (fun v h L => v = some (.int 1) ∧ Fr h0.size L) room_1.cells room_1.slots s₁ (mkF m 145 #[iv x0, iv x1, iv x2, iv b, iv kk, iv x0, .unset, .unset] [(.int ex)]) := by
        intro ex hJE
        refine own_go (mkF m 147 #[iv x0, iv x1, iv x2, iv b, iv kk, iv x0, iv ex, .unset] []) (fun t k => XS.istore X0.here hx rfl (hb hby at_145) rfl (l' := #[iv x0, iv x1, iv x2, iv b, iv kk, iv x0, iv ex, .unset]) rfl k) ?_
        refine own_go (mkF m 149 #[iv x0, iv x1, iv x2, iv b, iv kk, iv x0, iv ex, .unset] [(.int x0)]) (fun t k => XS.iload X0.here hx rfl (hb hby at_147) rfl  k) ?_
        refine own_go (mkF m 150 #[iv x0, iv x1, iv x2, iv b, iv kk, iv x0, iv ex, .unset] [(.int b), (.int x0)]) (fun t k => XS.iloadN X0.here hx rfl (hb hby at_149) rfl  k) ?_
        refine own_callP X0 hx hZ (y := (⟨"org/formwright/LineEnds", "endsLine", "(IZ)Z"⟩ : MethodName)) (fr := 0) (lo := 0) (r := (.int (own_ends x0 b))) hown (hw _ (List.mem_of_getElem? (i := 1) rfl)) (hw _ (List.mem_of_getElem? (i := 2) rfl)) (hw _ (List.mem_of_getElem? (i := 3) rfl)) (hw _ (List.mem_of_getElem? (i := 4) rfl)) (by decide) e0 [(.int x0), (.int b)] [] (own_rm1 l Z a0 hw [] h0 x0 b) 0 (by decide) (by decide) (by decide) (by decide) (by decide) (by rw [hml]; rfl) (lenOf own_pd0 rfl) rfl (hb hby at_150) ?_
        intro T2 X2 e2
        refine own_go (mkF m 155 #[iv x0, iv x1, iv x2, iv b, iv kk, iv x0, iv ex, .unset] [(.int ex), (.int (own_ends x0 b))]) (fun t k => XS.iload X2.here hx rfl (hb hby at_153) rfl  k) ?_
        refine own_go (mkF m 158 #[iv x0, iv x1, iv x2, iv b, iv kk, iv x0, iv ex, .unset] []) (fun t k => XS.icmpNo X2.here hx rfl (hb hby at_155) rfl (teq ((own_law _ _).trans hJE.symm)).2 k) ?_
        refine own_go (mkF m 159 #[iv x0, iv x1, iv x2, iv b, iv kk, iv x0, iv ex, .unset] [(.int (1 : Int32))]) (fun t k => XS.iconst X2.here hx rfl (hb hby at_158) k) ?_
        refine own_go (mkF m 163 #[iv x0, iv x1, iv x2, iv b, iv kk, iv x0, iv ex, .unset] [(.int (1 : Int32))]) (fun t k => XS.goto X2.here hx rfl (pc0 := 159) (pc' := 163) rfl (hb hby at_159) (by decide) (by decide) k) ?_
        refine own_retZ X2 hx hlk hret (hb hby at_163) ?_ (by decide) (by decide)
        exact ⟨rfl, Fr.nil _⟩
      refine own_go (mkF m 108 #[iv x0, iv x1, iv x2, iv b, iv kk, iv x0, .unset, .unset] [(.int x0)]) (fun t k => XS.iload X0.here hx rfl (hb hby at_106) rfl  k) ?_
      refine own_go (mkF m 110 #[iv x0, iv x1, iv x2, iv b, iv kk, iv x0, .unset, .unset] [(.int (10 : Int32)), (.int x0)]) (fun t k => XS.bipush X0.here hx rfl (hb hby at_108) k) ?_
      by_cases hc110 : x0 = (10 : Int32)
      · skip
        refine own_go (mkF m 140 #[iv x0, iv x1, iv x2, iv b, iv kk, iv x0, .unset, .unset] []) (fun t k => XS.icmpYes X0.here hx rfl (pc0 := 110) (pc' := 140) rfl (hb hby at_110) rfl (teq hc110).1 (by decide) (by decide) k) ?_
        refine own_go (mkF m 141 #[iv x0, iv x1, iv x2, iv b, iv kk, iv x0, .unset, .unset] [(.int (1 : Int32))]) (fun t k => XS.iconst X0.here hx rfl (hb hby at_140) k) ?_
        refine own_go (mkF m 145 #[iv x0, iv x1, iv x2, iv b, iv kk, iv x0, .unset, .unset] [(.int (1 : Int32))]) (fun t k => XS.goto X0.here hx rfl (pc0 := 141) (pc' := 145) rfl (hb hby at_141) (by decide) (by decide) k) ?_
        exact JE ((1 : Int32)) (show (1 : Int32) = (own_exp x0 b) from (show (own_exp x0 b) = (1 : Int32) from ((if_pos hc110).trans rfl)).symm)
      · skip
        refine own_go (mkF m 113 #[iv x0, iv x1, iv x2, iv b, iv kk, iv x0, .unset, .unset] []) (fun t k => XS.icmpNo X0.here hx rfl (hb hby at_110) rfl (feq hc110).1 k) ?_
        refine own_go (mkF m 115 #[iv x0, iv x1, iv x2, iv b, iv kk, iv x0, .unset, .unset] [(.int x0)]) (fun t k => XS.iload X0.here hx rfl (hb hby at_113) rfl  k) ?_
        refine own_go (mkF m 117 #[iv x0, iv x1, iv x2, iv b, iv kk, iv x0, .unset, .unset] [(.int (13 : Int32)), (.int x0)]) (fun t k => XS.bipush X0.here hx rfl (hb hby at_115) k) ?_
        by_cases hc117 : x0 = (13 : Int32)
        · skip
          refine own_go (mkF m 140 #[iv x0, iv x1, iv x2, iv b, iv kk, iv x0, .unset, .unset] []) (fun t k => XS.icmpYes X0.here hx rfl (pc0 := 117) (pc' := 140) rfl (hb hby at_117) rfl (teq hc117).1 (by decide) (by decide) k) ?_
          refine own_go (mkF m 141 #[iv x0, iv x1, iv x2, iv b, iv kk, iv x0, .unset, .unset] [(.int (1 : Int32))]) (fun t k => XS.iconst X0.here hx rfl (hb hby at_140) k) ?_
          refine own_go (mkF m 145 #[iv x0, iv x1, iv x2, iv b, iv kk, iv x0, .unset, .unset] [(.int (1 : Int32))]) (fun t k => XS.goto X0.here hx rfl (pc0 := 141) (pc' := 145) rfl (hb hby at_141) (by decide) (by decide) k) ?_
          exact JE ((1 : Int32)) (show (1 : Int32) = (own_exp x0 b) from (show (own_exp x0 b) = (1 : Int32) from ((if_neg hc110).trans ((if_pos hc117).trans rfl))).symm)
        · skip
          refine own_go (mkF m 120 #[iv x0, iv x1, iv x2, iv b, iv kk, iv x0, .unset, .unset] []) (fun t k => XS.icmpNo X0.here hx rfl (hb hby at_117) rfl (feq hc117).1 k) ?_
          refine own_go (mkF m 121 #[iv x0, iv x1, iv x2, iv b, iv kk, iv x0, .unset, .unset] [(.int b)]) (fun t k => XS.iloadN X0.here hx rfl (hb hby at_120) rfl  k) ?_
          by_cases hc121 : b = (0 : Int32)
          · skip
            refine own_go (mkF m 144 #[iv x0, iv x1, iv x2, iv b, iv kk, iv x0, .unset, .unset] []) (fun t k => XS.ifYes X0.here hx rfl (pc0 := 121) (pc' := 144) rfl (hb hby at_121) rfl ((if0 _ _).trans (teq hc121).1) (by decide) (by decide) k) ?_
            refine own_go (mkF m 145 #[iv x0, iv x1, iv x2, iv b, iv kk, iv x0, .unset, .unset] [(.int (0 : Int32))]) (fun t k => XS.iconst X0.here hx rfl (hb hby at_144) k) ?_
            exact JE ((0 : Int32)) (show (0 : Int32) = (own_exp x0 b) from (show (own_exp x0 b) = (0 : Int32) from ((if_neg hc110).trans ((if_neg hc117).trans ((if_pos hc121).trans rfl)))).symm)
          · skip
            refine own_go (mkF m 124 #[iv x0, iv x1, iv x2, iv b, iv kk, iv x0, .unset, .unset] []) (fun t k => XS.ifNo X0.here hx rfl (hb hby at_121) rfl ((if0 _ _).trans (feq hc121).1) k) ?_
            refine own_go (mkF m 126 #[iv x0, iv x1, iv x2, iv b, iv kk, iv x0, .unset, .unset] [(.int x0)]) (fun t k => XS.iload X0.here hx rfl (hb hby at_124) rfl  k) ?_
            refine own_go (mkF m 129 #[iv x0, iv x1, iv x2, iv b, iv kk, iv x0, .unset, .unset] [(.int (133 : Int32)), (.int x0)]) (fun t k => XS.sipush X0.here hx rfl (hb hby at_126) k) ?_
            by_cases hc129 : x0 = (133 : Int32)
            · skip
              refine own_go (mkF m 140 #[iv x0, iv x1, iv x2, iv b, iv kk, iv x0, .unset, .unset] []) (fun t k => XS.icmpYes X0.here hx rfl (pc0 := 129) (pc' := 140) rfl (hb hby at_129) rfl (teq hc129).1 (by decide) (by decide) k) ?_
              refine own_go (mkF m 141 #[iv x0, iv x1, iv x2, iv b, iv kk, iv x0, .unset, .unset] [(.int (1 : Int32))]) (fun t k => XS.iconst X0.here hx rfl (hb hby at_140) k) ?_
              refine own_go (mkF m 145 #[iv x0, iv x1, iv x2, iv b, iv kk, iv x0, .unset, .unset] [(.int (1 : Int32))]) (fun t k => XS.goto X0.here hx rfl (pc0 := 141) (pc' := 145) rfl (hb hby at_141) (by decide) (by decide) k) ?_
              exact JE ((1 : Int32)) (show (1 : Int32) = (own_exp x0 b) from (show (own_exp x0 b) = (1 : Int32) from ((if_neg hc110).trans ((if_neg hc117).trans ((if_neg hc121).trans ((if_pos hc129).trans rfl))))).symm)
            · skip
              refine own_go (mkF m 132 #[iv x0, iv x1, iv x2, iv b, iv kk, iv x0, .unset, .unset] []) (fun t k => XS.icmpNo X0.here hx rfl (hb hby at_129) rfl (feq hc129).1 k) ?_
              refine own_go (mkF m 134 #[iv x0, iv x1, iv x2, iv b, iv kk, iv x0, .unset, .unset] [(.int x0)]) (fun t k => XS.iload X0.here hx rfl (hb hby at_132) rfl  k) ?_
              refine own_go (mkF m 137 #[iv x0, iv x1, iv x2, iv b, iv kk, iv x0, .unset, .unset] [(.int (8232 : Int32)), (.int x0)]) (fun t k => XS.sipush X0.here hx rfl (hb hby at_134) k) ?_
              by_cases hc137 : x0 = (8232 : Int32)
              · skip
                refine own_go (mkF m 140 #[iv x0, iv x1, iv x2, iv b, iv kk, iv x0, .unset, .unset] []) (fun t k => XS.icmpNo X0.here hx rfl (hb hby at_137) rfl (teq hc137).2 k) ?_
                refine own_go (mkF m 141 #[iv x0, iv x1, iv x2, iv b, iv kk, iv x0, .unset, .unset] [(.int (1 : Int32))]) (fun t k => XS.iconst X0.here hx rfl (hb hby at_140) k) ?_
                refine own_go (mkF m 145 #[iv x0, iv x1, iv x2, iv b, iv kk, iv x0, .unset, .unset] [(.int (1 : Int32))]) (fun t k => XS.goto X0.here hx rfl (pc0 := 141) (pc' := 145) rfl (hb hby at_141) (by decide) (by decide) k) ?_
                exact JE ((1 : Int32)) (show (1 : Int32) = (own_exp x0 b) from (show (own_exp x0 b) = (1 : Int32) from ((if_neg hc110).trans ((if_neg hc117).trans ((if_neg hc121).trans ((if_neg hc129).trans ((if_pos hc137).trans rfl)))))).symm)
              · skip
                refine own_go (mkF m 144 #[iv x0, iv x1, iv x2, iv b, iv kk, iv x0, .unset, .unset] []) (fun t k => XS.icmpYes X0.here hx rfl (pc0 := 137) (pc' := 144) rfl (hb hby at_137) rfl (feq hc137).2 (by decide) (by decide) k) ?_
                refine own_go (mkF m 145 #[iv x0, iv x1, iv x2, iv b, iv kk, iv x0, .unset, .unset] [(.int (0 : Int32))]) (fun t k => XS.iconst X0.here hx rfl (hb hby at_144) k) ?_
                exact JE ((0 : Int32)) (show (0 : Int32) = (own_exp x0 b) from (show (own_exp x0 b) = (0 : Int32) from ((if_neg hc110).trans ((if_neg hc117).trans ((if_neg hc121).trans ((if_neg hc129).trans ((if_neg hc137).trans rfl)))))).symm)
    · skip
      refine own_go (mkF m 32 #[iv x0, iv x1, iv x2, iv b, iv kk, .unset, .unset, .unset] []) (fun t k => XS.ifYes X0.here hx rfl (pc0 := 23) (pc' := 32) rfl (hb hby at_23) rfl ((if0 _ _).trans (feq hc23).2) (by decide) (by decide) k) ?_
      have J3 : ∀ (bs : Int32), True → own_G p e below s (fun v h L => v = some (.int 1) ∧ Fr h0.size L) room_1.cells room_1.slots s₁ (mkF m 89 #[iv x0, iv x1, iv x2, iv b, iv kk, .unset, iv bs, .unset] []) := by
        intro bs hJ3
        refine own_go (mkF m 90 #[iv x0, iv x1, iv x2, iv b, iv kk, .unset, iv bs, .unset] [(.int x0)]) (fun t k => XS.iloadN X0.here hx rfl (hb hby at_89) rfl  k) ?_
        refine own_go (mkF m 92 #[iv x0, iv x1, iv x2, iv b, iv kk, .unset, iv bs, .unset] [(.int (2147483647 : Int32)), (.int x0)]) (fun t k => X0.ldcInt hx hown (mvT hZ (hw _ (List.mem_of_getElem? (i := 0) rfl))) (g := (mkF m 90 #[iv x0, iv x1, iv x2, iv b, iv kk, .unset, iv bs, .unset] [(.int x0)])) rfl (hb hby at_90) _ k) ?_
        refine own_go (mkF m 93 #[iv x0, iv x1, iv x2, iv b, iv kk, .unset, iv bs, .unset] [(.int (x0 &&& (2147483647 : Int32)))]) (fun t k => XS.iand X0.here hx rfl (hb hby at_92) rfl k) ?_
        refine own_go (mkF m 94 #[iv x0, iv x1, iv x2, iv b, iv kk, .unset, iv bs, .unset] [(.int (3 : Int32)), (.int (x0 &&& (2147483647 : Int32)))]) (fun t k => XS.iconst X0.here hx rfl (hb hby at_93) k) ?_
        refine own_go (mkF m 95 #[iv x0, iv x1, iv x2, iv b, iv kk, .unset, iv bs, .unset] [(.int ((x0 &&& (2147483647 : Int32)) - ((x0 &&& (2147483647 : Int32)) / (3 : Int32)) * (3 : Int32)))]) (fun t k => XS.irem X0.here hx rfl (hb hby at_94) rfl (by decide) k) ?_
        refine own_go (mkF m 96 #[iv x0, iv x1, iv x2, iv b, iv kk, .unset, iv bs, .unset] [(.int (1 : Int32)), (.int ((x0 &&& (2147483647 : Int32)) - ((x0 &&& (2147483647 : Int32)) / (3 : Int32)) * (3 : Int32)))]) (fun t k => XS.iconst X0.here hx rfl (hb hby at_95) k) ?_
        refine own_go (mkF m 97 #[iv x0, iv x1, iv x2, iv b, iv kk, .unset, iv bs, .unset] [(.int (((x0 &&& (2147483647 : Int32)) - ((x0 &&& (2147483647 : Int32)) / (3 : Int32)) * (3 : Int32)) - (1 : Int32)))]) (fun t k => XS.isub X0.here hx rfl (hb hby at_96) rfl k) ?_
        refine own_go (mkF m 99 #[iv x0, iv x1, iv x2, iv b, iv kk, .unset, iv bs, iv (((x0 &&& (2147483647 : Int32)) - ((x0 &&& (2147483647 : Int32)) / (3 : Int32)) * (3 : Int32)) - (1 : Int32))] []) (fun t k => XS.istore X0.here hx rfl (hb hby at_97) rfl (l' := #[iv x0, iv x1, iv x2, iv b, iv kk, .unset, iv bs, iv (((x0 &&& (2147483647 : Int32)) - ((x0 &&& (2147483647 : Int32)) / (3 : Int32)) * (3 : Int32)) - (1 : Int32))]) rfl k) ?_
        refine own_go (mkF m 101 #[iv x0, iv x1, iv x2, iv b, iv kk, .unset, iv bs, iv (((x0 &&& (2147483647 : Int32)) - ((x0 &&& (2147483647 : Int32)) / (3 : Int32)) * (3 : Int32)) - (1 : Int32))] [(.int bs)]) (fun t k => XS.iload X0.here hx rfl (hb hby at_99) rfl  k) ?_
        refine own_go (mkF m 103 #[iv x0, iv x1, iv x2, iv b, iv kk, .unset, iv bs, iv (((x0 &&& (2147483647 : Int32)) - ((x0 &&& (2147483647 : Int32)) / (3 : Int32)) * (3 : Int32)) - (1 : Int32))] [(.int (((x0 &&& (2147483647 : Int32)) - ((x0 &&& (2147483647 : Int32)) / (3 : Int32)) * (3 : Int32)) - (1 : Int32))), (.int bs)]) (fun t k => XS.iload X0.here hx rfl (hb hby at_101) rfl  k) ?_
        refine own_go (mkF m 104 #[iv x0, iv x1, iv x2, iv b, iv kk, .unset, iv bs, iv (((x0 &&& (2147483647 : Int32)) - ((x0 &&& (2147483647 : Int32)) / (3 : Int32)) * (3 : Int32)) - (1 : Int32))] [(.int (bs + (((x0 &&& (2147483647 : Int32)) - ((x0 &&& (2147483647 : Int32)) / (3 : Int32)) * (3 : Int32)) - (1 : Int32))))]) (fun t k => XS.iadd X0.here hx rfl (hb hby at_103) rfl k) ?_
        generalize (bs + (((x0 &&& (2147483647 : Int32)) - ((x0 &&& (2147483647 : Int32)) / (3 : Int32)) * (3 : Int32)) - (1 : Int32))) = xx
        refine own_go (mkF m 106 #[iv x0, iv x1, iv x2, iv b, iv kk, iv xx, iv bs, iv (((x0 &&& (2147483647 : Int32)) - ((x0 &&& (2147483647 : Int32)) / (3 : Int32)) * (3 : Int32)) - (1 : Int32))] []) (fun t k => XS.istore X0.here hx rfl (hb hby at_104) rfl (l' := #[iv x0, iv x1, iv x2, iv b, iv kk, iv xx, iv bs, iv (((x0 &&& (2147483647 : Int32)) - ((x0 &&& (2147483647 : Int32)) / (3 : Int32)) * (3 : Int32)) - (1 : Int32))]) rfl k) ?_
        have JE : ∀ (ex : Int32), ex = (own_exp xx b) → own_G p e below s (fun v h L => v = some (.int 1) ∧ Fr h0.size L) room_1.cells room_1.slots s₁ (mkF m 145 #[iv x0, iv x1, iv x2, iv b, iv kk, iv xx, iv bs, iv (((x0 &&& (2147483647 : Int32)) - ((x0 &&& (2147483647 : Int32)) / (3 : Int32)) * (3 : Int32)) - (1 : Int32))] [(.int ex)]) := by
          intro ex hJE
          refine own_go (mkF m 147 #[iv x0, iv x1, iv x2, iv b, iv kk, iv xx, iv ex, iv (((x0 &&& (2147483647 : Int32)) - ((x0 &&& (2147483647 : Int32)) / (3 : Int32)) * (3 : Int32)) - (1 : Int32))] []) (fun t k => XS.istore X0.here hx rfl (hb hby at_145) rfl (l' := #[iv x0, iv x1, iv x2, iv b, iv kk, iv xx, iv ex, iv (((x0 &&& (2147483647 : Int32)) - ((x0 &&& (2147483647 : Int32)) / (3 : Int32)) * (3 : Int32)) - (1 : Int32))]) rfl k) ?_
          refine own_go (mkF m 149 #[iv x0, iv x1, iv x2, iv b, iv kk, iv xx, iv ex, iv (((x0 &&& (2147483647 : Int32)) - ((x0 &&& (2147483647 : Int32)) / (3 : Int32)) * (3 : Int32)) - (1 : Int32))] [(.int xx)]) (fun t k => XS.iload X0.here hx rfl (hb hby at_147) rfl  k) ?_
          refine own_go (mkF m 150 #[iv x0, iv x1, iv x2, iv b, iv kk, iv xx, iv ex, iv (((x0 &&& (2147483647 : Int32)) - ((x0 &&& (2147483647 : Int32)) / (3 : Int32)) * (3 : Int32)) - (1 : Int32))] [(.int b), (.int xx)]) (fun t k => XS.iloadN X0.here hx rfl (hb hby at_149) rfl  k) ?_
          refine own_callP X0 hx hZ (y := (⟨"org/formwright/LineEnds", "endsLine", "(IZ)Z"⟩ : MethodName)) (fr := 0) (lo := 0) (r := (.int (own_ends xx b))) hown (hw _ (List.mem_of_getElem? (i := 1) rfl)) (hw _ (List.mem_of_getElem? (i := 2) rfl)) (hw _ (List.mem_of_getElem? (i := 3) rfl)) (hw _ (List.mem_of_getElem? (i := 4) rfl)) (by decide) e0 [(.int xx), (.int b)] [] (own_rm1 l Z a0 hw [] h0 xx b) 0 (by decide) (by decide) (by decide) (by decide) (by decide) (by rw [hml]; rfl) (lenOf own_pd0 rfl) rfl (hb hby at_150) ?_
          intro T4 X4 e4
          refine own_go (mkF m 155 #[iv x0, iv x1, iv x2, iv b, iv kk, iv xx, iv ex, iv (((x0 &&& (2147483647 : Int32)) - ((x0 &&& (2147483647 : Int32)) / (3 : Int32)) * (3 : Int32)) - (1 : Int32))] [(.int ex), (.int (own_ends xx b))]) (fun t k => XS.iload X4.here hx rfl (hb hby at_153) rfl  k) ?_
          refine own_go (mkF m 158 #[iv x0, iv x1, iv x2, iv b, iv kk, iv xx, iv ex, iv (((x0 &&& (2147483647 : Int32)) - ((x0 &&& (2147483647 : Int32)) / (3 : Int32)) * (3 : Int32)) - (1 : Int32))] []) (fun t k => XS.icmpNo X4.here hx rfl (hb hby at_155) rfl (teq ((own_law _ _).trans hJE.symm)).2 k) ?_
          refine own_go (mkF m 159 #[iv x0, iv x1, iv x2, iv b, iv kk, iv xx, iv ex, iv (((x0 &&& (2147483647 : Int32)) - ((x0 &&& (2147483647 : Int32)) / (3 : Int32)) * (3 : Int32)) - (1 : Int32))] [(.int (1 : Int32))]) (fun t k => XS.iconst X4.here hx rfl (hb hby at_158) k) ?_
          refine own_go (mkF m 163 #[iv x0, iv x1, iv x2, iv b, iv kk, iv xx, iv ex, iv (((x0 &&& (2147483647 : Int32)) - ((x0 &&& (2147483647 : Int32)) / (3 : Int32)) * (3 : Int32)) - (1 : Int32))] [(.int (1 : Int32))]) (fun t k => XS.goto X4.here hx rfl (pc0 := 159) (pc' := 163) rfl (hb hby at_159) (by decide) (by decide) k) ?_
          refine own_retZ X4 hx hlk hret (hb hby at_163) ?_ (by decide) (by decide)
          exact ⟨rfl, Fr.nil _⟩
        refine own_go (mkF m 108 #[iv x0, iv x1, iv x2, iv b, iv kk, iv xx, iv bs, iv (((x0 &&& (2147483647 : Int32)) - ((x0 &&& (2147483647 : Int32)) / (3 : Int32)) * (3 : Int32)) - (1 : Int32))] [(.int xx)]) (fun t k => XS.iload X0.here hx rfl (hb hby at_106) rfl  k) ?_
        refine own_go (mkF m 110 #[iv x0, iv x1, iv x2, iv b, iv kk, iv xx, iv bs, iv (((x0 &&& (2147483647 : Int32)) - ((x0 &&& (2147483647 : Int32)) / (3 : Int32)) * (3 : Int32)) - (1 : Int32))] [(.int (10 : Int32)), (.int xx)]) (fun t k => XS.bipush X0.here hx rfl (hb hby at_108) k) ?_
        by_cases hc110 : xx = (10 : Int32)
        · skip
          refine own_go (mkF m 140 #[iv x0, iv x1, iv x2, iv b, iv kk, iv xx, iv bs, iv (((x0 &&& (2147483647 : Int32)) - ((x0 &&& (2147483647 : Int32)) / (3 : Int32)) * (3 : Int32)) - (1 : Int32))] []) (fun t k => XS.icmpYes X0.here hx rfl (pc0 := 110) (pc' := 140) rfl (hb hby at_110) rfl (teq hc110).1 (by decide) (by decide) k) ?_
          refine own_go (mkF m 141 #[iv x0, iv x1, iv x2, iv b, iv kk, iv xx, iv bs, iv (((x0 &&& (2147483647 : Int32)) - ((x0 &&& (2147483647 : Int32)) / (3 : Int32)) * (3 : Int32)) - (1 : Int32))] [(.int (1 : Int32))]) (fun t k => XS.iconst X0.here hx rfl (hb hby at_140) k) ?_
          refine own_go (mkF m 145 #[iv x0, iv x1, iv x2, iv b, iv kk, iv xx, iv bs, iv (((x0 &&& (2147483647 : Int32)) - ((x0 &&& (2147483647 : Int32)) / (3 : Int32)) * (3 : Int32)) - (1 : Int32))] [(.int (1 : Int32))]) (fun t k => XS.goto X0.here hx rfl (pc0 := 141) (pc' := 145) rfl (hb hby at_141) (by decide) (by decide) k) ?_
          exact JE ((1 : Int32)) (show (1 : Int32) = (own_exp xx b) from (show (own_exp xx b) = (1 : Int32) from ((if_pos hc110).trans rfl)).symm)
        · skip
          refine own_go (mkF m 113 #[iv x0, iv x1, iv x2, iv b, iv kk, iv xx, iv bs, iv (((x0 &&& (2147483647 : Int32)) - ((x0 &&& (2147483647 : Int32)) / (3 : Int32)) * (3 : Int32)) - (1 : Int32))] []) (fun t k => XS.icmpNo X0.here hx rfl (hb hby at_110) rfl (feq hc110).1 k) ?_
          refine own_go (mkF m 115 #[iv x0, iv x1, iv x2, iv b, iv kk, iv xx, iv bs, iv (((x0 &&& (2147483647 : Int32)) - ((x0 &&& (2147483647 : Int32)) / (3 : Int32)) * (3 : Int32)) - (1 : Int32))] [(.int xx)]) (fun t k => XS.iload X0.here hx rfl (hb hby at_113) rfl  k) ?_
          refine own_go (mkF m 117 #[iv x0, iv x1, iv x2, iv b, iv kk, iv xx, iv bs, iv (((x0 &&& (2147483647 : Int32)) - ((x0 &&& (2147483647 : Int32)) / (3 : Int32)) * (3 : Int32)) - (1 : Int32))] [(.int (13 : Int32)), (.int xx)]) (fun t k => XS.bipush X0.here hx rfl (hb hby at_115) k) ?_
          by_cases hc117 : xx = (13 : Int32)
          · skip
            refine own_go (mkF m 140 #[iv x0, iv x1, iv x2, iv b, iv kk, iv xx, iv bs, iv (((x0 &&& (2147483647 : Int32)) - ((x0 &&& (2147483647 : Int32)) / (3 : Int32)) * (3 : Int32)) - (1 : Int32))] []) (fun t k => XS.icmpYes X0.here hx rfl (pc0 := 117) (pc' := 140) rfl (hb hby at_117) rfl (teq hc117).1 (by decide) (by decide) k) ?_
            refine own_go (mkF m 141 #[iv x0, iv x1, iv x2, iv b, iv kk, iv xx, iv bs, iv (((x0 &&& (2147483647 : Int32)) - ((x0 &&& (2147483647 : Int32)) / (3 : Int32)) * (3 : Int32)) - (1 : Int32))] [(.int (1 : Int32))]) (fun t k => XS.iconst X0.here hx rfl (hb hby at_140) k) ?_
            refine own_go (mkF m 145 #[iv x0, iv x1, iv x2, iv b, iv kk, iv xx, iv bs, iv (((x0 &&& (2147483647 : Int32)) - ((x0 &&& (2147483647 : Int32)) / (3 : Int32)) * (3 : Int32)) - (1 : Int32))] [(.int (1 : Int32))]) (fun t k => XS.goto X0.here hx rfl (pc0 := 141) (pc' := 145) rfl (hb hby at_141) (by decide) (by decide) k) ?_
            exact JE ((1 : Int32)) (show (1 : Int32) = (own_exp xx b) from (show (own_exp xx b) = (1 : Int32) from ((if_neg hc110).trans ((if_pos hc117).trans rfl))).symm)
          · skip
            refine own_go (mkF m 120 #[iv x0, iv x1, iv x2, iv b, iv kk, iv xx, iv bs, iv (((x0 &&& (2147483647 : Int32)) - ((x0 &&& (2147483647 : Int32)) / (3 : Int32)) * (3 : Int32)) - (1 : Int32))] []) (fun t k => XS.icmpNo X0.here hx rfl (hb hby at_117) rfl (feq hc117).1 k) ?_
            refine own_go (mkF m 121 #[iv x0, iv x1, iv x2, iv b, iv kk, iv xx, iv bs, iv (((x0 &&& (2147483647 : Int32)) - ((x0 &&& (2147483647 : Int32)) / (3 : Int32)) * (3 : Int32)) - (1 : Int32))] [(.int b)]) (fun t k => XS.iloadN X0.here hx rfl (hb hby at_120) rfl  k) ?_
            by_cases hc121 : b = (0 : Int32)
            · skip
              refine own_go (mkF m 144 #[iv x0, iv x1, iv x2, iv b, iv kk, iv xx, iv bs, iv (((x0 &&& (2147483647 : Int32)) - ((x0 &&& (2147483647 : Int32)) / (3 : Int32)) * (3 : Int32)) - (1 : Int32))] []) (fun t k => XS.ifYes X0.here hx rfl (pc0 := 121) (pc' := 144) rfl (hb hby at_121) rfl ((if0 _ _).trans (teq hc121).1) (by decide) (by decide) k) ?_
              refine own_go (mkF m 145 #[iv x0, iv x1, iv x2, iv b, iv kk, iv xx, iv bs, iv (((x0 &&& (2147483647 : Int32)) - ((x0 &&& (2147483647 : Int32)) / (3 : Int32)) * (3 : Int32)) - (1 : Int32))] [(.int (0 : Int32))]) (fun t k => XS.iconst X0.here hx rfl (hb hby at_144) k) ?_
              exact JE ((0 : Int32)) (show (0 : Int32) = (own_exp xx b) from (show (own_exp xx b) = (0 : Int32) from ((if_neg hc110).trans ((if_neg hc117).trans ((if_pos hc121).trans rfl)))).symm)
            · skip
              refine own_go (mkF m 124 #[iv x0, iv x1, iv x2, iv b, iv kk, iv xx, iv bs, iv (((x0 &&& (2147483647 : Int32)) - ((x0 &&& (2147483647 : Int32)) / (3 : Int32)) * (3 : Int32)) - (1 : Int32))] []) (fun t k => XS.ifNo X0.here hx rfl (hb hby at_121) rfl ((if0 _ _).trans (feq hc121).1) k) ?_
              refine own_go (mkF m 126 #[iv x0, iv x1, iv x2, iv b, iv kk, iv xx, iv bs, iv (((x0 &&& (2147483647 : Int32)) - ((x0 &&& (2147483647 : Int32)) / (3 : Int32)) * (3 : Int32)) - (1 : Int32))] [(.int xx)]) (fun t k => XS.iload X0.here hx rfl (hb hby at_124) rfl  k) ?_
              refine own_go (mkF m 129 #[iv x0, iv x1, iv x2, iv b, iv kk, iv xx, iv bs, iv (((x0 &&& (2147483647 : Int32)) - ((x0 &&& (2147483647 : Int32)) / (3 : Int32)) * (3 : Int32)) - (1 : Int32))] [(.int (133 : Int32)), (.int xx)]) (fun t k => XS.sipush X0.here hx rfl (hb hby at_126) k) ?_
              by_cases hc129 : xx = (133 : Int32)
              · skip
                refine own_go (mkF m 140 #[iv x0, iv x1, iv x2, iv b, iv kk, iv xx, iv bs, iv (((x0 &&& (2147483647 : Int32)) - ((x0 &&& (2147483647 : Int32)) / (3 : Int32)) * (3 : Int32)) - (1 : Int32))] []) (fun t k => XS.icmpYes X0.here hx rfl (pc0 := 129) (pc' := 140) rfl (hb hby at_129) rfl (teq hc129).1 (by decide) (by decide) k) ?_
                refine own_go (mkF m 141 #[iv x0, iv x1, iv x2, iv b, iv kk, iv xx, iv bs, iv (((x0 &&& (2147483647 : Int32)) - ((x0 &&& (2147483647 : Int32)) / (3 : Int32)) * (3 : Int32)) - (1 : Int32))] [(.int (1 : Int32))]) (fun t k => XS.iconst X0.here hx rfl (hb hby at_140) k) ?_
                refine own_go (mkF m 145 #[iv x0, iv x1, iv x2, iv b, iv kk, iv xx, iv bs, iv (((x0 &&& (2147483647 : Int32)) - ((x0 &&& (2147483647 : Int32)) / (3 : Int32)) * (3 : Int32)) - (1 : Int32))] [(.int (1 : Int32))]) (fun t k => XS.goto X0.here hx rfl (pc0 := 141) (pc' := 145) rfl (hb hby at_141) (by decide) (by decide) k) ?_
                exact JE ((1 : Int32)) (show (1 : Int32) = (own_exp xx b) from (show (own_exp xx b) = (1 : Int32) from ((if_neg hc110).trans ((if_neg hc117).trans ((if_neg hc121).trans ((if_pos hc129).trans rfl))))).symm)
              · skip
                refine own_go (mkF m 132 #[iv x0, iv x1, iv x2, iv b, iv kk, iv xx, iv bs, iv (((x0 &&& (2147483647 : Int32)) - ((x0 &&& (2147483647 : Int32)) / (3 : Int32)) * (3 : Int32)) - (1 : Int32))] []) (fun t k => XS.icmpNo X0.here hx rfl (hb hby at_129) rfl (feq hc129).1 k) ?_
                refine own_go (mkF m 134 #[iv x0, iv x1, iv x2, iv b, iv kk, iv xx, iv bs, iv (((x0 &&& (2147483647 : Int32)) - ((x0 &&& (2147483647 : Int32)) / (3 : Int32)) * (3 : Int32)) - (1 : Int32))] [(.int xx)]) (fun t k => XS.iload X0.here hx rfl (hb hby at_132) rfl  k) ?_
                refine own_go (mkF m 137 #[iv x0, iv x1, iv x2, iv b, iv kk, iv xx, iv bs, iv (((x0 &&& (2147483647 : Int32)) - ((x0 &&& (2147483647 : Int32)) / (3 : Int32)) * (3 : Int32)) - (1 : Int32))] [(.int (8232 : Int32)), (.int xx)]) (fun t k => XS.sipush X0.here hx rfl (hb hby at_134) k) ?_
                by_cases hc137 : xx = (8232 : Int32)
                · skip
                  refine own_go (mkF m 140 #[iv x0, iv x1, iv x2, iv b, iv kk, iv xx, iv bs, iv (((x0 &&& (2147483647 : Int32)) - ((x0 &&& (2147483647 : Int32)) / (3 : Int32)) * (3 : Int32)) - (1 : Int32))] []) (fun t k => XS.icmpNo X0.here hx rfl (hb hby at_137) rfl (teq hc137).2 k) ?_
                  refine own_go (mkF m 141 #[iv x0, iv x1, iv x2, iv b, iv kk, iv xx, iv bs, iv (((x0 &&& (2147483647 : Int32)) - ((x0 &&& (2147483647 : Int32)) / (3 : Int32)) * (3 : Int32)) - (1 : Int32))] [(.int (1 : Int32))]) (fun t k => XS.iconst X0.here hx rfl (hb hby at_140) k) ?_
                  refine own_go (mkF m 145 #[iv x0, iv x1, iv x2, iv b, iv kk, iv xx, iv bs, iv (((x0 &&& (2147483647 : Int32)) - ((x0 &&& (2147483647 : Int32)) / (3 : Int32)) * (3 : Int32)) - (1 : Int32))] [(.int (1 : Int32))]) (fun t k => XS.goto X0.here hx rfl (pc0 := 141) (pc' := 145) rfl (hb hby at_141) (by decide) (by decide) k) ?_
                  exact JE ((1 : Int32)) (show (1 : Int32) = (own_exp xx b) from (show (own_exp xx b) = (1 : Int32) from ((if_neg hc110).trans ((if_neg hc117).trans ((if_neg hc121).trans ((if_neg hc129).trans ((if_pos hc137).trans rfl)))))).symm)
                · skip
                  refine own_go (mkF m 144 #[iv x0, iv x1, iv x2, iv b, iv kk, iv xx, iv bs, iv (((x0 &&& (2147483647 : Int32)) - ((x0 &&& (2147483647 : Int32)) / (3 : Int32)) * (3 : Int32)) - (1 : Int32))] []) (fun t k => XS.icmpYes X0.here hx rfl (pc0 := 137) (pc' := 144) rfl (hb hby at_137) rfl (feq hc137).2 (by decide) (by decide) k) ?_
                  refine own_go (mkF m 145 #[iv x0, iv x1, iv x2, iv b, iv kk, iv xx, iv bs, iv (((x0 &&& (2147483647 : Int32)) - ((x0 &&& (2147483647 : Int32)) / (3 : Int32)) * (3 : Int32)) - (1 : Int32))] [(.int (0 : Int32))]) (fun t k => XS.iconst X0.here hx rfl (hb hby at_144) k) ?_
                  exact JE ((0 : Int32)) (show (0 : Int32) = (own_exp xx b) from (show (own_exp xx b) = (0 : Int32) from ((if_neg hc110).trans ((if_neg hc117).trans ((if_neg hc121).trans ((if_neg hc129).trans ((if_neg hc137).trans rfl)))))).symm)
      refine own_go (mkF m 34 #[iv x0, iv x1, iv x2, iv b, iv kk, .unset, .unset, .unset] [(.int kk)]) (fun t k => XS.iload X0.here hx rfl (hb hby at_32) rfl  k) ?_
      refine own_go (mkF m 35 #[iv x0, iv x1, iv x2, iv b, iv kk, .unset, .unset, .unset] [(.int (1 : Int32)), (.int kk)]) (fun t k => XS.iconst X0.here hx rfl (hb hby at_34) k) ?_
      by_cases hc35 : kk = (1 : Int32)
      · skip
        refine own_go (mkF m 38 #[iv x0, iv x1, iv x2, iv b, iv kk, .unset, .unset, .unset] []) (fun t k => XS.icmpNo X0.here hx rfl (hb hby at_35) rfl (teq hc35).2 k) ?_
        refine own_go (mkF m 40 #[iv x0, iv x1, iv x2, iv b, iv kk, .unset, .unset, .unset] [(.int (10 : Int32))]) (fun t k => XS.bipush X0.here hx rfl (hb hby at_38) k) ?_
        refine own_go (mkF m 42 #[iv x0, iv x1, iv x2, iv b, iv kk, .unset, iv (10 : Int32), .unset] []) (fun t k => XS.istore X0.here hx rfl (hb hby at_40) rfl (l' := #[iv x0, iv x1, iv x2, iv b, iv kk, .unset, iv (10 : Int32), .unset]) rfl k) ?_
        refine own_go (mkF m 89 #[iv x0, iv x1, iv x2, iv b, iv kk, .unset, iv (10 : Int32), .unset] []) (fun t k => XS.goto X0.here hx rfl (pc0 := 42) (pc' := 89) rfl (hb hby at_42) (by decide) (by decide) k) ?_
        exact J3 ((10 : Int32)) trivial
      · skip
        refine own_go (mkF m 45 #[iv x0, iv x1, iv x2, iv b, iv kk, .unset, .unset, .unset] []) (fun t k => XS.icmpYes X0.here hx rfl (pc0 := 35) (pc' := 45) rfl (hb hby at_35) rfl (feq hc35).2 (by decide) (by decide) k) ?_
        refine own_go (mkF m 47 #[iv x0, iv x1, iv x2, iv b, iv kk, .unset, .unset, .unset] [(.int kk)]) (fun t k => XS.iload X0.here hx rfl (hb hby at_45) rfl  k) ?_
        refine own_go (mkF m 48 #[iv x0, iv x1, iv x2, iv b, iv kk, .unset, .unset, .unset] [(.int (2 : Int32)), (.int kk)]) (fun t k => XS.iconst X0.here hx rfl (hb hby at_47) k) ?_
        by_cases hc48 : kk = (2 : Int32)
        · skip
          refine own_go (mkF m 51 #[iv x0, iv x1, iv x2, iv b, iv kk, .unset, .unset, .unset] []) (fun t k => XS.icmpNo X0.here hx rfl (hb hby at_48) rfl (teq hc48).2 k) ?_
          refine own_go (mkF m 53 #[iv x0, iv x1, iv x2, iv b, iv kk, .unset, .unset, .unset] [(.int (13 : Int32))]) (fun t k => XS.bipush X0.here hx rfl (hb hby at_51) k) ?_
          refine own_go (mkF m 55 #[iv x0, iv x1, iv x2, iv b, iv kk, .unset, iv (13 : Int32), .unset] []) (fun t k => XS.istore X0.here hx rfl (hb hby at_53) rfl (l' := #[iv x0, iv x1, iv x2, iv b, iv kk, .unset, iv (13 : Int32), .unset]) rfl k) ?_
          refine own_go (mkF m 89 #[iv x0, iv x1, iv x2, iv b, iv kk, .unset, iv (13 : Int32), .unset] []) (fun t k => XS.goto X0.here hx rfl (pc0 := 55) (pc' := 89) rfl (hb hby at_55) (by decide) (by decide) k) ?_
          exact J3 ((13 : Int32)) trivial
        · skip
          refine own_go (mkF m 58 #[iv x0, iv x1, iv x2, iv b, iv kk, .unset, .unset, .unset] []) (fun t k => XS.icmpYes X0.here hx rfl (pc0 := 48) (pc' := 58) rfl (hb hby at_48) rfl (feq hc48).2 (by decide) (by decide) k) ?_
          refine own_go (mkF m 60 #[iv x0, iv x1, iv x2, iv b, iv kk, .unset, .unset, .unset] [(.int kk)]) (fun t k => XS.iload X0.here hx rfl (hb hby at_58) rfl  k) ?_
          refine own_go (mkF m 61 #[iv x0, iv x1, iv x2, iv b, iv kk, .unset, .unset, .unset] [(.int (3 : Int32)), (.int kk)]) (fun t k => XS.iconst X0.here hx rfl (hb hby at_60) k) ?_
          by_cases hc61 : kk = (3 : Int32)
          · skip
            refine own_go (mkF m 64 #[iv x0, iv x1, iv x2, iv b, iv kk, .unset, .unset, .unset] []) (fun t k => XS.icmpNo X0.here hx rfl (hb hby at_61) rfl (teq hc61).2 k) ?_
            refine own_go (mkF m 67 #[iv x0, iv x1, iv x2, iv b, iv kk, .unset, .unset, .unset] [(.int (133 : Int32))]) (fun t k => XS.sipush X0.here hx rfl (hb hby at_64) k) ?_
            refine own_go (mkF m 69 #[iv x0, iv x1, iv x2, iv b, iv kk, .unset, iv (133 : Int32), .unset] []) (fun t k => XS.istore X0.here hx rfl (hb hby at_67) rfl (l' := #[iv x0, iv x1, iv x2, iv b, iv kk, .unset, iv (133 : Int32), .unset]) rfl k) ?_
            refine own_go (mkF m 89 #[iv x0, iv x1, iv x2, iv b, iv kk, .unset, iv (133 : Int32), .unset] []) (fun t k => XS.goto X0.here hx rfl (pc0 := 69) (pc' := 89) rfl (hb hby at_69) (by decide) (by decide) k) ?_
            exact J3 ((133 : Int32)) trivial
          · skip
            refine own_go (mkF m 72 #[iv x0, iv x1, iv x2, iv b, iv kk, .unset, .unset, .unset] []) (fun t k => XS.icmpYes X0.here hx rfl (pc0 := 61) (pc' := 72) rfl (hb hby at_61) rfl (feq hc61).2 (by decide) (by decide) k) ?_
            refine own_go (mkF m 74 #[iv x0, iv x1, iv x2, iv b, iv kk, .unset, .unset, .unset] [(.int kk)]) (fun t k => XS.iload X0.here hx rfl (hb hby at_72) rfl  k) ?_
            refine own_go (mkF m 75 #[iv x0, iv x1, iv x2, iv b, iv kk, .unset, .unset, .unset] [(.int (4 : Int32)), (.int kk)]) (fun t k => XS.iconst X0.here hx rfl (hb hby at_74) k) ?_
            by_cases hc75 : kk = (4 : Int32)
            · skip
              refine own_go (mkF m 78 #[iv x0, iv x1, iv x2, iv b, iv kk, .unset, .unset, .unset] []) (fun t k => XS.icmpNo X0.here hx rfl (hb hby at_75) rfl (teq hc75).2 k) ?_
              refine own_go (mkF m 81 #[iv x0, iv x1, iv x2, iv b, iv kk, .unset, .unset, .unset] [(.int (8232 : Int32))]) (fun t k => XS.sipush X0.here hx rfl (hb hby at_78) k) ?_
              refine own_go (mkF m 83 #[iv x0, iv x1, iv x2, iv b, iv kk, .unset, iv (8232 : Int32), .unset] []) (fun t k => XS.istore X0.here hx rfl (hb hby at_81) rfl (l' := #[iv x0, iv x1, iv x2, iv b, iv kk, .unset, iv (8232 : Int32), .unset]) rfl k) ?_
              refine own_go (mkF m 89 #[iv x0, iv x1, iv x2, iv b, iv kk, .unset, iv (8232 : Int32), .unset] []) (fun t k => XS.goto X0.here hx rfl (pc0 := 83) (pc' := 89) rfl (hb hby at_83) (by decide) (by decide) k) ?_
              exact J3 ((8232 : Int32)) trivial
            · skip
              refine own_go (mkF m 86 #[iv x0, iv x1, iv x2, iv b, iv kk, .unset, .unset, .unset] []) (fun t k => XS.icmpYes X0.here hx rfl (pc0 := 75) (pc' := 86) rfl (hb hby at_75) rfl (feq hc75).2 (by decide) (by decide) k) ?_
              refine own_go (mkF m 87 #[iv x0, iv x1, iv x2, iv b, iv kk, .unset, .unset, .unset] [(.int (0 : Int32))]) (fun t k => XS.iconst X0.here hx rfl (hb hby at_86) k) ?_
              refine own_go (mkF m 89 #[iv x0, iv x1, iv x2, iv b, iv kk, .unset, iv (0 : Int32), .unset] []) (fun t k => XS.istore X0.here hx rfl (hb hby at_87) rfl (l' := #[iv x0, iv x1, iv x2, iv b, iv kk, .unset, iv (0 : Int32), .unset]) rfl k) ?_
              exact J3 ((0 : Int32)) trivial
  refine own_go (mkF m 1 #[iv x0, iv x1, iv x2, .unset, .unset, .unset, .unset, .unset] [(.int x2)]) (fun t k => XS.iloadN X0.here hx rfl (hb hby at_0) rfl  k) ?_
  refine own_go (mkF m 2 #[iv x0, iv x1, iv x2, .unset, .unset, .unset, .unset, .unset] [(.int (1 : Int32)), (.int x2)]) (fun t k => XS.iconst X0.here hx rfl (hb hby at_1) k) ?_
  refine own_go (mkF m 3 #[iv x0, iv x1, iv x2, .unset, .unset, .unset, .unset, .unset] [(.int (x2 &&& (1 : Int32)))]) (fun t k => XS.iand X0.here hx rfl (hb hby at_2) rfl k) ?_
  by_cases hc3 : (x2 &&& (1 : Int32)) = (0 : Int32)
  · skip
    refine own_go (mkF m 10 #[iv x0, iv x1, iv x2, .unset, .unset, .unset, .unset, .unset] []) (fun t k => XS.ifYes X0.here hx rfl (pc0 := 3) (pc' := 10) rfl (hb hby at_3) rfl ((if0 _ _).trans (teq hc3).1) (by decide) (by decide) k) ?_
    refine own_go (mkF m 11 #[iv x0, iv x1, iv x2, .unset, .unset, .unset, .unset, .unset] [(.int (0 : Int32))]) (fun t k => XS.iconst X0.here hx rfl (hb hby at_10) k) ?_
    exact J1 ((0 : Int32)) trivial
  · skip
    refine own_go (mkF m 6 #[iv x0, iv x1, iv x2, .unset, .unset, .unset, .unset, .unset] []) (fun t k => XS.ifNo X0.here hx rfl (hb hby at_3) rfl ((if0 _ _).trans (feq hc3).1) k) ?_
    refine own_go (mkF m 7 #[iv x0, iv x1, iv x2, .unset, .unset, .unset, .unset, .unset] [(.int (1 : Int32))]) (fun t k => XS.iconst X0.here hx rfl (hb hby at_6) k) ?_
    refine own_go (mkF m 11 #[iv x0, iv x1, iv x2, .unset, .unset, .unset, .unset, .unset] [(.int (1 : Int32))]) (fun t k => XS.goto X0.here hx rfl (pc0 := 7) (pc' := 11) rfl (hb hby at_7) (by decide) (by decide) k) ?_
    exact J1 ((1 : Int32)) trivial

set_option maxRecDepth 65536 in
set_option maxHeartbeats 40000000 in
theorem comes_1 {Post : Tables → Env → Array Value → State → Outcome → State → Prop} (hpost : ∀ tb e args s v u, (limb_1_1.after args s (.returned v) u = true ∧ limb_1_2.after args s (.returned v) u = true ∧ True) → FrameEnd s (.returned v) u (Jvm.fieldLocs frame_1_writes args s ++ Jvm.arrayLocs frame_1_arrays args s ++ Jvm.staticLocs frame_1_statics s) 0 0 → Post tb e args s (.returned v) u) :
    ArmFor flags0 classFile x code maxLocals ret World_1 tables_1 room_1 Calls_1 rest_1 Pre_1 Post := by
  intro l hfl _ _ p e ha hc hk s m args below hf hA hF happ hP
  obtain ⟨hcalls, hrest, hpre⟩ := hP
  obtain ⟨-, -, -, hnamed, -, -, -, hat⟩ := (Spec.applies_iff hf).mp happ
  obtain ⟨hg, hn⟩ := and_e (Cond.before_iff.mp (show (Jvm.Cond.and given_1 narrow_1).before args s = true from hpre))
  obtain ⟨g1, g2⟩ := and_e hg
  obtain ⟨g3, g4⟩ := and_e g2
  obtain ⟨g5, g6⟩ := and_e g4
  obtain ⟨w0, w1, w2, rfl⟩ : ∃ w0 w1 w2 : Value, args = #[w0, w1, w2] := by
    have hs : args.size = 3 := by simpa [Cond.value, given_1] using g1
    obtain ⟨L⟩ := args
    match L, hs with
    | [w0, w1, w2], _ => exact ⟨w0, w1, w2, rfl⟩
  have hw := fun d (hd : d ∈ tables_1) => atoms_spec (ws := Jvm.Cond.code x code maxLocals ret :: tables_1) hat d (List.mem_cons_of_mem _ hd)
  obtain ⟨i0, ei0⟩ := is_v g3
  obtain rfl : w0 = (.int i0) := Option.some.inj ei0
  obtain ⟨i1, ei1⟩ := is_v g5
  obtain rfl : w1 = (.int i1) := Option.some.inj ei1
  obtain ⟨i2, ei2⟩ := is_v g6
  obtain rfl : w2 = (.int i2) := Option.some.inj ei2
  obtain ⟨n, o, h1, h2, h3, _, L, rfl, ⟨rfl, N⟩, hq⟩ := own_rm0 l s _ hw tables_1 s.heap i0 i1 i2  p e ha hc hk s m _ below hf ((Spec.applies_iff_loose hf).mp happ).1 ⟨rfl, State.Warmed39.refl s, rfl⟩ trivial
  refine ⟨n, _, h1, h2, h3, hpost _ _ _ _ _ _ ⟨Cond.after_iff.mpr rfl, Cond.after_iff.mpr (eq_i res_at (Term.int_eval (1)) rfl), trivial⟩ ⟨hq.1, hq.2.1, (hq.2.2.sift fun y hy => Or.inr (N y hy)).mono (by decide) (by decide)⟩⟩
theorem main_1_1 : Claimed_1_1 := comes_1 fun _ _ _ _ _ _ h hF => ⟨h.1, hF⟩
theorem main_1_2 : Claimed_1_2 := comes_1 fun _ _ _ _ _ _ h hF => ⟨h.2.1, hF⟩
end Jvm.Pilot.@@N@@
namespace Jvm.Pilot.@@N@@
open Jvm Jvm.ClassFile Sem Op Lib Jvm.Free Jvm.Stand Jvm.Pilot.@@N@@.Jvm.D
/-! MADE BY PROGRAM (witnessworld.py) out of the Statement's table words and the real class files: 9 classes; the members and pool entries that the words name. The judged class is class 1, her method 1. -/
namespace start1
open Jvm.ClassFile
def u (s : String) : CpInfo := .utf8 (stringToUtf16 s)
/-- a pool by its gaps: so many unusable entries, then the entry; so many at the end -/
def gap : Nat → List CpInfo → List CpInfo
  | 0, r => r
  | n + 1, r => .unusable :: gap n r
def poolList (es : List (Nat × CpInfo)) (last : Nat) : List CpInfo := es.foldr (fun e r => gap e.1 (e.2 :: r)) (gap last [])
def pool (es : List (Nat × CpInfo)) (last : Nat) : Array CpInfo := ⟨poolList es last⟩
def fileOf (pool : Array CpInfo) (this : Nat) (attrs : Array Attribute := #[]) (ms : Array MethodInfo := #[]) (fl : Nat := 33) (sup : Nat := 0) (ifs : Array Nat := #[]) (fds : Array FieldInfo := #[]) : ClassFile where
  minorVersion := 0
  majorVersion := 65
  constantPool := pool
  accessFlags := fl
  thisClass := this
  superClass := sup
  interfaces := ifs
  fields := fds
  methods := ms
  attributes := attrs
def plain (name : String) (sup : Option ClassId) : Class where
  name := name
  kind := .ordinary
  loader := none
  accessFlags := 33
  super := sup
  interfaces := #[]
  cf := none
  fields := #[]
  methods := #[]
  instanceTypes := #[]
  staticTypes := #[]
  resolved := #[]
  callSites := []
  init := .initialized
  statics := none
  mirror := none

def pool0 : Array CpInfo := pool [(5, u "<init>"), (0, u "()V"), (1, .class_ 10), (1, u "java/lang/Object")] 113

def k0m0 : Method := { name := "<init>", desc := "()V", sig := { parameters := [], returnType := none }, accessFlags := 1, code := none }
/-- java/lang/Object -/
def k0 : Class := { plain "java/lang/Object" none with
  accessFlags := 33
  interfaces := #[]
  cf := some (fileOf pool0 8 #[] #[{ accessFlags := 1, nameIndex := 5, descriptorIndex := 6, attributes := #[] }] 33 0 #[] #[])
  fields := #[]
  methods := #[k0m0]
  instanceTypes := #[]
  staticTypes := #[]
  resolved := Array.replicate 124 none
  statics := none }

def pool1 : Array CpInfo := pool [(2, .class_ 4), (1, u "java/lang/Object"), (0, u "<init>"), (0, u "()V"), (0, .integer 2147483647), (0, .methodref 9 10), (0, .class_ 11), (0, .nameAndType 12 13), (0, u "org/formwright/LineEnds"), (0, u "endsLine"), (0, u "(IZ)Z"), (0, .class_ 15), (0, u "org/formwright/LineEndsEndsLinePinLaw"), (2, u "law"), (0, u "(III)Z")] 3

def k1m0 : Method := { name := "<init>", desc := "()V", sig := { parameters := [], returnType := none }, accessFlags := 2, code := none }
def k1c1 : Code := { maxStack := 2, maxLocals := 8, code := code, exceptionTable := #[], attributes := #[] }
def k1m1 : Method := { name := "law", desc := "(III)Z", sig := { parameters := [.int, .int, .int], returnType := some .boolean }, accessFlags := 9, code := some k1c1 }
/-- org/formwright/LineEndsEndsLinePinLaw -/
def k1 : Class := { plain "org/formwright/LineEndsEndsLinePinLaw" (some 0) with
  accessFlags := 49
  interfaces := #[]
  cf := some (fileOf pool1 14 #[] #[{ accessFlags := 2, nameIndex := 5, descriptorIndex := 6, attributes := #[] }, { accessFlags := 9, nameIndex := 18, descriptorIndex := 19, attributes := #[] }] 49 2 #[] #[])
  fields := #[]
  methods := #[k1m0, k1m1]
  instanceTypes := #[]
  staticTypes := #[]
  resolved := Array.replicate 23 none
  statics := none }

def pool2 : Array CpInfo := pool [(2, .class_ 4), (1, u "java/lang/Object"), (0, u "<init>"), (0, u "()V"), (0, .class_ 8), (0, u "org/formwright/LineEnds"), (2, u "endsLine"), (0, u "(IZ)Z"), (3, u "NEXT_LINE"), (0, u "C"), (2, u "LINE_SEPARATOR")] 8

def k2m0 : Method := { name := "<init>", desc := "()V", sig := { parameters := [], returnType := none }, accessFlags := 2, code := none }
def k2c1 : Code := { maxStack := 2, maxLocals := 2, code := prog_8_method_2_code, exceptionTable := #[], attributes := #[] }
def k2m1 : Method := { name := "endsLine", desc := "(IZ)Z", sig := { parameters := [.int, .boolean], returnType := some .boolean }, accessFlags := 8, code := some k2c1 }
/-- org/formwright/LineEnds -/
def k2 : Class := { plain "org/formwright/LineEnds" (some 0) with
  accessFlags := 48
  interfaces := #[]
  cf := some (fileOf pool2 7 #[] #[{ accessFlags := 2, nameIndex := 5, descriptorIndex := 6, attributes := #[] }, { accessFlags := 8, nameIndex := 11, descriptorIndex := 12, attributes := #[] }] 48 2 #[] #[{ accessFlags := 26, nameIndex := 16, descriptorIndex := 17, attributes := #[] }, { accessFlags := 26, nameIndex := 20, descriptorIndex := 17, attributes := #[] }])
  fields := #[{ name := "NEXT_LINE", type := .char, accessFlags := 26, slot := 0, constantValue := 0 }, { name := "LINE_SEPARATOR", type := .char, accessFlags := 26, slot := 1, constantValue := 0 }]
  methods := #[k2m0, k2m1]
  instanceTypes := #[]
  staticTypes := #[.char, .char]
  resolved := Array.replicate 29 none
  statics := none }

def pool3 : Array CpInfo := pool [(1, u "java/lang/Cloneable"), (0, .class_ 1), (0, u "java/lang/Object"), (0, .class_ 3)] 3

/-- java/lang/Cloneable -/
def k3 : Class := { plain "java/lang/Cloneable" (some 0) with
  accessFlags := 1537
  interfaces := #[]
  cf := some (fileOf pool3 2 #[] #[] 1537 4 #[] #[])
  fields := #[]
  methods := #[]
  instanceTypes := #[]
  staticTypes := #[]
  resolved := Array.replicate 8 none
  statics := none }

def pool4 : Array CpInfo := pool [(1, u "java/io/Serializable"), (0, .class_ 1), (0, u "java/lang/Object"), (0, .class_ 3)] 3

/-- java/io/Serializable -/
def k4 : Class := { plain "java/io/Serializable" (some 0) with
  accessFlags := 1537
  interfaces := #[]
  cf := some (fileOf pool4 2 #[] #[] 1537 4 #[] #[])
  fields := #[]
  methods := #[]
  instanceTypes := #[]
  staticTypes := #[]
  resolved := Array.replicate 8 none
  statics := none }

/-- the primitive byte -/
def k5 : Class := { plain "byte" none with kind := .primitive 'B', accessFlags := 0x411 }
/-- [B -/
def k6 : Class := { plain "[B" (some 0) with kind := .array 5 .byte, interfaces := #[3, 4], accessFlags := 1041 }

/-- the primitive int -/
def k7 : Class := { plain "int" none with kind := .primitive 'I', accessFlags := 0x411 }
/-- [I -/
def k8 : Class := { plain "[I" (some 0) with kind := .array 7 .int, interfaces := #[3, 4], accessFlags := 1041 }

def heap : Heap := #[]
def classes : Array Class := #[k0, k1, k2, k3, k4, k5, k6, k7, k8]
def interned : List (Array UInt16 × Addr) := []
def slotsUsed : Nat := 0
def theMethod : MethodId := ⟨1, 1⟩
def args0 : Array Value := #[.int 5, .int 7, .int 1]
def aboutOver (below : List Frame) : State where
  vm := { classes := classes, interned := interned.toArray }
  heap := heap
  slotsUsed := slotsUsed
  threads := #[{ frames := .invoking theMethod args0 :: below }]
def below0 : List Frame := [.native { method := ⟨0, 0⟩, args := #[] }]
def about1 : State := aboutOver below0
def p0 : Program := .bare "" "" ""
def e0 : Env := launch0.env 0 0 0
theorem w_frames : about1.frames = Frame.invoking theMethod args0 :: below0 := rfl
set_option maxRecDepth 65536 in
theorem w_args : argsFit about1.vm theMethod args0 = true := by decide +kernel
set_option maxRecDepth 65536 in
theorem w_heap : heapFits about1 = true := by decide +kernel
set_option maxRecDepth 65536 in
theorem w_runnable : about1.curStatus? = some .runnable := by decide +kernel
set_option maxRecDepth 65536 in
theorem w_alone : about1.alone = true := by decide +kernel
set_option maxRecDepth 65536 in
theorem w_named : about1.methodNamed? x = some theMethod := by decide +kernel
set_option maxRecDepth 65536 in
theorem w_hears : about1.hears theMethod below0 = true := by decide +kernel
set_option maxRecDepth 65536 in
theorem w_ripe : about1.ripe theMethod args0 below0 = true := by decide +kernel
theorem w_running : about1.status = .running := rfl
set_option maxRecDepth 65536 in
theorem w_room : about1.hasRoom e0.platform room_1 = true :=
  launch0.hasRoom_least _ room_1 (by decide +kernel) (by decide +kernel) (by decide +kernel) (by decide +kernel) (by decide +kernel) (by decide +kernel)
theorem allAtoms_all (ts : List Jvm.Cond) (a : Array Jvm.Value) (st : Jvm.State) : (allAtoms ts).before a st = ts.all (fun c => c.before a st) := by
  induction ts with
  | nil => rfl
  | cons c t ih =>
    show (Jvm.Cond.and c (allAtoms t)).before a st = _
    rw [Jvm.Cond.before_and, ih, List.all_cons]
def words1 : List Jvm.Cond := Jvm.Cond.code x code maxLocals ret :: tables_1
/-- a 'code' word, met by the world's own term for the bytes: nothing is compared byte by byte -/
theorem code_word {y : MethodName} {bytes : ByteArray} {mx : Nat} {rt : Option FieldType} {a : Array Value} {s : State} {m : MethodId} {meth : Method} {c : Code} (h1 : s.methodNamed? y = some m) (h2 : s.vm.method? m = some meth) (h3 : meth.code = some c) (h4 : c.code = bytes)
    (h5 : (c.maxLocals == mx && c.exceptionTable.isEmpty && decide (c.maxStack ≤ mostOperands) && decide (meth.sig.returnType = rt) && !meth.locks && decide (parseMethodDescriptor y.desc = some meth.sig)) = true) : (Jvm.Cond.code y bytes mx rt).before a s = true := by
  simp only [Bool.and_eq_true, beq_iff_eq, Bool.not_eq_true', decide_eq_true_eq] at h5
  obtain ⟨⟨⟨⟨⟨g1, g2⟩, g3⟩, g4⟩, g5⟩, g6⟩ := h5
  simp [Cond.before, Cond.holds, Cond.value, h1, h2, h3, h4, g1, g2, g3, g4, g5, g6]
def isCode : Jvm.Cond → Bool
  | .code _ _ _ _ => true
  | _ => false
theorem all_split {L : List Jvm.Cond} {P : Jvm.Cond → Bool} (h1 : L.all (fun c => isCode c || P c) = true) (h2 : ∀ c ∈ L.filter isCode, P c = true) : L.all P = true := by
  refine List.all_eq_true.mpr fun c hc => ?_
  have h := List.all_eq_true.mp h1 c hc
  rcases Bool.eq_false_or_eq_true (isCode c) with hi | hi
  · exact h2 c (List.mem_filter.mpr ⟨hc, hi⟩)
  · simpa [hi] using h
set_option maxRecDepth 65536 in
theorem w_c0 : (Jvm.Cond.code x code maxLocals ret).before args0 about1 = true := code_word (m := ⟨1, 1⟩) (meth := k1m1) (c := k1c1) (by decide +kernel) rfl rfl rfl (by decide +kernel)
set_option maxRecDepth 65536 in
theorem w_c1 : (Jvm.Cond.code ({ cls := "org/formwright/LineEnds", name := "endsLine", desc := "(IZ)Z" } : Jvm.MethodName) prog_8_method_2_code (2 : Nat) (Option.some Jvm.ClassFile.FieldType.boolean)).before args0 about1 = true := code_word (m := ⟨2, 1⟩) (meth := k2m1) (c := k2c1) (by decide +kernel) rfl rfl rfl (by decide +kernel)
def codes1 : List Jvm.Cond := [Jvm.Cond.code x code maxLocals ret, Jvm.Cond.code ({ cls := "org/formwright/LineEnds", name := "endsLine", desc := "(IZ)Z" } : Jvm.MethodName) prog_8_method_2_code (2 : Nat) (Option.some Jvm.ClassFile.FieldType.boolean)]
set_option maxRecDepth 65536 in
theorem codes_eq : words1.filter isCode = codes1 := rfl
theorem w_codes : ∀ c ∈ words1.filter isCode, c.before args0 about1 = true := by
  rw [codes_eq]
  intro c hc
  simp only [codes1, List.mem_cons, List.not_mem_nil, or_false] at hc
  rcases hc with rfl | rfl
  · exact w_c0
  · exact w_c1
set_option maxRecDepth 65536 in
theorem w_t1 : words1.all (fun c => isCode c || c.before args0 about1) = true := by decide +kernel
theorem w_tables : (allAtoms (Jvm.Cond.code x code maxLocals ret :: tables_1)).before args0 about1 = true := by
  rw [allAtoms_all]
  show words1.all (fun c => c.before args0 about1) = true
  refine all_split ?_ w_codes
  rw [w_t1]
set_option maxRecDepth 65536 in
theorem w_case : (Jvm.Cond.and given_1 narrow_1).before args0 about1 = true := by decide +kernel
theorem w_applies : (headSpec (Jvm.Cond.code x code maxLocals ret :: tables_1) room_1).applies x e0.platform about1 = true :=
  (Spec.applies_iff w_frames).mpr ⟨w_running, w_runnable, w_alone, w_named, w_hears, w_ripe, w_room, w_tables⟩
theorem atStart : AtStart classFile x code maxLocals ret World_1 tables_1 room_1 Calls_1 rest_1 Pre_1 launch0 p0 e0 about1 theMethod args0 below0 :=
  ⟨lists_1, trivial, launch0.admits_env _ _ _, launch0.least_env, fairChoices_fair.cas, fairChoices_fair.clock, w_frames, w_args, w_heap, w_applies, trivial, trivial, w_case⟩
end start1
theorem witness_1 : WitnessClaimed_1 := ⟨start1.p0, start1.e0, start1.about1, start1.theMethod, start1.args0, start1.below0, start1.atStart⟩
end Jvm.Pilot.@@N@@
