import JvmDerived
import JvmDerived.Pilot.@@N@@Statement
import JvmDerived.Pilot.@@N@@Code
set_option linter.unusedVariables false
set_option linter.unusedSimpArgs false
@@BLOCK:NumsL.lean.txt@@
namespace Jvm.Pilot.@@N@@
open Jvm Jvm.ClassFile Sem Op Lib Jvm.Free Jvm.Stand Jvm.LawKit Jvm.RoadKit Bundle Jvm.Pilot.@@N@@.Jvm.D
/-- a long's slot, written short -/
abbrev jv (x : Int64) : Slot := .val (.long x)
section OwnKit
variable {p : Program} {l : Launch} {e : Env} {R : Room} {s : State} {m : MethodId} {args : Array Value} {below : List Frame} {meth : Method} {c : Code} {T T' : State} {locs : List Loc} {cells slots : Nat} {Q : Option Value → Heap → List Loc → Prop} {kc ks : Nat} {g : JFrame} {Z : State} {a0 : Array Value} {h : Heap}
/-- what is left to do, from the state T with the top frame g: the run comes to the invocation's end, returns, and the end is as Q says -/
def own_G (p : Program) (e : Env) (below : List Frame) (s : State) (Q : Option Value → Heap → List Loc → Prop) (kc ks : Nat) (T : State) (g : JFrame) : Prop :=
  ∃ t o, Steps p.tables e below (T.setTop g) t ∧ t.status = .running ∧ Ended t below o ∧ ∃ v L, o = .returned v ∧ Q v t.heap L ∧ FrameEnd s o t L kc ks
theorem own_go (g' : JFrame) (k : ∀ t, Steps p.tables e below (T'.setTop g') t → Steps p.tables e below (T.setTop g) t) (h : own_G p e below s Q kc ks T' g') : own_G p e below s Q kc ks T g := by
  obtain ⟨t, o, h1, h2⟩ := h
  exact ⟨t, o, k t h1, h2⟩
theorem own_out (X : Stand p l e R s m args below meth c T locs cells slots) (hlk : meth.locks = false) {v : Option Value} (hv : meth.sig.returnType = none → v = none)
    (st : ∀ fs, (∀ (f : JFrame) (acts : List Action), f.method = m → f.locked = none → f.entered = [] → (doReturn e (T.setTop f) acts v).1 = T.setFrames fs) → Steps p.tables e below (T.setTop g) (T.setFrames fs))
    (hQ : Q v T.heap locs) (h1 : cells ≤ kc) (h2 : slots ≤ ks) : own_G p e below s Q kc ks T g := by
  obtain ⟨fs, hr, hrun, hended, hW, hsame⟩ := X.leave (v := v) hv hlk
  exact ⟨_, _, st fs hr, hrun, hended, v, locs, rfl, hQ, ⟨_, rfl⟩, hW, hsame.mono h1 h2⟩
theorem own_retI (X : Stand p l e R s m args below meth c T locs cells slots) (hx : p.tables.exec = Jvm.exec) (hlk : meth.locks = false) (hret : meth.sig.returnType = some .int) {pc : Nat} {Ls : Array Slot} {z : Int32} {rest : List Value} (hd : decode c.code pc = .ok (.ireturn, 1))
    (hQ : Q (some (.int z)) T.heap locs) (h1 : cells ≤ kc) (h2 : slots ≤ ks) : own_G p e below s Q kc ks T (mkF m pc Ls (.int z :: rest)) := by
  refine own_out X hlk (v := some (.int z)) (fun h => by rw [hret] at h; cases h) (fun fs hl => ?_) hQ h1 h2
  have hm' : T.vm.method? m = some meth := X.method'
  have hn : narrow .int (.int z) = .int z := rfl
  show Steps p.tables e below (T.setTop { method := m, pc := pc, locals := Ls, stack := _ :: rest, locked := none }) _
  jvm_step X.here [X.here.top, hx, hd, hm', hret, hn]
  first | (intro acts; rw [hl _ acts rfl rfl rfl]) | rw [hl _ _ rfl rfl rfl]
  exact Steps.refl _
theorem own_retZ (X : Stand p l e R s m args below meth c T locs cells slots) (hx : p.tables.exec = Jvm.exec) (hlk : meth.locks = false) (hret : meth.sig.returnType = some .boolean) {pc : Nat} {Ls : Array Slot} {z : Int32} {rest : List Value} (hd : decode c.code pc = .ok (.ireturn, 1))
    (hQ : Q (some (.int (z &&& 1))) T.heap locs) (h1 : cells ≤ kc) (h2 : slots ≤ ks) : own_G p e below s Q kc ks T (mkF m pc Ls (.int z :: rest)) :=
  own_out X hlk (v := some (.int (z &&& 1))) (fun h => by rw [hret] at h; cases h) (fun fs hl => retN X hx (t := .boolean) hret (by simp) hd hl) hQ h1 h2
theorem own_retJ (X : Stand p l e R s m args below meth c T locs cells slots) (hx : p.tables.exec = Jvm.exec) (hlk : meth.locks = false) (hret : meth.sig.returnType = some .long) {pc : Nat} {Ls : Array Slot} {z : Int64} (hd : decode c.code pc = .ok (.lreturn, 1))
    (hQ : Q (some (.long z)) T.heap locs) (h1 : cells ≤ kc) (h2 : slots ≤ ks) : own_G p e below s Q kc ks T (mkF m pc Ls [.long z]) :=
  own_out X hlk (v := some (.long z)) (fun h => by rw [hret] at h; cases h) (fun fs hl => X.lreturnOut hx hret hd hl) hQ h1 h2
theorem own_retA (X : Stand p l e R s m args below meth c T locs cells slots) (hx : p.tables.exec = Jvm.exec) (hlk : meth.locks = false) {t : FieldType} (hret : meth.sig.returnType = some t) (ht : t.isReference = true) {pc : Nat} {Ls : Array Slot} {z : Value} (hz : z.isRef = true) (hd : decode c.code pc = .ok (.areturn, 1))
    (hQ : Q (some z) T.heap locs) (h1 : cells ≤ kc) (h2 : slots ≤ ks) : own_G p e below s Q kc ks T (mkF m pc Ls [z]) :=
  own_out X hlk (v := some z) (fun h => by rw [hret] at h; cases h) (fun fs hl => X.areturnOut hx hz hret ht hd hl) hQ h1 h2
theorem own_retV (X : Stand p l e R s m args below meth c T locs cells slots) (hx : p.tables.exec = Jvm.exec) (hlk : meth.locks = false) (hret : meth.sig.returnType = none) {pc : Nat} {Ls : Array Slot} (hd : decode c.code pc = .ok (.return_, 1))
    (hQ : Q none T.heap locs) (h1 : cells ≤ kc) (h2 : slots ≤ ks) : own_G p e below s Q kc ks T (mkF m pc Ls []) :=
  own_out X hlk (v := none) (fun _ => rfl) (fun fs hl => X.returnOut hx hret hd hl) hQ h1 h2
/-- a method's contract at one heap and one row of arguments -/
def own_C (l : Launch) (Z : State) (y : MethodName) (bytes : ByteArray) (mx : Nat) (ret : Option FieldType) (ws : List Jvm.Cond) (rm : Room) (as : Array Value) (h0 : Heap) (Q : Option Value → Heap → List Loc → Prop) : Prop :=
  MetFree l y (head1 (Jvm.Cond.code y bytes mx ret :: ws) rm) (fun a U => a = as ∧ Z.Warmed39 U.vm ∧ U.heap = h0) (fun _ _ _ _ _ => True) (fun _ U o U' => ∃ v L, o = .returned v ∧ Q v U'.heap L ∧ FrameEnd U o U' L rm.cells rm.slots)
theorem own_met {y : MethodName} {bytes : ByteArray} {mx : Nat} {ret : Option FieldType} {ws : List Jvm.Cond} {rm : Room} {as : Array Value} {h0 : Heap} (hp : plainFor y = true) (L0 : Array Slot) (hef : ∀ m, entryFrame m as mx = mkF m 0 L0 [])
    (body : ∀ (p : Program) (e : Env) (s : State) (m : MethodId) (below : List Frame) (meth : Method) (c : Code) (s₁ : State), p.tables.exec = Jvm.exec → c.code = bytes → c.maxLocals = mx → s.vm.findClass y.cls = some m.cls → meth.sig.returnType = ret → meth.locks = false → Z.Warmed39 s.vm → meth.name = y.name →
      Stand p l e rm s m as below meth c s₁ [] 0 0 → s₁.heap = h0 → own_G p e below s Q rm.cells rm.slots s₁ (mkF m 0 L0 [])) :
    own_C l Z y bytes mx ret ws rm as h0 Q := by
  refine MetFree.of_bodySF hp hisR ?_
  intro p e s m args below meth c s₁ Bd hml0 hP hK
  obtain ⟨rfl, hZ, hh⟩ := hP
  have hown : s.vm.findClass y.cls = some m.cls := findClass_of_methodNamed Bd.named
  have hnm := (name_of_methodNamed Bd.named Bd.method).1
  have X0 : Stand p l e rm s m args below meth c s₁ [] 0 0 := Stand.of_body Bd
  have e0 : s₁.heap = h0 := by rw [← hh, Bd.state]; rfl
  obtain ⟨t, o, h1, h2⟩ := body p e s m below meth c s₁ Bd.exec Bd.bytes hml0 hown Bd.returns Bd.notSynchronized hZ hnm X0 e0
  exact ⟨t, o, castTop (hef m) h1, h2⟩
/-- a static call by the callee's contract -/
theorem own_callS (X : Stand p l e R s m args below meth c T locs cells slots) (hx : p.tables.exec = Jvm.exec) (hZ : Z.Warmed39 s.vm) {own : String} {index : Nat} {y : MethodName} {bytes : ByteArray} {mx : Nat} {ret : Option FieldType} {rm : Room} {Qc : Option Value → Heap → List Loc → Prop}
    (hown : s.vm.findClass own = some m.cls) (w1 : (Jvm.Cond.methodLink own index y).before a0 Z = true) (w2 : (Jvm.Cond.static y).before a0 Z = true) (w3 : (Jvm.Cond.initialized y.cls).before a0 Z = true) (w4 : (Jvm.Cond.code y bytes mx ret).before a0 Z = true) (hy : y.cls ≠ "java/lang/invoke/MethodHandle" ∧ y.cls ≠ "java/lang/invoke/VarHandle")
    (eT : T.heap = h) (argsL rest : List Value) (hM : own_C l Z y bytes mx ret [] rm argsL.toArray h Qc) (W : Nat) (hf : rm.frames + 1 ≤ R.frames) (hlo : W + (mx + 11) + rm.locals ≤ R.locals) (hW : (rest.map fun v => v.category).sum ≤ W) (hc : cells + rm.cells ≤ R.cells) (hs : slots + rm.slots ≤ R.slots)
    {pc : Nat} {Ls : Array Slot} {S : List Value} (hsize : Ls.size = c.maxLocals) (hlen : ∀ sig, parseMethodDescriptor y.desc = some sig → argsL.length = sig.parameters.length) (hS : S = argsL.reverse ++ rest) (hd : decode c.code pc = .ok (.invokestatic index, 3))
    (k : ∀ (T' : State) (v : Option Value) (L : List Loc), Stand p l e R s m args below meth c T' (locs ++ L) (cells + rm.cells) (slots + rm.slots) → Qc v T'.heap L → own_G p e below s Q kc ks T' (mkF m (pc + 3) Ls (v.toList ++ rest))) :
    own_G p e below s Q kc ks T (mkF m pc Ls S) := by
  obtain ⟨v, _, ⟨T', L', k', n'⟩, -, X', ⟨L, hQ, q1, q2, q3⟩, st⟩ := Jvm.LawKit.callS X hx (y := y) hown (mvT hZ w1) (mvT hZ w2) (mvT hZ w3) (mvT hZ w4) hy (backOf (W := W) hM hZ w4 w3 hf hlo) (g := mkF m pc Ls S) rfl hsize (argsL := argsL) (rest := rest) hlen hS (by show 2 * 0 + _ ≤ _; omega) hd (fun _ _ => ⟨rfl, eT, hc, hs⟩)
  dsimp only [Pt.U, Pt.locs, Pt.cells, Pt.slots] at X' q1 q2 q3 st hQ
  subst q1 q2 q3
  exact own_go _ st (k T' v L X' hQ)
/-- what a pure method's end is: this value, the heap as it was, no place written -/
def own_P (r : Value) (h0 : Heap) (v : Option Value) (h : Heap) (L : List Loc) : Prop := v = some r ∧ h = h0 ∧ L = []
/-- a static call of a pure method -/
theorem own_callP (X : Stand p l e R s m args below meth c T locs cells slots) (hx : p.tables.exec = Jvm.exec) (hZ : Z.Warmed39 s.vm) {own : String} {index : Nat} {y : MethodName} {bytes : ByteArray} {mx : Nat} {ret : Option FieldType} {fr lo : Nat} {r : Value}
    (hown : s.vm.findClass own = some m.cls) (w1 : (Jvm.Cond.methodLink own index y).before a0 Z = true) (w2 : (Jvm.Cond.static y).before a0 Z = true) (w3 : (Jvm.Cond.initialized y.cls).before a0 Z = true) (w4 : (Jvm.Cond.code y bytes mx ret).before a0 Z = true) (hy : y.cls ≠ "java/lang/invoke/MethodHandle" ∧ y.cls ≠ "java/lang/invoke/VarHandle")
    (eT : T.heap = h) (argsL rest : List Value) (hM : own_C l Z y bytes mx ret [] { frames := fr, cells := 0, slots := 0, locals := lo } argsL.toArray h (own_P r h)) (W : Nat) (hf : fr + 1 ≤ R.frames) (hlo : W + (mx + 11) + lo ≤ R.locals) (hW : (rest.map fun v => v.category).sum ≤ W) (hc : cells ≤ R.cells) (hs : slots ≤ R.slots)
    {pc : Nat} {Ls : Array Slot} {S : List Value} (hsize : Ls.size = c.maxLocals) (hlen : ∀ sig, parseMethodDescriptor y.desc = some sig → argsL.length = sig.parameters.length) (hS : S = argsL.reverse ++ rest) (hd : decode c.code pc = .ok (.invokestatic index, 3))
    (k : ∀ (T' : State), Stand p l e R s m args below meth c T' locs cells slots → T'.heap = h → own_G p e below s Q kc ks T' (mkF m (pc + 3) Ls (r :: rest))) :
    own_G p e below s Q kc ks T (mkF m pc Ls S) := by
  refine own_callS X hx hZ hown w1 w2 w3 w4 hy eT argsL rest hM W hf hlo hW hc hs hsize hlen hS hd ?_
  rintro T' v L X' ⟨rfl, q2, rfl⟩
  rw [List.append_nil] at X'
  exact k T' X' q2
/-- a constructor's call -/
theorem own_callI (X : Stand p l e R s m args below meth c T locs cells slots) (hx : p.tables.exec = Jvm.exec) (hZ : Z.Warmed39 s.vm) {own : String} {index : Nat} {y : MethodName} {bytes : ByteArray} {mx : Nat} {rm : Room} {Qc : Option Value → Heap → List Loc → Prop} (hy1 : y.name = "<init>")
    (hown : s.vm.findClass own = some m.cls) (w1 : (Jvm.Cond.methodLink own index y).before a0 Z = true) (w2 : (Jvm.Cond.instanceMethod y).before a0 Z = true) (w3 : (Jvm.Cond.initialized y.cls).before a0 Z = true) (w4 : (Jvm.Cond.code y bytes mx none).before a0 Z = true) (hy : y.cls ≠ "java/lang/invoke/MethodHandle" ∧ y.cls ≠ "java/lang/invoke/VarHandle")
    (eT : T.heap = h) (a : Addr) (argsL rest : List Value) (hM : own_C l Z y bytes mx none [] rm (.ref a :: argsL).toArray h Qc) (W : Nat) (hf : rm.frames + 1 ≤ R.frames) (hlo : W + (mx + 11) + rm.locals ≤ R.locals) (hW : (rest.map fun v => v.category).sum ≤ W) (hc : cells + rm.cells ≤ R.cells) (hs : slots + rm.slots ≤ R.slots)
    {pc : Nat} {Ls : Array Slot} {S : List Value} (hsize : Ls.size = c.maxLocals) (hlen : ∀ sig, parseMethodDescriptor y.desc = some sig → argsL.length = sig.parameters.length) (hS : S = argsL.reverse ++ .ref a :: rest) (hd : decode c.code pc = .ok (.invokespecial index, 3))
    (k : ∀ (T' : State) (v : Option Value) (L : List Loc), Stand p l e R s m args below meth c T' (locs ++ L) (cells + rm.cells) (slots + rm.slots) → Qc v T'.heap L → own_G p e below s Q kc ks T' (mkF m (pc + 3) Ls (v.toList ++ rest))) :
    own_G p e below s Q kc ks T (mkF m pc Ls S) := by
  obtain ⟨v, _, ⟨T', L', k', n'⟩, -, X', ⟨L, hQ, q1, q2, q3⟩, st⟩ := X.specialBack hx (y := y) hy1 hown (mvT hZ w1) (mvT hZ w2) (mvT hZ w4) hy (backOf (W := W) hM hZ w4 w3 hf hlo) (g := mkF m pc Ls S) rfl hsize (Steps.refl _) (a := a) (argsL := argsL) (rest := rest) hlen hS (by show 2 * 0 + _ ≤ _; omega) hd (fun _ _ => ⟨rfl, eT, hc, hs⟩)
  dsimp only [Pt.U, Pt.locs, Pt.cells, Pt.slots] at X' q1 q2 q3 st hQ
  subst q1 q2 q3
  exact own_go _ (fun t kt => st.trans kt) (k T' v L X' hQ)
/-- an instance method's call -/
theorem own_callV (X : Stand p l e R s m args below meth c T locs cells slots) (hx : p.tables.exec = Jvm.exec) (hZ : Z.Warmed39 s.vm) {own C : String} {index : Nat} {y : MethodName} {bytes : ByteArray} {mx : Nat} {ret : Option FieldType} {rm : Room} {Qc : Option Value → Heap → List Loc → Prop}
    (hown : s.vm.findClass own = some m.cls) (w1 : (Jvm.Cond.methodLink own index y).before a0 Z = true) (w5 : (Jvm.Cond.declares y).before a0 Z = true) (w6 : (Jvm.Cond.selects C y y).before a0 Z = true) (w2 : (Jvm.Cond.instanceMethod y).before a0 Z = true) (w3 : (Jvm.Cond.initialized y.cls).before a0 Z = true) (w4 : (Jvm.Cond.code y bytes mx ret).before a0 Z = true) (hy : y.cls ≠ "java/lang/invoke/MethodHandle" ∧ y.cls ≠ "java/lang/invoke/VarHandle")
    (eT : T.heap = h) {a : Addr} (E : Exa Z h a C) (argsL rest : List Value) (hM : own_C l Z y bytes mx ret [] rm (.ref a :: argsL).toArray h Qc) (W : Nat) (hf : rm.frames + 1 ≤ R.frames) (hlo : W + (mx + 11) + rm.locals ≤ R.locals) (hW : (rest.map fun v => v.category).sum ≤ W) (hc : cells + rm.cells ≤ R.cells) (hs : slots + rm.slots ≤ R.slots)
    {pc : Nat} {Ls : Array Slot} {S : List Value} (hsize : Ls.size = c.maxLocals) (hlen : ∀ sig, parseMethodDescriptor y.desc = some sig → argsL.length = sig.parameters.length) (hS : S = argsL.reverse ++ .ref a :: rest) (hd : decode c.code pc = .ok (.invokevirtual index, 3))
    (k : ∀ (T' : State) (v : Option Value) (L : List Loc), Stand p l e R s m args below meth c T' (locs ++ L) (cells + rm.cells) (slots + rm.slots) → Qc v T'.heap L → own_G p e below s Q kc ks T' (mkF m (pc + 3) Ls (v.toList ++ rest))) :
    own_G p e below s Q kc ks T (mkF m pc Ls S) := by
  obtain ⟨cq, kq, qa, qb, qc⟩ := isOf hZ eT E
  obtain ⟨v, _, ⟨T', L', k', n'⟩, -, X', ⟨L, hQ, q1, q2, q3⟩, st⟩ := X.virtualBack hx (y := y) (z := y) hown (mvT hZ w1) (mvT hZ w5) (notFace_of_selects (args := #[]) (mvT hZ w6)) (mvT hZ w6) (mvT hZ w2) hy (backOf (W := W) hM hZ w4 w3 hf hlo) qa qc (g := mkF m pc Ls S) rfl hsize (Steps.refl _) (argsL := argsL) (rest := rest) hlen hS (by show 2 * 0 + _ ≤ _; omega) hd (fun _ _ => ⟨rfl, eT, hc, hs⟩)
  dsimp only [Pt.U, Pt.locs, Pt.cells, Pt.slots] at X' q1 q2 q3 st hQ
  subst q1 q2 q3
  exact own_go _ (fun t kt => st.trans kt) (k T' v L X' hQ)
end OwnKit
theorem own_pd0 : parseMethodDescriptor "(I)I" = some ⟨[.int], some .int⟩ := by decide +kernel
def own_cs (b : Int32) : Int32 := (if b < (194 : Int32) then (if b < (224 : Int32) then (if b < (240 : Int32) then (1 : Int32) else (if (244 : Int32) < b then (1 : Int32) else (4 : Int32))) else (if (239 : Int32) < b then (if b < (240 : Int32) then (1 : Int32) else (if (244 : Int32) < b then (1 : Int32) else (4 : Int32))) else (3 : Int32))) else (if (223 : Int32) < b then (if b < (224 : Int32) then (if b < (240 : Int32) then (1 : Int32) else (if (244 : Int32) < b then (1 : Int32) else (4 : Int32))) else (if (239 : Int32) < b then (if b < (240 : Int32) then (1 : Int32) else (if (244 : Int32) < b then (1 : Int32) else (4 : Int32))) else (3 : Int32))) else (2 : Int32)))
theorem own_d1_0 : decode prog_79_method_2_code 0 = .ok (.iload_n 0, 1) := by decide +kernel
theorem own_d1_1 : decode prog_79_method_2_code 1 = .ok (.sipush 194, 3) := by decide +kernel
theorem own_d1_4 : decode prog_79_method_2_code 4 = .ok (.if_icmp .lt 15, 3) := by decide +kernel
theorem own_d1_7 : decode prog_79_method_2_code 7 = .ok (.iload_n 0, 1) := by decide +kernel
theorem own_d1_8 : decode prog_79_method_2_code 8 = .ok (.sipush 223, 3) := by decide +kernel
theorem own_d1_11 : decode prog_79_method_2_code 11 = .ok (.if_icmp .gt 8, 3) := by decide +kernel
theorem own_d1_14 : decode prog_79_method_2_code 14 = .ok (.iconst 2, 1) := by decide +kernel
theorem own_d1_15 : decode prog_79_method_2_code 15 = .ok (.istore_n 1, 1) := by decide +kernel
theorem own_d1_16 : decode prog_79_method_2_code 16 = .ok (.goto 43, 3) := by decide +kernel
theorem own_d1_19 : decode prog_79_method_2_code 19 = .ok (.iload_n 0, 1) := by decide +kernel
theorem own_d1_20 : decode prog_79_method_2_code 20 = .ok (.sipush 224, 3) := by decide +kernel
theorem own_d1_23 : decode prog_79_method_2_code 23 = .ok (.if_icmp .lt 15, 3) := by decide +kernel
theorem own_d1_26 : decode prog_79_method_2_code 26 = .ok (.iload_n 0, 1) := by decide +kernel
theorem own_d1_27 : decode prog_79_method_2_code 27 = .ok (.sipush 239, 3) := by decide +kernel
theorem own_d1_30 : decode prog_79_method_2_code 30 = .ok (.if_icmp .gt 8, 3) := by decide +kernel
theorem own_d1_33 : decode prog_79_method_2_code 33 = .ok (.iconst 3, 1) := by decide +kernel
theorem own_d1_34 : decode prog_79_method_2_code 34 = .ok (.istore_n 1, 1) := by decide +kernel
theorem own_d1_35 : decode prog_79_method_2_code 35 = .ok (.goto 24, 3) := by decide +kernel
theorem own_d1_38 : decode prog_79_method_2_code 38 = .ok (.iload_n 0, 1) := by decide +kernel
theorem own_d1_39 : decode prog_79_method_2_code 39 = .ok (.sipush 240, 3) := by decide +kernel
theorem own_d1_42 : decode prog_79_method_2_code 42 = .ok (.if_icmp .lt 15, 3) := by decide +kernel
theorem own_d1_45 : decode prog_79_method_2_code 45 = .ok (.iload_n 0, 1) := by decide +kernel
theorem own_d1_46 : decode prog_79_method_2_code 46 = .ok (.sipush 244, 3) := by decide +kernel
theorem own_d1_49 : decode prog_79_method_2_code 49 = .ok (.if_icmp .gt 8, 3) := by decide +kernel
theorem own_d1_52 : decode prog_79_method_2_code 52 = .ok (.iconst 4, 1) := by decide +kernel
theorem own_d1_53 : decode prog_79_method_2_code 53 = .ok (.istore_n 1, 1) := by decide +kernel
theorem own_d1_54 : decode prog_79_method_2_code 54 = .ok (.goto 5, 3) := by decide +kernel
theorem own_d1_57 : decode prog_79_method_2_code 57 = .ok (.iconst 1, 1) := by decide +kernel
theorem own_d1_58 : decode prog_79_method_2_code 58 = .ok (.istore_n 1, 1) := by decide +kernel
theorem own_d1_59 : decode prog_79_method_2_code 59 = .ok (.iload_n 1, 1) := by decide +kernel
theorem own_d1_60 : decode prog_79_method_2_code 60 = .ok (.ireturn, 1) := by decide +kernel
theorem own_pn_own_rm1 : plainFor (⟨"com/example/vocab_scan/vocabscan/Utf8", "characterSize", "(I)I"⟩ : MethodName) = true := plainFor_of_name (show plainName "com/example/vocab_scan/vocabscan/Utf8" = true by first | (simp [plainName, overriddenIn]; done) | decide +kernel)
set_option maxRecDepth 65536 in
set_option maxHeartbeats 40000000 in
theorem own_rm1 (l : Launch) (Z : State) (a0 : Array Value) (hw : ∀ d ∈ tables_1, d.before a0 Z = true) (ws : List Jvm.Cond) (h0 : Heap) (b : Int32)  :
    own_C l Z (⟨"com/example/vocab_scan/vocabscan/Utf8", "characterSize", "(I)I"⟩ : MethodName) prog_79_method_2_code 2 (some .int) ws ({ frames := 0, cells := 0, slots := 0, locals := 0 } : Room) #[(.int b)] h0 (own_P (.int (own_cs b)) h0) := by
  refine own_met own_pn_own_rm1 #[iv b, .unset] (fun m => by first | (simp [entryFrame, mkF, argsToLocals, Value.category]; done) | rfl) ?_
  intro p e s m below meth c s₁ hx hby hml hown hret hlk hZ hnm X0 e0
  refine own_go (mkF m 1 #[iv b, .unset] [(.int b)]) (fun t k => XS.iloadN X0.here hx rfl (hb hby own_d1_0) rfl  k) ?_
  refine own_go (mkF m 4 #[iv b, .unset] [(.int (194 : Int32)), (.int b)]) (fun t k => XS.sipush X0.here hx rfl (hb hby own_d1_1) k) ?_
  by_cases hc4 : b < (194 : Int32)
  · skip
    refine own_go (mkF m 19 #[iv b, .unset] []) (fun t k => XS.icmpYes X0.here hx rfl (pc0 := 4) (pc' := 19) rfl (hb hby own_d1_4) rfl (tlt hc4).1 (by decide) (by decide) k) ?_
    refine own_go (mkF m 20 #[iv b, .unset] [(.int b)]) (fun t k => XS.iloadN X0.here hx rfl (hb hby own_d1_19) rfl  k) ?_
    refine own_go (mkF m 23 #[iv b, .unset] [(.int (224 : Int32)), (.int b)]) (fun t k => XS.sipush X0.here hx rfl (hb hby own_d1_20) k) ?_
    by_cases hc23 : b < (224 : Int32)
    · skip
      refine own_go (mkF m 38 #[iv b, .unset] []) (fun t k => XS.icmpYes X0.here hx rfl (pc0 := 23) (pc' := 38) rfl (hb hby own_d1_23) rfl (tlt hc23).1 (by decide) (by decide) k) ?_
      refine own_go (mkF m 39 #[iv b, .unset] [(.int b)]) (fun t k => XS.iloadN X0.here hx rfl (hb hby own_d1_38) rfl  k) ?_
      refine own_go (mkF m 42 #[iv b, .unset] [(.int (240 : Int32)), (.int b)]) (fun t k => XS.sipush X0.here hx rfl (hb hby own_d1_39) k) ?_
      by_cases hc42 : b < (240 : Int32)
      · skip
        refine own_go (mkF m 57 #[iv b, .unset] []) (fun t k => XS.icmpYes X0.here hx rfl (pc0 := 42) (pc' := 57) rfl (hb hby own_d1_42) rfl (tlt hc42).1 (by decide) (by decide) k) ?_
        refine own_go (mkF m 58 #[iv b, .unset] [(.int (1 : Int32))]) (fun t k => XS.iconst X0.here hx rfl (hb hby own_d1_57) k) ?_
        refine own_go (mkF m 59 #[iv b, iv (1 : Int32)] []) (fun t k => XS.istoreN X0.here hx rfl (hb hby own_d1_58) rfl (l' := #[iv b, iv (1 : Int32)]) rfl k) ?_
        refine own_go (mkF m 60 #[iv b, iv (1 : Int32)] [(.int (1 : Int32))]) (fun t k => XS.iloadN X0.here hx rfl (hb hby own_d1_59) rfl  k) ?_
        refine own_retI X0 hx hlk hret (hb hby own_d1_60) ?_ (by decide) (by decide)
        exact ⟨congrArg (fun z => some (Value.int z)) ((show (own_cs b) = (1 : Int32) from ((if_pos hc4).trans ((if_pos hc23).trans ((if_pos hc42).trans rfl)))).trans (by rfl : (1 : Int32) = (1 : Int32))).symm, e0, rfl⟩
      · skip
        refine own_go (mkF m 45 #[iv b, .unset] []) (fun t k => XS.icmpNo X0.here hx rfl (hb hby own_d1_42) rfl (flt hc42).1 k) ?_
        refine own_go (mkF m 46 #[iv b, .unset] [(.int b)]) (fun t k => XS.iloadN X0.here hx rfl (hb hby own_d1_45) rfl  k) ?_
        refine own_go (mkF m 49 #[iv b, .unset] [(.int (244 : Int32)), (.int b)]) (fun t k => XS.sipush X0.here hx rfl (hb hby own_d1_46) k) ?_
        by_cases hc49 : (244 : Int32) < b
        · skip
          refine own_go (mkF m 57 #[iv b, .unset] []) (fun t k => XS.icmpYes X0.here hx rfl (pc0 := 49) (pc' := 57) rfl (hb hby own_d1_49) rfl (tlt hc49).2.2.1 (by decide) (by decide) k) ?_
          refine own_go (mkF m 58 #[iv b, .unset] [(.int (1 : Int32))]) (fun t k => XS.iconst X0.here hx rfl (hb hby own_d1_57) k) ?_
          refine own_go (mkF m 59 #[iv b, iv (1 : Int32)] []) (fun t k => XS.istoreN X0.here hx rfl (hb hby own_d1_58) rfl (l' := #[iv b, iv (1 : Int32)]) rfl k) ?_
          refine own_go (mkF m 60 #[iv b, iv (1 : Int32)] [(.int (1 : Int32))]) (fun t k => XS.iloadN X0.here hx rfl (hb hby own_d1_59) rfl  k) ?_
          refine own_retI X0 hx hlk hret (hb hby own_d1_60) ?_ (by decide) (by decide)
          exact ⟨congrArg (fun z => some (Value.int z)) ((show (own_cs b) = (1 : Int32) from ((if_pos hc4).trans ((if_pos hc23).trans ((if_neg hc42).trans ((if_pos hc49).trans rfl))))).trans (by rfl : (1 : Int32) = (1 : Int32))).symm, e0, rfl⟩
        · skip
          refine own_go (mkF m 52 #[iv b, .unset] []) (fun t k => XS.icmpNo X0.here hx rfl (hb hby own_d1_49) rfl (flt hc49).2.2.1 k) ?_
          refine own_go (mkF m 53 #[iv b, .unset] [(.int (4 : Int32))]) (fun t k => XS.iconst X0.here hx rfl (hb hby own_d1_52) k) ?_
          refine own_go (mkF m 54 #[iv b, iv (4 : Int32)] []) (fun t k => XS.istoreN X0.here hx rfl (hb hby own_d1_53) rfl (l' := #[iv b, iv (4 : Int32)]) rfl k) ?_
          refine own_go (mkF m 59 #[iv b, iv (4 : Int32)] []) (fun t k => XS.goto X0.here hx rfl (pc0 := 54) (pc' := 59) rfl (hb hby own_d1_54) (by decide) (by decide) k) ?_
          refine own_go (mkF m 60 #[iv b, iv (4 : Int32)] [(.int (4 : Int32))]) (fun t k => XS.iloadN X0.here hx rfl (hb hby own_d1_59) rfl  k) ?_
          refine own_retI X0 hx hlk hret (hb hby own_d1_60) ?_ (by decide) (by decide)
          exact ⟨congrArg (fun z => some (Value.int z)) ((show (own_cs b) = (4 : Int32) from ((if_pos hc4).trans ((if_pos hc23).trans ((if_neg hc42).trans ((if_neg hc49).trans rfl))))).trans (by rfl : (4 : Int32) = (4 : Int32))).symm, e0, rfl⟩
    · skip
      refine own_go (mkF m 26 #[iv b, .unset] []) (fun t k => XS.icmpNo X0.here hx rfl (hb hby own_d1_23) rfl (flt hc23).1 k) ?_
      refine own_go (mkF m 27 #[iv b, .unset] [(.int b)]) (fun t k => XS.iloadN X0.here hx rfl (hb hby own_d1_26) rfl  k) ?_
      refine own_go (mkF m 30 #[iv b, .unset] [(.int (239 : Int32)), (.int b)]) (fun t k => XS.sipush X0.here hx rfl (hb hby own_d1_27) k) ?_
      by_cases hc30 : (239 : Int32) < b
      · skip
        refine own_go (mkF m 38 #[iv b, .unset] []) (fun t k => XS.icmpYes X0.here hx rfl (pc0 := 30) (pc' := 38) rfl (hb hby own_d1_30) rfl (tlt hc30).2.2.1 (by decide) (by decide) k) ?_
        refine own_go (mkF m 39 #[iv b, .unset] [(.int b)]) (fun t k => XS.iloadN X0.here hx rfl (hb hby own_d1_38) rfl  k) ?_
        refine own_go (mkF m 42 #[iv b, .unset] [(.int (240 : Int32)), (.int b)]) (fun t k => XS.sipush X0.here hx rfl (hb hby own_d1_39) k) ?_
        by_cases hc42 : b < (240 : Int32)
        · skip
          refine own_go (mkF m 57 #[iv b, .unset] []) (fun t k => XS.icmpYes X0.here hx rfl (pc0 := 42) (pc' := 57) rfl (hb hby own_d1_42) rfl (tlt hc42).1 (by decide) (by decide) k) ?_
          refine own_go (mkF m 58 #[iv b, .unset] [(.int (1 : Int32))]) (fun t k => XS.iconst X0.here hx rfl (hb hby own_d1_57) k) ?_
          refine own_go (mkF m 59 #[iv b, iv (1 : Int32)] []) (fun t k => XS.istoreN X0.here hx rfl (hb hby own_d1_58) rfl (l' := #[iv b, iv (1 : Int32)]) rfl k) ?_
          refine own_go (mkF m 60 #[iv b, iv (1 : Int32)] [(.int (1 : Int32))]) (fun t k => XS.iloadN X0.here hx rfl (hb hby own_d1_59) rfl  k) ?_
          refine own_retI X0 hx hlk hret (hb hby own_d1_60) ?_ (by decide) (by decide)
          exact ⟨congrArg (fun z => some (Value.int z)) ((show (own_cs b) = (1 : Int32) from ((if_pos hc4).trans ((if_neg hc23).trans ((if_pos hc30).trans ((if_pos hc42).trans rfl))))).trans (by rfl : (1 : Int32) = (1 : Int32))).symm, e0, rfl⟩
        · skip
          refine own_go (mkF m 45 #[iv b, .unset] []) (fun t k => XS.icmpNo X0.here hx rfl (hb hby own_d1_42) rfl (flt hc42).1 k) ?_
          refine own_go (mkF m 46 #[iv b, .unset] [(.int b)]) (fun t k => XS.iloadN X0.here hx rfl (hb hby own_d1_45) rfl  k) ?_
          refine own_go (mkF m 49 #[iv b, .unset] [(.int (244 : Int32)), (.int b)]) (fun t k => XS.sipush X0.here hx rfl (hb hby own_d1_46) k) ?_
          by_cases hc49 : (244 : Int32) < b
          · skip
            refine own_go (mkF m 57 #[iv b, .unset] []) (fun t k => XS.icmpYes X0.here hx rfl (pc0 := 49) (pc' := 57) rfl (hb hby own_d1_49) rfl (tlt hc49).2.2.1 (by decide) (by decide) k) ?_
            refine own_go (mkF m 58 #[iv b, .unset] [(.int (1 : Int32))]) (fun t k => XS.iconst X0.here hx rfl (hb hby own_d1_57) k) ?_
            refine own_go (mkF m 59 #[iv b, iv (1 : Int32)] []) (fun t k => XS.istoreN X0.here hx rfl (hb hby own_d1_58) rfl (l' := #[iv b, iv (1 : Int32)]) rfl k) ?_
            refine own_go (mkF m 60 #[iv b, iv (1 : Int32)] [(.int (1 : Int32))]) (fun t k => XS.iloadN X0.here hx rfl (hb hby own_d1_59) rfl  k) ?_
            refine own_retI X0 hx hlk hret (hb hby own_d1_60) ?_ (by decide) (by decide)
            exact ⟨congrArg (fun z => some (Value.int z)) ((show (own_cs b) = (1 : Int32) from ((if_pos hc4).trans ((if_neg hc23).trans ((if_pos hc30).trans ((if_neg hc42).trans ((if_pos hc49).trans rfl)))))).trans (by rfl : (1 : Int32) = (1 : Int32))).symm, e0, rfl⟩
          · skip
            refine own_go (mkF m 52 #[iv b, .unset] []) (fun t k => XS.icmpNo X0.here hx rfl (hb hby own_d1_49) rfl (flt hc49).2.2.1 k) ?_
            refine own_go (mkF m 53 #[iv b, .unset] [(.int (4 : Int32))]) (fun t k => XS.iconst X0.here hx rfl (hb hby own_d1_52) k) ?_
            refine own_go (mkF m 54 #[iv b, iv (4 : Int32)] []) (fun t k => XS.istoreN X0.here hx rfl (hb hby own_d1_53) rfl (l' := #[iv b, iv (4 : Int32)]) rfl k) ?_
            refine own_go (mkF m 59 #[iv b, iv (4 : Int32)] []) (fun t k => XS.goto X0.here hx rfl (pc0 := 54) (pc' := 59) rfl (hb hby own_d1_54) (by decide) (by decide) k) ?_
            refine own_go (mkF m 60 #[iv b, iv (4 : Int32)] [(.int (4 : Int32))]) (fun t k => XS.iloadN X0.here hx rfl (hb hby own_d1_59) rfl  k) ?_
            refine own_retI X0 hx hlk hret (hb hby own_d1_60) ?_ (by decide) (by decide)
            exact ⟨congrArg (fun z => some (Value.int z)) ((show (own_cs b) = (4 : Int32) from ((if_pos hc4).trans ((if_neg hc23).trans ((if_pos hc30).trans ((if_neg hc42).trans ((if_neg hc49).trans rfl)))))).trans (by rfl : (4 : Int32) = (4 : Int32))).symm, e0, rfl⟩
      · skip
        refine own_go (mkF m 33 #[iv b, .unset] []) (fun t k => XS.icmpNo X0.here hx rfl (hb hby own_d1_30) rfl (flt hc30).2.2.1 k) ?_
        refine own_go (mkF m 34 #[iv b, .unset] [(.int (3 : Int32))]) (fun t k => XS.iconst X0.here hx rfl (hb hby own_d1_33) k) ?_
        refine own_go (mkF m 35 #[iv b, iv (3 : Int32)] []) (fun t k => XS.istoreN X0.here hx rfl (hb hby own_d1_34) rfl (l' := #[iv b, iv (3 : Int32)]) rfl k) ?_
        refine own_go (mkF m 59 #[iv b, iv (3 : Int32)] []) (fun t k => XS.goto X0.here hx rfl (pc0 := 35) (pc' := 59) rfl (hb hby own_d1_35) (by decide) (by decide) k) ?_
        refine own_go (mkF m 60 #[iv b, iv (3 : Int32)] [(.int (3 : Int32))]) (fun t k => XS.iloadN X0.here hx rfl (hb hby own_d1_59) rfl  k) ?_
        refine own_retI X0 hx hlk hret (hb hby own_d1_60) ?_ (by decide) (by decide)
        exact ⟨congrArg (fun z => some (Value.int z)) ((show (own_cs b) = (3 : Int32) from ((if_pos hc4).trans ((if_neg hc23).trans ((if_neg hc30).trans rfl)))).trans (by rfl : (3 : Int32) = (3 : Int32))).symm, e0, rfl⟩
  · skip
    refine own_go (mkF m 7 #[iv b, .unset] []) (fun t k => XS.icmpNo X0.here hx rfl (hb hby own_d1_4) rfl (flt hc4).1 k) ?_
    refine own_go (mkF m 8 #[iv b, .unset] [(.int b)]) (fun t k => XS.iloadN X0.here hx rfl (hb hby own_d1_7) rfl  k) ?_
    refine own_go (mkF m 11 #[iv b, .unset] [(.int (223 : Int32)), (.int b)]) (fun t k => XS.sipush X0.here hx rfl (hb hby own_d1_8) k) ?_
    by_cases hc11 : (223 : Int32) < b
    · skip
      refine own_go (mkF m 19 #[iv b, .unset] []) (fun t k => XS.icmpYes X0.here hx rfl (pc0 := 11) (pc' := 19) rfl (hb hby own_d1_11) rfl (tlt hc11).2.2.1 (by decide) (by decide) k) ?_
      refine own_go (mkF m 20 #[iv b, .unset] [(.int b)]) (fun t k => XS.iloadN X0.here hx rfl (hb hby own_d1_19) rfl  k) ?_
      refine own_go (mkF m 23 #[iv b, .unset] [(.int (224 : Int32)), (.int b)]) (fun t k => XS.sipush X0.here hx rfl (hb hby own_d1_20) k) ?_
      by_cases hc23 : b < (224 : Int32)
      · skip
        refine own_go (mkF m 38 #[iv b, .unset] []) (fun t k => XS.icmpYes X0.here hx rfl (pc0 := 23) (pc' := 38) rfl (hb hby own_d1_23) rfl (tlt hc23).1 (by decide) (by decide) k) ?_
        refine own_go (mkF m 39 #[iv b, .unset] [(.int b)]) (fun t k => XS.iloadN X0.here hx rfl (hb hby own_d1_38) rfl  k) ?_
        refine own_go (mkF m 42 #[iv b, .unset] [(.int (240 : Int32)), (.int b)]) (fun t k => XS.sipush X0.here hx rfl (hb hby own_d1_39) k) ?_
        by_cases hc42 : b < (240 : Int32)
        · skip
          refine own_go (mkF m 57 #[iv b, .unset] []) (fun t k => XS.icmpYes X0.here hx rfl (pc0 := 42) (pc' := 57) rfl (hb hby own_d1_42) rfl (tlt hc42).1 (by decide) (by decide) k) ?_
          refine own_go (mkF m 58 #[iv b, .unset] [(.int (1 : Int32))]) (fun t k => XS.iconst X0.here hx rfl (hb hby own_d1_57) k) ?_
          refine own_go (mkF m 59 #[iv b, iv (1 : Int32)] []) (fun t k => XS.istoreN X0.here hx rfl (hb hby own_d1_58) rfl (l' := #[iv b, iv (1 : Int32)]) rfl k) ?_
          refine own_go (mkF m 60 #[iv b, iv (1 : Int32)] [(.int (1 : Int32))]) (fun t k => XS.iloadN X0.here hx rfl (hb hby own_d1_59) rfl  k) ?_
          refine own_retI X0 hx hlk hret (hb hby own_d1_60) ?_ (by decide) (by decide)
          exact ⟨congrArg (fun z => some (Value.int z)) ((show (own_cs b) = (1 : Int32) from ((if_neg hc4).trans ((if_pos hc11).trans ((if_pos hc23).trans ((if_pos hc42).trans rfl))))).trans (by rfl : (1 : Int32) = (1 : Int32))).symm, e0, rfl⟩
        · skip
          refine own_go (mkF m 45 #[iv b, .unset] []) (fun t k => XS.icmpNo X0.here hx rfl (hb hby own_d1_42) rfl (flt hc42).1 k) ?_
          refine own_go (mkF m 46 #[iv b, .unset] [(.int b)]) (fun t k => XS.iloadN X0.here hx rfl (hb hby own_d1_45) rfl  k) ?_
          refine own_go (mkF m 49 #[iv b, .unset] [(.int (244 : Int32)), (.int b)]) (fun t k => XS.sipush X0.here hx rfl (hb hby own_d1_46) k) ?_
          by_cases hc49 : (244 : Int32) < b
          · skip
            refine own_go (mkF m 57 #[iv b, .unset] []) (fun t k => XS.icmpYes X0.here hx rfl (pc0 := 49) (pc' := 57) rfl (hb hby own_d1_49) rfl (tlt hc49).2.2.1 (by decide) (by decide) k) ?_
            refine own_go (mkF m 58 #[iv b, .unset] [(.int (1 : Int32))]) (fun t k => XS.iconst X0.here hx rfl (hb hby own_d1_57) k) ?_
            refine own_go (mkF m 59 #[iv b, iv (1 : Int32)] []) (fun t k => XS.istoreN X0.here hx rfl (hb hby own_d1_58) rfl (l' := #[iv b, iv (1 : Int32)]) rfl k) ?_
            refine own_go (mkF m 60 #[iv b, iv (1 : Int32)] [(.int (1 : Int32))]) (fun t k => XS.iloadN X0.here hx rfl (hb hby own_d1_59) rfl  k) ?_
            refine own_retI X0 hx hlk hret (hb hby own_d1_60) ?_ (by decide) (by decide)
            exact ⟨congrArg (fun z => some (Value.int z)) ((show (own_cs b) = (1 : Int32) from ((if_neg hc4).trans ((if_pos hc11).trans ((if_pos hc23).trans ((if_neg hc42).trans ((if_pos hc49).trans rfl)))))).trans (by rfl : (1 : Int32) = (1 : Int32))).symm, e0, rfl⟩
          · skip
            refine own_go (mkF m 52 #[iv b, .unset] []) (fun t k => XS.icmpNo X0.here hx rfl (hb hby own_d1_49) rfl (flt hc49).2.2.1 k) ?_
            refine own_go (mkF m 53 #[iv b, .unset] [(.int (4 : Int32))]) (fun t k => XS.iconst X0.here hx rfl (hb hby own_d1_52) k) ?_
            refine own_go (mkF m 54 #[iv b, iv (4 : Int32)] []) (fun t k => XS.istoreN X0.here hx rfl (hb hby own_d1_53) rfl (l' := #[iv b, iv (4 : Int32)]) rfl k) ?_
            refine own_go (mkF m 59 #[iv b, iv (4 : Int32)] []) (fun t k => XS.goto X0.here hx rfl (pc0 := 54) (pc' := 59) rfl (hb hby own_d1_54) (by decide) (by decide) k) ?_
            refine own_go (mkF m 60 #[iv b, iv (4 : Int32)] [(.int (4 : Int32))]) (fun t k => XS.iloadN X0.here hx rfl (hb hby own_d1_59) rfl  k) ?_
            refine own_retI X0 hx hlk hret (hb hby own_d1_60) ?_ (by decide) (by decide)
            exact ⟨congrArg (fun z => some (Value.int z)) ((show (own_cs b) = (4 : Int32) from ((if_neg hc4).trans ((if_pos hc11).trans ((if_pos hc23).trans ((if_neg hc42).trans ((if_neg hc49).trans rfl)))))).trans (by rfl : (4 : Int32) = (4 : Int32))).symm, e0, rfl⟩
      · skip
        refine own_go (mkF m 26 #[iv b, .unset] []) (fun t k => XS.icmpNo X0.here hx rfl (hb hby own_d1_23) rfl (flt hc23).1 k) ?_
        refine own_go (mkF m 27 #[iv b, .unset] [(.int b)]) (fun t k => XS.iloadN X0.here hx rfl (hb hby own_d1_26) rfl  k) ?_
        refine own_go (mkF m 30 #[iv b, .unset] [(.int (239 : Int32)), (.int b)]) (fun t k => XS.sipush X0.here hx rfl (hb hby own_d1_27) k) ?_
        by_cases hc30 : (239 : Int32) < b
        · skip
          refine own_go (mkF m 38 #[iv b, .unset] []) (fun t k => XS.icmpYes X0.here hx rfl (pc0 := 30) (pc' := 38) rfl (hb hby own_d1_30) rfl (tlt hc30).2.2.1 (by decide) (by decide) k) ?_
          refine own_go (mkF m 39 #[iv b, .unset] [(.int b)]) (fun t k => XS.iloadN X0.here hx rfl (hb hby own_d1_38) rfl  k) ?_
          refine own_go (mkF m 42 #[iv b, .unset] [(.int (240 : Int32)), (.int b)]) (fun t k => XS.sipush X0.here hx rfl (hb hby own_d1_39) k) ?_
          by_cases hc42 : b < (240 : Int32)
          · skip
            refine own_go (mkF m 57 #[iv b, .unset] []) (fun t k => XS.icmpYes X0.here hx rfl (pc0 := 42) (pc' := 57) rfl (hb hby own_d1_42) rfl (tlt hc42).1 (by decide) (by decide) k) ?_
            refine own_go (mkF m 58 #[iv b, .unset] [(.int (1 : Int32))]) (fun t k => XS.iconst X0.here hx rfl (hb hby own_d1_57) k) ?_
            refine own_go (mkF m 59 #[iv b, iv (1 : Int32)] []) (fun t k => XS.istoreN X0.here hx rfl (hb hby own_d1_58) rfl (l' := #[iv b, iv (1 : Int32)]) rfl k) ?_
            refine own_go (mkF m 60 #[iv b, iv (1 : Int32)] [(.int (1 : Int32))]) (fun t k => XS.iloadN X0.here hx rfl (hb hby own_d1_59) rfl  k) ?_
            refine own_retI X0 hx hlk hret (hb hby own_d1_60) ?_ (by decide) (by decide)
            exact ⟨congrArg (fun z => some (Value.int z)) ((show (own_cs b) = (1 : Int32) from ((if_neg hc4).trans ((if_pos hc11).trans ((if_neg hc23).trans ((if_pos hc30).trans ((if_pos hc42).trans rfl)))))).trans (by rfl : (1 : Int32) = (1 : Int32))).symm, e0, rfl⟩
          · skip
            refine own_go (mkF m 45 #[iv b, .unset] []) (fun t k => XS.icmpNo X0.here hx rfl (hb hby own_d1_42) rfl (flt hc42).1 k) ?_
            refine own_go (mkF m 46 #[iv b, .unset] [(.int b)]) (fun t k => XS.iloadN X0.here hx rfl (hb hby own_d1_45) rfl  k) ?_
            refine own_go (mkF m 49 #[iv b, .unset] [(.int (244 : Int32)), (.int b)]) (fun t k => XS.sipush X0.here hx rfl (hb hby own_d1_46) k) ?_
            by_cases hc49 : (244 : Int32) < b
            · skip
              refine own_go (mkF m 57 #[iv b, .unset] []) (fun t k => XS.icmpYes X0.here hx rfl (pc0 := 49) (pc' := 57) rfl (hb hby own_d1_49) rfl (tlt hc49).2.2.1 (by decide) (by decide) k) ?_
              refine own_go (mkF m 58 #[iv b, .unset] [(.int (1 : Int32))]) (fun t k => XS.iconst X0.here hx rfl (hb hby own_d1_57) k) ?_
              refine own_go (mkF m 59 #[iv b, iv (1 : Int32)] []) (fun t k => XS.istoreN X0.here hx rfl (hb hby own_d1_58) rfl (l' := #[iv b, iv (1 : Int32)]) rfl k) ?_
              refine own_go (mkF m 60 #[iv b, iv (1 : Int32)] [(.int (1 : Int32))]) (fun t k => XS.iloadN X0.here hx rfl (hb hby own_d1_59) rfl  k) ?_
              refine own_retI X0 hx hlk hret (hb hby own_d1_60) ?_ (by decide) (by decide)
              exact ⟨congrArg (fun z => some (Value.int z)) ((show (own_cs b) = (1 : Int32) from ((if_neg hc4).trans ((if_pos hc11).trans ((if_neg hc23).trans ((if_pos hc30).trans ((if_neg hc42).trans ((if_pos hc49).trans rfl))))))).trans (by rfl : (1 : Int32) = (1 : Int32))).symm, e0, rfl⟩
            · skip
              refine own_go (mkF m 52 #[iv b, .unset] []) (fun t k => XS.icmpNo X0.here hx rfl (hb hby own_d1_49) rfl (flt hc49).2.2.1 k) ?_
              refine own_go (mkF m 53 #[iv b, .unset] [(.int (4 : Int32))]) (fun t k => XS.iconst X0.here hx rfl (hb hby own_d1_52) k) ?_
              refine own_go (mkF m 54 #[iv b, iv (4 : Int32)] []) (fun t k => XS.istoreN X0.here hx rfl (hb hby own_d1_53) rfl (l' := #[iv b, iv (4 : Int32)]) rfl k) ?_
              refine own_go (mkF m 59 #[iv b, iv (4 : Int32)] []) (fun t k => XS.goto X0.here hx rfl (pc0 := 54) (pc' := 59) rfl (hb hby own_d1_54) (by decide) (by decide) k) ?_
              refine own_go (mkF m 60 #[iv b, iv (4 : Int32)] [(.int (4 : Int32))]) (fun t k => XS.iloadN X0.here hx rfl (hb hby own_d1_59) rfl  k) ?_
              refine own_retI X0 hx hlk hret (hb hby own_d1_60) ?_ (by decide) (by decide)
              exact ⟨congrArg (fun z => some (Value.int z)) ((show (own_cs b) = (4 : Int32) from ((if_neg hc4).trans ((if_pos hc11).trans ((if_neg hc23).trans ((if_pos hc30).trans ((if_neg hc42).trans ((if_neg hc49).trans rfl))))))).trans (by rfl : (4 : Int32) = (4 : Int32))).symm, e0, rfl⟩
        · skip
          refine own_go (mkF m 33 #[iv b, .unset] []) (fun t k => XS.icmpNo X0.here hx rfl (hb hby own_d1_30) rfl (flt hc30).2.2.1 k) ?_
          refine own_go (mkF m 34 #[iv b, .unset] [(.int (3 : Int32))]) (fun t k => XS.iconst X0.here hx rfl (hb hby own_d1_33) k) ?_
          refine own_go (mkF m 35 #[iv b, iv (3 : Int32)] []) (fun t k => XS.istoreN X0.here hx rfl (hb hby own_d1_34) rfl (l' := #[iv b, iv (3 : Int32)]) rfl k) ?_
          refine own_go (mkF m 59 #[iv b, iv (3 : Int32)] []) (fun t k => XS.goto X0.here hx rfl (pc0 := 35) (pc' := 59) rfl (hb hby own_d1_35) (by decide) (by decide) k) ?_
          refine own_go (mkF m 60 #[iv b, iv (3 : Int32)] [(.int (3 : Int32))]) (fun t k => XS.iloadN X0.here hx rfl (hb hby own_d1_59) rfl  k) ?_
          refine own_retI X0 hx hlk hret (hb hby own_d1_60) ?_ (by decide) (by decide)
          exact ⟨congrArg (fun z => some (Value.int z)) ((show (own_cs b) = (3 : Int32) from ((if_neg hc4).trans ((if_pos hc11).trans ((if_neg hc23).trans ((if_neg hc30).trans rfl))))).trans (by rfl : (3 : Int32) = (3 : Int32))).symm, e0, rfl⟩
    · skip
      refine own_go (mkF m 14 #[iv b, .unset] []) (fun t k => XS.icmpNo X0.here hx rfl (hb hby own_d1_11) rfl (flt hc11).2.2.1 k) ?_
      refine own_go (mkF m 15 #[iv b, .unset] [(.int (2 : Int32))]) (fun t k => XS.iconst X0.here hx rfl (hb hby own_d1_14) k) ?_
      refine own_go (mkF m 16 #[iv b, iv (2 : Int32)] []) (fun t k => XS.istoreN X0.here hx rfl (hb hby own_d1_15) rfl (l' := #[iv b, iv (2 : Int32)]) rfl k) ?_
      refine own_go (mkF m 59 #[iv b, iv (2 : Int32)] []) (fun t k => XS.goto X0.here hx rfl (pc0 := 16) (pc' := 59) rfl (hb hby own_d1_16) (by decide) (by decide) k) ?_
      refine own_go (mkF m 60 #[iv b, iv (2 : Int32)] [(.int (2 : Int32))]) (fun t k => XS.iloadN X0.here hx rfl (hb hby own_d1_59) rfl  k) ?_
      refine own_retI X0 hx hlk hret (hb hby own_d1_60) ?_ (by decide) (by decide)
      exact ⟨congrArg (fun z => some (Value.int z)) ((show (own_cs b) = (2 : Int32) from ((if_neg hc4).trans ((if_neg hc11).trans rfl))).trans (by rfl : (2 : Int32) = (2 : Int32))).symm, e0, rfl⟩



/-- every int in 0 .. 255 -/
theorem own_b (x : Int32) : ∃ i : Fin 256, x &&& 255 = Int32.ofNat i.val := by
  have e := Jvm.Kit.i32_mask x 255 (k := 8) (by decide) (by decide)
  refine ⟨⟨(x &&& 255).toInt.toNat, by omega⟩, ?_⟩
  rw [← Int32.toInt_inj, Int32.toInt_ofNat_of_lt (by show (x &&& 255).toInt.toNat < 2 ^ 31; omega)]
  show (x &&& 255).toInt = (((x &&& 255).toInt.toNat : Nat) : Int)
  omega

theorem own_road0 : ∀ i : Fin 256, (Int32.ofNat i.val) < (128 : Int32) →  own_cs (Int32.ofNat i.val) = (1 : Int32) := by decide +kernel
theorem own_road1 : ∀ i : Fin 256, ¬ ((Int32.ofNat i.val) < (128 : Int32)) → (Int32.ofNat i.val) < (192 : Int32) →  own_cs (Int32.ofNat i.val) = (1 : Int32) := by decide +kernel
theorem own_road2 : ∀ i : Fin 256, ¬ ((Int32.ofNat i.val) < (128 : Int32)) → ¬ ((Int32.ofNat i.val) < (192 : Int32)) → (Int32.ofNat i.val) < (224 : Int32) → ((((Int32.ofNat i.val) &&& (31 : Int32)) <<< ((6 : Int32) &&& 31)) ||| (63 : Int32)) < (128 : Int32) →  own_cs (Int32.ofNat i.val) = (1 : Int32) := by decide +kernel
theorem own_road3 : ∀ i : Fin 256, ¬ ((Int32.ofNat i.val) < (128 : Int32)) → ¬ ((Int32.ofNat i.val) < (192 : Int32)) → (Int32.ofNat i.val) < (224 : Int32) → ¬ (((((Int32.ofNat i.val) &&& (31 : Int32)) <<< ((6 : Int32) &&& 31)) ||| (63 : Int32)) < (128 : Int32)) → (1114111 : Int32) < (((Int32.ofNat i.val) &&& (31 : Int32)) <<< ((6 : Int32) &&& 31)) →  own_cs (Int32.ofNat i.val) = (1 : Int32) := by decide +kernel
theorem own_road4 : ∀ i : Fin 256, ¬ ((Int32.ofNat i.val) < (128 : Int32)) → ¬ ((Int32.ofNat i.val) < (192 : Int32)) → (Int32.ofNat i.val) < (224 : Int32) → ¬ (((((Int32.ofNat i.val) &&& (31 : Int32)) <<< ((6 : Int32) &&& 31)) ||| (63 : Int32)) < (128 : Int32)) → ¬ ((1114111 : Int32) < (((Int32.ofNat i.val) &&& (31 : Int32)) <<< ((6 : Int32) &&& 31))) →  own_cs (Int32.ofNat i.val) = (2 : Int32) := by decide +kernel
theorem own_road5 : ∀ i : Fin 256, ¬ ((Int32.ofNat i.val) < (128 : Int32)) → ¬ ((Int32.ofNat i.val) < (192 : Int32)) → ¬ ((Int32.ofNat i.val) < (224 : Int32)) → (Int32.ofNat i.val) < (240 : Int32) → ((((Int32.ofNat i.val) &&& (15 : Int32)) <<< ((12 : Int32) &&& 31)) ||| (4095 : Int32)) < (2048 : Int32) →  own_cs (Int32.ofNat i.val) = (1 : Int32) := by decide +kernel
theorem own_road6 : ∀ i : Fin 256, ¬ ((Int32.ofNat i.val) < (128 : Int32)) → ¬ ((Int32.ofNat i.val) < (192 : Int32)) → ¬ ((Int32.ofNat i.val) < (224 : Int32)) → (Int32.ofNat i.val) < (240 : Int32) → ¬ (((((Int32.ofNat i.val) &&& (15 : Int32)) <<< ((12 : Int32) &&& 31)) ||| (4095 : Int32)) < (2048 : Int32)) → (1114111 : Int32) < (((Int32.ofNat i.val) &&& (15 : Int32)) <<< ((12 : Int32) &&& 31)) →  own_cs (Int32.ofNat i.val) = (1 : Int32) := by decide +kernel
theorem own_road7 : ∀ i : Fin 256, ¬ ((Int32.ofNat i.val) < (128 : Int32)) → ¬ ((Int32.ofNat i.val) < (192 : Int32)) → ¬ ((Int32.ofNat i.val) < (224 : Int32)) → (Int32.ofNat i.val) < (240 : Int32) → ¬ (((((Int32.ofNat i.val) &&& (15 : Int32)) <<< ((12 : Int32) &&& 31)) ||| (4095 : Int32)) < (2048 : Int32)) → ¬ ((1114111 : Int32) < (((Int32.ofNat i.val) &&& (15 : Int32)) <<< ((12 : Int32) &&& 31))) →  own_cs (Int32.ofNat i.val) = (3 : Int32) := by decide +kernel
theorem own_road8 : ∀ i : Fin 256, ¬ ((Int32.ofNat i.val) < (128 : Int32)) → ¬ ((Int32.ofNat i.val) < (192 : Int32)) → ¬ ((Int32.ofNat i.val) < (224 : Int32)) → ¬ ((Int32.ofNat i.val) < (240 : Int32)) → (Int32.ofNat i.val) < (248 : Int32) → ((((Int32.ofNat i.val) &&& (7 : Int32)) <<< ((18 : Int32) &&& 31)) ||| (262143 : Int32)) < (65536 : Int32) →  own_cs (Int32.ofNat i.val) = (1 : Int32) := by decide +kernel
theorem own_road9 : ∀ i : Fin 256, ¬ ((Int32.ofNat i.val) < (128 : Int32)) → ¬ ((Int32.ofNat i.val) < (192 : Int32)) → ¬ ((Int32.ofNat i.val) < (224 : Int32)) → ¬ ((Int32.ofNat i.val) < (240 : Int32)) → (Int32.ofNat i.val) < (248 : Int32) → ¬ (((((Int32.ofNat i.val) &&& (7 : Int32)) <<< ((18 : Int32) &&& 31)) ||| (262143 : Int32)) < (65536 : Int32)) → (1114111 : Int32) < (((Int32.ofNat i.val) &&& (7 : Int32)) <<< ((18 : Int32) &&& 31)) →  own_cs (Int32.ofNat i.val) = (1 : Int32) := by decide +kernel
theorem own_road10 : ∀ i : Fin 256, ¬ ((Int32.ofNat i.val) < (128 : Int32)) → ¬ ((Int32.ofNat i.val) < (192 : Int32)) → ¬ ((Int32.ofNat i.val) < (224 : Int32)) → ¬ ((Int32.ofNat i.val) < (240 : Int32)) → (Int32.ofNat i.val) < (248 : Int32) → ¬ (((((Int32.ofNat i.val) &&& (7 : Int32)) <<< ((18 : Int32) &&& 31)) ||| (262143 : Int32)) < (65536 : Int32)) → ¬ ((1114111 : Int32) < (((Int32.ofNat i.val) &&& (7 : Int32)) <<< ((18 : Int32) &&& 31))) →  own_cs (Int32.ofNat i.val) = (4 : Int32) := by decide +kernel
theorem own_road11 : ∀ i : Fin 256, ¬ ((Int32.ofNat i.val) < (128 : Int32)) → ¬ ((Int32.ofNat i.val) < (192 : Int32)) → ¬ ((Int32.ofNat i.val) < (224 : Int32)) → ¬ ((Int32.ofNat i.val) < (240 : Int32)) → ¬ ((Int32.ofNat i.val) < (248 : Int32)) →  own_cs (Int32.ofNat i.val) = (1 : Int32) := by decide +kernel
theorem own_pn_own_rm0 : plainFor x = true := plainFor_of_name (show plainName "com/example/vocab_scan/vocabscan/Utf8CharacterSizePinLaw" = true by first | (simp [plainName, overriddenIn]; done) | decide +kernel)
set_option maxRecDepth 65536 in
set_option maxHeartbeats 40000000 in
theorem own_rm0 (l : Launch) (Z : State) (a0 : Array Value) (hw : ∀ d ∈ tables_1, d.before a0 Z = true) (ws : List Jvm.Cond) (h0 : Heap) (x0 : Int32)  :
    own_C l Z x code maxLocals ret ws room_1 #[(.int x0)] h0 (fun v h L => v = some (.int 1) ∧ Fr h0.size L) := by
  refine own_met own_pn_own_rm0 #[iv x0, .unset, .unset, .unset, .unset, .unset, .unset, .unset, .unset] (fun m => by first | (simp [entryFrame, mkF, argsToLocals, Value.category, maxLocals]; done) | rfl) ?_
  intro p e s m below meth c s₁ hx hby hml hown hret hlk hZ hnm X0 e0
  replace hml : c.maxLocals = 9 := hml
  refine own_go (mkF m 1 #[iv x0, .unset, .unset, .unset, .unset, .unset, .unset, .unset, .unset] [(.int x0)]) (fun t k => XS.iloadN X0.here hx rfl (hb hby at_0) rfl  k) ?_
  refine own_go (mkF m 4 #[iv x0, .unset, .unset, .unset, .unset, .unset, .unset, .unset, .unset] [(.int (255 : Int32)), (.int x0)]) (fun t k => XS.sipush X0.here hx rfl (hb hby at_1) k) ?_
  refine own_go (mkF m 5 #[iv x0, .unset, .unset, .unset, .unset, .unset, .unset, .unset, .unset] [(.int (x0 &&& (255 : Int32)))]) (fun t k => XS.iand X0.here hx rfl (hb hby at_4) rfl k) ?_
  obtain ⟨bi, hbi⟩ := own_b x0
  generalize (x0 &&& (255 : Int32)) = b at hbi ⊢
  refine own_go (mkF m 6 #[iv x0, iv b, .unset, .unset, .unset, .unset, .unset, .unset, .unset] []) (fun t k => XS.istoreN X0.here hx rfl (hb hby at_5) rfl (l' := #[iv x0, iv b, .unset, .unset, .unset, .unset, .unset, .unset, .unset]) rfl k) ?_
  refine own_go (mkF m 7 #[iv x0, iv b, .unset, .unset, .unset, .unset, .unset, .unset, .unset] [(.int b)]) (fun t k => XS.iloadN X0.here hx rfl (hb hby at_6) rfl  k) ?_
  refine own_go (mkF m 10 #[iv x0, iv b, .unset, .unset, .unset, .unset, .unset, .unset, .unset] [(.int (128 : Int32)), (.int b)]) (fun t k => XS.sipush X0.here hx rfl (hb hby at_7) k) ?_
  by_cases hc10 : b < (128 : Int32)
  · skip
    refine own_go (mkF m 13 #[iv x0, iv b, .unset, .unset, .unset, .unset, .unset, .unset, .unset] []) (fun t k => XS.icmpNo X0.here hx rfl (hb hby at_10) rfl (tlt hc10).2.1 k) ?_
    refine own_go (mkF m 14 #[iv x0, iv b, .unset, .unset, .unset, .unset, .unset, .unset, .unset] [(.int (0 : Int32))]) (fun t k => XS.iconst X0.here hx rfl (hb hby at_13) k) ?_
    refine own_go (mkF m 15 #[iv x0, iv b, iv (0 : Int32), .unset, .unset, .unset, .unset, .unset, .unset] []) (fun t k => XS.istoreN X0.here hx rfl (hb hby at_14) rfl (l' := #[iv x0, iv b, iv (0 : Int32), .unset, .unset, .unset, .unset, .unset, .unset]) rfl k) ?_
    refine own_go (mkF m 68 #[iv x0, iv b, iv (0 : Int32), .unset, .unset, .unset, .unset, .unset, .unset] []) (fun t k => XS.goto X0.here hx rfl (pc0 := 15) (pc' := 68) rfl (hb hby at_15) (by decide) (by decide) k) ?_
    refine own_go (mkF m 69 #[iv x0, iv b, iv (0 : Int32), .unset, .unset, .unset, .unset, .unset, .unset] [(.int (1 : Int32))]) (fun t k => XS.iconst X0.here hx rfl (hb hby at_68) k) ?_
    refine own_go (mkF m 70 #[iv x0, iv b, iv (0 : Int32), iv (1 : Int32), .unset, .unset, .unset, .unset, .unset] []) (fun t k => XS.istoreN X0.here hx rfl (hb hby at_69) rfl (l' := #[iv x0, iv b, iv (0 : Int32), iv (1 : Int32), .unset, .unset, .unset, .unset, .unset]) rfl k) ?_
    refine own_go (mkF m 71 #[iv x0, iv b, iv (0 : Int32), iv (1 : Int32), .unset, .unset, .unset, .unset, .unset] [(.int (0 : Int32))]) (fun t k => XS.iloadN X0.here hx rfl (hb hby at_70) rfl  k) ?_
    refine own_go (mkF m 72 #[iv x0, iv b, iv (0 : Int32), iv (1 : Int32), .unset, .unset, .unset, .unset, .unset] [(.int (2 : Int32)), (.int (0 : Int32))]) (fun t k => XS.iconst X0.here hx rfl (hb hby at_71) k) ?_
    refine own_go (mkF m 160 #[iv x0, iv b, iv (0 : Int32), iv (1 : Int32), .unset, .unset, .unset, .unset, .unset] []) (fun t k => XS.icmpYes X0.here hx rfl (pc0 := 72) (pc' := 160) rfl (hb hby at_72) rfl (tlt (by decide)).1 (by decide) (by decide) k) ?_
    refine own_go (mkF m 161 #[iv x0, iv b, iv (0 : Int32), iv (1 : Int32), .unset, .unset, .unset, .unset, .unset] [(.int b)]) (fun t k => XS.iloadN X0.here hx rfl (hb hby at_160) rfl  k) ?_
    refine own_callP X0 hx hZ (y := (⟨"com/example/vocab_scan/vocabscan/Utf8", "characterSize", "(I)I"⟩ : MethodName)) (fr := 0) (lo := 0) (r := (.int (own_cs b))) hown (hw _ (List.mem_of_getElem? (i := 0) rfl)) (hw _ (List.mem_of_getElem? (i := 1) rfl)) (hw _ (List.mem_of_getElem? (i := 2) rfl)) (hw _ (List.mem_of_getElem? (i := 3) rfl)) (by decide) e0 [(.int b)] [] (own_rm1 l Z a0 hw [] h0 b) 0 (by decide) (by decide) (Nat.le_of_eq rfl) (by decide) (by decide) (by rw [hml]; rfl) (lenOf own_pd0 rfl) rfl (hb hby at_161) ?_
    intro T1 X1 e1
    refine own_go (mkF m 165 #[iv x0, iv b, iv (0 : Int32), iv (1 : Int32), .unset, .unset, .unset, .unset, .unset] [(.int (1 : Int32)), (.int (own_cs b))]) (fun t k => XS.iloadN X1.here hx rfl (hb hby at_164) rfl  k) ?_
    refine own_go (mkF m 168 #[iv x0, iv b, iv (0 : Int32), iv (1 : Int32), .unset, .unset, .unset, .unset, .unset] []) (fun t k => XS.icmpNo X1.here hx rfl (hb hby at_165) rfl (teq (by subst hbi; exact own_road0 bi hc10)).2 k) ?_
    refine own_go (mkF m 169 #[iv x0, iv b, iv (0 : Int32), iv (1 : Int32), .unset, .unset, .unset, .unset, .unset] [(.int (1 : Int32))]) (fun t k => XS.iconst X1.here hx rfl (hb hby at_168) k) ?_
    refine own_go (mkF m 173 #[iv x0, iv b, iv (0 : Int32), iv (1 : Int32), .unset, .unset, .unset, .unset, .unset] [(.int (1 : Int32))]) (fun t k => XS.goto X1.here hx rfl (pc0 := 169) (pc' := 173) rfl (hb hby at_169) (by decide) (by decide) k) ?_
    refine own_retZ X1 hx hlk hret (hb hby at_173) ?_ (by decide) (by decide)
    exact ⟨rfl, Fr.nil _⟩
  · skip
    refine own_go (mkF m 18 #[iv x0, iv b, .unset, .unset, .unset, .unset, .unset, .unset, .unset] []) (fun t k => XS.icmpYes X0.here hx rfl (pc0 := 10) (pc' := 18) rfl (hb hby at_10) rfl (flt hc10).2.1 (by decide) (by decide) k) ?_
    refine own_go (mkF m 19 #[iv x0, iv b, .unset, .unset, .unset, .unset, .unset, .unset, .unset] [(.int b)]) (fun t k => XS.iloadN X0.here hx rfl (hb hby at_18) rfl  k) ?_
    refine own_go (mkF m 22 #[iv x0, iv b, .unset, .unset, .unset, .unset, .unset, .unset, .unset] [(.int (192 : Int32)), (.int b)]) (fun t k => XS.sipush X0.here hx rfl (hb hby at_19) k) ?_
    by_cases hc22 : b < (192 : Int32)
    · skip
      refine own_go (mkF m 25 #[iv x0, iv b, .unset, .unset, .unset, .unset, .unset, .unset, .unset] []) (fun t k => XS.icmpNo X0.here hx rfl (hb hby at_22) rfl (tlt hc22).2.1 k) ?_
      refine own_go (mkF m 26 #[iv x0, iv b, .unset, .unset, .unset, .unset, .unset, .unset, .unset] [(.int (1 : Int32))]) (fun t k => XS.iconst X0.here hx rfl (hb hby at_25) k) ?_
      refine own_go (mkF m 27 #[iv x0, iv b, iv (1 : Int32), .unset, .unset, .unset, .unset, .unset, .unset] []) (fun t k => XS.istoreN X0.here hx rfl (hb hby at_26) rfl (l' := #[iv x0, iv b, iv (1 : Int32), .unset, .unset, .unset, .unset, .unset, .unset]) rfl k) ?_
      refine own_go (mkF m 68 #[iv x0, iv b, iv (1 : Int32), .unset, .unset, .unset, .unset, .unset, .unset] []) (fun t k => XS.goto X0.here hx rfl (pc0 := 27) (pc' := 68) rfl (hb hby at_27) (by decide) (by decide) k) ?_
      refine own_go (mkF m 69 #[iv x0, iv b, iv (1 : Int32), .unset, .unset, .unset, .unset, .unset, .unset] [(.int (1 : Int32))]) (fun t k => XS.iconst X0.here hx rfl (hb hby at_68) k) ?_
      refine own_go (mkF m 70 #[iv x0, iv b, iv (1 : Int32), iv (1 : Int32), .unset, .unset, .unset, .unset, .unset] []) (fun t k => XS.istoreN X0.here hx rfl (hb hby at_69) rfl (l' := #[iv x0, iv b, iv (1 : Int32), iv (1 : Int32), .unset, .unset, .unset, .unset, .unset]) rfl k) ?_
      refine own_go (mkF m 71 #[iv x0, iv b, iv (1 : Int32), iv (1 : Int32), .unset, .unset, .unset, .unset, .unset] [(.int (1 : Int32))]) (fun t k => XS.iloadN X0.here hx rfl (hb hby at_70) rfl  k) ?_
      refine own_go (mkF m 72 #[iv x0, iv b, iv (1 : Int32), iv (1 : Int32), .unset, .unset, .unset, .unset, .unset] [(.int (2 : Int32)), (.int (1 : Int32))]) (fun t k => XS.iconst X0.here hx rfl (hb hby at_71) k) ?_
      refine own_go (mkF m 160 #[iv x0, iv b, iv (1 : Int32), iv (1 : Int32), .unset, .unset, .unset, .unset, .unset] []) (fun t k => XS.icmpYes X0.here hx rfl (pc0 := 72) (pc' := 160) rfl (hb hby at_72) rfl (tlt (by decide)).1 (by decide) (by decide) k) ?_
      refine own_go (mkF m 161 #[iv x0, iv b, iv (1 : Int32), iv (1 : Int32), .unset, .unset, .unset, .unset, .unset] [(.int b)]) (fun t k => XS.iloadN X0.here hx rfl (hb hby at_160) rfl  k) ?_
      refine own_callP X0 hx hZ (y := (⟨"com/example/vocab_scan/vocabscan/Utf8", "characterSize", "(I)I"⟩ : MethodName)) (fr := 0) (lo := 0) (r := (.int (own_cs b))) hown (hw _ (List.mem_of_getElem? (i := 0) rfl)) (hw _ (List.mem_of_getElem? (i := 1) rfl)) (hw _ (List.mem_of_getElem? (i := 2) rfl)) (hw _ (List.mem_of_getElem? (i := 3) rfl)) (by decide) e0 [(.int b)] [] (own_rm1 l Z a0 hw [] h0 b) 0 (by decide) (by decide) (Nat.le_of_eq rfl) (by decide) (by decide) (by rw [hml]; rfl) (lenOf own_pd0 rfl) rfl (hb hby at_161) ?_
      intro T2 X2 e2
      refine own_go (mkF m 165 #[iv x0, iv b, iv (1 : Int32), iv (1 : Int32), .unset, .unset, .unset, .unset, .unset] [(.int (1 : Int32)), (.int (own_cs b))]) (fun t k => XS.iloadN X2.here hx rfl (hb hby at_164) rfl  k) ?_
      refine own_go (mkF m 168 #[iv x0, iv b, iv (1 : Int32), iv (1 : Int32), .unset, .unset, .unset, .unset, .unset] []) (fun t k => XS.icmpNo X2.here hx rfl (hb hby at_165) rfl (teq (by subst hbi; exact own_road1 bi hc10 hc22)).2 k) ?_
      refine own_go (mkF m 169 #[iv x0, iv b, iv (1 : Int32), iv (1 : Int32), .unset, .unset, .unset, .unset, .unset] [(.int (1 : Int32))]) (fun t k => XS.iconst X2.here hx rfl (hb hby at_168) k) ?_
      refine own_go (mkF m 173 #[iv x0, iv b, iv (1 : Int32), iv (1 : Int32), .unset, .unset, .unset, .unset, .unset] [(.int (1 : Int32))]) (fun t k => XS.goto X2.here hx rfl (pc0 := 169) (pc' := 173) rfl (hb hby at_169) (by decide) (by decide) k) ?_
      refine own_retZ X2 hx hlk hret (hb hby at_173) ?_ (by decide) (by decide)
      exact ⟨rfl, Fr.nil _⟩
    · skip
      refine own_go (mkF m 30 #[iv x0, iv b, .unset, .unset, .unset, .unset, .unset, .unset, .unset] []) (fun t k => XS.icmpYes X0.here hx rfl (pc0 := 22) (pc' := 30) rfl (hb hby at_22) rfl (flt hc22).2.1 (by decide) (by decide) k) ?_
      refine own_go (mkF m 31 #[iv x0, iv b, .unset, .unset, .unset, .unset, .unset, .unset, .unset] [(.int b)]) (fun t k => XS.iloadN X0.here hx rfl (hb hby at_30) rfl  k) ?_
      refine own_go (mkF m 34 #[iv x0, iv b, .unset, .unset, .unset, .unset, .unset, .unset, .unset] [(.int (224 : Int32)), (.int b)]) (fun t k => XS.sipush X0.here hx rfl (hb hby at_31) k) ?_
      by_cases hc34 : b < (224 : Int32)
      · skip
        refine own_go (mkF m 37 #[iv x0, iv b, .unset, .unset, .unset, .unset, .unset, .unset, .unset] []) (fun t k => XS.icmpNo X0.here hx rfl (hb hby at_34) rfl (tlt hc34).2.1 k) ?_
        refine own_go (mkF m 38 #[iv x0, iv b, .unset, .unset, .unset, .unset, .unset, .unset, .unset] [(.int (2 : Int32))]) (fun t k => XS.iconst X0.here hx rfl (hb hby at_37) k) ?_
        refine own_go (mkF m 39 #[iv x0, iv b, iv (2 : Int32), .unset, .unset, .unset, .unset, .unset, .unset] []) (fun t k => XS.istoreN X0.here hx rfl (hb hby at_38) rfl (l' := #[iv x0, iv b, iv (2 : Int32), .unset, .unset, .unset, .unset, .unset, .unset]) rfl k) ?_
        refine own_go (mkF m 68 #[iv x0, iv b, iv (2 : Int32), .unset, .unset, .unset, .unset, .unset, .unset] []) (fun t k => XS.goto X0.here hx rfl (pc0 := 39) (pc' := 68) rfl (hb hby at_39) (by decide) (by decide) k) ?_
        refine own_go (mkF m 69 #[iv x0, iv b, iv (2 : Int32), .unset, .unset, .unset, .unset, .unset, .unset] [(.int (1 : Int32))]) (fun t k => XS.iconst X0.here hx rfl (hb hby at_68) k) ?_
        refine own_go (mkF m 70 #[iv x0, iv b, iv (2 : Int32), iv (1 : Int32), .unset, .unset, .unset, .unset, .unset] []) (fun t k => XS.istoreN X0.here hx rfl (hb hby at_69) rfl (l' := #[iv x0, iv b, iv (2 : Int32), iv (1 : Int32), .unset, .unset, .unset, .unset, .unset]) rfl k) ?_
        refine own_go (mkF m 71 #[iv x0, iv b, iv (2 : Int32), iv (1 : Int32), .unset, .unset, .unset, .unset, .unset] [(.int (2 : Int32))]) (fun t k => XS.iloadN X0.here hx rfl (hb hby at_70) rfl  k) ?_
        refine own_go (mkF m 72 #[iv x0, iv b, iv (2 : Int32), iv (1 : Int32), .unset, .unset, .unset, .unset, .unset] [(.int (2 : Int32)), (.int (2 : Int32))]) (fun t k => XS.iconst X0.here hx rfl (hb hby at_71) k) ?_
        refine own_go (mkF m 75 #[iv x0, iv b, iv (2 : Int32), iv (1 : Int32), .unset, .unset, .unset, .unset, .unset] []) (fun t k => XS.icmpNo X0.here hx rfl (hb hby at_72) rfl (flt (by decide)).1 k) ?_
        refine own_go (mkF m 76 #[iv x0, iv b, iv (2 : Int32), iv (1 : Int32), .unset, .unset, .unset, .unset, .unset] [(.int (2 : Int32))]) (fun t k => XS.iloadN X0.here hx rfl (hb hby at_75) rfl  k) ?_
        refine own_go (mkF m 77 #[iv x0, iv b, iv (2 : Int32), iv (1 : Int32), .unset, .unset, .unset, .unset, .unset] [(.int (4 : Int32)), (.int (2 : Int32))]) (fun t k => XS.iconst X0.here hx rfl (hb hby at_76) k) ?_
        refine own_go (mkF m 80 #[iv x0, iv b, iv (2 : Int32), iv (1 : Int32), .unset, .unset, .unset, .unset, .unset] []) (fun t k => XS.icmpNo X0.here hx rfl (hb hby at_77) rfl (flt (by decide)).2.2.1 k) ?_
        refine own_go (mkF m 81 #[iv x0, iv b, iv (2 : Int32), iv (1 : Int32), .unset, .unset, .unset, .unset, .unset] [(.int b)]) (fun t k => XS.iloadN X0.here hx rfl (hb hby at_80) rfl  k) ?_
        refine own_go (mkF m 83 #[iv x0, iv b, iv (2 : Int32), iv (1 : Int32), .unset, .unset, .unset, .unset, .unset] [(.int (127 : Int32)), (.int b)]) (fun t k => XS.bipush X0.here hx rfl (hb hby at_81) k) ?_
        refine own_go (mkF m 84 #[iv x0, iv b, iv (2 : Int32), iv (1 : Int32), .unset, .unset, .unset, .unset, .unset] [(.int (2 : Int32)), (.int (127 : Int32)), (.int b)]) (fun t k => XS.iloadN X0.here hx rfl (hb hby at_83) rfl  k) ?_
        refine own_go (mkF m 85 #[iv x0, iv b, iv (2 : Int32), iv (1 : Int32), .unset, .unset, .unset, .unset, .unset] [(.int (31 : Int32)), (.int b)]) (fun t k => XS.ishr X0.here hx rfl (hb hby at_84) rfl k) ?_
        refine own_go (mkF m 86 #[iv x0, iv b, iv (2 : Int32), iv (1 : Int32), .unset, .unset, .unset, .unset, .unset] [(.int (b &&& (31 : Int32)))]) (fun t k => XS.iand X0.here hx rfl (hb hby at_85) rfl k) ?_
        refine own_go (mkF m 88 #[iv x0, iv b, iv (2 : Int32), iv (1 : Int32), iv (b &&& (31 : Int32)), .unset, .unset, .unset, .unset] []) (fun t k => XS.istore X0.here hx rfl (hb hby at_86) rfl (l' := #[iv x0, iv b, iv (2 : Int32), iv (1 : Int32), iv (b &&& (31 : Int32)), .unset, .unset, .unset, .unset]) rfl k) ?_
        refine own_go (mkF m 90 #[iv x0, iv b, iv (2 : Int32), iv (1 : Int32), iv (b &&& (31 : Int32)), .unset, .unset, .unset, .unset] [(.int (6 : Int32))]) (fun t k => XS.bipush X0.here hx rfl (hb hby at_88) k) ?_
        refine own_go (mkF m 91 #[iv x0, iv b, iv (2 : Int32), iv (1 : Int32), iv (b &&& (31 : Int32)), .unset, .unset, .unset, .unset] [(.int (2 : Int32)), (.int (6 : Int32))]) (fun t k => XS.iloadN X0.here hx rfl (hb hby at_90) rfl  k) ?_
        refine own_go (mkF m 92 #[iv x0, iv b, iv (2 : Int32), iv (1 : Int32), iv (b &&& (31 : Int32)), .unset, .unset, .unset, .unset] [(.int (1 : Int32)), (.int (2 : Int32)), (.int (6 : Int32))]) (fun t k => XS.iconst X0.here hx rfl (hb hby at_91) k) ?_
        refine own_go (mkF m 93 #[iv x0, iv b, iv (2 : Int32), iv (1 : Int32), iv (b &&& (31 : Int32)), .unset, .unset, .unset, .unset] [(.int (1 : Int32)), (.int (6 : Int32))]) (fun t k => XS.isub X0.here hx rfl (hb hby at_92) rfl k) ?_
        refine own_go (mkF m 94 #[iv x0, iv b, iv (2 : Int32), iv (1 : Int32), iv (b &&& (31 : Int32)), .unset, .unset, .unset, .unset] [(.int (6 : Int32))]) (fun t k => XS.imul X0.here hx rfl (hb hby at_93) rfl k) ?_
        refine own_go (mkF m 96 #[iv x0, iv b, iv (2 : Int32), iv (1 : Int32), iv (b &&& (31 : Int32)), iv (6 : Int32), .unset, .unset, .unset] []) (fun t k => XS.istore X0.here hx rfl (hb hby at_94) rfl (l' := #[iv x0, iv b, iv (2 : Int32), iv (1 : Int32), iv (b &&& (31 : Int32)), iv (6 : Int32), .unset, .unset, .unset]) rfl k) ?_
        refine own_go (mkF m 98 #[iv x0, iv b, iv (2 : Int32), iv (1 : Int32), iv (b &&& (31 : Int32)), iv (6 : Int32), .unset, .unset, .unset] [(.int (b &&& (31 : Int32)))]) (fun t k => XS.iload X0.here hx rfl (hb hby at_96) rfl  k) ?_
        refine own_go (mkF m 100 #[iv x0, iv b, iv (2 : Int32), iv (1 : Int32), iv (b &&& (31 : Int32)), iv (6 : Int32), .unset, .unset, .unset] [(.int (6 : Int32)), (.int (b &&& (31 : Int32)))]) (fun t k => XS.iload X0.here hx rfl (hb hby at_98) rfl  k) ?_
        refine own_go (mkF m 101 #[iv x0, iv b, iv (2 : Int32), iv (1 : Int32), iv (b &&& (31 : Int32)), iv (6 : Int32), .unset, .unset, .unset] [(.int ((b &&& (31 : Int32)) <<< ((6 : Int32) &&& 31)))]) (fun t k => XS.ishl X0.here hx rfl (hb hby at_100) rfl k) ?_
        refine own_go (mkF m 103 #[iv x0, iv b, iv (2 : Int32), iv (1 : Int32), iv (b &&& (31 : Int32)), iv (6 : Int32), iv ((b &&& (31 : Int32)) <<< ((6 : Int32) &&& 31)), .unset, .unset] []) (fun t k => XS.istore X0.here hx rfl (hb hby at_101) rfl (l' := #[iv x0, iv b, iv (2 : Int32), iv (1 : Int32), iv (b &&& (31 : Int32)), iv (6 : Int32), iv ((b &&& (31 : Int32)) <<< ((6 : Int32) &&& 31)), .unset, .unset]) rfl k) ?_
        refine own_go (mkF m 105 #[iv x0, iv b, iv (2 : Int32), iv (1 : Int32), iv (b &&& (31 : Int32)), iv (6 : Int32), iv ((b &&& (31 : Int32)) <<< ((6 : Int32) &&& 31)), .unset, .unset] [(.int ((b &&& (31 : Int32)) <<< ((6 : Int32) &&& 31)))]) (fun t k => XS.iload X0.here hx rfl (hb hby at_103) rfl  k) ?_
        refine own_go (mkF m 106 #[iv x0, iv b, iv (2 : Int32), iv (1 : Int32), iv (b &&& (31 : Int32)), iv (6 : Int32), iv ((b &&& (31 : Int32)) <<< ((6 : Int32) &&& 31)), .unset, .unset] [(.int (1 : Int32)), (.int ((b &&& (31 : Int32)) <<< ((6 : Int32) &&& 31)))]) (fun t k => XS.iconst X0.here hx rfl (hb hby at_105) k) ?_
        refine own_go (mkF m 108 #[iv x0, iv b, iv (2 : Int32), iv (1 : Int32), iv (b &&& (31 : Int32)), iv (6 : Int32), iv ((b &&& (31 : Int32)) <<< ((6 : Int32) &&& 31)), .unset, .unset] [(.int (6 : Int32)), (.int (1 : Int32)), (.int ((b &&& (31 : Int32)) <<< ((6 : Int32) &&& 31)))]) (fun t k => XS.iload X0.here hx rfl (hb hby at_106) rfl  k) ?_
        refine own_go (mkF m 109 #[iv x0, iv b, iv (2 : Int32), iv (1 : Int32), iv (b &&& (31 : Int32)), iv (6 : Int32), iv ((b &&& (31 : Int32)) <<< ((6 : Int32) &&& 31)), .unset, .unset] [(.int (64 : Int32)), (.int ((b &&& (31 : Int32)) <<< ((6 : Int32) &&& 31)))]) (fun t k => XS.ishl X0.here hx rfl (hb hby at_108) rfl k) ?_
        refine own_go (mkF m 110 #[iv x0, iv b, iv (2 : Int32), iv (1 : Int32), iv (b &&& (31 : Int32)), iv (6 : Int32), iv ((b &&& (31 : Int32)) <<< ((6 : Int32) &&& 31)), .unset, .unset] [(.int (1 : Int32)), (.int (64 : Int32)), (.int ((b &&& (31 : Int32)) <<< ((6 : Int32) &&& 31)))]) (fun t k => XS.iconst X0.here hx rfl (hb hby at_109) k) ?_
        refine own_go (mkF m 111 #[iv x0, iv b, iv (2 : Int32), iv (1 : Int32), iv (b &&& (31 : Int32)), iv (6 : Int32), iv ((b &&& (31 : Int32)) <<< ((6 : Int32) &&& 31)), .unset, .unset] [(.int (63 : Int32)), (.int ((b &&& (31 : Int32)) <<< ((6 : Int32) &&& 31)))]) (fun t k => XS.isub X0.here hx rfl (hb hby at_110) rfl k) ?_
        refine own_go (mkF m 112 #[iv x0, iv b, iv (2 : Int32), iv (1 : Int32), iv (b &&& (31 : Int32)), iv (6 : Int32), iv ((b &&& (31 : Int32)) <<< ((6 : Int32) &&& 31)), .unset, .unset] [(.int (((b &&& (31 : Int32)) <<< ((6 : Int32) &&& 31)) ||| (63 : Int32)))]) (fun t k => XS.ior X0.here hx rfl (hb hby at_111) rfl k) ?_
        refine own_go (mkF m 114 #[iv x0, iv b, iv (2 : Int32), iv (1 : Int32), iv (b &&& (31 : Int32)), iv (6 : Int32), iv ((b &&& (31 : Int32)) <<< ((6 : Int32) &&& 31)), iv (((b &&& (31 : Int32)) <<< ((6 : Int32) &&& 31)) ||| (63 : Int32)), .unset] []) (fun t k => XS.istore X0.here hx rfl (hb hby at_112) rfl (l' := #[iv x0, iv b, iv (2 : Int32), iv (1 : Int32), iv (b &&& (31 : Int32)), iv (6 : Int32), iv ((b &&& (31 : Int32)) <<< ((6 : Int32) &&& 31)), iv (((b &&& (31 : Int32)) <<< ((6 : Int32) &&& 31)) ||| (63 : Int32)), .unset]) rfl k) ?_
        refine own_go (mkF m 115 #[iv x0, iv b, iv (2 : Int32), iv (1 : Int32), iv (b &&& (31 : Int32)), iv (6 : Int32), iv ((b &&& (31 : Int32)) <<< ((6 : Int32) &&& 31)), iv (((b &&& (31 : Int32)) <<< ((6 : Int32) &&& 31)) ||| (63 : Int32)), .unset] [(.int (2 : Int32))]) (fun t k => XS.iloadN X0.here hx rfl (hb hby at_114) rfl  k) ?_
        refine own_go (mkF m 116 #[iv x0, iv b, iv (2 : Int32), iv (1 : Int32), iv (b &&& (31 : Int32)), iv (6 : Int32), iv ((b &&& (31 : Int32)) <<< ((6 : Int32) &&& 31)), iv (((b &&& (31 : Int32)) <<< ((6 : Int32) &&& 31)) ||| (63 : Int32)), .unset] [(.int (2 : Int32)), (.int (2 : Int32))]) (fun t k => XS.iconst X0.here hx rfl (hb hby at_115) k) ?_
        refine own_go (mkF m 119 #[iv x0, iv b, iv (2 : Int32), iv (1 : Int32), iv (b &&& (31 : Int32)), iv (6 : Int32), iv ((b &&& (31 : Int32)) <<< ((6 : Int32) &&& 31)), iv (((b &&& (31 : Int32)) <<< ((6 : Int32) &&& 31)) ||| (63 : Int32)), .unset] []) (fun t k => XS.icmpNo X0.here hx rfl (hb hby at_116) rfl (teq (by decide)).2 k) ?_
        refine own_go (mkF m 122 #[iv x0, iv b, iv (2 : Int32), iv (1 : Int32), iv (b &&& (31 : Int32)), iv (6 : Int32), iv ((b &&& (31 : Int32)) <<< ((6 : Int32) &&& 31)), iv (((b &&& (31 : Int32)) <<< ((6 : Int32) &&& 31)) ||| (63 : Int32)), .unset] [(.int (128 : Int32))]) (fun t k => XS.sipush X0.here hx rfl (hb hby at_119) k) ?_
        refine own_go (mkF m 124 #[iv x0, iv b, iv (2 : Int32), iv (1 : Int32), iv (b &&& (31 : Int32)), iv (6 : Int32), iv ((b &&& (31 : Int32)) <<< ((6 : Int32) &&& 31)), iv (((b &&& (31 : Int32)) <<< ((6 : Int32) &&& 31)) ||| (63 : Int32)), iv (128 : Int32)] []) (fun t k => XS.istore X0.here hx rfl (hb hby at_122) rfl (l' := #[iv x0, iv b, iv (2 : Int32), iv (1 : Int32), iv (b &&& (31 : Int32)), iv (6 : Int32), iv ((b &&& (31 : Int32)) <<< ((6 : Int32) &&& 31)), iv (((b &&& (31 : Int32)) <<< ((6 : Int32) &&& 31)) ||| (63 : Int32)), iv (128 : Int32)]) rfl k) ?_
        refine own_go (mkF m 144 #[iv x0, iv b, iv (2 : Int32), iv (1 : Int32), iv (b &&& (31 : Int32)), iv (6 : Int32), iv ((b &&& (31 : Int32)) <<< ((6 : Int32) &&& 31)), iv (((b &&& (31 : Int32)) <<< ((6 : Int32) &&& 31)) ||| (63 : Int32)), iv (128 : Int32)] []) (fun t k => XS.goto X0.here hx rfl (pc0 := 124) (pc' := 144) rfl (hb hby at_124) (by decide) (by decide) k) ?_
        refine own_go (mkF m 146 #[iv x0, iv b, iv (2 : Int32), iv (1 : Int32), iv (b &&& (31 : Int32)), iv (6 : Int32), iv ((b &&& (31 : Int32)) <<< ((6 : Int32) &&& 31)), iv (((b &&& (31 : Int32)) <<< ((6 : Int32) &&& 31)) ||| (63 : Int32)), iv (128 : Int32)] [(.int (((b &&& (31 : Int32)) <<< ((6 : Int32) &&& 31)) ||| (63 : Int32)))]) (fun t k => XS.iload X0.here hx rfl (hb hby at_144) rfl  k) ?_
        refine own_go (mkF m 148 #[iv x0, iv b, iv (2 : Int32), iv (1 : Int32), iv (b &&& (31 : Int32)), iv (6 : Int32), iv ((b &&& (31 : Int32)) <<< ((6 : Int32) &&& 31)), iv (((b &&& (31 : Int32)) <<< ((6 : Int32) &&& 31)) ||| (63 : Int32)), iv (128 : Int32)] [(.int (128 : Int32)), (.int (((b &&& (31 : Int32)) <<< ((6 : Int32) &&& 31)) ||| (63 : Int32)))]) (fun t k => XS.iload X0.here hx rfl (hb hby at_146) rfl  k) ?_
        by_cases hc148 : (((b &&& (31 : Int32)) <<< ((6 : Int32) &&& 31)) ||| (63 : Int32)) < (128 : Int32)
        · skip
          refine own_go (mkF m 160 #[iv x0, iv b, iv (2 : Int32), iv (1 : Int32), iv (b &&& (31 : Int32)), iv (6 : Int32), iv ((b &&& (31 : Int32)) <<< ((6 : Int32) &&& 31)), iv (((b &&& (31 : Int32)) <<< ((6 : Int32) &&& 31)) ||| (63 : Int32)), iv (128 : Int32)] []) (fun t k => XS.icmpYes X0.here hx rfl (pc0 := 148) (pc' := 160) rfl (hb hby at_148) rfl (tlt hc148).1 (by decide) (by decide) k) ?_
          refine own_go (mkF m 161 #[iv x0, iv b, iv (2 : Int32), iv (1 : Int32), iv (b &&& (31 : Int32)), iv (6 : Int32), iv ((b &&& (31 : Int32)) <<< ((6 : Int32) &&& 31)), iv (((b &&& (31 : Int32)) <<< ((6 : Int32) &&& 31)) ||| (63 : Int32)), iv (128 : Int32)] [(.int b)]) (fun t k => XS.iloadN X0.here hx rfl (hb hby at_160) rfl  k) ?_
          refine own_callP X0 hx hZ (y := (⟨"com/example/vocab_scan/vocabscan/Utf8", "characterSize", "(I)I"⟩ : MethodName)) (fr := 0) (lo := 0) (r := (.int (own_cs b))) hown (hw _ (List.mem_of_getElem? (i := 0) rfl)) (hw _ (List.mem_of_getElem? (i := 1) rfl)) (hw _ (List.mem_of_getElem? (i := 2) rfl)) (hw _ (List.mem_of_getElem? (i := 3) rfl)) (by decide) e0 [(.int b)] [] (own_rm1 l Z a0 hw [] h0 b) 0 (by decide) (by decide) (Nat.le_of_eq rfl) (by decide) (by decide) (by rw [hml]; rfl) (lenOf own_pd0 rfl) rfl (hb hby at_161) ?_
          intro T3 X3 e3
          refine own_go (mkF m 165 #[iv x0, iv b, iv (2 : Int32), iv (1 : Int32), iv (b &&& (31 : Int32)), iv (6 : Int32), iv ((b &&& (31 : Int32)) <<< ((6 : Int32) &&& 31)), iv (((b &&& (31 : Int32)) <<< ((6 : Int32) &&& 31)) ||| (63 : Int32)), iv (128 : Int32)] [(.int (1 : Int32)), (.int (own_cs b))]) (fun t k => XS.iloadN X3.here hx rfl (hb hby at_164) rfl  k) ?_
          refine own_go (mkF m 168 #[iv x0, iv b, iv (2 : Int32), iv (1 : Int32), iv (b &&& (31 : Int32)), iv (6 : Int32), iv ((b &&& (31 : Int32)) <<< ((6 : Int32) &&& 31)), iv (((b &&& (31 : Int32)) <<< ((6 : Int32) &&& 31)) ||| (63 : Int32)), iv (128 : Int32)] []) (fun t k => XS.icmpNo X3.here hx rfl (hb hby at_165) rfl (teq (by subst hbi; exact own_road2 bi hc10 hc22 hc34 hc148)).2 k) ?_
          refine own_go (mkF m 169 #[iv x0, iv b, iv (2 : Int32), iv (1 : Int32), iv (b &&& (31 : Int32)), iv (6 : Int32), iv ((b &&& (31 : Int32)) <<< ((6 : Int32) &&& 31)), iv (((b &&& (31 : Int32)) <<< ((6 : Int32) &&& 31)) ||| (63 : Int32)), iv (128 : Int32)] [(.int (1 : Int32))]) (fun t k => XS.iconst X3.here hx rfl (hb hby at_168) k) ?_
          refine own_go (mkF m 173 #[iv x0, iv b, iv (2 : Int32), iv (1 : Int32), iv (b &&& (31 : Int32)), iv (6 : Int32), iv ((b &&& (31 : Int32)) <<< ((6 : Int32) &&& 31)), iv (((b &&& (31 : Int32)) <<< ((6 : Int32) &&& 31)) ||| (63 : Int32)), iv (128 : Int32)] [(.int (1 : Int32))]) (fun t k => XS.goto X3.here hx rfl (pc0 := 169) (pc' := 173) rfl (hb hby at_169) (by decide) (by decide) k) ?_
          refine own_retZ X3 hx hlk hret (hb hby at_173) ?_ (by decide) (by decide)
          exact ⟨rfl, Fr.nil _⟩
        · skip
          refine own_go (mkF m 151 #[iv x0, iv b, iv (2 : Int32), iv (1 : Int32), iv (b &&& (31 : Int32)), iv (6 : Int32), iv ((b &&& (31 : Int32)) <<< ((6 : Int32) &&& 31)), iv (((b &&& (31 : Int32)) <<< ((6 : Int32) &&& 31)) ||| (63 : Int32)), iv (128 : Int32)] []) (fun t k => XS.icmpNo X0.here hx rfl (hb hby at_148) rfl (flt hc148).1 k) ?_
          refine own_go (mkF m 153 #[iv x0, iv b, iv (2 : Int32), iv (1 : Int32), iv (b &&& (31 : Int32)), iv (6 : Int32), iv ((b &&& (31 : Int32)) <<< ((6 : Int32) &&& 31)), iv (((b &&& (31 : Int32)) <<< ((6 : Int32) &&& 31)) ||| (63 : Int32)), iv (128 : Int32)] [(.int ((b &&& (31 : Int32)) <<< ((6 : Int32) &&& 31)))]) (fun t k => XS.iload X0.here hx rfl (hb hby at_151) rfl  k) ?_
          refine own_go (mkF m 155 #[iv x0, iv b, iv (2 : Int32), iv (1 : Int32), iv (b &&& (31 : Int32)), iv (6 : Int32), iv ((b &&& (31 : Int32)) <<< ((6 : Int32) &&& 31)), iv (((b &&& (31 : Int32)) <<< ((6 : Int32) &&& 31)) ||| (63 : Int32)), iv (128 : Int32)] [(.int (1114111 : Int32)), (.int ((b &&& (31 : Int32)) <<< ((6 : Int32) &&& 31)))]) (fun t k => X0.ldcInt hx hown (mvT hZ (hw _ (List.mem_of_getElem? (i := 4) rfl))) (g := (mkF m 153 #[iv x0, iv b, iv (2 : Int32), iv (1 : Int32), iv (b &&& (31 : Int32)), iv (6 : Int32), iv ((b &&& (31 : Int32)) <<< ((6 : Int32) &&& 31)), iv (((b &&& (31 : Int32)) <<< ((6 : Int32) &&& 31)) ||| (63 : Int32)), iv (128 : Int32)] [(.int ((b &&& (31 : Int32)) <<< ((6 : Int32) &&& 31)))])) rfl (hb hby at_153) _ k) ?_
          by_cases hc155 : (1114111 : Int32) < ((b &&& (31 : Int32)) <<< ((6 : Int32) &&& 31))
          · skip
            refine own_go (mkF m 160 #[iv x0, iv b, iv (2 : Int32), iv (1 : Int32), iv (b &&& (31 : Int32)), iv (6 : Int32), iv ((b &&& (31 : Int32)) <<< ((6 : Int32) &&& 31)), iv (((b &&& (31 : Int32)) <<< ((6 : Int32) &&& 31)) ||| (63 : Int32)), iv (128 : Int32)] []) (fun t k => XS.icmpYes X0.here hx rfl (pc0 := 155) (pc' := 160) rfl (hb hby at_155) rfl (tlt hc155).2.2.1 (by decide) (by decide) k) ?_
            refine own_go (mkF m 161 #[iv x0, iv b, iv (2 : Int32), iv (1 : Int32), iv (b &&& (31 : Int32)), iv (6 : Int32), iv ((b &&& (31 : Int32)) <<< ((6 : Int32) &&& 31)), iv (((b &&& (31 : Int32)) <<< ((6 : Int32) &&& 31)) ||| (63 : Int32)), iv (128 : Int32)] [(.int b)]) (fun t k => XS.iloadN X0.here hx rfl (hb hby at_160) rfl  k) ?_
            refine own_callP X0 hx hZ (y := (⟨"com/example/vocab_scan/vocabscan/Utf8", "characterSize", "(I)I"⟩ : MethodName)) (fr := 0) (lo := 0) (r := (.int (own_cs b))) hown (hw _ (List.mem_of_getElem? (i := 0) rfl)) (hw _ (List.mem_of_getElem? (i := 1) rfl)) (hw _ (List.mem_of_getElem? (i := 2) rfl)) (hw _ (List.mem_of_getElem? (i := 3) rfl)) (by decide) e0 [(.int b)] [] (own_rm1 l Z a0 hw [] h0 b) 0 (by decide) (by decide) (Nat.le_of_eq rfl) (by decide) (by decide) (by rw [hml]; rfl) (lenOf own_pd0 rfl) rfl (hb hby at_161) ?_
            intro T4 X4 e4
            refine own_go (mkF m 165 #[iv x0, iv b, iv (2 : Int32), iv (1 : Int32), iv (b &&& (31 : Int32)), iv (6 : Int32), iv ((b &&& (31 : Int32)) <<< ((6 : Int32) &&& 31)), iv (((b &&& (31 : Int32)) <<< ((6 : Int32) &&& 31)) ||| (63 : Int32)), iv (128 : Int32)] [(.int (1 : Int32)), (.int (own_cs b))]) (fun t k => XS.iloadN X4.here hx rfl (hb hby at_164) rfl  k) ?_
            refine own_go (mkF m 168 #[iv x0, iv b, iv (2 : Int32), iv (1 : Int32), iv (b &&& (31 : Int32)), iv (6 : Int32), iv ((b &&& (31 : Int32)) <<< ((6 : Int32) &&& 31)), iv (((b &&& (31 : Int32)) <<< ((6 : Int32) &&& 31)) ||| (63 : Int32)), iv (128 : Int32)] []) (fun t k => XS.icmpNo X4.here hx rfl (hb hby at_165) rfl (teq (by subst hbi; exact own_road3 bi hc10 hc22 hc34 hc148 hc155)).2 k) ?_
            refine own_go (mkF m 169 #[iv x0, iv b, iv (2 : Int32), iv (1 : Int32), iv (b &&& (31 : Int32)), iv (6 : Int32), iv ((b &&& (31 : Int32)) <<< ((6 : Int32) &&& 31)), iv (((b &&& (31 : Int32)) <<< ((6 : Int32) &&& 31)) ||| (63 : Int32)), iv (128 : Int32)] [(.int (1 : Int32))]) (fun t k => XS.iconst X4.here hx rfl (hb hby at_168) k) ?_
            refine own_go (mkF m 173 #[iv x0, iv b, iv (2 : Int32), iv (1 : Int32), iv (b &&& (31 : Int32)), iv (6 : Int32), iv ((b &&& (31 : Int32)) <<< ((6 : Int32) &&& 31)), iv (((b &&& (31 : Int32)) <<< ((6 : Int32) &&& 31)) ||| (63 : Int32)), iv (128 : Int32)] [(.int (1 : Int32))]) (fun t k => XS.goto X4.here hx rfl (pc0 := 169) (pc' := 173) rfl (hb hby at_169) (by decide) (by decide) k) ?_
            refine own_retZ X4 hx hlk hret (hb hby at_173) ?_ (by decide) (by decide)
            exact ⟨rfl, Fr.nil _⟩
          · skip
            refine own_go (mkF m 158 #[iv x0, iv b, iv (2 : Int32), iv (1 : Int32), iv (b &&& (31 : Int32)), iv (6 : Int32), iv ((b &&& (31 : Int32)) <<< ((6 : Int32) &&& 31)), iv (((b &&& (31 : Int32)) <<< ((6 : Int32) &&& 31)) ||| (63 : Int32)), iv (128 : Int32)] []) (fun t k => XS.icmpNo X0.here hx rfl (hb hby at_155) rfl (flt hc155).2.2.1 k) ?_
            refine own_go (mkF m 159 #[iv x0, iv b, iv (2 : Int32), iv (1 : Int32), iv (b &&& (31 : Int32)), iv (6 : Int32), iv ((b &&& (31 : Int32)) <<< ((6 : Int32) &&& 31)), iv (((b &&& (31 : Int32)) <<< ((6 : Int32) &&& 31)) ||| (63 : Int32)), iv (128 : Int32)] [(.int (2 : Int32))]) (fun t k => XS.iloadN X0.here hx rfl (hb hby at_158) rfl  k) ?_
            refine own_go (mkF m 160 #[iv x0, iv b, iv (2 : Int32), iv (2 : Int32), iv (b &&& (31 : Int32)), iv (6 : Int32), iv ((b &&& (31 : Int32)) <<< ((6 : Int32) &&& 31)), iv (((b &&& (31 : Int32)) <<< ((6 : Int32) &&& 31)) ||| (63 : Int32)), iv (128 : Int32)] []) (fun t k => XS.istoreN X0.here hx rfl (hb hby at_159) rfl (l' := #[iv x0, iv b, iv (2 : Int32), iv (2 : Int32), iv (b &&& (31 : Int32)), iv (6 : Int32), iv ((b &&& (31 : Int32)) <<< ((6 : Int32) &&& 31)), iv (((b &&& (31 : Int32)) <<< ((6 : Int32) &&& 31)) ||| (63 : Int32)), iv (128 : Int32)]) rfl k) ?_
            refine own_go (mkF m 161 #[iv x0, iv b, iv (2 : Int32), iv (2 : Int32), iv (b &&& (31 : Int32)), iv (6 : Int32), iv ((b &&& (31 : Int32)) <<< ((6 : Int32) &&& 31)), iv (((b &&& (31 : Int32)) <<< ((6 : Int32) &&& 31)) ||| (63 : Int32)), iv (128 : Int32)] [(.int b)]) (fun t k => XS.iloadN X0.here hx rfl (hb hby at_160) rfl  k) ?_
            refine own_callP X0 hx hZ (y := (⟨"com/example/vocab_scan/vocabscan/Utf8", "characterSize", "(I)I"⟩ : MethodName)) (fr := 0) (lo := 0) (r := (.int (own_cs b))) hown (hw _ (List.mem_of_getElem? (i := 0) rfl)) (hw _ (List.mem_of_getElem? (i := 1) rfl)) (hw _ (List.mem_of_getElem? (i := 2) rfl)) (hw _ (List.mem_of_getElem? (i := 3) rfl)) (by decide) e0 [(.int b)] [] (own_rm1 l Z a0 hw [] h0 b) 0 (by decide) (by decide) (Nat.le_of_eq rfl) (by decide) (by decide) (by rw [hml]; rfl) (lenOf own_pd0 rfl) rfl (hb hby at_161) ?_
            intro T5 X5 e5
            refine own_go (mkF m 165 #[iv x0, iv b, iv (2 : Int32), iv (2 : Int32), iv (b &&& (31 : Int32)), iv (6 : Int32), iv ((b &&& (31 : Int32)) <<< ((6 : Int32) &&& 31)), iv (((b &&& (31 : Int32)) <<< ((6 : Int32) &&& 31)) ||| (63 : Int32)), iv (128 : Int32)] [(.int (2 : Int32)), (.int (own_cs b))]) (fun t k => XS.iloadN X5.here hx rfl (hb hby at_164) rfl  k) ?_
            refine own_go (mkF m 168 #[iv x0, iv b, iv (2 : Int32), iv (2 : Int32), iv (b &&& (31 : Int32)), iv (6 : Int32), iv ((b &&& (31 : Int32)) <<< ((6 : Int32) &&& 31)), iv (((b &&& (31 : Int32)) <<< ((6 : Int32) &&& 31)) ||| (63 : Int32)), iv (128 : Int32)] []) (fun t k => XS.icmpNo X5.here hx rfl (hb hby at_165) rfl (teq (by subst hbi; exact own_road4 bi hc10 hc22 hc34 hc148 hc155)).2 k) ?_
            refine own_go (mkF m 169 #[iv x0, iv b, iv (2 : Int32), iv (2 : Int32), iv (b &&& (31 : Int32)), iv (6 : Int32), iv ((b &&& (31 : Int32)) <<< ((6 : Int32) &&& 31)), iv (((b &&& (31 : Int32)) <<< ((6 : Int32) &&& 31)) ||| (63 : Int32)), iv (128 : Int32)] [(.int (1 : Int32))]) (fun t k => XS.iconst X5.here hx rfl (hb hby at_168) k) ?_
            refine own_go (mkF m 173 #[iv x0, iv b, iv (2 : Int32), iv (2 : Int32), iv (b &&& (31 : Int32)), iv (6 : Int32), iv ((b &&& (31 : Int32)) <<< ((6 : Int32) &&& 31)), iv (((b &&& (31 : Int32)) <<< ((6 : Int32) &&& 31)) ||| (63 : Int32)), iv (128 : Int32)] [(.int (1 : Int32))]) (fun t k => XS.goto X5.here hx rfl (pc0 := 169) (pc' := 173) rfl (hb hby at_169) (by decide) (by decide) k) ?_
            refine own_retZ X5 hx hlk hret (hb hby at_173) ?_ (by decide) (by decide)
            exact ⟨rfl, Fr.nil _⟩
      · skip
        refine own_go (mkF m 42 #[iv x0, iv b, .unset, .unset, .unset, .unset, .unset, .unset, .unset] []) (fun t k => XS.icmpYes X0.here hx rfl (pc0 := 34) (pc' := 42) rfl (hb hby at_34) rfl (flt hc34).2.1 (by decide) (by decide) k) ?_
        refine own_go (mkF m 43 #[iv x0, iv b, .unset, .unset, .unset, .unset, .unset, .unset, .unset] [(.int b)]) (fun t k => XS.iloadN X0.here hx rfl (hb hby at_42) rfl  k) ?_
        refine own_go (mkF m 46 #[iv x0, iv b, .unset, .unset, .unset, .unset, .unset, .unset, .unset] [(.int (240 : Int32)), (.int b)]) (fun t k => XS.sipush X0.here hx rfl (hb hby at_43) k) ?_
        by_cases hc46 : b < (240 : Int32)
        · skip
          refine own_go (mkF m 49 #[iv x0, iv b, .unset, .unset, .unset, .unset, .unset, .unset, .unset] []) (fun t k => XS.icmpNo X0.here hx rfl (hb hby at_46) rfl (tlt hc46).2.1 k) ?_
          refine own_go (mkF m 50 #[iv x0, iv b, .unset, .unset, .unset, .unset, .unset, .unset, .unset] [(.int (3 : Int32))]) (fun t k => XS.iconst X0.here hx rfl (hb hby at_49) k) ?_
          refine own_go (mkF m 51 #[iv x0, iv b, iv (3 : Int32), .unset, .unset, .unset, .unset, .unset, .unset] []) (fun t k => XS.istoreN X0.here hx rfl (hb hby at_50) rfl (l' := #[iv x0, iv b, iv (3 : Int32), .unset, .unset, .unset, .unset, .unset, .unset]) rfl k) ?_
          refine own_go (mkF m 68 #[iv x0, iv b, iv (3 : Int32), .unset, .unset, .unset, .unset, .unset, .unset] []) (fun t k => XS.goto X0.here hx rfl (pc0 := 51) (pc' := 68) rfl (hb hby at_51) (by decide) (by decide) k) ?_
          refine own_go (mkF m 69 #[iv x0, iv b, iv (3 : Int32), .unset, .unset, .unset, .unset, .unset, .unset] [(.int (1 : Int32))]) (fun t k => XS.iconst X0.here hx rfl (hb hby at_68) k) ?_
          refine own_go (mkF m 70 #[iv x0, iv b, iv (3 : Int32), iv (1 : Int32), .unset, .unset, .unset, .unset, .unset] []) (fun t k => XS.istoreN X0.here hx rfl (hb hby at_69) rfl (l' := #[iv x0, iv b, iv (3 : Int32), iv (1 : Int32), .unset, .unset, .unset, .unset, .unset]) rfl k) ?_
          refine own_go (mkF m 71 #[iv x0, iv b, iv (3 : Int32), iv (1 : Int32), .unset, .unset, .unset, .unset, .unset] [(.int (3 : Int32))]) (fun t k => XS.iloadN X0.here hx rfl (hb hby at_70) rfl  k) ?_
          refine own_go (mkF m 72 #[iv x0, iv b, iv (3 : Int32), iv (1 : Int32), .unset, .unset, .unset, .unset, .unset] [(.int (2 : Int32)), (.int (3 : Int32))]) (fun t k => XS.iconst X0.here hx rfl (hb hby at_71) k) ?_
          refine own_go (mkF m 75 #[iv x0, iv b, iv (3 : Int32), iv (1 : Int32), .unset, .unset, .unset, .unset, .unset] []) (fun t k => XS.icmpNo X0.here hx rfl (hb hby at_72) rfl (flt (by decide)).1 k) ?_
          refine own_go (mkF m 76 #[iv x0, iv b, iv (3 : Int32), iv (1 : Int32), .unset, .unset, .unset, .unset, .unset] [(.int (3 : Int32))]) (fun t k => XS.iloadN X0.here hx rfl (hb hby at_75) rfl  k) ?_
          refine own_go (mkF m 77 #[iv x0, iv b, iv (3 : Int32), iv (1 : Int32), .unset, .unset, .unset, .unset, .unset] [(.int (4 : Int32)), (.int (3 : Int32))]) (fun t k => XS.iconst X0.here hx rfl (hb hby at_76) k) ?_
          refine own_go (mkF m 80 #[iv x0, iv b, iv (3 : Int32), iv (1 : Int32), .unset, .unset, .unset, .unset, .unset] []) (fun t k => XS.icmpNo X0.here hx rfl (hb hby at_77) rfl (flt (by decide)).2.2.1 k) ?_
          refine own_go (mkF m 81 #[iv x0, iv b, iv (3 : Int32), iv (1 : Int32), .unset, .unset, .unset, .unset, .unset] [(.int b)]) (fun t k => XS.iloadN X0.here hx rfl (hb hby at_80) rfl  k) ?_
          refine own_go (mkF m 83 #[iv x0, iv b, iv (3 : Int32), iv (1 : Int32), .unset, .unset, .unset, .unset, .unset] [(.int (127 : Int32)), (.int b)]) (fun t k => XS.bipush X0.here hx rfl (hb hby at_81) k) ?_
          refine own_go (mkF m 84 #[iv x0, iv b, iv (3 : Int32), iv (1 : Int32), .unset, .unset, .unset, .unset, .unset] [(.int (3 : Int32)), (.int (127 : Int32)), (.int b)]) (fun t k => XS.iloadN X0.here hx rfl (hb hby at_83) rfl  k) ?_
          refine own_go (mkF m 85 #[iv x0, iv b, iv (3 : Int32), iv (1 : Int32), .unset, .unset, .unset, .unset, .unset] [(.int (15 : Int32)), (.int b)]) (fun t k => XS.ishr X0.here hx rfl (hb hby at_84) rfl k) ?_
          refine own_go (mkF m 86 #[iv x0, iv b, iv (3 : Int32), iv (1 : Int32), .unset, .unset, .unset, .unset, .unset] [(.int (b &&& (15 : Int32)))]) (fun t k => XS.iand X0.here hx rfl (hb hby at_85) rfl k) ?_
          refine own_go (mkF m 88 #[iv x0, iv b, iv (3 : Int32), iv (1 : Int32), iv (b &&& (15 : Int32)), .unset, .unset, .unset, .unset] []) (fun t k => XS.istore X0.here hx rfl (hb hby at_86) rfl (l' := #[iv x0, iv b, iv (3 : Int32), iv (1 : Int32), iv (b &&& (15 : Int32)), .unset, .unset, .unset, .unset]) rfl k) ?_
          refine own_go (mkF m 90 #[iv x0, iv b, iv (3 : Int32), iv (1 : Int32), iv (b &&& (15 : Int32)), .unset, .unset, .unset, .unset] [(.int (6 : Int32))]) (fun t k => XS.bipush X0.here hx rfl (hb hby at_88) k) ?_
          refine own_go (mkF m 91 #[iv x0, iv b, iv (3 : Int32), iv (1 : Int32), iv (b &&& (15 : Int32)), .unset, .unset, .unset, .unset] [(.int (3 : Int32)), (.int (6 : Int32))]) (fun t k => XS.iloadN X0.here hx rfl (hb hby at_90) rfl  k) ?_
          refine own_go (mkF m 92 #[iv x0, iv b, iv (3 : Int32), iv (1 : Int32), iv (b &&& (15 : Int32)), .unset, .unset, .unset, .unset] [(.int (1 : Int32)), (.int (3 : Int32)), (.int (6 : Int32))]) (fun t k => XS.iconst X0.here hx rfl (hb hby at_91) k) ?_
          refine own_go (mkF m 93 #[iv x0, iv b, iv (3 : Int32), iv (1 : Int32), iv (b &&& (15 : Int32)), .unset, .unset, .unset, .unset] [(.int (2 : Int32)), (.int (6 : Int32))]) (fun t k => XS.isub X0.here hx rfl (hb hby at_92) rfl k) ?_
          refine own_go (mkF m 94 #[iv x0, iv b, iv (3 : Int32), iv (1 : Int32), iv (b &&& (15 : Int32)), .unset, .unset, .unset, .unset] [(.int (12 : Int32))]) (fun t k => XS.imul X0.here hx rfl (hb hby at_93) rfl k) ?_
          refine own_go (mkF m 96 #[iv x0, iv b, iv (3 : Int32), iv (1 : Int32), iv (b &&& (15 : Int32)), iv (12 : Int32), .unset, .unset, .unset] []) (fun t k => XS.istore X0.here hx rfl (hb hby at_94) rfl (l' := #[iv x0, iv b, iv (3 : Int32), iv (1 : Int32), iv (b &&& (15 : Int32)), iv (12 : Int32), .unset, .unset, .unset]) rfl k) ?_
          refine own_go (mkF m 98 #[iv x0, iv b, iv (3 : Int32), iv (1 : Int32), iv (b &&& (15 : Int32)), iv (12 : Int32), .unset, .unset, .unset] [(.int (b &&& (15 : Int32)))]) (fun t k => XS.iload X0.here hx rfl (hb hby at_96) rfl  k) ?_
          refine own_go (mkF m 100 #[iv x0, iv b, iv (3 : Int32), iv (1 : Int32), iv (b &&& (15 : Int32)), iv (12 : Int32), .unset, .unset, .unset] [(.int (12 : Int32)), (.int (b &&& (15 : Int32)))]) (fun t k => XS.iload X0.here hx rfl (hb hby at_98) rfl  k) ?_
          refine own_go (mkF m 101 #[iv x0, iv b, iv (3 : Int32), iv (1 : Int32), iv (b &&& (15 : Int32)), iv (12 : Int32), .unset, .unset, .unset] [(.int ((b &&& (15 : Int32)) <<< ((12 : Int32) &&& 31)))]) (fun t k => XS.ishl X0.here hx rfl (hb hby at_100) rfl k) ?_
          refine own_go (mkF m 103 #[iv x0, iv b, iv (3 : Int32), iv (1 : Int32), iv (b &&& (15 : Int32)), iv (12 : Int32), iv ((b &&& (15 : Int32)) <<< ((12 : Int32) &&& 31)), .unset, .unset] []) (fun t k => XS.istore X0.here hx rfl (hb hby at_101) rfl (l' := #[iv x0, iv b, iv (3 : Int32), iv (1 : Int32), iv (b &&& (15 : Int32)), iv (12 : Int32), iv ((b &&& (15 : Int32)) <<< ((12 : Int32) &&& 31)), .unset, .unset]) rfl k) ?_
          refine own_go (mkF m 105 #[iv x0, iv b, iv (3 : Int32), iv (1 : Int32), iv (b &&& (15 : Int32)), iv (12 : Int32), iv ((b &&& (15 : Int32)) <<< ((12 : Int32) &&& 31)), .unset, .unset] [(.int ((b &&& (15 : Int32)) <<< ((12 : Int32) &&& 31)))]) (fun t k => XS.iload X0.here hx rfl (hb hby at_103) rfl  k) ?_
          refine own_go (mkF m 106 #[iv x0, iv b, iv (3 : Int32), iv (1 : Int32), iv (b &&& (15 : Int32)), iv (12 : Int32), iv ((b &&& (15 : Int32)) <<< ((12 : Int32) &&& 31)), .unset, .unset] [(.int (1 : Int32)), (.int ((b &&& (15 : Int32)) <<< ((12 : Int32) &&& 31)))]) (fun t k => XS.iconst X0.here hx rfl (hb hby at_105) k) ?_
          refine own_go (mkF m 108 #[iv x0, iv b, iv (3 : Int32), iv (1 : Int32), iv (b &&& (15 : Int32)), iv (12 : Int32), iv ((b &&& (15 : Int32)) <<< ((12 : Int32) &&& 31)), .unset, .unset] [(.int (12 : Int32)), (.int (1 : Int32)), (.int ((b &&& (15 : Int32)) <<< ((12 : Int32) &&& 31)))]) (fun t k => XS.iload X0.here hx rfl (hb hby at_106) rfl  k) ?_
          refine own_go (mkF m 109 #[iv x0, iv b, iv (3 : Int32), iv (1 : Int32), iv (b &&& (15 : Int32)), iv (12 : Int32), iv ((b &&& (15 : Int32)) <<< ((12 : Int32) &&& 31)), .unset, .unset] [(.int (4096 : Int32)), (.int ((b &&& (15 : Int32)) <<< ((12 : Int32) &&& 31)))]) (fun t k => XS.ishl X0.here hx rfl (hb hby at_108) rfl k) ?_
          refine own_go (mkF m 110 #[iv x0, iv b, iv (3 : Int32), iv (1 : Int32), iv (b &&& (15 : Int32)), iv (12 : Int32), iv ((b &&& (15 : Int32)) <<< ((12 : Int32) &&& 31)), .unset, .unset] [(.int (1 : Int32)), (.int (4096 : Int32)), (.int ((b &&& (15 : Int32)) <<< ((12 : Int32) &&& 31)))]) (fun t k => XS.iconst X0.here hx rfl (hb hby at_109) k) ?_
          refine own_go (mkF m 111 #[iv x0, iv b, iv (3 : Int32), iv (1 : Int32), iv (b &&& (15 : Int32)), iv (12 : Int32), iv ((b &&& (15 : Int32)) <<< ((12 : Int32) &&& 31)), .unset, .unset] [(.int (4095 : Int32)), (.int ((b &&& (15 : Int32)) <<< ((12 : Int32) &&& 31)))]) (fun t k => XS.isub X0.here hx rfl (hb hby at_110) rfl k) ?_
          refine own_go (mkF m 112 #[iv x0, iv b, iv (3 : Int32), iv (1 : Int32), iv (b &&& (15 : Int32)), iv (12 : Int32), iv ((b &&& (15 : Int32)) <<< ((12 : Int32) &&& 31)), .unset, .unset] [(.int (((b &&& (15 : Int32)) <<< ((12 : Int32) &&& 31)) ||| (4095 : Int32)))]) (fun t k => XS.ior X0.here hx rfl (hb hby at_111) rfl k) ?_
          refine own_go (mkF m 114 #[iv x0, iv b, iv (3 : Int32), iv (1 : Int32), iv (b &&& (15 : Int32)), iv (12 : Int32), iv ((b &&& (15 : Int32)) <<< ((12 : Int32) &&& 31)), iv (((b &&& (15 : Int32)) <<< ((12 : Int32) &&& 31)) ||| (4095 : Int32)), .unset] []) (fun t k => XS.istore X0.here hx rfl (hb hby at_112) rfl (l' := #[iv x0, iv b, iv (3 : Int32), iv (1 : Int32), iv (b &&& (15 : Int32)), iv (12 : Int32), iv ((b &&& (15 : Int32)) <<< ((12 : Int32) &&& 31)), iv (((b &&& (15 : Int32)) <<< ((12 : Int32) &&& 31)) ||| (4095 : Int32)), .unset]) rfl k) ?_
          refine own_go (mkF m 115 #[iv x0, iv b, iv (3 : Int32), iv (1 : Int32), iv (b &&& (15 : Int32)), iv (12 : Int32), iv ((b &&& (15 : Int32)) <<< ((12 : Int32) &&& 31)), iv (((b &&& (15 : Int32)) <<< ((12 : Int32) &&& 31)) ||| (4095 : Int32)), .unset] [(.int (3 : Int32))]) (fun t k => XS.iloadN X0.here hx rfl (hb hby at_114) rfl  k) ?_
          refine own_go (mkF m 116 #[iv x0, iv b, iv (3 : Int32), iv (1 : Int32), iv (b &&& (15 : Int32)), iv (12 : Int32), iv ((b &&& (15 : Int32)) <<< ((12 : Int32) &&& 31)), iv (((b &&& (15 : Int32)) <<< ((12 : Int32) &&& 31)) ||| (4095 : Int32)), .unset] [(.int (2 : Int32)), (.int (3 : Int32))]) (fun t k => XS.iconst X0.here hx rfl (hb hby at_115) k) ?_
          refine own_go (mkF m 127 #[iv x0, iv b, iv (3 : Int32), iv (1 : Int32), iv (b &&& (15 : Int32)), iv (12 : Int32), iv ((b &&& (15 : Int32)) <<< ((12 : Int32) &&& 31)), iv (((b &&& (15 : Int32)) <<< ((12 : Int32) &&& 31)) ||| (4095 : Int32)), .unset] []) (fun t k => XS.icmpYes X0.here hx rfl (pc0 := 116) (pc' := 127) rfl (hb hby at_116) rfl (feq (by decide)).2 (by decide) (by decide) k) ?_
          refine own_go (mkF m 128 #[iv x0, iv b, iv (3 : Int32), iv (1 : Int32), iv (b &&& (15 : Int32)), iv (12 : Int32), iv ((b &&& (15 : Int32)) <<< ((12 : Int32) &&& 31)), iv (((b &&& (15 : Int32)) <<< ((12 : Int32) &&& 31)) ||| (4095 : Int32)), .unset] [(.int (3 : Int32))]) (fun t k => XS.iloadN X0.here hx rfl (hb hby at_127) rfl  k) ?_
          refine own_go (mkF m 129 #[iv x0, iv b, iv (3 : Int32), iv (1 : Int32), iv (b &&& (15 : Int32)), iv (12 : Int32), iv ((b &&& (15 : Int32)) <<< ((12 : Int32) &&& 31)), iv (((b &&& (15 : Int32)) <<< ((12 : Int32) &&& 31)) ||| (4095 : Int32)), .unset] [(.int (3 : Int32)), (.int (3 : Int32))]) (fun t k => XS.iconst X0.here hx rfl (hb hby at_128) k) ?_
          refine own_go (mkF m 132 #[iv x0, iv b, iv (3 : Int32), iv (1 : Int32), iv (b &&& (15 : Int32)), iv (12 : Int32), iv ((b &&& (15 : Int32)) <<< ((12 : Int32) &&& 31)), iv (((b &&& (15 : Int32)) <<< ((12 : Int32) &&& 31)) ||| (4095 : Int32)), .unset] []) (fun t k => XS.icmpNo X0.here hx rfl (hb hby at_129) rfl (teq (by decide)).2 k) ?_
          refine own_go (mkF m 135 #[iv x0, iv b, iv (3 : Int32), iv (1 : Int32), iv (b &&& (15 : Int32)), iv (12 : Int32), iv ((b &&& (15 : Int32)) <<< ((12 : Int32) &&& 31)), iv (((b &&& (15 : Int32)) <<< ((12 : Int32) &&& 31)) ||| (4095 : Int32)), .unset] [(.int (2048 : Int32))]) (fun t k => XS.sipush X0.here hx rfl (hb hby at_132) k) ?_
          refine own_go (mkF m 137 #[iv x0, iv b, iv (3 : Int32), iv (1 : Int32), iv (b &&& (15 : Int32)), iv (12 : Int32), iv ((b &&& (15 : Int32)) <<< ((12 : Int32) &&& 31)), iv (((b &&& (15 : Int32)) <<< ((12 : Int32) &&& 31)) ||| (4095 : Int32)), iv (2048 : Int32)] []) (fun t k => XS.istore X0.here hx rfl (hb hby at_135) rfl (l' := #[iv x0, iv b, iv (3 : Int32), iv (1 : Int32), iv (b &&& (15 : Int32)), iv (12 : Int32), iv ((b &&& (15 : Int32)) <<< ((12 : Int32) &&& 31)), iv (((b &&& (15 : Int32)) <<< ((12 : Int32) &&& 31)) ||| (4095 : Int32)), iv (2048 : Int32)]) rfl k) ?_
          refine own_go (mkF m 144 #[iv x0, iv b, iv (3 : Int32), iv (1 : Int32), iv (b &&& (15 : Int32)), iv (12 : Int32), iv ((b &&& (15 : Int32)) <<< ((12 : Int32) &&& 31)), iv (((b &&& (15 : Int32)) <<< ((12 : Int32) &&& 31)) ||| (4095 : Int32)), iv (2048 : Int32)] []) (fun t k => XS.goto X0.here hx rfl (pc0 := 137) (pc' := 144) rfl (hb hby at_137) (by decide) (by decide) k) ?_
          refine own_go (mkF m 146 #[iv x0, iv b, iv (3 : Int32), iv (1 : Int32), iv (b &&& (15 : Int32)), iv (12 : Int32), iv ((b &&& (15 : Int32)) <<< ((12 : Int32) &&& 31)), iv (((b &&& (15 : Int32)) <<< ((12 : Int32) &&& 31)) ||| (4095 : Int32)), iv (2048 : Int32)] [(.int (((b &&& (15 : Int32)) <<< ((12 : Int32) &&& 31)) ||| (4095 : Int32)))]) (fun t k => XS.iload X0.here hx rfl (hb hby at_144) rfl  k) ?_
          refine own_go (mkF m 148 #[iv x0, iv b, iv (3 : Int32), iv (1 : Int32), iv (b &&& (15 : Int32)), iv (12 : Int32), iv ((b &&& (15 : Int32)) <<< ((12 : Int32) &&& 31)), iv (((b &&& (15 : Int32)) <<< ((12 : Int32) &&& 31)) ||| (4095 : Int32)), iv (2048 : Int32)] [(.int (2048 : Int32)), (.int (((b &&& (15 : Int32)) <<< ((12 : Int32) &&& 31)) ||| (4095 : Int32)))]) (fun t k => XS.iload X0.here hx rfl (hb hby at_146) rfl  k) ?_
          by_cases hc148 : (((b &&& (15 : Int32)) <<< ((12 : Int32) &&& 31)) ||| (4095 : Int32)) < (2048 : Int32)
          · skip
            refine own_go (mkF m 160 #[iv x0, iv b, iv (3 : Int32), iv (1 : Int32), iv (b &&& (15 : Int32)), iv (12 : Int32), iv ((b &&& (15 : Int32)) <<< ((12 : Int32) &&& 31)), iv (((b &&& (15 : Int32)) <<< ((12 : Int32) &&& 31)) ||| (4095 : Int32)), iv (2048 : Int32)] []) (fun t k => XS.icmpYes X0.here hx rfl (pc0 := 148) (pc' := 160) rfl (hb hby at_148) rfl (tlt hc148).1 (by decide) (by decide) k) ?_
            refine own_go (mkF m 161 #[iv x0, iv b, iv (3 : Int32), iv (1 : Int32), iv (b &&& (15 : Int32)), iv (12 : Int32), iv ((b &&& (15 : Int32)) <<< ((12 : Int32) &&& 31)), iv (((b &&& (15 : Int32)) <<< ((12 : Int32) &&& 31)) ||| (4095 : Int32)), iv (2048 : Int32)] [(.int b)]) (fun t k => XS.iloadN X0.here hx rfl (hb hby at_160) rfl  k) ?_
            refine own_callP X0 hx hZ (y := (⟨"com/example/vocab_scan/vocabscan/Utf8", "characterSize", "(I)I"⟩ : MethodName)) (fr := 0) (lo := 0) (r := (.int (own_cs b))) hown (hw _ (List.mem_of_getElem? (i := 0) rfl)) (hw _ (List.mem_of_getElem? (i := 1) rfl)) (hw _ (List.mem_of_getElem? (i := 2) rfl)) (hw _ (List.mem_of_getElem? (i := 3) rfl)) (by decide) e0 [(.int b)] [] (own_rm1 l Z a0 hw [] h0 b) 0 (by decide) (by decide) (Nat.le_of_eq rfl) (by decide) (by decide) (by rw [hml]; rfl) (lenOf own_pd0 rfl) rfl (hb hby at_161) ?_
            intro T6 X6 e6
            refine own_go (mkF m 165 #[iv x0, iv b, iv (3 : Int32), iv (1 : Int32), iv (b &&& (15 : Int32)), iv (12 : Int32), iv ((b &&& (15 : Int32)) <<< ((12 : Int32) &&& 31)), iv (((b &&& (15 : Int32)) <<< ((12 : Int32) &&& 31)) ||| (4095 : Int32)), iv (2048 : Int32)] [(.int (1 : Int32)), (.int (own_cs b))]) (fun t k => XS.iloadN X6.here hx rfl (hb hby at_164) rfl  k) ?_
            refine own_go (mkF m 168 #[iv x0, iv b, iv (3 : Int32), iv (1 : Int32), iv (b &&& (15 : Int32)), iv (12 : Int32), iv ((b &&& (15 : Int32)) <<< ((12 : Int32) &&& 31)), iv (((b &&& (15 : Int32)) <<< ((12 : Int32) &&& 31)) ||| (4095 : Int32)), iv (2048 : Int32)] []) (fun t k => XS.icmpNo X6.here hx rfl (hb hby at_165) rfl (teq (by subst hbi; exact own_road5 bi hc10 hc22 hc34 hc46 hc148)).2 k) ?_
            refine own_go (mkF m 169 #[iv x0, iv b, iv (3 : Int32), iv (1 : Int32), iv (b &&& (15 : Int32)), iv (12 : Int32), iv ((b &&& (15 : Int32)) <<< ((12 : Int32) &&& 31)), iv (((b &&& (15 : Int32)) <<< ((12 : Int32) &&& 31)) ||| (4095 : Int32)), iv (2048 : Int32)] [(.int (1 : Int32))]) (fun t k => XS.iconst X6.here hx rfl (hb hby at_168) k) ?_
            refine own_go (mkF m 173 #[iv x0, iv b, iv (3 : Int32), iv (1 : Int32), iv (b &&& (15 : Int32)), iv (12 : Int32), iv ((b &&& (15 : Int32)) <<< ((12 : Int32) &&& 31)), iv (((b &&& (15 : Int32)) <<< ((12 : Int32) &&& 31)) ||| (4095 : Int32)), iv (2048 : Int32)] [(.int (1 : Int32))]) (fun t k => XS.goto X6.here hx rfl (pc0 := 169) (pc' := 173) rfl (hb hby at_169) (by decide) (by decide) k) ?_
            refine own_retZ X6 hx hlk hret (hb hby at_173) ?_ (by decide) (by decide)
            exact ⟨rfl, Fr.nil _⟩
          · skip
            refine own_go (mkF m 151 #[iv x0, iv b, iv (3 : Int32), iv (1 : Int32), iv (b &&& (15 : Int32)), iv (12 : Int32), iv ((b &&& (15 : Int32)) <<< ((12 : Int32) &&& 31)), iv (((b &&& (15 : Int32)) <<< ((12 : Int32) &&& 31)) ||| (4095 : Int32)), iv (2048 : Int32)] []) (fun t k => XS.icmpNo X0.here hx rfl (hb hby at_148) rfl (flt hc148).1 k) ?_
            refine own_go (mkF m 153 #[iv x0, iv b, iv (3 : Int32), iv (1 : Int32), iv (b &&& (15 : Int32)), iv (12 : Int32), iv ((b &&& (15 : Int32)) <<< ((12 : Int32) &&& 31)), iv (((b &&& (15 : Int32)) <<< ((12 : Int32) &&& 31)) ||| (4095 : Int32)), iv (2048 : Int32)] [(.int ((b &&& (15 : Int32)) <<< ((12 : Int32) &&& 31)))]) (fun t k => XS.iload X0.here hx rfl (hb hby at_151) rfl  k) ?_
            refine own_go (mkF m 155 #[iv x0, iv b, iv (3 : Int32), iv (1 : Int32), iv (b &&& (15 : Int32)), iv (12 : Int32), iv ((b &&& (15 : Int32)) <<< ((12 : Int32) &&& 31)), iv (((b &&& (15 : Int32)) <<< ((12 : Int32) &&& 31)) ||| (4095 : Int32)), iv (2048 : Int32)] [(.int (1114111 : Int32)), (.int ((b &&& (15 : Int32)) <<< ((12 : Int32) &&& 31)))]) (fun t k => X0.ldcInt hx hown (mvT hZ (hw _ (List.mem_of_getElem? (i := 4) rfl))) (g := (mkF m 153 #[iv x0, iv b, iv (3 : Int32), iv (1 : Int32), iv (b &&& (15 : Int32)), iv (12 : Int32), iv ((b &&& (15 : Int32)) <<< ((12 : Int32) &&& 31)), iv (((b &&& (15 : Int32)) <<< ((12 : Int32) &&& 31)) ||| (4095 : Int32)), iv (2048 : Int32)] [(.int ((b &&& (15 : Int32)) <<< ((12 : Int32) &&& 31)))])) rfl (hb hby at_153) _ k) ?_
            by_cases hc155 : (1114111 : Int32) < ((b &&& (15 : Int32)) <<< ((12 : Int32) &&& 31))
            · skip
              refine own_go (mkF m 160 #[iv x0, iv b, iv (3 : Int32), iv (1 : Int32), iv (b &&& (15 : Int32)), iv (12 : Int32), iv ((b &&& (15 : Int32)) <<< ((12 : Int32) &&& 31)), iv (((b &&& (15 : Int32)) <<< ((12 : Int32) &&& 31)) ||| (4095 : Int32)), iv (2048 : Int32)] []) (fun t k => XS.icmpYes X0.here hx rfl (pc0 := 155) (pc' := 160) rfl (hb hby at_155) rfl (tlt hc155).2.2.1 (by decide) (by decide) k) ?_
              refine own_go (mkF m 161 #[iv x0, iv b, iv (3 : Int32), iv (1 : Int32), iv (b &&& (15 : Int32)), iv (12 : Int32), iv ((b &&& (15 : Int32)) <<< ((12 : Int32) &&& 31)), iv (((b &&& (15 : Int32)) <<< ((12 : Int32) &&& 31)) ||| (4095 : Int32)), iv (2048 : Int32)] [(.int b)]) (fun t k => XS.iloadN X0.here hx rfl (hb hby at_160) rfl  k) ?_
              refine own_callP X0 hx hZ (y := (⟨"com/example/vocab_scan/vocabscan/Utf8", "characterSize", "(I)I"⟩ : MethodName)) (fr := 0) (lo := 0) (r := (.int (own_cs b))) hown (hw _ (List.mem_of_getElem? (i := 0) rfl)) (hw _ (List.mem_of_getElem? (i := 1) rfl)) (hw _ (List.mem_of_getElem? (i := 2) rfl)) (hw _ (List.mem_of_getElem? (i := 3) rfl)) (by decide) e0 [(.int b)] [] (own_rm1 l Z a0 hw [] h0 b) 0 (by decide) (by decide) (Nat.le_of_eq rfl) (by decide) (by decide) (by rw [hml]; rfl) (lenOf own_pd0 rfl) rfl (hb hby at_161) ?_
              intro T7 X7 e7
              refine own_go (mkF m 165 #[iv x0, iv b, iv (3 : Int32), iv (1 : Int32), iv (b &&& (15 : Int32)), iv (12 : Int32), iv ((b &&& (15 : Int32)) <<< ((12 : Int32) &&& 31)), iv (((b &&& (15 : Int32)) <<< ((12 : Int32) &&& 31)) ||| (4095 : Int32)), iv (2048 : Int32)] [(.int (1 : Int32)), (.int (own_cs b))]) (fun t k => XS.iloadN X7.here hx rfl (hb hby at_164) rfl  k) ?_
              refine own_go (mkF m 168 #[iv x0, iv b, iv (3 : Int32), iv (1 : Int32), iv (b &&& (15 : Int32)), iv (12 : Int32), iv ((b &&& (15 : Int32)) <<< ((12 : Int32) &&& 31)), iv (((b &&& (15 : Int32)) <<< ((12 : Int32) &&& 31)) ||| (4095 : Int32)), iv (2048 : Int32)] []) (fun t k => XS.icmpNo X7.here hx rfl (hb hby at_165) rfl (teq (by subst hbi; exact own_road6 bi hc10 hc22 hc34 hc46 hc148 hc155)).2 k) ?_
              refine own_go (mkF m 169 #[iv x0, iv b, iv (3 : Int32), iv (1 : Int32), iv (b &&& (15 : Int32)), iv (12 : Int32), iv ((b &&& (15 : Int32)) <<< ((12 : Int32) &&& 31)), iv (((b &&& (15 : Int32)) <<< ((12 : Int32) &&& 31)) ||| (4095 : Int32)), iv (2048 : Int32)] [(.int (1 : Int32))]) (fun t k => XS.iconst X7.here hx rfl (hb hby at_168) k) ?_
              refine own_go (mkF m 173 #[iv x0, iv b, iv (3 : Int32), iv (1 : Int32), iv (b &&& (15 : Int32)), iv (12 : Int32), iv ((b &&& (15 : Int32)) <<< ((12 : Int32) &&& 31)), iv (((b &&& (15 : Int32)) <<< ((12 : Int32) &&& 31)) ||| (4095 : Int32)), iv (2048 : Int32)] [(.int (1 : Int32))]) (fun t k => XS.goto X7.here hx rfl (pc0 := 169) (pc' := 173) rfl (hb hby at_169) (by decide) (by decide) k) ?_
              refine own_retZ X7 hx hlk hret (hb hby at_173) ?_ (by decide) (by decide)
              exact ⟨rfl, Fr.nil _⟩
            · skip
              refine own_go (mkF m 158 #[iv x0, iv b, iv (3 : Int32), iv (1 : Int32), iv (b &&& (15 : Int32)), iv (12 : Int32), iv ((b &&& (15 : Int32)) <<< ((12 : Int32) &&& 31)), iv (((b &&& (15 : Int32)) <<< ((12 : Int32) &&& 31)) ||| (4095 : Int32)), iv (2048 : Int32)] []) (fun t k => XS.icmpNo X0.here hx rfl (hb hby at_155) rfl (flt hc155).2.2.1 k) ?_
              refine own_go (mkF m 159 #[iv x0, iv b, iv (3 : Int32), iv (1 : Int32), iv (b &&& (15 : Int32)), iv (12 : Int32), iv ((b &&& (15 : Int32)) <<< ((12 : Int32) &&& 31)), iv (((b &&& (15 : Int32)) <<< ((12 : Int32) &&& 31)) ||| (4095 : Int32)), iv (2048 : Int32)] [(.int (3 : Int32))]) (fun t k => XS.iloadN X0.here hx rfl (hb hby at_158) rfl  k) ?_
              refine own_go (mkF m 160 #[iv x0, iv b, iv (3 : Int32), iv (3 : Int32), iv (b &&& (15 : Int32)), iv (12 : Int32), iv ((b &&& (15 : Int32)) <<< ((12 : Int32) &&& 31)), iv (((b &&& (15 : Int32)) <<< ((12 : Int32) &&& 31)) ||| (4095 : Int32)), iv (2048 : Int32)] []) (fun t k => XS.istoreN X0.here hx rfl (hb hby at_159) rfl (l' := #[iv x0, iv b, iv (3 : Int32), iv (3 : Int32), iv (b &&& (15 : Int32)), iv (12 : Int32), iv ((b &&& (15 : Int32)) <<< ((12 : Int32) &&& 31)), iv (((b &&& (15 : Int32)) <<< ((12 : Int32) &&& 31)) ||| (4095 : Int32)), iv (2048 : Int32)]) rfl k) ?_
              refine own_go (mkF m 161 #[iv x0, iv b, iv (3 : Int32), iv (3 : Int32), iv (b &&& (15 : Int32)), iv (12 : Int32), iv ((b &&& (15 : Int32)) <<< ((12 : Int32) &&& 31)), iv (((b &&& (15 : Int32)) <<< ((12 : Int32) &&& 31)) ||| (4095 : Int32)), iv (2048 : Int32)] [(.int b)]) (fun t k => XS.iloadN X0.here hx rfl (hb hby at_160) rfl  k) ?_
              refine own_callP X0 hx hZ (y := (⟨"com/example/vocab_scan/vocabscan/Utf8", "characterSize", "(I)I"⟩ : MethodName)) (fr := 0) (lo := 0) (r := (.int (own_cs b))) hown (hw _ (List.mem_of_getElem? (i := 0) rfl)) (hw _ (List.mem_of_getElem? (i := 1) rfl)) (hw _ (List.mem_of_getElem? (i := 2) rfl)) (hw _ (List.mem_of_getElem? (i := 3) rfl)) (by decide) e0 [(.int b)] [] (own_rm1 l Z a0 hw [] h0 b) 0 (by decide) (by decide) (Nat.le_of_eq rfl) (by decide) (by decide) (by rw [hml]; rfl) (lenOf own_pd0 rfl) rfl (hb hby at_161) ?_
              intro T8 X8 e8
              refine own_go (mkF m 165 #[iv x0, iv b, iv (3 : Int32), iv (3 : Int32), iv (b &&& (15 : Int32)), iv (12 : Int32), iv ((b &&& (15 : Int32)) <<< ((12 : Int32) &&& 31)), iv (((b &&& (15 : Int32)) <<< ((12 : Int32) &&& 31)) ||| (4095 : Int32)), iv (2048 : Int32)] [(.int (3 : Int32)), (.int (own_cs b))]) (fun t k => XS.iloadN X8.here hx rfl (hb hby at_164) rfl  k) ?_
              refine own_go (mkF m 168 #[iv x0, iv b, iv (3 : Int32), iv (3 : Int32), iv (b &&& (15 : Int32)), iv (12 : Int32), iv ((b &&& (15 : Int32)) <<< ((12 : Int32) &&& 31)), iv (((b &&& (15 : Int32)) <<< ((12 : Int32) &&& 31)) ||| (4095 : Int32)), iv (2048 : Int32)] []) (fun t k => XS.icmpNo X8.here hx rfl (hb hby at_165) rfl (teq (by subst hbi; exact own_road7 bi hc10 hc22 hc34 hc46 hc148 hc155)).2 k) ?_
              refine own_go (mkF m 169 #[iv x0, iv b, iv (3 : Int32), iv (3 : Int32), iv (b &&& (15 : Int32)), iv (12 : Int32), iv ((b &&& (15 : Int32)) <<< ((12 : Int32) &&& 31)), iv (((b &&& (15 : Int32)) <<< ((12 : Int32) &&& 31)) ||| (4095 : Int32)), iv (2048 : Int32)] [(.int (1 : Int32))]) (fun t k => XS.iconst X8.here hx rfl (hb hby at_168) k) ?_
              refine own_go (mkF m 173 #[iv x0, iv b, iv (3 : Int32), iv (3 : Int32), iv (b &&& (15 : Int32)), iv (12 : Int32), iv ((b &&& (15 : Int32)) <<< ((12 : Int32) &&& 31)), iv (((b &&& (15 : Int32)) <<< ((12 : Int32) &&& 31)) ||| (4095 : Int32)), iv (2048 : Int32)] [(.int (1 : Int32))]) (fun t k => XS.goto X8.here hx rfl (pc0 := 169) (pc' := 173) rfl (hb hby at_169) (by decide) (by decide) k) ?_
              refine own_retZ X8 hx hlk hret (hb hby at_173) ?_ (by decide) (by decide)
              exact ⟨rfl, Fr.nil _⟩
        · skip
          refine own_go (mkF m 54 #[iv x0, iv b, .unset, .unset, .unset, .unset, .unset, .unset, .unset] []) (fun t k => XS.icmpYes X0.here hx rfl (pc0 := 46) (pc' := 54) rfl (hb hby at_46) rfl (flt hc46).2.1 (by decide) (by decide) k) ?_
          refine own_go (mkF m 55 #[iv x0, iv b, .unset, .unset, .unset, .unset, .unset, .unset, .unset] [(.int b)]) (fun t k => XS.iloadN X0.here hx rfl (hb hby at_54) rfl  k) ?_
          refine own_go (mkF m 58 #[iv x0, iv b, .unset, .unset, .unset, .unset, .unset, .unset, .unset] [(.int (248 : Int32)), (.int b)]) (fun t k => XS.sipush X0.here hx rfl (hb hby at_55) k) ?_
          by_cases hc58 : b < (248 : Int32)
          · skip
            refine own_go (mkF m 61 #[iv x0, iv b, .unset, .unset, .unset, .unset, .unset, .unset, .unset] []) (fun t k => XS.icmpNo X0.here hx rfl (hb hby at_58) rfl (tlt hc58).2.1 k) ?_
            refine own_go (mkF m 62 #[iv x0, iv b, .unset, .unset, .unset, .unset, .unset, .unset, .unset] [(.int (4 : Int32))]) (fun t k => XS.iconst X0.here hx rfl (hb hby at_61) k) ?_
            refine own_go (mkF m 63 #[iv x0, iv b, iv (4 : Int32), .unset, .unset, .unset, .unset, .unset, .unset] []) (fun t k => XS.istoreN X0.here hx rfl (hb hby at_62) rfl (l' := #[iv x0, iv b, iv (4 : Int32), .unset, .unset, .unset, .unset, .unset, .unset]) rfl k) ?_
            refine own_go (mkF m 68 #[iv x0, iv b, iv (4 : Int32), .unset, .unset, .unset, .unset, .unset, .unset] []) (fun t k => XS.goto X0.here hx rfl (pc0 := 63) (pc' := 68) rfl (hb hby at_63) (by decide) (by decide) k) ?_
            refine own_go (mkF m 69 #[iv x0, iv b, iv (4 : Int32), .unset, .unset, .unset, .unset, .unset, .unset] [(.int (1 : Int32))]) (fun t k => XS.iconst X0.here hx rfl (hb hby at_68) k) ?_
            refine own_go (mkF m 70 #[iv x0, iv b, iv (4 : Int32), iv (1 : Int32), .unset, .unset, .unset, .unset, .unset] []) (fun t k => XS.istoreN X0.here hx rfl (hb hby at_69) rfl (l' := #[iv x0, iv b, iv (4 : Int32), iv (1 : Int32), .unset, .unset, .unset, .unset, .unset]) rfl k) ?_
            refine own_go (mkF m 71 #[iv x0, iv b, iv (4 : Int32), iv (1 : Int32), .unset, .unset, .unset, .unset, .unset] [(.int (4 : Int32))]) (fun t k => XS.iloadN X0.here hx rfl (hb hby at_70) rfl  k) ?_
            refine own_go (mkF m 72 #[iv x0, iv b, iv (4 : Int32), iv (1 : Int32), .unset, .unset, .unset, .unset, .unset] [(.int (2 : Int32)), (.int (4 : Int32))]) (fun t k => XS.iconst X0.here hx rfl (hb hby at_71) k) ?_
            refine own_go (mkF m 75 #[iv x0, iv b, iv (4 : Int32), iv (1 : Int32), .unset, .unset, .unset, .unset, .unset] []) (fun t k => XS.icmpNo X0.here hx rfl (hb hby at_72) rfl (flt (by decide)).1 k) ?_
            refine own_go (mkF m 76 #[iv x0, iv b, iv (4 : Int32), iv (1 : Int32), .unset, .unset, .unset, .unset, .unset] [(.int (4 : Int32))]) (fun t k => XS.iloadN X0.here hx rfl (hb hby at_75) rfl  k) ?_
            refine own_go (mkF m 77 #[iv x0, iv b, iv (4 : Int32), iv (1 : Int32), .unset, .unset, .unset, .unset, .unset] [(.int (4 : Int32)), (.int (4 : Int32))]) (fun t k => XS.iconst X0.here hx rfl (hb hby at_76) k) ?_
            refine own_go (mkF m 80 #[iv x0, iv b, iv (4 : Int32), iv (1 : Int32), .unset, .unset, .unset, .unset, .unset] []) (fun t k => XS.icmpNo X0.here hx rfl (hb hby at_77) rfl (flt (by decide)).2.2.1 k) ?_
            refine own_go (mkF m 81 #[iv x0, iv b, iv (4 : Int32), iv (1 : Int32), .unset, .unset, .unset, .unset, .unset] [(.int b)]) (fun t k => XS.iloadN X0.here hx rfl (hb hby at_80) rfl  k) ?_
            refine own_go (mkF m 83 #[iv x0, iv b, iv (4 : Int32), iv (1 : Int32), .unset, .unset, .unset, .unset, .unset] [(.int (127 : Int32)), (.int b)]) (fun t k => XS.bipush X0.here hx rfl (hb hby at_81) k) ?_
            refine own_go (mkF m 84 #[iv x0, iv b, iv (4 : Int32), iv (1 : Int32), .unset, .unset, .unset, .unset, .unset] [(.int (4 : Int32)), (.int (127 : Int32)), (.int b)]) (fun t k => XS.iloadN X0.here hx rfl (hb hby at_83) rfl  k) ?_
            refine own_go (mkF m 85 #[iv x0, iv b, iv (4 : Int32), iv (1 : Int32), .unset, .unset, .unset, .unset, .unset] [(.int (7 : Int32)), (.int b)]) (fun t k => XS.ishr X0.here hx rfl (hb hby at_84) rfl k) ?_
            refine own_go (mkF m 86 #[iv x0, iv b, iv (4 : Int32), iv (1 : Int32), .unset, .unset, .unset, .unset, .unset] [(.int (b &&& (7 : Int32)))]) (fun t k => XS.iand X0.here hx rfl (hb hby at_85) rfl k) ?_
            refine own_go (mkF m 88 #[iv x0, iv b, iv (4 : Int32), iv (1 : Int32), iv (b &&& (7 : Int32)), .unset, .unset, .unset, .unset] []) (fun t k => XS.istore X0.here hx rfl (hb hby at_86) rfl (l' := #[iv x0, iv b, iv (4 : Int32), iv (1 : Int32), iv (b &&& (7 : Int32)), .unset, .unset, .unset, .unset]) rfl k) ?_
            refine own_go (mkF m 90 #[iv x0, iv b, iv (4 : Int32), iv (1 : Int32), iv (b &&& (7 : Int32)), .unset, .unset, .unset, .unset] [(.int (6 : Int32))]) (fun t k => XS.bipush X0.here hx rfl (hb hby at_88) k) ?_
            refine own_go (mkF m 91 #[iv x0, iv b, iv (4 : Int32), iv (1 : Int32), iv (b &&& (7 : Int32)), .unset, .unset, .unset, .unset] [(.int (4 : Int32)), (.int (6 : Int32))]) (fun t k => XS.iloadN X0.here hx rfl (hb hby at_90) rfl  k) ?_
            refine own_go (mkF m 92 #[iv x0, iv b, iv (4 : Int32), iv (1 : Int32), iv (b &&& (7 : Int32)), .unset, .unset, .unset, .unset] [(.int (1 : Int32)), (.int (4 : Int32)), (.int (6 : Int32))]) (fun t k => XS.iconst X0.here hx rfl (hb hby at_91) k) ?_
            refine own_go (mkF m 93 #[iv x0, iv b, iv (4 : Int32), iv (1 : Int32), iv (b &&& (7 : Int32)), .unset, .unset, .unset, .unset] [(.int (3 : Int32)), (.int (6 : Int32))]) (fun t k => XS.isub X0.here hx rfl (hb hby at_92) rfl k) ?_
            refine own_go (mkF m 94 #[iv x0, iv b, iv (4 : Int32), iv (1 : Int32), iv (b &&& (7 : Int32)), .unset, .unset, .unset, .unset] [(.int (18 : Int32))]) (fun t k => XS.imul X0.here hx rfl (hb hby at_93) rfl k) ?_
            refine own_go (mkF m 96 #[iv x0, iv b, iv (4 : Int32), iv (1 : Int32), iv (b &&& (7 : Int32)), iv (18 : Int32), .unset, .unset, .unset] []) (fun t k => XS.istore X0.here hx rfl (hb hby at_94) rfl (l' := #[iv x0, iv b, iv (4 : Int32), iv (1 : Int32), iv (b &&& (7 : Int32)), iv (18 : Int32), .unset, .unset, .unset]) rfl k) ?_
            refine own_go (mkF m 98 #[iv x0, iv b, iv (4 : Int32), iv (1 : Int32), iv (b &&& (7 : Int32)), iv (18 : Int32), .unset, .unset, .unset] [(.int (b &&& (7 : Int32)))]) (fun t k => XS.iload X0.here hx rfl (hb hby at_96) rfl  k) ?_
            refine own_go (mkF m 100 #[iv x0, iv b, iv (4 : Int32), iv (1 : Int32), iv (b &&& (7 : Int32)), iv (18 : Int32), .unset, .unset, .unset] [(.int (18 : Int32)), (.int (b &&& (7 : Int32)))]) (fun t k => XS.iload X0.here hx rfl (hb hby at_98) rfl  k) ?_
            refine own_go (mkF m 101 #[iv x0, iv b, iv (4 : Int32), iv (1 : Int32), iv (b &&& (7 : Int32)), iv (18 : Int32), .unset, .unset, .unset] [(.int ((b &&& (7 : Int32)) <<< ((18 : Int32) &&& 31)))]) (fun t k => XS.ishl X0.here hx rfl (hb hby at_100) rfl k) ?_
            refine own_go (mkF m 103 #[iv x0, iv b, iv (4 : Int32), iv (1 : Int32), iv (b &&& (7 : Int32)), iv (18 : Int32), iv ((b &&& (7 : Int32)) <<< ((18 : Int32) &&& 31)), .unset, .unset] []) (fun t k => XS.istore X0.here hx rfl (hb hby at_101) rfl (l' := #[iv x0, iv b, iv (4 : Int32), iv (1 : Int32), iv (b &&& (7 : Int32)), iv (18 : Int32), iv ((b &&& (7 : Int32)) <<< ((18 : Int32) &&& 31)), .unset, .unset]) rfl k) ?_
            refine own_go (mkF m 105 #[iv x0, iv b, iv (4 : Int32), iv (1 : Int32), iv (b &&& (7 : Int32)), iv (18 : Int32), iv ((b &&& (7 : Int32)) <<< ((18 : Int32) &&& 31)), .unset, .unset] [(.int ((b &&& (7 : Int32)) <<< ((18 : Int32) &&& 31)))]) (fun t k => XS.iload X0.here hx rfl (hb hby at_103) rfl  k) ?_
            refine own_go (mkF m 106 #[iv x0, iv b, iv (4 : Int32), iv (1 : Int32), iv (b &&& (7 : Int32)), iv (18 : Int32), iv ((b &&& (7 : Int32)) <<< ((18 : Int32) &&& 31)), .unset, .unset] [(.int (1 : Int32)), (.int ((b &&& (7 : Int32)) <<< ((18 : Int32) &&& 31)))]) (fun t k => XS.iconst X0.here hx rfl (hb hby at_105) k) ?_
            refine own_go (mkF m 108 #[iv x0, iv b, iv (4 : Int32), iv (1 : Int32), iv (b &&& (7 : Int32)), iv (18 : Int32), iv ((b &&& (7 : Int32)) <<< ((18 : Int32) &&& 31)), .unset, .unset] [(.int (18 : Int32)), (.int (1 : Int32)), (.int ((b &&& (7 : Int32)) <<< ((18 : Int32) &&& 31)))]) (fun t k => XS.iload X0.here hx rfl (hb hby at_106) rfl  k) ?_
            refine own_go (mkF m 109 #[iv x0, iv b, iv (4 : Int32), iv (1 : Int32), iv (b &&& (7 : Int32)), iv (18 : Int32), iv ((b &&& (7 : Int32)) <<< ((18 : Int32) &&& 31)), .unset, .unset] [(.int (262144 : Int32)), (.int ((b &&& (7 : Int32)) <<< ((18 : Int32) &&& 31)))]) (fun t k => XS.ishl X0.here hx rfl (hb hby at_108) rfl k) ?_
            refine own_go (mkF m 110 #[iv x0, iv b, iv (4 : Int32), iv (1 : Int32), iv (b &&& (7 : Int32)), iv (18 : Int32), iv ((b &&& (7 : Int32)) <<< ((18 : Int32) &&& 31)), .unset, .unset] [(.int (1 : Int32)), (.int (262144 : Int32)), (.int ((b &&& (7 : Int32)) <<< ((18 : Int32) &&& 31)))]) (fun t k => XS.iconst X0.here hx rfl (hb hby at_109) k) ?_
            refine own_go (mkF m 111 #[iv x0, iv b, iv (4 : Int32), iv (1 : Int32), iv (b &&& (7 : Int32)), iv (18 : Int32), iv ((b &&& (7 : Int32)) <<< ((18 : Int32) &&& 31)), .unset, .unset] [(.int (262143 : Int32)), (.int ((b &&& (7 : Int32)) <<< ((18 : Int32) &&& 31)))]) (fun t k => XS.isub X0.here hx rfl (hb hby at_110) rfl k) ?_
            refine own_go (mkF m 112 #[iv x0, iv b, iv (4 : Int32), iv (1 : Int32), iv (b &&& (7 : Int32)), iv (18 : Int32), iv ((b &&& (7 : Int32)) <<< ((18 : Int32) &&& 31)), .unset, .unset] [(.int (((b &&& (7 : Int32)) <<< ((18 : Int32) &&& 31)) ||| (262143 : Int32)))]) (fun t k => XS.ior X0.here hx rfl (hb hby at_111) rfl k) ?_
            refine own_go (mkF m 114 #[iv x0, iv b, iv (4 : Int32), iv (1 : Int32), iv (b &&& (7 : Int32)), iv (18 : Int32), iv ((b &&& (7 : Int32)) <<< ((18 : Int32) &&& 31)), iv (((b &&& (7 : Int32)) <<< ((18 : Int32) &&& 31)) ||| (262143 : Int32)), .unset] []) (fun t k => XS.istore X0.here hx rfl (hb hby at_112) rfl (l' := #[iv x0, iv b, iv (4 : Int32), iv (1 : Int32), iv (b &&& (7 : Int32)), iv (18 : Int32), iv ((b &&& (7 : Int32)) <<< ((18 : Int32) &&& 31)), iv (((b &&& (7 : Int32)) <<< ((18 : Int32) &&& 31)) ||| (262143 : Int32)), .unset]) rfl k) ?_
            refine own_go (mkF m 115 #[iv x0, iv b, iv (4 : Int32), iv (1 : Int32), iv (b &&& (7 : Int32)), iv (18 : Int32), iv ((b &&& (7 : Int32)) <<< ((18 : Int32) &&& 31)), iv (((b &&& (7 : Int32)) <<< ((18 : Int32) &&& 31)) ||| (262143 : Int32)), .unset] [(.int (4 : Int32))]) (fun t k => XS.iloadN X0.here hx rfl (hb hby at_114) rfl  k) ?_
            refine own_go (mkF m 116 #[iv x0, iv b, iv (4 : Int32), iv (1 : Int32), iv (b &&& (7 : Int32)), iv (18 : Int32), iv ((b &&& (7 : Int32)) <<< ((18 : Int32) &&& 31)), iv (((b &&& (7 : Int32)) <<< ((18 : Int32) &&& 31)) ||| (262143 : Int32)), .unset] [(.int (2 : Int32)), (.int (4 : Int32))]) (fun t k => XS.iconst X0.here hx rfl (hb hby at_115) k) ?_
            refine own_go (mkF m 127 #[iv x0, iv b, iv (4 : Int32), iv (1 : Int32), iv (b &&& (7 : Int32)), iv (18 : Int32), iv ((b &&& (7 : Int32)) <<< ((18 : Int32) &&& 31)), iv (((b &&& (7 : Int32)) <<< ((18 : Int32) &&& 31)) ||| (262143 : Int32)), .unset] []) (fun t k => XS.icmpYes X0.here hx rfl (pc0 := 116) (pc' := 127) rfl (hb hby at_116) rfl (feq (by decide)).2 (by decide) (by decide) k) ?_
            refine own_go (mkF m 128 #[iv x0, iv b, iv (4 : Int32), iv (1 : Int32), iv (b &&& (7 : Int32)), iv (18 : Int32), iv ((b &&& (7 : Int32)) <<< ((18 : Int32) &&& 31)), iv (((b &&& (7 : Int32)) <<< ((18 : Int32) &&& 31)) ||| (262143 : Int32)), .unset] [(.int (4 : Int32))]) (fun t k => XS.iloadN X0.here hx rfl (hb hby at_127) rfl  k) ?_
            refine own_go (mkF m 129 #[iv x0, iv b, iv (4 : Int32), iv (1 : Int32), iv (b &&& (7 : Int32)), iv (18 : Int32), iv ((b &&& (7 : Int32)) <<< ((18 : Int32) &&& 31)), iv (((b &&& (7 : Int32)) <<< ((18 : Int32) &&& 31)) ||| (262143 : Int32)), .unset] [(.int (3 : Int32)), (.int (4 : Int32))]) (fun t k => XS.iconst X0.here hx rfl (hb hby at_128) k) ?_
            refine own_go (mkF m 140 #[iv x0, iv b, iv (4 : Int32), iv (1 : Int32), iv (b &&& (7 : Int32)), iv (18 : Int32), iv ((b &&& (7 : Int32)) <<< ((18 : Int32) &&& 31)), iv (((b &&& (7 : Int32)) <<< ((18 : Int32) &&& 31)) ||| (262143 : Int32)), .unset] []) (fun t k => XS.icmpYes X0.here hx rfl (pc0 := 129) (pc' := 140) rfl (hb hby at_129) rfl (feq (by decide)).2 (by decide) (by decide) k) ?_
            refine own_go (mkF m 142 #[iv x0, iv b, iv (4 : Int32), iv (1 : Int32), iv (b &&& (7 : Int32)), iv (18 : Int32), iv ((b &&& (7 : Int32)) <<< ((18 : Int32) &&& 31)), iv (((b &&& (7 : Int32)) <<< ((18 : Int32) &&& 31)) ||| (262143 : Int32)), .unset] [(.int (65536 : Int32))]) (fun t k => X0.ldcInt hx hown (mvT hZ (hw _ (List.mem_of_getElem? (i := 5) rfl))) (g := (mkF m 140 #[iv x0, iv b, iv (4 : Int32), iv (1 : Int32), iv (b &&& (7 : Int32)), iv (18 : Int32), iv ((b &&& (7 : Int32)) <<< ((18 : Int32) &&& 31)), iv (((b &&& (7 : Int32)) <<< ((18 : Int32) &&& 31)) ||| (262143 : Int32)), .unset] [])) rfl (hb hby at_140) _ k) ?_
            refine own_go (mkF m 144 #[iv x0, iv b, iv (4 : Int32), iv (1 : Int32), iv (b &&& (7 : Int32)), iv (18 : Int32), iv ((b &&& (7 : Int32)) <<< ((18 : Int32) &&& 31)), iv (((b &&& (7 : Int32)) <<< ((18 : Int32) &&& 31)) ||| (262143 : Int32)), iv (65536 : Int32)] []) (fun t k => XS.istore X0.here hx rfl (hb hby at_142) rfl (l' := #[iv x0, iv b, iv (4 : Int32), iv (1 : Int32), iv (b &&& (7 : Int32)), iv (18 : Int32), iv ((b &&& (7 : Int32)) <<< ((18 : Int32) &&& 31)), iv (((b &&& (7 : Int32)) <<< ((18 : Int32) &&& 31)) ||| (262143 : Int32)), iv (65536 : Int32)]) rfl k) ?_
            refine own_go (mkF m 146 #[iv x0, iv b, iv (4 : Int32), iv (1 : Int32), iv (b &&& (7 : Int32)), iv (18 : Int32), iv ((b &&& (7 : Int32)) <<< ((18 : Int32) &&& 31)), iv (((b &&& (7 : Int32)) <<< ((18 : Int32) &&& 31)) ||| (262143 : Int32)), iv (65536 : Int32)] [(.int (((b &&& (7 : Int32)) <<< ((18 : Int32) &&& 31)) ||| (262143 : Int32)))]) (fun t k => XS.iload X0.here hx rfl (hb hby at_144) rfl  k) ?_
            refine own_go (mkF m 148 #[iv x0, iv b, iv (4 : Int32), iv (1 : Int32), iv (b &&& (7 : Int32)), iv (18 : Int32), iv ((b &&& (7 : Int32)) <<< ((18 : Int32) &&& 31)), iv (((b &&& (7 : Int32)) <<< ((18 : Int32) &&& 31)) ||| (262143 : Int32)), iv (65536 : Int32)] [(.int (65536 : Int32)), (.int (((b &&& (7 : Int32)) <<< ((18 : Int32) &&& 31)) ||| (262143 : Int32)))]) (fun t k => XS.iload X0.here hx rfl (hb hby at_146) rfl  k) ?_
            by_cases hc148 : (((b &&& (7 : Int32)) <<< ((18 : Int32) &&& 31)) ||| (262143 : Int32)) < (65536 : Int32)
            · skip
              refine own_go (mkF m 160 #[iv x0, iv b, iv (4 : Int32), iv (1 : Int32), iv (b &&& (7 : Int32)), iv (18 : Int32), iv ((b &&& (7 : Int32)) <<< ((18 : Int32) &&& 31)), iv (((b &&& (7 : Int32)) <<< ((18 : Int32) &&& 31)) ||| (262143 : Int32)), iv (65536 : Int32)] []) (fun t k => XS.icmpYes X0.here hx rfl (pc0 := 148) (pc' := 160) rfl (hb hby at_148) rfl (tlt hc148).1 (by decide) (by decide) k) ?_
              refine own_go (mkF m 161 #[iv x0, iv b, iv (4 : Int32), iv (1 : Int32), iv (b &&& (7 : Int32)), iv (18 : Int32), iv ((b &&& (7 : Int32)) <<< ((18 : Int32) &&& 31)), iv (((b &&& (7 : Int32)) <<< ((18 : Int32) &&& 31)) ||| (262143 : Int32)), iv (65536 : Int32)] [(.int b)]) (fun t k => XS.iloadN X0.here hx rfl (hb hby at_160) rfl  k) ?_
              refine own_callP X0 hx hZ (y := (⟨"com/example/vocab_scan/vocabscan/Utf8", "characterSize", "(I)I"⟩ : MethodName)) (fr := 0) (lo := 0) (r := (.int (own_cs b))) hown (hw _ (List.mem_of_getElem? (i := 0) rfl)) (hw _ (List.mem_of_getElem? (i := 1) rfl)) (hw _ (List.mem_of_getElem? (i := 2) rfl)) (hw _ (List.mem_of_getElem? (i := 3) rfl)) (by decide) e0 [(.int b)] [] (own_rm1 l Z a0 hw [] h0 b) 0 (by decide) (by decide) (Nat.le_of_eq rfl) (by decide) (by decide) (by rw [hml]; rfl) (lenOf own_pd0 rfl) rfl (hb hby at_161) ?_
              intro T9 X9 e9
              refine own_go (mkF m 165 #[iv x0, iv b, iv (4 : Int32), iv (1 : Int32), iv (b &&& (7 : Int32)), iv (18 : Int32), iv ((b &&& (7 : Int32)) <<< ((18 : Int32) &&& 31)), iv (((b &&& (7 : Int32)) <<< ((18 : Int32) &&& 31)) ||| (262143 : Int32)), iv (65536 : Int32)] [(.int (1 : Int32)), (.int (own_cs b))]) (fun t k => XS.iloadN X9.here hx rfl (hb hby at_164) rfl  k) ?_
              refine own_go (mkF m 168 #[iv x0, iv b, iv (4 : Int32), iv (1 : Int32), iv (b &&& (7 : Int32)), iv (18 : Int32), iv ((b &&& (7 : Int32)) <<< ((18 : Int32) &&& 31)), iv (((b &&& (7 : Int32)) <<< ((18 : Int32) &&& 31)) ||| (262143 : Int32)), iv (65536 : Int32)] []) (fun t k => XS.icmpNo X9.here hx rfl (hb hby at_165) rfl (teq (by subst hbi; exact own_road8 bi hc10 hc22 hc34 hc46 hc58 hc148)).2 k) ?_
              refine own_go (mkF m 169 #[iv x0, iv b, iv (4 : Int32), iv (1 : Int32), iv (b &&& (7 : Int32)), iv (18 : Int32), iv ((b &&& (7 : Int32)) <<< ((18 : Int32) &&& 31)), iv (((b &&& (7 : Int32)) <<< ((18 : Int32) &&& 31)) ||| (262143 : Int32)), iv (65536 : Int32)] [(.int (1 : Int32))]) (fun t k => XS.iconst X9.here hx rfl (hb hby at_168) k) ?_
              refine own_go (mkF m 173 #[iv x0, iv b, iv (4 : Int32), iv (1 : Int32), iv (b &&& (7 : Int32)), iv (18 : Int32), iv ((b &&& (7 : Int32)) <<< ((18 : Int32) &&& 31)), iv (((b &&& (7 : Int32)) <<< ((18 : Int32) &&& 31)) ||| (262143 : Int32)), iv (65536 : Int32)] [(.int (1 : Int32))]) (fun t k => XS.goto X9.here hx rfl (pc0 := 169) (pc' := 173) rfl (hb hby at_169) (by decide) (by decide) k) ?_
              refine own_retZ X9 hx hlk hret (hb hby at_173) ?_ (by decide) (by decide)
              exact ⟨rfl, Fr.nil _⟩
            · skip
              refine own_go (mkF m 151 #[iv x0, iv b, iv (4 : Int32), iv (1 : Int32), iv (b &&& (7 : Int32)), iv (18 : Int32), iv ((b &&& (7 : Int32)) <<< ((18 : Int32) &&& 31)), iv (((b &&& (7 : Int32)) <<< ((18 : Int32) &&& 31)) ||| (262143 : Int32)), iv (65536 : Int32)] []) (fun t k => XS.icmpNo X0.here hx rfl (hb hby at_148) rfl (flt hc148).1 k) ?_
              refine own_go (mkF m 153 #[iv x0, iv b, iv (4 : Int32), iv (1 : Int32), iv (b &&& (7 : Int32)), iv (18 : Int32), iv ((b &&& (7 : Int32)) <<< ((18 : Int32) &&& 31)), iv (((b &&& (7 : Int32)) <<< ((18 : Int32) &&& 31)) ||| (262143 : Int32)), iv (65536 : Int32)] [(.int ((b &&& (7 : Int32)) <<< ((18 : Int32) &&& 31)))]) (fun t k => XS.iload X0.here hx rfl (hb hby at_151) rfl  k) ?_
              refine own_go (mkF m 155 #[iv x0, iv b, iv (4 : Int32), iv (1 : Int32), iv (b &&& (7 : Int32)), iv (18 : Int32), iv ((b &&& (7 : Int32)) <<< ((18 : Int32) &&& 31)), iv (((b &&& (7 : Int32)) <<< ((18 : Int32) &&& 31)) ||| (262143 : Int32)), iv (65536 : Int32)] [(.int (1114111 : Int32)), (.int ((b &&& (7 : Int32)) <<< ((18 : Int32) &&& 31)))]) (fun t k => X0.ldcInt hx hown (mvT hZ (hw _ (List.mem_of_getElem? (i := 4) rfl))) (g := (mkF m 153 #[iv x0, iv b, iv (4 : Int32), iv (1 : Int32), iv (b &&& (7 : Int32)), iv (18 : Int32), iv ((b &&& (7 : Int32)) <<< ((18 : Int32) &&& 31)), iv (((b &&& (7 : Int32)) <<< ((18 : Int32) &&& 31)) ||| (262143 : Int32)), iv (65536 : Int32)] [(.int ((b &&& (7 : Int32)) <<< ((18 : Int32) &&& 31)))])) rfl (hb hby at_153) _ k) ?_
              by_cases hc155 : (1114111 : Int32) < ((b &&& (7 : Int32)) <<< ((18 : Int32) &&& 31))
              · skip
                refine own_go (mkF m 160 #[iv x0, iv b, iv (4 : Int32), iv (1 : Int32), iv (b &&& (7 : Int32)), iv (18 : Int32), iv ((b &&& (7 : Int32)) <<< ((18 : Int32) &&& 31)), iv (((b &&& (7 : Int32)) <<< ((18 : Int32) &&& 31)) ||| (262143 : Int32)), iv (65536 : Int32)] []) (fun t k => XS.icmpYes X0.here hx rfl (pc0 := 155) (pc' := 160) rfl (hb hby at_155) rfl (tlt hc155).2.2.1 (by decide) (by decide) k) ?_
                refine own_go (mkF m 161 #[iv x0, iv b, iv (4 : Int32), iv (1 : Int32), iv (b &&& (7 : Int32)), iv (18 : Int32), iv ((b &&& (7 : Int32)) <<< ((18 : Int32) &&& 31)), iv (((b &&& (7 : Int32)) <<< ((18 : Int32) &&& 31)) ||| (262143 : Int32)), iv (65536 : Int32)] [(.int b)]) (fun t k => XS.iloadN X0.here hx rfl (hb hby at_160) rfl  k) ?_
                refine own_callP X0 hx hZ (y := (⟨"com/example/vocab_scan/vocabscan/Utf8", "characterSize", "(I)I"⟩ : MethodName)) (fr := 0) (lo := 0) (r := (.int (own_cs b))) hown (hw _ (List.mem_of_getElem? (i := 0) rfl)) (hw _ (List.mem_of_getElem? (i := 1) rfl)) (hw _ (List.mem_of_getElem? (i := 2) rfl)) (hw _ (List.mem_of_getElem? (i := 3) rfl)) (by decide) e0 [(.int b)] [] (own_rm1 l Z a0 hw [] h0 b) 0 (by decide) (by decide) (Nat.le_of_eq rfl) (by decide) (by decide) (by rw [hml]; rfl) (lenOf own_pd0 rfl) rfl (hb hby at_161) ?_
                intro T10 X10 e10
                refine own_go (mkF m 165 #[iv x0, iv b, iv (4 : Int32), iv (1 : Int32), iv (b &&& (7 : Int32)), iv (18 : Int32), iv ((b &&& (7 : Int32)) <<< ((18 : Int32) &&& 31)), iv (((b &&& (7 : Int32)) <<< ((18 : Int32) &&& 31)) ||| (262143 : Int32)), iv (65536 : Int32)] [(.int (1 : Int32)), (.int (own_cs b))]) (fun t k => XS.iloadN X10.here hx rfl (hb hby at_164) rfl  k) ?_
                refine own_go (mkF m 168 #[iv x0, iv b, iv (4 : Int32), iv (1 : Int32), iv (b &&& (7 : Int32)), iv (18 : Int32), iv ((b &&& (7 : Int32)) <<< ((18 : Int32) &&& 31)), iv (((b &&& (7 : Int32)) <<< ((18 : Int32) &&& 31)) ||| (262143 : Int32)), iv (65536 : Int32)] []) (fun t k => XS.icmpNo X10.here hx rfl (hb hby at_165) rfl (teq (by subst hbi; exact own_road9 bi hc10 hc22 hc34 hc46 hc58 hc148 hc155)).2 k) ?_
                refine own_go (mkF m 169 #[iv x0, iv b, iv (4 : Int32), iv (1 : Int32), iv (b &&& (7 : Int32)), iv (18 : Int32), iv ((b &&& (7 : Int32)) <<< ((18 : Int32) &&& 31)), iv (((b &&& (7 : Int32)) <<< ((18 : Int32) &&& 31)) ||| (262143 : Int32)), iv (65536 : Int32)] [(.int (1 : Int32))]) (fun t k => XS.iconst X10.here hx rfl (hb hby at_168) k) ?_
                refine own_go (mkF m 173 #[iv x0, iv b, iv (4 : Int32), iv (1 : Int32), iv (b &&& (7 : Int32)), iv (18 : Int32), iv ((b &&& (7 : Int32)) <<< ((18 : Int32) &&& 31)), iv (((b &&& (7 : Int32)) <<< ((18 : Int32) &&& 31)) ||| (262143 : Int32)), iv (65536 : Int32)] [(.int (1 : Int32))]) (fun t k => XS.goto X10.here hx rfl (pc0 := 169) (pc' := 173) rfl (hb hby at_169) (by decide) (by decide) k) ?_
                refine own_retZ X10 hx hlk hret (hb hby at_173) ?_ (by decide) (by decide)
                exact ⟨rfl, Fr.nil _⟩
              · skip
                refine own_go (mkF m 158 #[iv x0, iv b, iv (4 : Int32), iv (1 : Int32), iv (b &&& (7 : Int32)), iv (18 : Int32), iv ((b &&& (7 : Int32)) <<< ((18 : Int32) &&& 31)), iv (((b &&& (7 : Int32)) <<< ((18 : Int32) &&& 31)) ||| (262143 : Int32)), iv (65536 : Int32)] []) (fun t k => XS.icmpNo X0.here hx rfl (hb hby at_155) rfl (flt hc155).2.2.1 k) ?_
                refine own_go (mkF m 159 #[iv x0, iv b, iv (4 : Int32), iv (1 : Int32), iv (b &&& (7 : Int32)), iv (18 : Int32), iv ((b &&& (7 : Int32)) <<< ((18 : Int32) &&& 31)), iv (((b &&& (7 : Int32)) <<< ((18 : Int32) &&& 31)) ||| (262143 : Int32)), iv (65536 : Int32)] [(.int (4 : Int32))]) (fun t k => XS.iloadN X0.here hx rfl (hb hby at_158) rfl  k) ?_
                refine own_go (mkF m 160 #[iv x0, iv b, iv (4 : Int32), iv (4 : Int32), iv (b &&& (7 : Int32)), iv (18 : Int32), iv ((b &&& (7 : Int32)) <<< ((18 : Int32) &&& 31)), iv (((b &&& (7 : Int32)) <<< ((18 : Int32) &&& 31)) ||| (262143 : Int32)), iv (65536 : Int32)] []) (fun t k => XS.istoreN X0.here hx rfl (hb hby at_159) rfl (l' := #[iv x0, iv b, iv (4 : Int32), iv (4 : Int32), iv (b &&& (7 : Int32)), iv (18 : Int32), iv ((b &&& (7 : Int32)) <<< ((18 : Int32) &&& 31)), iv (((b &&& (7 : Int32)) <<< ((18 : Int32) &&& 31)) ||| (262143 : Int32)), iv (65536 : Int32)]) rfl k) ?_
                refine own_go (mkF m 161 #[iv x0, iv b, iv (4 : Int32), iv (4 : Int32), iv (b &&& (7 : Int32)), iv (18 : Int32), iv ((b &&& (7 : Int32)) <<< ((18 : Int32) &&& 31)), iv (((b &&& (7 : Int32)) <<< ((18 : Int32) &&& 31)) ||| (262143 : Int32)), iv (65536 : Int32)] [(.int b)]) (fun t k => XS.iloadN X0.here hx rfl (hb hby at_160) rfl  k) ?_
                refine own_callP X0 hx hZ (y := (⟨"com/example/vocab_scan/vocabscan/Utf8", "characterSize", "(I)I"⟩ : MethodName)) (fr := 0) (lo := 0) (r := (.int (own_cs b))) hown (hw _ (List.mem_of_getElem? (i := 0) rfl)) (hw _ (List.mem_of_getElem? (i := 1) rfl)) (hw _ (List.mem_of_getElem? (i := 2) rfl)) (hw _ (List.mem_of_getElem? (i := 3) rfl)) (by decide) e0 [(.int b)] [] (own_rm1 l Z a0 hw [] h0 b) 0 (by decide) (by decide) (Nat.le_of_eq rfl) (by decide) (by decide) (by rw [hml]; rfl) (lenOf own_pd0 rfl) rfl (hb hby at_161) ?_
                intro T11 X11 e11
                refine own_go (mkF m 165 #[iv x0, iv b, iv (4 : Int32), iv (4 : Int32), iv (b &&& (7 : Int32)), iv (18 : Int32), iv ((b &&& (7 : Int32)) <<< ((18 : Int32) &&& 31)), iv (((b &&& (7 : Int32)) <<< ((18 : Int32) &&& 31)) ||| (262143 : Int32)), iv (65536 : Int32)] [(.int (4 : Int32)), (.int (own_cs b))]) (fun t k => XS.iloadN X11.here hx rfl (hb hby at_164) rfl  k) ?_
                refine own_go (mkF m 168 #[iv x0, iv b, iv (4 : Int32), iv (4 : Int32), iv (b &&& (7 : Int32)), iv (18 : Int32), iv ((b &&& (7 : Int32)) <<< ((18 : Int32) &&& 31)), iv (((b &&& (7 : Int32)) <<< ((18 : Int32) &&& 31)) ||| (262143 : Int32)), iv (65536 : Int32)] []) (fun t k => XS.icmpNo X11.here hx rfl (hb hby at_165) rfl (teq (by subst hbi; exact own_road10 bi hc10 hc22 hc34 hc46 hc58 hc148 hc155)).2 k) ?_
                refine own_go (mkF m 169 #[iv x0, iv b, iv (4 : Int32), iv (4 : Int32), iv (b &&& (7 : Int32)), iv (18 : Int32), iv ((b &&& (7 : Int32)) <<< ((18 : Int32) &&& 31)), iv (((b &&& (7 : Int32)) <<< ((18 : Int32) &&& 31)) ||| (262143 : Int32)), iv (65536 : Int32)] [(.int (1 : Int32))]) (fun t k => XS.iconst X11.here hx rfl (hb hby at_168) k) ?_
                refine own_go (mkF m 173 #[iv x0, iv b, iv (4 : Int32), iv (4 : Int32), iv (b &&& (7 : Int32)), iv (18 : Int32), iv ((b &&& (7 : Int32)) <<< ((18 : Int32) &&& 31)), iv (((b &&& (7 : Int32)) <<< ((18 : Int32) &&& 31)) ||| (262143 : Int32)), iv (65536 : Int32)] [(.int (1 : Int32))]) (fun t k => XS.goto X11.here hx rfl (pc0 := 169) (pc' := 173) rfl (hb hby at_169) (by decide) (by decide) k) ?_
                refine own_retZ X11 hx hlk hret (hb hby at_173) ?_ (by decide) (by decide)
                exact ⟨rfl, Fr.nil _⟩
          · skip
            refine own_go (mkF m 66 #[iv x0, iv b, .unset, .unset, .unset, .unset, .unset, .unset, .unset] []) (fun t k => XS.icmpYes X0.here hx rfl (pc0 := 58) (pc' := 66) rfl (hb hby at_58) rfl (flt hc58).2.1 (by decide) (by decide) k) ?_
            refine own_go (mkF m 67 #[iv x0, iv b, .unset, .unset, .unset, .unset, .unset, .unset, .unset] [(.int (5 : Int32))]) (fun t k => XS.iconst X0.here hx rfl (hb hby at_66) k) ?_
            refine own_go (mkF m 68 #[iv x0, iv b, iv (5 : Int32), .unset, .unset, .unset, .unset, .unset, .unset] []) (fun t k => XS.istoreN X0.here hx rfl (hb hby at_67) rfl (l' := #[iv x0, iv b, iv (5 : Int32), .unset, .unset, .unset, .unset, .unset, .unset]) rfl k) ?_
            refine own_go (mkF m 69 #[iv x0, iv b, iv (5 : Int32), .unset, .unset, .unset, .unset, .unset, .unset] [(.int (1 : Int32))]) (fun t k => XS.iconst X0.here hx rfl (hb hby at_68) k) ?_
            refine own_go (mkF m 70 #[iv x0, iv b, iv (5 : Int32), iv (1 : Int32), .unset, .unset, .unset, .unset, .unset] []) (fun t k => XS.istoreN X0.here hx rfl (hb hby at_69) rfl (l' := #[iv x0, iv b, iv (5 : Int32), iv (1 : Int32), .unset, .unset, .unset, .unset, .unset]) rfl k) ?_
            refine own_go (mkF m 71 #[iv x0, iv b, iv (5 : Int32), iv (1 : Int32), .unset, .unset, .unset, .unset, .unset] [(.int (5 : Int32))]) (fun t k => XS.iloadN X0.here hx rfl (hb hby at_70) rfl  k) ?_
            refine own_go (mkF m 72 #[iv x0, iv b, iv (5 : Int32), iv (1 : Int32), .unset, .unset, .unset, .unset, .unset] [(.int (2 : Int32)), (.int (5 : Int32))]) (fun t k => XS.iconst X0.here hx rfl (hb hby at_71) k) ?_
            refine own_go (mkF m 75 #[iv x0, iv b, iv (5 : Int32), iv (1 : Int32), .unset, .unset, .unset, .unset, .unset] []) (fun t k => XS.icmpNo X0.here hx rfl (hb hby at_72) rfl (flt (by decide)).1 k) ?_
            refine own_go (mkF m 76 #[iv x0, iv b, iv (5 : Int32), iv (1 : Int32), .unset, .unset, .unset, .unset, .unset] [(.int (5 : Int32))]) (fun t k => XS.iloadN X0.here hx rfl (hb hby at_75) rfl  k) ?_
            refine own_go (mkF m 77 #[iv x0, iv b, iv (5 : Int32), iv (1 : Int32), .unset, .unset, .unset, .unset, .unset] [(.int (4 : Int32)), (.int (5 : Int32))]) (fun t k => XS.iconst X0.here hx rfl (hb hby at_76) k) ?_
            refine own_go (mkF m 160 #[iv x0, iv b, iv (5 : Int32), iv (1 : Int32), .unset, .unset, .unset, .unset, .unset] []) (fun t k => XS.icmpYes X0.here hx rfl (pc0 := 77) (pc' := 160) rfl (hb hby at_77) rfl (tlt (by decide)).2.2.1 (by decide) (by decide) k) ?_
            refine own_go (mkF m 161 #[iv x0, iv b, iv (5 : Int32), iv (1 : Int32), .unset, .unset, .unset, .unset, .unset] [(.int b)]) (fun t k => XS.iloadN X0.here hx rfl (hb hby at_160) rfl  k) ?_
            refine own_callP X0 hx hZ (y := (⟨"com/example/vocab_scan/vocabscan/Utf8", "characterSize", "(I)I"⟩ : MethodName)) (fr := 0) (lo := 0) (r := (.int (own_cs b))) hown (hw _ (List.mem_of_getElem? (i := 0) rfl)) (hw _ (List.mem_of_getElem? (i := 1) rfl)) (hw _ (List.mem_of_getElem? (i := 2) rfl)) (hw _ (List.mem_of_getElem? (i := 3) rfl)) (by decide) e0 [(.int b)] [] (own_rm1 l Z a0 hw [] h0 b) 0 (by decide) (by decide) (Nat.le_of_eq rfl) (by decide) (by decide) (by rw [hml]; rfl) (lenOf own_pd0 rfl) rfl (hb hby at_161) ?_
            intro T12 X12 e12
            refine own_go (mkF m 165 #[iv x0, iv b, iv (5 : Int32), iv (1 : Int32), .unset, .unset, .unset, .unset, .unset] [(.int (1 : Int32)), (.int (own_cs b))]) (fun t k => XS.iloadN X12.here hx rfl (hb hby at_164) rfl  k) ?_
            refine own_go (mkF m 168 #[iv x0, iv b, iv (5 : Int32), iv (1 : Int32), .unset, .unset, .unset, .unset, .unset] []) (fun t k => XS.icmpNo X12.here hx rfl (hb hby at_165) rfl (teq (by subst hbi; exact own_road11 bi hc10 hc22 hc34 hc46 hc58)).2 k) ?_
            refine own_go (mkF m 169 #[iv x0, iv b, iv (5 : Int32), iv (1 : Int32), .unset, .unset, .unset, .unset, .unset] [(.int (1 : Int32))]) (fun t k => XS.iconst X12.here hx rfl (hb hby at_168) k) ?_
            refine own_go (mkF m 173 #[iv x0, iv b, iv (5 : Int32), iv (1 : Int32), .unset, .unset, .unset, .unset, .unset] [(.int (1 : Int32))]) (fun t k => XS.goto X12.here hx rfl (pc0 := 169) (pc' := 173) rfl (hb hby at_169) (by decide) (by decide) k) ?_
            refine own_retZ X12 hx hlk hret (hb hby at_173) ?_ (by decide) (by decide)
            exact ⟨rfl, Fr.nil _⟩

set_option maxRecDepth 65536 in
set_option maxHeartbeats 40000000 in
theorem comes_1 {Post : Tables → Env → Array Value → State → Outcome → State → Prop} (hpost : ∀ tb e args s v u, (limb_1_1.after args s (.returned v) u = true ∧ limb_1_2.after args s (.returned v) u = true ∧ True) → FrameEnd s (.returned v) u (Jvm.fieldLocs frame_1_writes args s ++ Jvm.arrayLocs frame_1_arrays args s ++ Jvm.staticLocs frame_1_statics s) 0 0 → Post tb e args s (.returned v) u) :
    ArmFor flags0 classFile x code maxLocals ret World_1 tables_1 room_1 Calls_1 rest_1 Pre_1 Post := by
  intro l hfl _ _ p e ha hc hk s m args below hf hA hF happ hP
  obtain ⟨hcalls, hrest, hpre⟩ := hP
  obtain ⟨-, -, -, hnamed, -, -, -, hat⟩ := (Spec.applies_iff hf).mp happ
  obtain ⟨hg, hn⟩ := and_e (Cond.before_iff.mp (show (Jvm.Cond.and given_1 narrow_1).before args s = true from hpre))
  obtain ⟨g1, g2⟩ := and_e hg
  obtain ⟨w0, rfl⟩ : ∃ w0 : Value, args = #[w0] := by
    have hs : args.size = 1 := by simpa [Cond.value, given_1] using g1
    obtain ⟨L⟩ := args
    match L, hs with
    | [w0], _ => exact ⟨w0, rfl⟩
  have hw := fun d (hd : d ∈ tables_1) => atoms_spec (ws := Jvm.Cond.code x code maxLocals ret :: tables_1) hat d (List.mem_cons_of_mem _ hd)
  obtain ⟨i0, ei0⟩ := is_v g2
  obtain rfl : w0 = (.int i0) := Option.some.inj ei0
  obtain ⟨n, o, h1, h2, h3, _, L, rfl, ⟨rfl, N⟩, hq⟩ := own_rm0 l s _ hw tables_1 s.heap i0  p e ha hc hk s m _ below hf ((Spec.applies_iff_loose hf).mp happ).1 ⟨rfl, State.Warmed39.refl s, rfl⟩ trivial
  refine ⟨n, _, h1, h2, h3, hpost _ _ _ _ _ _ ⟨Cond.after_iff.mpr rfl, Cond.after_iff.mpr (eq_i res_at (Term.int_eval (1)) rfl), trivial⟩ ⟨hq.1, hq.2.1, (hq.2.2.sift fun y hy => Or.inr (N y hy)).mono (by decide) (by decide)⟩⟩
theorem main_1_1 : Claimed_1_1 := comes_1 fun _ _ _ _ _ _ h hF => ⟨h.1, hF⟩
theorem main_1_2 : Claimed_1_2 := comes_1 fun _ _ _ _ _ _ h hF => ⟨h.2.1, hF⟩
end Jvm.Pilot.@@N@@
namespace Jvm.Pilot.@@N@@
open Jvm Jvm.ClassFile Sem Op Lib Jvm.Free Jvm.Stand Jvm.Pilot.@@N@@.Jvm.D
/-! MADE BY PROGRAM (witnessworld.py) out of the Statement's table words and the real class files: 9 classes; the members and pool entries that the words name. The judged class is class 1, her method 1. -/
namespace start1
open Jvm.ClassFile
def u (s : String) : CpInfo := .utf8 (stringToUtf16 s)
/-- a pool by its gaps: so many unusable entries, then the entry; so many at the end -/
def gap : Nat → List CpInfo → List CpInfo
  | 0, r => r
  | n + 1, r => .unusable :: gap n r
def poolList (es : List (Nat × CpInfo)) (last : Nat) : List CpInfo := es.foldr (fun e r => gap e.1 (e.2 :: r)) (gap last [])
def pool (es : List (Nat × CpInfo)) (last : Nat) : Array CpInfo := ⟨poolList es last⟩
def fileOf (pool : Array CpInfo) (this : Nat) (attrs : Array Attribute := #[]) (ms : Array MethodInfo := #[]) (fl : Nat := 33) (sup : Nat := 0) (ifs : Array Nat := #[]) (fds : Array FieldInfo := #[]) : ClassFile where
  minorVersion := 0
  majorVersion := 65
  constantPool := pool
  accessFlags := fl
  thisClass := this
  superClass := sup
  interfaces := ifs
  fields := fds
  methods := ms
  attributes := attrs
def plain (name : String) (sup : Option ClassId) : Class where
  name := name
  kind := .ordinary
  loader := none
  accessFlags := 33
  super := sup
  interfaces := #[]
  cf := none
  fields := #[]
  methods := #[]
  instanceTypes := #[]
  staticTypes := #[]
  resolved := #[]
  callSites := []
  init := .initialized
  statics := none
  mirror := none

def pool0 : Array CpInfo := pool [(5, u "<init>"), (0, u "()V"), (1, .class_ 10), (1, u "java/lang/Object")] 113

def k0m0 : Method := { name := "<init>", desc := "()V", sig := { parameters := [], returnType := none }, accessFlags := 1, code := none }
/-- java/lang/Object -/
def k0 : Class := { plain "java/lang/Object" none with
  accessFlags := 33
  interfaces := #[]
  cf := some (fileOf pool0 8 #[] #[{ accessFlags := 1, nameIndex := 5, descriptorIndex := 6, attributes := #[] }] 33 0 #[] #[])
  fields := #[]
  methods := #[k0m0]
  instanceTypes := #[]
  staticTypes := #[]
  resolved := Array.replicate 124 none
  statics := none }

def pool1 : Array CpInfo := pool [(2, .class_ 4), (1, u "java/lang/Object"), (0, u "<init>"), (0, u "()V"), (0, .integer 65536), (0, .integer 1114111), (0, .methodref 10 11), (0, .class_ 12), (0, .nameAndType 13 14), (0, u "com/example/vocab_scan/vocabscan/Utf8"), (0, u "characterSize"), (0, u "(I)I"), (0, .class_ 16), (0, u "com/example/vocab_scan/vocabscan/Utf8CharacterSizePinLaw"), (2, u "law"), (0, u "(I)Z")] 3

def k1m0 : Method := { name := "<init>", desc := "()V", sig := { parameters := [], returnType := none }, accessFlags := 2, code := none }
def k1c1 : Code := { maxStack := 3, maxLocals := 9, code := code, exceptionTable := #[], attributes := #[] }
def k1m1 : Method := { name := "law", desc := "(I)Z", sig := { parameters := [.int], returnType := some .boolean }, accessFlags := 9, code := some k1c1 }
/-- com/example/vocab_scan/vocabscan/Utf8CharacterSizePinLaw -/
def k1 : Class := { plain "com/example/vocab_scan/vocabscan/Utf8CharacterSizePinLaw" (some 0) with
  accessFlags := 49
  interfaces := #[]
  cf := some (fileOf pool1 15 #[] #[{ accessFlags := 2, nameIndex := 5, descriptorIndex := 6, attributes := #[] }, { accessFlags := 9, nameIndex := 19, descriptorIndex := 20, attributes := #[] }] 49 2 #[] #[])
  fields := #[]
  methods := #[k1m0, k1m1]
  instanceTypes := #[]
  staticTypes := #[]
  resolved := Array.replicate 24 none
  statics := none }

def pool2 : Array CpInfo := pool [(2, .class_ 4), (1, u "java/lang/Object"), (0, u "<init>"), (0, u "()V"), (2, .class_ 11), (1, u "com/example/vocab_scan/vocabscan/Utf8"), (1, u "(I)I"), (4, u "MOST_BYTES"), (0, u "I"), (4, u "characterSize")] 9

def k2m0 : Method := { name := "<init>", desc := "()V", sig := { parameters := [], returnType := none }, accessFlags := 2, code := none }
def k2c1 : Code := { maxStack := 2, maxLocals := 2, code := prog_79_method_2_code, exceptionTable := #[], attributes := #[] }
def k2m1 : Method := { name := "characterSize", desc := "(I)I", sig := { parameters := [.int], returnType := some .int }, accessFlags := 8, code := some k2c1 }
/-- com/example/vocab_scan/vocabscan/Utf8 -/
def k2 : Class := { plain "com/example/vocab_scan/vocabscan/Utf8" (some 0) with
  accessFlags := 48
  interfaces := #[]
  cf := some (fileOf pool2 9 #[] #[{ accessFlags := 2, nameIndex := 5, descriptorIndex := 6, attributes := #[] }, { accessFlags := 8, nameIndex := 24, descriptorIndex := 13, attributes := #[] }] 48 2 #[] #[{ accessFlags := 24, nameIndex := 18, descriptorIndex := 19, attributes := #[] }])
  fields := #[{ name := "MOST_BYTES", type := .int, accessFlags := 24, slot := 0, constantValue := 0 }]
  methods := #[k2m0, k2m1]
  instanceTypes := #[]
  staticTypes := #[.int]
  resolved := Array.replicate 34 none
  statics := none }

def pool3 : Array CpInfo := pool [(1, u "java/lang/Cloneable"), (0, .class_ 1), (0, u "java/lang/Object"), (0, .class_ 3)] 3

/-- java/lang/Cloneable -/
def k3 : Class := { plain "java/lang/Cloneable" (some 0) with
  accessFlags := 1537
  interfaces := #[]
  cf := some (fileOf pool3 2 #[] #[] 1537 4 #[] #[])
  fields := #[]
  methods := #[]
  instanceTypes := #[]
  staticTypes := #[]
  resolved := Array.replicate 8 none
  statics := none }

def pool4 : Array CpInfo := pool [(1, u "java/io/Serializable"), (0, .class_ 1), (0, u "java/lang/Object"), (0, .class_ 3)] 3

/-- java/io/Serializable -/
def k4 : Class := { plain "java/io/Serializable" (some 0) with
  accessFlags := 1537
  interfaces := #[]
  cf := some (fileOf pool4 2 #[] #[] 1537 4 #[] #[])
  fields := #[]
  methods := #[]
  instanceTypes := #[]
  staticTypes := #[]
  resolved := Array.replicate 8 none
  statics := none }

/-- the primitive byte -/
def k5 : Class := { plain "byte" none with kind := .primitive 'B', accessFlags := 0x411 }
/-- [B -/
def k6 : Class := { plain "[B" (some 0) with kind := .array 5 .byte, interfaces := #[3, 4], accessFlags := 1041 }

/-- the primitive int -/
def k7 : Class := { plain "int" none with kind := .primitive 'I', accessFlags := 0x411 }
/-- [I -/
def k8 : Class := { plain "[I" (some 0) with kind := .array 7 .int, interfaces := #[3, 4], accessFlags := 1041 }

def heap : Heap := #[]
def classes : Array Class := #[k0, k1, k2, k3, k4, k5, k6, k7, k8]
def interned : List (Array UInt16 × Addr) := []
def slotsUsed : Nat := 0
def theMethod : MethodId := ⟨1, 1⟩
def args0 : Array Value := #[.int 200]
def aboutOver (below : List Frame) : State where
  vm := { classes := classes, interned := interned.toArray }
  heap := heap
  slotsUsed := slotsUsed
  threads := #[{ frames := .invoking theMethod args0 :: below }]
def below0 : List Frame := [.native { method := ⟨0, 0⟩, args := #[] }]
def about1 : State := aboutOver below0
def p0 : Program := .bare "" "" ""
def e0 : Env := launch0.env 0 0 0
theorem w_frames : about1.frames = Frame.invoking theMethod args0 :: below0 := rfl
set_option maxRecDepth 65536 in
theorem w_args : argsFit about1.vm theMethod args0 = true := by decide +kernel
set_option maxRecDepth 65536 in
theorem w_heap : heapFits about1 = true := by decide +kernel
set_option maxRecDepth 65536 in
theorem w_runnable : about1.curStatus? = some .runnable := by decide +kernel
set_option maxRecDepth 65536 in
theorem w_alone : about1.alone = true := by decide +kernel
set_option maxRecDepth 65536 in
theorem w_named : about1.methodNamed? x = some theMethod := by decide +kernel
set_option maxRecDepth 65536 in
theorem w_hears : about1.hears theMethod below0 = true := by decide +kernel
set_option maxRecDepth 65536 in
theorem w_ripe : about1.ripe theMethod args0 below0 = true := by decide +kernel
theorem w_running : about1.status = .running := rfl
set_option maxRecDepth 65536 in
theorem w_room : about1.hasRoom e0.platform room_1 = true :=
  launch0.hasRoom_least _ room_1 (by decide +kernel) (by decide +kernel) (by decide +kernel) (by decide +kernel) (by decide +kernel) (by decide +kernel)
theorem allAtoms_all (ts : List Jvm.Cond) (a : Array Jvm.Value) (st : Jvm.State) : (allAtoms ts).before a st = ts.all (fun c => c.before a st) := by
  induction ts with
  | nil => rfl
  | cons c t ih =>
    show (Jvm.Cond.and c (allAtoms t)).before a st = _
    rw [Jvm.Cond.before_and, ih, List.all_cons]
def words1 : List Jvm.Cond := Jvm.Cond.code x code maxLocals ret :: tables_1
/-- a 'code' word, met by the world's own term for the bytes: nothing is compared byte by byte -/
theorem code_word {y : MethodName} {bytes : ByteArray} {mx : Nat} {rt : Option FieldType} {a : Array Value} {s : State} {m : MethodId} {meth : Method} {c : Code} (h1 : s.methodNamed? y = some m) (h2 : s.vm.method? m = some meth) (h3 : meth.code = some c) (h4 : c.code = bytes)
    (h5 : (c.maxLocals == mx && c.exceptionTable.isEmpty && decide (c.maxStack ≤ mostOperands) && decide (meth.sig.returnType = rt) && !meth.locks && decide (parseMethodDescriptor y.desc = some meth.sig)) = true) : (Jvm.Cond.code y bytes mx rt).before a s = true := by
  simp only [Bool.and_eq_true, beq_iff_eq, Bool.not_eq_true', decide_eq_true_eq] at h5
  obtain ⟨⟨⟨⟨⟨g1, g2⟩, g3⟩, g4⟩, g5⟩, g6⟩ := h5
  simp [Cond.before, Cond.holds, Cond.value, h1, h2, h3, h4, g1, g2, g3, g4, g5, g6]
def isCode : Jvm.Cond → Bool
  | .code _ _ _ _ => true
  | _ => false
theorem all_split {L : List Jvm.Cond} {P : Jvm.Cond → Bool} (h1 : L.all (fun c => isCode c || P c) = true) (h2 : ∀ c ∈ L.filter isCode, P c = true) : L.all P = true := by
  refine List.all_eq_true.mpr fun c hc => ?_
  have h := List.all_eq_true.mp h1 c hc
  rcases Bool.eq_false_or_eq_true (isCode c) with hi | hi
  · exact h2 c (List.mem_filter.mpr ⟨hc, hi⟩)
  · simpa [hi] using h
set_option maxRecDepth 65536 in
theorem w_c0 : (Jvm.Cond.code x code maxLocals ret).before args0 about1 = true := code_word (m := ⟨1, 1⟩) (meth := k1m1) (c := k1c1) (by decide +kernel) rfl rfl rfl (by decide +kernel)
set_option maxRecDepth 65536 in
theorem w_c1 : (Jvm.Cond.code ({ cls := "com/example/vocab_scan/vocabscan/Utf8", name := "characterSize", desc := "(I)I" } : Jvm.MethodName) prog_79_method_2_code (2 : Nat) (Option.some Jvm.ClassFile.FieldType.int)).before args0 about1 = true := code_word (m := ⟨2, 1⟩) (meth := k2m1) (c := k2c1) (by decide +kernel) rfl rfl rfl (by decide +kernel)
def codes1 : List Jvm.Cond := [Jvm.Cond.code x code maxLocals ret, Jvm.Cond.code ({ cls := "com/example/vocab_scan/vocabscan/Utf8", name := "characterSize", desc := "(I)I" } : Jvm.MethodName) prog_79_method_2_code (2 : Nat) (Option.some Jvm.ClassFile.FieldType.int)]
set_option maxRecDepth 65536 in
theorem codes_eq : words1.filter isCode = codes1 := rfl
theorem w_codes : ∀ c ∈ words1.filter isCode, c.before args0 about1 = true := by
  rw [codes_eq]
  intro c hc
  simp only [codes1, List.mem_cons, List.not_mem_nil, or_false] at hc
  rcases hc with rfl | rfl
  · exact w_c0
  · exact w_c1
set_option maxRecDepth 65536 in
theorem w_t1 : words1.all (fun c => isCode c || c.before args0 about1) = true := by decide +kernel
theorem w_tables : (allAtoms (Jvm.Cond.code x code maxLocals ret :: tables_1)).before args0 about1 = true := by
  rw [allAtoms_all]
  show words1.all (fun c => c.before args0 about1) = true
  refine all_split ?_ w_codes
  rw [w_t1]
set_option maxRecDepth 65536 in
theorem w_case : (Jvm.Cond.and given_1 narrow_1).before args0 about1 = true := by decide +kernel
theorem w_applies : (headSpec (Jvm.Cond.code x code maxLocals ret :: tables_1) room_1).applies x e0.platform about1 = true :=
  (Spec.applies_iff w_frames).mpr ⟨w_running, w_runnable, w_alone, w_named, w_hears, w_ripe, w_room, w_tables⟩
theorem atStart : AtStart classFile x code maxLocals ret World_1 tables_1 room_1 Calls_1 rest_1 Pre_1 launch0 p0 e0 about1 theMethod args0 below0 :=
  ⟨lists_1, trivial, launch0.admits_env _ _ _, launch0.least_env, fairChoices_fair.cas, fairChoices_fair.clock, w_frames, w_args, w_heap, w_applies, trivial, trivial, w_case⟩
end start1
theorem witness_1 : WitnessClaimed_1 := ⟨start1.p0, start1.e0, start1.about1, start1.theMethod, start1.args0, start1.below0, start1.atStart⟩
end Jvm.Pilot.@@N@@
