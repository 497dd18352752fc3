import JvmDerived
import JvmDerived.Pilot.@@N@@Statement
import JvmDerived.Pilot.@@N@@Code
set_option linter.unusedVariables false
set_option linter.unusedSimpArgs false
@@BLOCK:NumsL.lean.txt@@
namespace Jvm.Pilot.@@N@@
open Jvm Jvm.ClassFile Sem Op Lib Jvm.Free Jvm.Stand Jvm.LawKit Jvm.RoadKit Bundle Jvm.Pilot.@@N@@.Jvm.D
/-- a long's slot, written short -/
abbrev jv (x : Int64) : Slot := .val (.long x)
section OwnKit
variable {p : Program} {l : Launch} {e : Env} {R : Room} {s : State} {m : MethodId} {args : Array Value} {below : List Frame} {meth : Method} {c : Code} {T T' : State} {locs : List Loc} {cells slots : Nat} {Q : Option Value → Heap → List Loc → Prop} {kc ks : Nat} {g : JFrame} {Z : State} {a0 : Array Value} {h : Heap}
/-- what is left to do, from the state T with the top frame g: the run comes to the invocation's end, returns, and the end is as Q says -/
def own_G (p : Program) (e : Env) (below : List Frame) (s : State) (Q : Option Value → Heap → List Loc → Prop) (kc ks : Nat) (T : State) (g : JFrame) : Prop :=
  ∃ t o, Steps p.tables e below (T.setTop g) t ∧ t.status = .running ∧ Ended t below o ∧ ∃ v L, o = .returned v ∧ Q v t.heap L ∧ FrameEnd s o t L kc ks
theorem own_go (g' : JFrame) (k : ∀ t, Steps p.tables e below (T'.setTop g') t → Steps p.tables e below (T.setTop g) t) (h : own_G p e below s Q kc ks T' g') : own_G p e below s Q kc ks T g := by
  obtain ⟨t, o, h1, h2⟩ := h
  exact ⟨t, o, k t h1, h2⟩
theorem own_out (X : Stand p l e R s m args below meth c T locs cells slots) (hlk : meth.locks = false) {v : Option Value} (hv : meth.sig.returnType = none → v = none)
    (st : ∀ fs, (∀ (f : JFrame) (acts : List Action), f.method = m → f.locked = none → f.entered = [] → (doReturn e (T.setTop f) acts v).1 = T.setFrames fs) → Steps p.tables e below (T.setTop g) (T.setFrames fs))
    (hQ : Q v T.heap locs) (h1 : cells ≤ kc) (h2 : slots ≤ ks) : own_G p e below s Q kc ks T g := by
  obtain ⟨fs, hr, hrun, hended, hW, hsame⟩ := X.leave (v := v) hv hlk
  exact ⟨_, _, st fs hr, hrun, hended, v, locs, rfl, hQ, ⟨_, rfl⟩, hW, hsame.mono h1 h2⟩
theorem own_retI (X : Stand p l e R s m args below meth c T locs cells slots) (hx : p.tables.exec = Jvm.exec) (hlk : meth.locks = false) (hret : meth.sig.returnType = some .int) {pc : Nat} {Ls : Array Slot} {z : Int32} {rest : List Value} (hd : decode c.code pc = .ok (.ireturn, 1))
    (hQ : Q (some (.int z)) T.heap locs) (h1 : cells ≤ kc) (h2 : slots ≤ ks) : own_G p e below s Q kc ks T (mkF m pc Ls (.int z :: rest)) := by
  refine own_out X hlk (v := some (.int z)) (fun h => by rw [hret] at h; cases h) (fun fs hl => ?_) hQ h1 h2
  have hm' : T.vm.method? m = some meth := X.method'
  have hn : narrow .int (.int z) = .int z := rfl
  show Steps p.tables e below (T.setTop { method := m, pc := pc, locals := Ls, stack := _ :: rest, locked := none }) _
  jvm_step X.here [X.here.top, hx, hd, hm', hret, hn]
  first | (intro acts; rw [hl _ acts rfl rfl rfl]) | rw [hl _ _ rfl rfl rfl]
  exact Steps.refl _
theorem own_retZ (X : Stand p l e R s m args below meth c T locs cells slots) (hx : p.tables.exec = Jvm.exec) (hlk : meth.locks = false) (hret : meth.sig.returnType = some .boolean) {pc : Nat} {Ls : Array Slot} {z : Int32} {rest : List Value} (hd : decode c.code pc = .ok (.ireturn, 1))
    (hQ : Q (some (.int (z &&& 1))) T.heap locs) (h1 : cells ≤ kc) (h2 : slots ≤ ks) : own_G p e below s Q kc ks T (mkF m pc Ls (.int z :: rest)) :=
  own_out X hlk (v := some (.int (z &&& 1))) (fun h => by rw [hret] at h; cases h) (fun fs hl => retN X hx (t := .boolean) hret (by simp) hd hl) hQ h1 h2
theorem own_retJ (X : Stand p l e R s m args below meth c T locs cells slots) (hx : p.tables.exec = Jvm.exec) (hlk : meth.locks = false) (hret : meth.sig.returnType = some .long) {pc : Nat} {Ls : Array Slot} {z : Int64} (hd : decode c.code pc = .ok (.lreturn, 1))
    (hQ : Q (some (.long z)) T.heap locs) (h1 : cells ≤ kc) (h2 : slots ≤ ks) : own_G p e below s Q kc ks T (mkF m pc Ls [.long z]) :=
  own_out X hlk (v := some (.long z)) (fun h => by rw [hret] at h; cases h) (fun fs hl => X.lreturnOut hx hret hd hl) hQ h1 h2
theorem own_retA (X : Stand p l e R s m args below meth c T locs cells slots) (hx : p.tables.exec = Jvm.exec) (hlk : meth.locks = false) {t : FieldType} (hret : meth.sig.returnType = some t) (ht : t.isReference = true) {pc : Nat} {Ls : Array Slot} {z : Value} (hz : z.isRef = true) (hd : decode c.code pc = .ok (.areturn, 1))
    (hQ : Q (some z) T.heap locs) (h1 : cells ≤ kc) (h2 : slots ≤ ks) : own_G p e below s Q kc ks T (mkF m pc Ls [z]) :=
  own_out X hlk (v := some z) (fun h => by rw [hret] at h; cases h) (fun fs hl => X.areturnOut hx hz hret ht hd hl) hQ h1 h2
theorem own_retV (X : Stand p l e R s m args below meth c T locs cells slots) (hx : p.tables.exec = Jvm.exec) (hlk : meth.locks = false) (hret : meth.sig.returnType = none) {pc : Nat} {Ls : Array Slot} (hd : decode c.code pc = .ok (.return_, 1))
    (hQ : Q none T.heap locs) (h1 : cells ≤ kc) (h2 : slots ≤ ks) : own_G p e below s Q kc ks T (mkF m pc Ls []) :=
  own_out X hlk (v := none) (fun _ => rfl) (fun fs hl => X.returnOut hx hret hd hl) hQ h1 h2
/-- a method's contract at one heap and one row of arguments -/
def own_C (l : Launch) (Z : State) (y : MethodName) (bytes : ByteArray) (mx : Nat) (ret : Option FieldType) (ws : List Jvm.Cond) (rm : Room) (as : Array Value) (h0 : Heap) (Q : Option Value → Heap → List Loc → Prop) : Prop :=
  MetFree l y (head1 (Jvm.Cond.code y bytes mx ret :: ws) rm) (fun a U => a = as ∧ Z.Warmed39 U.vm ∧ U.heap = h0) (fun _ _ _ _ _ => True) (fun _ U o U' => ∃ v L, o = .returned v ∧ Q v U'.heap L ∧ FrameEnd U o U' L rm.cells rm.slots)
theorem own_met {y : MethodName} {bytes : ByteArray} {mx : Nat} {ret : Option FieldType} {ws : List Jvm.Cond} {rm : Room} {as : Array Value} {h0 : Heap} (hp : plainFor y = true) (L0 : Array Slot) (hef : ∀ m, entryFrame m as mx = mkF m 0 L0 [])
    (body : ∀ (p : Program) (e : Env) (s : State) (m : MethodId) (below : List Frame) (meth : Method) (c : Code) (s₁ : State), p.tables.exec = Jvm.exec → c.code = bytes → c.maxLocals = mx → s.vm.findClass y.cls = some m.cls → meth.sig.returnType = ret → meth.locks = false → Z.Warmed39 s.vm → meth.name = y.name →
      Stand p l e rm s m as below meth c s₁ [] 0 0 → s₁.heap = h0 → own_G p e below s Q rm.cells rm.slots s₁ (mkF m 0 L0 [])) :
    own_C l Z y bytes mx ret ws rm as h0 Q := by
  refine MetFree.of_bodySF hp hisR ?_
  intro p e s m args below meth c s₁ Bd hml0 hP hK
  obtain ⟨rfl, hZ, hh⟩ := hP
  have hown : s.vm.findClass y.cls = some m.cls := findClass_of_methodNamed Bd.named
  have hnm := (name_of_methodNamed Bd.named Bd.method).1
  have X0 : Stand p l e rm s m args below meth c s₁ [] 0 0 := Stand.of_body Bd
  have e0 : s₁.heap = h0 := by rw [← hh, Bd.state]; rfl
  obtain ⟨t, o, h1, h2⟩ := body p e s m below meth c s₁ Bd.exec Bd.bytes hml0 hown Bd.returns Bd.notSynchronized hZ hnm X0 e0
  exact ⟨t, o, castTop (hef m) h1, h2⟩
/-- a static call by the callee's contract -/
theorem own_callS (X : Stand p l e R s m args below meth c T locs cells slots) (hx : p.tables.exec = Jvm.exec) (hZ : Z.Warmed39 s.vm) {own : String} {index : Nat} {y : MethodName} {bytes : ByteArray} {mx : Nat} {ret : Option FieldType} {rm : Room} {Qc : Option Value → Heap → List Loc → Prop}
    (hown : s.vm.findClass own = some m.cls) (w1 : (Jvm.Cond.methodLink own index y).before a0 Z = true) (w2 : (Jvm.Cond.static y).before a0 Z = true) (w3 : (Jvm.Cond.initialized y.cls).before a0 Z = true) (w4 : (Jvm.Cond.code y bytes mx ret).before a0 Z = true) (hy : y.cls ≠ "java/lang/invoke/MethodHandle" ∧ y.cls ≠ "java/lang/invoke/VarHandle")
    (eT : T.heap = h) (argsL rest : List Value) (hM : own_C l Z y bytes mx ret [] rm argsL.toArray h Qc) (W : Nat) (hf : rm.frames + 1 ≤ R.frames) (hlo : W + (mx + 11) + rm.locals ≤ R.locals) (hW : (rest.map fun v => v.category).sum ≤ W) (hc : cells + rm.cells ≤ R.cells) (hs : slots + rm.slots ≤ R.slots)
    {pc : Nat} {Ls : Array Slot} {S : List Value} (hsize : Ls.size = c.maxLocals) (hlen : ∀ sig, parseMethodDescriptor y.desc = some sig → argsL.length = sig.parameters.length) (hS : S = argsL.reverse ++ rest) (hd : decode c.code pc = .ok (.invokestatic index, 3))
    (k : ∀ (T' : State) (v : Option Value) (L : List Loc), Stand p l e R s m args below meth c T' (locs ++ L) (cells + rm.cells) (slots + rm.slots) → Qc v T'.heap L → own_G p e below s Q kc ks T' (mkF m (pc + 3) Ls (v.toList ++ rest))) :
    own_G p e below s Q kc ks T (mkF m pc Ls S) := by
  obtain ⟨v, _, ⟨T', L', k', n'⟩, -, X', ⟨L, hQ, q1, q2, q3⟩, st⟩ := Jvm.LawKit.callS X hx (y := y) hown (mvT hZ w1) (mvT hZ w2) (mvT hZ w3) (mvT hZ w4) hy (backOf (W := W) hM hZ w4 w3 hf hlo) (g := mkF m pc Ls S) rfl hsize (argsL := argsL) (rest := rest) hlen hS (by show 2 * 0 + _ ≤ _; omega) hd (fun _ _ => ⟨rfl, eT, hc, hs⟩)
  dsimp only [Pt.U, Pt.locs, Pt.cells, Pt.slots] at X' q1 q2 q3 st hQ
  subst q1 q2 q3
  exact own_go _ st (k T' v L X' hQ)
/-- what a pure method's end is: this value, the heap as it was, no place written -/
def own_P (r : Value) (h0 : Heap) (v : Option Value) (h : Heap) (L : List Loc) : Prop := v = some r ∧ h = h0 ∧ L = []
/-- a static call of a pure method -/
theorem own_callP (X : Stand p l e R s m args below meth c T locs cells slots) (hx : p.tables.exec = Jvm.exec) (hZ : Z.Warmed39 s.vm) {own : String} {index : Nat} {y : MethodName} {bytes : ByteArray} {mx : Nat} {ret : Option FieldType} {fr lo : Nat} {r : Value}
    (hown : s.vm.findClass own = some m.cls) (w1 : (Jvm.Cond.methodLink own index y).before a0 Z = true) (w2 : (Jvm.Cond.static y).before a0 Z = true) (w3 : (Jvm.Cond.initialized y.cls).before a0 Z = true) (w4 : (Jvm.Cond.code y bytes mx ret).before a0 Z = true) (hy : y.cls ≠ "java/lang/invoke/MethodHandle" ∧ y.cls ≠ "java/lang/invoke/VarHandle")
    (eT : T.heap = h) (argsL rest : List Value) (hM : own_C l Z y bytes mx ret [] { frames := fr, cells := 0, slots := 0, locals := lo } argsL.toArray h (own_P r h)) (W : Nat) (hf : fr + 1 ≤ R.frames) (hlo : W + (mx + 11) + lo ≤ R.locals) (hW : (rest.map fun v => v.category).sum ≤ W) (hc : cells ≤ R.cells) (hs : slots ≤ R.slots)
    {pc : Nat} {Ls : Array Slot} {S : List Value} (hsize : Ls.size = c.maxLocals) (hlen : ∀ sig, parseMethodDescriptor y.desc = some sig → argsL.length = sig.parameters.length) (hS : S = argsL.reverse ++ rest) (hd : decode c.code pc = .ok (.invokestatic index, 3))
    (k : ∀ (T' : State), Stand p l e R s m args below meth c T' locs cells slots → T'.heap = h → own_G p e below s Q kc ks T' (mkF m (pc + 3) Ls (r :: rest))) :
    own_G p e below s Q kc ks T (mkF m pc Ls S) := by
  refine own_callS X hx hZ hown w1 w2 w3 w4 hy eT argsL rest hM W hf hlo hW hc hs hsize hlen hS hd ?_
  rintro T' v L X' ⟨rfl, q2, rfl⟩
  rw [List.append_nil] at X'
  exact k T' X' q2
/-- a constructor's call -/
theorem own_callI (X : Stand p l e R s m args below meth c T locs cells slots) (hx : p.tables.exec = Jvm.exec) (hZ : Z.Warmed39 s.vm) {own : String} {index : Nat} {y : MethodName} {bytes : ByteArray} {mx : Nat} {rm : Room} {Qc : Option Value → Heap → List Loc → Prop} (hy1 : y.name = "<init>")
    (hown : s.vm.findClass own = some m.cls) (w1 : (Jvm.Cond.methodLink own index y).before a0 Z = true) (w2 : (Jvm.Cond.instanceMethod y).before a0 Z = true) (w3 : (Jvm.Cond.initialized y.cls).before a0 Z = true) (w4 : (Jvm.Cond.code y bytes mx none).before a0 Z = true) (hy : y.cls ≠ "java/lang/invoke/MethodHandle" ∧ y.cls ≠ "java/lang/invoke/VarHandle")
    (eT : T.heap = h) (a : Addr) (argsL rest : List Value) (hM : own_C l Z y bytes mx none [] rm (.ref a :: argsL).toArray h Qc) (W : Nat) (hf : rm.frames + 1 ≤ R.frames) (hlo : W + (mx + 11) + rm.locals ≤ R.locals) (hW : (rest.map fun v => v.category).sum ≤ W) (hc : cells + rm.cells ≤ R.cells) (hs : slots + rm.slots ≤ R.slots)
    {pc : Nat} {Ls : Array Slot} {S : List Value} (hsize : Ls.size = c.maxLocals) (hlen : ∀ sig, parseMethodDescriptor y.desc = some sig → argsL.length = sig.parameters.length) (hS : S = argsL.reverse ++ .ref a :: rest) (hd : decode c.code pc = .ok (.invokespecial index, 3))
    (k : ∀ (T' : State) (v : Option Value) (L : List Loc), Stand p l e R s m args below meth c T' (locs ++ L) (cells + rm.cells) (slots + rm.slots) → Qc v T'.heap L → own_G p e below s Q kc ks T' (mkF m (pc + 3) Ls (v.toList ++ rest))) :
    own_G p e below s Q kc ks T (mkF m pc Ls S) := by
  obtain ⟨v, _, ⟨T', L', k', n'⟩, -, X', ⟨L, hQ, q1, q2, q3⟩, st⟩ := X.specialBack hx (y := y) hy1 hown (mvT hZ w1) (mvT hZ w2) (mvT hZ w4) hy (backOf (W := W) hM hZ w4 w3 hf hlo) (g := mkF m pc Ls S) rfl hsize (Steps.refl _) (a := a) (argsL := argsL) (rest := rest) hlen hS (by show 2 * 0 + _ ≤ _; omega) hd (fun _ _ => ⟨rfl, eT, hc, hs⟩)
  dsimp only [Pt.U, Pt.locs, Pt.cells, Pt.slots] at X' q1 q2 q3 st hQ
  subst q1 q2 q3
  exact own_go _ (fun t kt => st.trans kt) (k T' v L X' hQ)
/-- an instance method's call -/
theorem own_callV (X : Stand p l e R s m args below meth c T locs cells slots) (hx : p.tables.exec = Jvm.exec) (hZ : Z.Warmed39 s.vm) {own C : String} {index : Nat} {y : MethodName} {bytes : ByteArray} {mx : Nat} {ret : Option FieldType} {rm : Room} {Qc : Option Value → Heap → List Loc → Prop}
    (hown : s.vm.findClass own = some m.cls) (w1 : (Jvm.Cond.methodLink own index y).before a0 Z = true) (w5 : (Jvm.Cond.declares y).before a0 Z = true) (w6 : (Jvm.Cond.selects C y y).before a0 Z = true) (w2 : (Jvm.Cond.instanceMethod y).before a0 Z = true) (w3 : (Jvm.Cond.initialized y.cls).before a0 Z = true) (w4 : (Jvm.Cond.code y bytes mx ret).before a0 Z = true) (hy : y.cls ≠ "java/lang/invoke/MethodHandle" ∧ y.cls ≠ "java/lang/invoke/VarHandle")
    (eT : T.heap = h) {a : Addr} (E : Exa Z h a C) (argsL rest : List Value) (hM : own_C l Z y bytes mx ret [] rm (.ref a :: argsL).toArray h Qc) (W : Nat) (hf : rm.frames + 1 ≤ R.frames) (hlo : W + (mx + 11) + rm.locals ≤ R.locals) (hW : (rest.map fun v => v.category).sum ≤ W) (hc : cells + rm.cells ≤ R.cells) (hs : slots + rm.slots ≤ R.slots)
    {pc : Nat} {Ls : Array Slot} {S : List Value} (hsize : Ls.size = c.maxLocals) (hlen : ∀ sig, parseMethodDescriptor y.desc = some sig → argsL.length = sig.parameters.length) (hS : S = argsL.reverse ++ .ref a :: rest) (hd : decode c.code pc = .ok (.invokevirtual index, 3))
    (k : ∀ (T' : State) (v : Option Value) (L : List Loc), Stand p l e R s m args below meth c T' (locs ++ L) (cells + rm.cells) (slots + rm.slots) → Qc v T'.heap L → own_G p e below s Q kc ks T' (mkF m (pc + 3) Ls (v.toList ++ rest))) :
    own_G p e below s Q kc ks T (mkF m pc Ls S) := by
  obtain ⟨cq, kq, qa, qb, qc⟩ := isOf hZ eT E
  obtain ⟨v, _, ⟨T', L', k', n'⟩, -, X', ⟨L, hQ, q1, q2, q3⟩, st⟩ := X.virtualBack hx (y := y) (z := y) hown (mvT hZ w1) (mvT hZ w5) (notFace_of_selects (args := #[]) (mvT hZ w6)) (mvT hZ w6) (mvT hZ w2) hy (backOf (W := W) hM hZ w4 w3 hf hlo) qa qc (g := mkF m pc Ls S) rfl hsize (Steps.refl _) (argsL := argsL) (rest := rest) hlen hS (by show 2 * 0 + _ ≤ _; omega) hd (fun _ _ => ⟨rfl, eT, hc, hs⟩)
  dsimp only [Pt.U, Pt.locs, Pt.cells, Pt.slots] at X' q1 q2 q3 st hQ
  subst q1 q2 q3
  exact own_go _ (fun t kt => st.trans kt) (k T' v L X' hQ)
end OwnKit
theorem own_pd0 : parseMethodDescriptor "(III)J" = some ⟨[.int, .int, .int], some .long⟩ := by decide +kernel

theorem own_rem32 (x y : Int32) : (x - (x / y) * y).toInt = x.toInt.tmod y.toInt := by
  have a := (x % y).toInt_lt; have b := (x % y).le_toInt
  rw [Int32.toInt_mod] at a b
  rw [Int32.toInt_sub, Int32.toInt_mul, Int32.toInt_div, Int.bmod_mul_bmod, Int.sub_bmod_bmod, Int.mul_comm, ← Int.tmod_def]
  exact Jvm.Kit.bmod32 b a

def own_size (x : Int32) (y : Int32) (z : Int32) : Int64 := (if z = (-1 : Int32) then (if y = (0 : Int32) then ((x.toInt64) + (2 : Int64)) else (if z = (-1 : Int32) then (((y.toInt64) * (x.toInt64)) + (1 : Int64)) else (((y.toInt64) * (x.toInt64)) + (((z - y).toInt64) * ((x + (1 : Int32)).toInt64))))) else (if z = (-1 : Int32) then (((y.toInt64) * (x.toInt64)) + (1 : Int64)) else (((y.toInt64) * (x.toInt64)) + (((z - y).toInt64) * ((x + (1 : Int32)).toInt64)))))
theorem own_d1_0 : decode prog_66_method_5_code 0 = .ok (.iload_n 2, 1) := by decide +kernel
theorem own_d1_1 : decode prog_66_method_5_code 1 = .ok (.iconst (-1), 1) := by decide +kernel
theorem own_d1_2 : decode prog_66_method_5_code 2 = .ok (.if_icmp .ne 17, 3) := by decide +kernel
theorem own_d1_5 : decode prog_66_method_5_code 5 = .ok (.iload_n 1, 1) := by decide +kernel
theorem own_d1_6 : decode prog_66_method_5_code 6 = .ok (.ifCond .ne 13, 3) := by decide +kernel
theorem own_d1_9 : decode prog_66_method_5_code 9 = .ok (.iload_n 0, 1) := by decide +kernel
theorem own_d1_10 : decode prog_66_method_5_code 10 = .ok (.i2l, 1) := by decide +kernel
theorem own_d1_11 : decode prog_66_method_5_code 11 = .ok (.ldc2_w 113, 3) := by decide +kernel
theorem own_d1_14 : decode prog_66_method_5_code 14 = .ok (.ladd, 1) := by decide +kernel
theorem own_d1_15 : decode prog_66_method_5_code 15 = .ok (.lstore_n 3, 1) := by decide +kernel
theorem own_d1_16 : decode prog_66_method_5_code 16 = .ok (.goto 35, 3) := by decide +kernel
theorem own_d1_19 : decode prog_66_method_5_code 19 = .ok (.iload_n 2, 1) := by decide +kernel
theorem own_d1_20 : decode prog_66_method_5_code 20 = .ok (.iconst (-1), 1) := by decide +kernel
theorem own_d1_21 : decode prog_66_method_5_code 21 = .ok (.if_icmp .ne 14, 3) := by decide +kernel
theorem own_d1_24 : decode prog_66_method_5_code 24 = .ok (.iload_n 1, 1) := by decide +kernel
theorem own_d1_25 : decode prog_66_method_5_code 25 = .ok (.i2l, 1) := by decide +kernel
theorem own_d1_26 : decode prog_66_method_5_code 26 = .ok (.iload_n 0, 1) := by decide +kernel
theorem own_d1_27 : decode prog_66_method_5_code 27 = .ok (.i2l, 1) := by decide +kernel
theorem own_d1_28 : decode prog_66_method_5_code 28 = .ok (.lmul, 1) := by decide +kernel
theorem own_d1_29 : decode prog_66_method_5_code 29 = .ok (.lconst 1, 1) := by decide +kernel
theorem own_d1_30 : decode prog_66_method_5_code 30 = .ok (.ladd, 1) := by decide +kernel
theorem own_d1_31 : decode prog_66_method_5_code 31 = .ok (.lstore_n 3, 1) := by decide +kernel
theorem own_d1_32 : decode prog_66_method_5_code 32 = .ok (.goto 19, 3) := by decide +kernel
theorem own_d1_35 : decode prog_66_method_5_code 35 = .ok (.iload_n 1, 1) := by decide +kernel
theorem own_d1_36 : decode prog_66_method_5_code 36 = .ok (.i2l, 1) := by decide +kernel
theorem own_d1_37 : decode prog_66_method_5_code 37 = .ok (.iload_n 0, 1) := by decide +kernel
theorem own_d1_38 : decode prog_66_method_5_code 38 = .ok (.i2l, 1) := by decide +kernel
theorem own_d1_39 : decode prog_66_method_5_code 39 = .ok (.lmul, 1) := by decide +kernel
theorem own_d1_40 : decode prog_66_method_5_code 40 = .ok (.iload_n 2, 1) := by decide +kernel
theorem own_d1_41 : decode prog_66_method_5_code 41 = .ok (.iload_n 1, 1) := by decide +kernel
theorem own_d1_42 : decode prog_66_method_5_code 42 = .ok (.isub, 1) := by decide +kernel
theorem own_d1_43 : decode prog_66_method_5_code 43 = .ok (.i2l, 1) := by decide +kernel
theorem own_d1_44 : decode prog_66_method_5_code 44 = .ok (.iload_n 0, 1) := by decide +kernel
theorem own_d1_45 : decode prog_66_method_5_code 45 = .ok (.iconst 1, 1) := by decide +kernel
theorem own_d1_46 : decode prog_66_method_5_code 46 = .ok (.iadd, 1) := by decide +kernel
theorem own_d1_47 : decode prog_66_method_5_code 47 = .ok (.i2l, 1) := by decide +kernel
theorem own_d1_48 : decode prog_66_method_5_code 48 = .ok (.lmul, 1) := by decide +kernel
theorem own_d1_49 : decode prog_66_method_5_code 49 = .ok (.ladd, 1) := by decide +kernel
theorem own_d1_50 : decode prog_66_method_5_code 50 = .ok (.lstore_n 3, 1) := by decide +kernel
theorem own_d1_51 : decode prog_66_method_5_code 51 = .ok (.lload_n 3, 1) := by decide +kernel
theorem own_d1_52 : decode prog_66_method_5_code 52 = .ok (.lreturn, 1) := by decide +kernel
theorem own_pn_own_rm1 : plainFor (⟨"com/example/alcuin/alcuin/service/EreNode", "repetitionSize", "(III)J"⟩ : MethodName) = true := plainFor_of_name (show plainName "com/example/alcuin/alcuin/service/EreNode" = true by first | (simp [plainName, overriddenIn]; done) | decide +kernel)
set_option maxRecDepth 65536 in
set_option maxHeartbeats 40000000 in
theorem own_rm1 (l : Launch) (Z : State) (a0 : Array Value) (hw : ∀ d ∈ tables_1, d.before a0 Z = true) (ws : List Jvm.Cond) (h0 : Heap) (x y z : Int32)  :
    own_C l Z (⟨"com/example/alcuin/alcuin/service/EreNode", "repetitionSize", "(III)J"⟩ : MethodName) prog_66_method_5_code 5 (some .long) ws ({ frames := 0, cells := 0, slots := 0, locals := 0 } : Room) #[(.int x), (.int y), (.int z)] h0 (own_P (.long (own_size x y z)) h0) := by
  refine own_met own_pn_own_rm1 #[iv x, iv y, iv z, .unset, .unset] (fun m => by first | (simp [entryFrame, mkF, argsToLocals, Value.category]; done) | rfl) ?_
  intro p e s m below meth c s₁ hx hby hml hown hret hlk hZ hnm X0 e0
  refine own_go (mkF m 1 #[iv x, iv y, iv z, .unset, .unset] [(.int z)]) (fun t k => XS.iloadN X0.here hx rfl (hb hby own_d1_0) rfl  k) ?_
  refine own_go (mkF m 2 #[iv x, iv y, iv z, .unset, .unset] [(.int (-1 : Int32)), (.int z)]) (fun t k => XS.iconst X0.here hx rfl (hb hby own_d1_1) k) ?_
  by_cases hc2 : z = (-1 : Int32)
  · skip
    refine own_go (mkF m 5 #[iv x, iv y, iv z, .unset, .unset] []) (fun t k => XS.icmpNo X0.here hx rfl (hb hby own_d1_2) rfl (teq hc2).2 k) ?_
    refine own_go (mkF m 6 #[iv x, iv y, iv z, .unset, .unset] [(.int y)]) (fun t k => XS.iloadN X0.here hx rfl (hb hby own_d1_5) rfl  k) ?_
    by_cases hc6 : y = (0 : Int32)
    · skip
      refine own_go (mkF m 9 #[iv x, iv y, iv z, .unset, .unset] []) (fun t k => XS.ifNo X0.here hx rfl (hb hby own_d1_6) rfl ((if0 _ _).trans (teq hc6).2) k) ?_
      refine own_go (mkF m 10 #[iv x, iv y, iv z, .unset, .unset] [(.int x)]) (fun t k => XS.iloadN X0.here hx rfl (hb hby own_d1_9) rfl  k) ?_
      refine own_go (mkF m 11 #[iv x, iv y, iv z, .unset, .unset] [(.long (x.toInt64))]) (fun t k => XS.i2l X0.here hx rfl (hb hby own_d1_10) rfl k) ?_
      refine own_go (mkF m 14 #[iv x, iv y, iv z, .unset, .unset] [(.long (2 : Int64)), (.long (x.toInt64))]) (fun t k => X0.ldc2Long hx hown (mvT hZ (hw _ (List.mem_of_getElem? (i := 6) rfl))) (g := (mkF m 11 #[iv x, iv y, iv z, .unset, .unset] [(.long (x.toInt64))])) rfl (hb hby own_d1_11) _ k) ?_
      refine own_go (mkF m 15 #[iv x, iv y, iv z, .unset, .unset] [(.long ((x.toInt64) + (2 : Int64)))]) (fun t k => XS.ladd X0.here hx rfl (hb hby own_d1_14) rfl k) ?_
      refine own_go (mkF m 16 #[iv x, iv y, iv z, jv ((x.toInt64) + (2 : Int64)), .second] []) (fun t k => XS.lstoreN X0.here hx rfl (hb hby own_d1_15) rfl (l' := #[iv x, iv y, iv z, jv ((x.toInt64) + (2 : Int64)), .second]) rfl k) ?_
      refine own_go (mkF m 51 #[iv x, iv y, iv z, jv ((x.toInt64) + (2 : Int64)), .second] []) (fun t k => XS.goto X0.here hx rfl (pc0 := 16) (pc' := 51) rfl (hb hby own_d1_16) (by decide) (by decide) k) ?_
      refine own_go (mkF m 52 #[iv x, iv y, iv z, jv ((x.toInt64) + (2 : Int64)), .second] [(.long ((x.toInt64) + (2 : Int64)))]) (fun t k => XS.lloadN X0.here hx rfl (hb hby own_d1_51) rfl  k) ?_
      refine own_retJ X0 hx hlk hret (hb hby own_d1_52) ?_ (by decide) (by decide)
      exact ⟨congrArg (fun z => some (Value.long z)) ((show (own_size x y z) = ((x.toInt64) + (2 : Int64)) from ((if_pos hc2).trans ((if_pos hc6).trans rfl))).trans (by rfl : ((x.toInt64) + (2 : Int64)) = ((x.toInt64) + (2 : Int64)))).symm, e0, rfl⟩
    · skip
      refine own_go (mkF m 19 #[iv x, iv y, iv z, .unset, .unset] []) (fun t k => XS.ifYes X0.here hx rfl (pc0 := 6) (pc' := 19) rfl (hb hby own_d1_6) rfl ((if0 _ _).trans (feq hc6).2) (by decide) (by decide) k) ?_
      refine own_go (mkF m 20 #[iv x, iv y, iv z, .unset, .unset] [(.int z)]) (fun t k => XS.iloadN X0.here hx rfl (hb hby own_d1_19) rfl  k) ?_
      refine own_go (mkF m 21 #[iv x, iv y, iv z, .unset, .unset] [(.int (-1 : Int32)), (.int z)]) (fun t k => XS.iconst X0.here hx rfl (hb hby own_d1_20) k) ?_
      by_cases hc21 : z = (-1 : Int32)
      · skip
        refine own_go (mkF m 24 #[iv x, iv y, iv z, .unset, .unset] []) (fun t k => XS.icmpNo X0.here hx rfl (hb hby own_d1_21) rfl (teq hc21).2 k) ?_
        refine own_go (mkF m 25 #[iv x, iv y, iv z, .unset, .unset] [(.int y)]) (fun t k => XS.iloadN X0.here hx rfl (hb hby own_d1_24) rfl  k) ?_
        refine own_go (mkF m 26 #[iv x, iv y, iv z, .unset, .unset] [(.long (y.toInt64))]) (fun t k => XS.i2l X0.here hx rfl (hb hby own_d1_25) rfl k) ?_
        refine own_go (mkF m 27 #[iv x, iv y, iv z, .unset, .unset] [(.int x), (.long (y.toInt64))]) (fun t k => XS.iloadN X0.here hx rfl (hb hby own_d1_26) rfl  k) ?_
        refine own_go (mkF m 28 #[iv x, iv y, iv z, .unset, .unset] [(.long (x.toInt64)), (.long (y.toInt64))]) (fun t k => XS.i2l X0.here hx rfl (hb hby own_d1_27) rfl k) ?_
        refine own_go (mkF m 29 #[iv x, iv y, iv z, .unset, .unset] [(.long ((y.toInt64) * (x.toInt64)))]) (fun t k => XS.lmul X0.here hx rfl (hb hby own_d1_28) rfl k) ?_
        refine own_go (mkF m 30 #[iv x, iv y, iv z, .unset, .unset] [(.long (1 : Int64)), (.long ((y.toInt64) * (x.toInt64)))]) (fun t k => XS.lconst X0.here hx rfl (hb hby own_d1_29) k) ?_
        refine own_go (mkF m 31 #[iv x, iv y, iv z, .unset, .unset] [(.long (((y.toInt64) * (x.toInt64)) + (1 : Int64)))]) (fun t k => XS.ladd X0.here hx rfl (hb hby own_d1_30) rfl k) ?_
        refine own_go (mkF m 32 #[iv x, iv y, iv z, jv (((y.toInt64) * (x.toInt64)) + (1 : Int64)), .second] []) (fun t k => XS.lstoreN X0.here hx rfl (hb hby own_d1_31) rfl (l' := #[iv x, iv y, iv z, jv (((y.toInt64) * (x.toInt64)) + (1 : Int64)), .second]) rfl k) ?_
        refine own_go (mkF m 51 #[iv x, iv y, iv z, jv (((y.toInt64) * (x.toInt64)) + (1 : Int64)), .second] []) (fun t k => XS.goto X0.here hx rfl (pc0 := 32) (pc' := 51) rfl (hb hby own_d1_32) (by decide) (by decide) k) ?_
        refine own_go (mkF m 52 #[iv x, iv y, iv z, jv (((y.toInt64) * (x.toInt64)) + (1 : Int64)), .second] [(.long (((y.toInt64) * (x.toInt64)) + (1 : Int64)))]) (fun t k => XS.lloadN X0.here hx rfl (hb hby own_d1_51) rfl  k) ?_
        refine own_retJ X0 hx hlk hret (hb hby own_d1_52) ?_ (by decide) (by decide)
        exact ⟨congrArg (fun z => some (Value.long z)) ((show (own_size x y z) = (((y.toInt64) * (x.toInt64)) + (1 : Int64)) from ((if_pos hc2).trans ((if_neg hc6).trans ((if_pos hc21).trans rfl)))).trans (by rfl : (((y.toInt64) * (x.toInt64)) + (1 : Int64)) = (((y.toInt64) * (x.toInt64)) + (1 : Int64)))).symm, e0, rfl⟩
      · skip
        refine own_go (mkF m 35 #[iv x, iv y, iv z, .unset, .unset] []) (fun t k => XS.icmpYes X0.here hx rfl (pc0 := 21) (pc' := 35) rfl (hb hby own_d1_21) rfl (feq hc21).2 (by decide) (by decide) k) ?_
        refine own_go (mkF m 36 #[iv x, iv y, iv z, .unset, .unset] [(.int y)]) (fun t k => XS.iloadN X0.here hx rfl (hb hby own_d1_35) rfl  k) ?_
        refine own_go (mkF m 37 #[iv x, iv y, iv z, .unset, .unset] [(.long (y.toInt64))]) (fun t k => XS.i2l X0.here hx rfl (hb hby own_d1_36) rfl k) ?_
        refine own_go (mkF m 38 #[iv x, iv y, iv z, .unset, .unset] [(.int x), (.long (y.toInt64))]) (fun t k => XS.iloadN X0.here hx rfl (hb hby own_d1_37) rfl  k) ?_
        refine own_go (mkF m 39 #[iv x, iv y, iv z, .unset, .unset] [(.long (x.toInt64)), (.long (y.toInt64))]) (fun t k => XS.i2l X0.here hx rfl (hb hby own_d1_38) rfl k) ?_
        refine own_go (mkF m 40 #[iv x, iv y, iv z, .unset, .unset] [(.long ((y.toInt64) * (x.toInt64)))]) (fun t k => XS.lmul X0.here hx rfl (hb hby own_d1_39) rfl k) ?_
        refine own_go (mkF m 41 #[iv x, iv y, iv z, .unset, .unset] [(.int z), (.long ((y.toInt64) * (x.toInt64)))]) (fun t k => XS.iloadN X0.here hx rfl (hb hby own_d1_40) rfl  k) ?_
        refine own_go (mkF m 42 #[iv x, iv y, iv z, .unset, .unset] [(.int y), (.int z), (.long ((y.toInt64) * (x.toInt64)))]) (fun t k => XS.iloadN X0.here hx rfl (hb hby own_d1_41) rfl  k) ?_
        refine own_go (mkF m 43 #[iv x, iv y, iv z, .unset, .unset] [(.int (z - y)), (.long ((y.toInt64) * (x.toInt64)))]) (fun t k => XS.isub X0.here hx rfl (hb hby own_d1_42) rfl k) ?_
        refine own_go (mkF m 44 #[iv x, iv y, iv z, .unset, .unset] [(.long ((z - y).toInt64)), (.long ((y.toInt64) * (x.toInt64)))]) (fun t k => XS.i2l X0.here hx rfl (hb hby own_d1_43) rfl k) ?_
        refine own_go (mkF m 45 #[iv x, iv y, iv z, .unset, .unset] [(.int x), (.long ((z - y).toInt64)), (.long ((y.toInt64) * (x.toInt64)))]) (fun t k => XS.iloadN X0.here hx rfl (hb hby own_d1_44) rfl  k) ?_
        refine own_go (mkF m 46 #[iv x, iv y, iv z, .unset, .unset] [(.int (1 : Int32)), (.int x), (.long ((z - y).toInt64)), (.long ((y.toInt64) * (x.toInt64)))]) (fun t k => XS.iconst X0.here hx rfl (hb hby own_d1_45) k) ?_
        refine own_go (mkF m 47 #[iv x, iv y, iv z, .unset, .unset] [(.int (x + (1 : Int32))), (.long ((z - y).toInt64)), (.long ((y.toInt64) * (x.toInt64)))]) (fun t k => XS.iadd X0.here hx rfl (hb hby own_d1_46) rfl k) ?_
        refine own_go (mkF m 48 #[iv x, iv y, iv z, .unset, .unset] [(.long ((x + (1 : Int32)).toInt64)), (.long ((z - y).toInt64)), (.long ((y.toInt64) * (x.toInt64)))]) (fun t k => XS.i2l X0.here hx rfl (hb hby own_d1_47) rfl k) ?_
        refine own_go (mkF m 49 #[iv x, iv y, iv z, .unset, .unset] [(.long (((z - y).toInt64) * ((x + (1 : Int32)).toInt64))), (.long ((y.toInt64) * (x.toInt64)))]) (fun t k => XS.lmul X0.here hx rfl (hb hby own_d1_48) rfl k) ?_
        refine own_go (mkF m 50 #[iv x, iv y, iv z, .unset, .unset] [(.long (((y.toInt64) * (x.toInt64)) + (((z - y).toInt64) * ((x + (1 : Int32)).toInt64))))]) (fun t k => XS.ladd X0.here hx rfl (hb hby own_d1_49) rfl k) ?_
        refine own_go (mkF m 51 #[iv x, iv y, iv z, jv (((y.toInt64) * (x.toInt64)) + (((z - y).toInt64) * ((x + (1 : Int32)).toInt64))), .second] []) (fun t k => XS.lstoreN X0.here hx rfl (hb hby own_d1_50) rfl (l' := #[iv x, iv y, iv z, jv (((y.toInt64) * (x.toInt64)) + (((z - y).toInt64) * ((x + (1 : Int32)).toInt64))), .second]) rfl k) ?_
        refine own_go (mkF m 52 #[iv x, iv y, iv z, jv (((y.toInt64) * (x.toInt64)) + (((z - y).toInt64) * ((x + (1 : Int32)).toInt64))), .second] [(.long (((y.toInt64) * (x.toInt64)) + (((z - y).toInt64) * ((x + (1 : Int32)).toInt64))))]) (fun t k => XS.lloadN X0.here hx rfl (hb hby own_d1_51) rfl  k) ?_
        refine own_retJ X0 hx hlk hret (hb hby own_d1_52) ?_ (by decide) (by decide)
        exact ⟨congrArg (fun z => some (Value.long z)) ((show (own_size x y z) = (((y.toInt64) * (x.toInt64)) + (((z - y).toInt64) * ((x + (1 : Int32)).toInt64))) from ((if_pos hc2).trans ((if_neg hc6).trans ((if_neg hc21).trans rfl)))).trans (by rfl : (((y.toInt64) * (x.toInt64)) + (((z - y).toInt64) * ((x + (1 : Int32)).toInt64))) = (((y.toInt64) * (x.toInt64)) + (((z - y).toInt64) * ((x + (1 : Int32)).toInt64))))).symm, e0, rfl⟩
  · skip
    refine own_go (mkF m 19 #[iv x, iv y, iv z, .unset, .unset] []) (fun t k => XS.icmpYes X0.here hx rfl (pc0 := 2) (pc' := 19) rfl (hb hby own_d1_2) rfl (feq hc2).2 (by decide) (by decide) k) ?_
    refine own_go (mkF m 20 #[iv x, iv y, iv z, .unset, .unset] [(.int z)]) (fun t k => XS.iloadN X0.here hx rfl (hb hby own_d1_19) rfl  k) ?_
    refine own_go (mkF m 21 #[iv x, iv y, iv z, .unset, .unset] [(.int (-1 : Int32)), (.int z)]) (fun t k => XS.iconst X0.here hx rfl (hb hby own_d1_20) k) ?_
    by_cases hc21 : z = (-1 : Int32)
    · skip
      refine own_go (mkF m 24 #[iv x, iv y, iv z, .unset, .unset] []) (fun t k => XS.icmpNo X0.here hx rfl (hb hby own_d1_21) rfl (teq hc21).2 k) ?_
      refine own_go (mkF m 25 #[iv x, iv y, iv z, .unset, .unset] [(.int y)]) (fun t k => XS.iloadN X0.here hx rfl (hb hby own_d1_24) rfl  k) ?_
      refine own_go (mkF m 26 #[iv x, iv y, iv z, .unset, .unset] [(.long (y.toInt64))]) (fun t k => XS.i2l X0.here hx rfl (hb hby own_d1_25) rfl k) ?_
      refine own_go (mkF m 27 #[iv x, iv y, iv z, .unset, .unset] [(.int x), (.long (y.toInt64))]) (fun t k => XS.iloadN X0.here hx rfl (hb hby own_d1_26) rfl  k) ?_
      refine own_go (mkF m 28 #[iv x, iv y, iv z, .unset, .unset] [(.long (x.toInt64)), (.long (y.toInt64))]) (fun t k => XS.i2l X0.here hx rfl (hb hby own_d1_27) rfl k) ?_
      refine own_go (mkF m 29 #[iv x, iv y, iv z, .unset, .unset] [(.long ((y.toInt64) * (x.toInt64)))]) (fun t k => XS.lmul X0.here hx rfl (hb hby own_d1_28) rfl k) ?_
      refine own_go (mkF m 30 #[iv x, iv y, iv z, .unset, .unset] [(.long (1 : Int64)), (.long ((y.toInt64) * (x.toInt64)))]) (fun t k => XS.lconst X0.here hx rfl (hb hby own_d1_29) k) ?_
      refine own_go (mkF m 31 #[iv x, iv y, iv z, .unset, .unset] [(.long (((y.toInt64) * (x.toInt64)) + (1 : Int64)))]) (fun t k => XS.ladd X0.here hx rfl (hb hby own_d1_30) rfl k) ?_
      refine own_go (mkF m 32 #[iv x, iv y, iv z, jv (((y.toInt64) * (x.toInt64)) + (1 : Int64)), .second] []) (fun t k => XS.lstoreN X0.here hx rfl (hb hby own_d1_31) rfl (l' := #[iv x, iv y, iv z, jv (((y.toInt64) * (x.toInt64)) + (1 : Int64)), .second]) rfl k) ?_
      refine own_go (mkF m 51 #[iv x, iv y, iv z, jv (((y.toInt64) * (x.toInt64)) + (1 : Int64)), .second] []) (fun t k => XS.goto X0.here hx rfl (pc0 := 32) (pc' := 51) rfl (hb hby own_d1_32) (by decide) (by decide) k) ?_
      refine own_go (mkF m 52 #[iv x, iv y, iv z, jv (((y.toInt64) * (x.toInt64)) + (1 : Int64)), .second] [(.long (((y.toInt64) * (x.toInt64)) + (1 : Int64)))]) (fun t k => XS.lloadN X0.here hx rfl (hb hby own_d1_51) rfl  k) ?_
      refine own_retJ X0 hx hlk hret (hb hby own_d1_52) ?_ (by decide) (by decide)
      exact ⟨congrArg (fun z => some (Value.long z)) ((show (own_size x y z) = (((y.toInt64) * (x.toInt64)) + (1 : Int64)) from ((if_neg hc2).trans ((if_pos hc21).trans rfl))).trans (by rfl : (((y.toInt64) * (x.toInt64)) + (1 : Int64)) = (((y.toInt64) * (x.toInt64)) + (1 : Int64)))).symm, e0, rfl⟩
    · skip
      refine own_go (mkF m 35 #[iv x, iv y, iv z, .unset, .unset] []) (fun t k => XS.icmpYes X0.here hx rfl (pc0 := 21) (pc' := 35) rfl (hb hby own_d1_21) rfl (feq hc21).2 (by decide) (by decide) k) ?_
      refine own_go (mkF m 36 #[iv x, iv y, iv z, .unset, .unset] [(.int y)]) (fun t k => XS.iloadN X0.here hx rfl (hb hby own_d1_35) rfl  k) ?_
      refine own_go (mkF m 37 #[iv x, iv y, iv z, .unset, .unset] [(.long (y.toInt64))]) (fun t k => XS.i2l X0.here hx rfl (hb hby own_d1_36) rfl k) ?_
      refine own_go (mkF m 38 #[iv x, iv y, iv z, .unset, .unset] [(.int x), (.long (y.toInt64))]) (fun t k => XS.iloadN X0.here hx rfl (hb hby own_d1_37) rfl  k) ?_
      refine own_go (mkF m 39 #[iv x, iv y, iv z, .unset, .unset] [(.long (x.toInt64)), (.long (y.toInt64))]) (fun t k => XS.i2l X0.here hx rfl (hb hby own_d1_38) rfl k) ?_
      refine own_go (mkF m 40 #[iv x, iv y, iv z, .unset, .unset] [(.long ((y.toInt64) * (x.toInt64)))]) (fun t k => XS.lmul X0.here hx rfl (hb hby own_d1_39) rfl k) ?_
      refine own_go (mkF m 41 #[iv x, iv y, iv z, .unset, .unset] [(.int z), (.long ((y.toInt64) * (x.toInt64)))]) (fun t k => XS.iloadN X0.here hx rfl (hb hby own_d1_40) rfl  k) ?_
      refine own_go (mkF m 42 #[iv x, iv y, iv z, .unset, .unset] [(.int y), (.int z), (.long ((y.toInt64) * (x.toInt64)))]) (fun t k => XS.iloadN X0.here hx rfl (hb hby own_d1_41) rfl  k) ?_
      refine own_go (mkF m 43 #[iv x, iv y, iv z, .unset, .unset] [(.int (z - y)), (.long ((y.toInt64) * (x.toInt64)))]) (fun t k => XS.isub X0.here hx rfl (hb hby own_d1_42) rfl k) ?_
      refine own_go (mkF m 44 #[iv x, iv y, iv z, .unset, .unset] [(.long ((z - y).toInt64)), (.long ((y.toInt64) * (x.toInt64)))]) (fun t k => XS.i2l X0.here hx rfl (hb hby own_d1_43) rfl k) ?_
      refine own_go (mkF m 45 #[iv x, iv y, iv z, .unset, .unset] [(.int x), (.long ((z - y).toInt64)), (.long ((y.toInt64) * (x.toInt64)))]) (fun t k => XS.iloadN X0.here hx rfl (hb hby own_d1_44) rfl  k) ?_
      refine own_go (mkF m 46 #[iv x, iv y, iv z, .unset, .unset] [(.int (1 : Int32)), (.int x), (.long ((z - y).toInt64)), (.long ((y.toInt64) * (x.toInt64)))]) (fun t k => XS.iconst X0.here hx rfl (hb hby own_d1_45) k) ?_
      refine own_go (mkF m 47 #[iv x, iv y, iv z, .unset, .unset] [(.int (x + (1 : Int32))), (.long ((z - y).toInt64)), (.long ((y.toInt64) * (x.toInt64)))]) (fun t k => XS.iadd X0.here hx rfl (hb hby own_d1_46) rfl k) ?_
      refine own_go (mkF m 48 #[iv x, iv y, iv z, .unset, .unset] [(.long ((x + (1 : Int32)).toInt64)), (.long ((z - y).toInt64)), (.long ((y.toInt64) * (x.toInt64)))]) (fun t k => XS.i2l X0.here hx rfl (hb hby own_d1_47) rfl k) ?_
      refine own_go (mkF m 49 #[iv x, iv y, iv z, .unset, .unset] [(.long (((z - y).toInt64) * ((x + (1 : Int32)).toInt64))), (.long ((y.toInt64) * (x.toInt64)))]) (fun t k => XS.lmul X0.here hx rfl (hb hby own_d1_48) rfl k) ?_
      refine own_go (mkF m 50 #[iv x, iv y, iv z, .unset, .unset] [(.long (((y.toInt64) * (x.toInt64)) + (((z - y).toInt64) * ((x + (1 : Int32)).toInt64))))]) (fun t k => XS.ladd X0.here hx rfl (hb hby own_d1_49) rfl k) ?_
      refine own_go (mkF m 51 #[iv x, iv y, iv z, jv (((y.toInt64) * (x.toInt64)) + (((z - y).toInt64) * ((x + (1 : Int32)).toInt64))), .second] []) (fun t k => XS.lstoreN X0.here hx rfl (hb hby own_d1_50) rfl (l' := #[iv x, iv y, iv z, jv (((y.toInt64) * (x.toInt64)) + (((z - y).toInt64) * ((x + (1 : Int32)).toInt64))), .second]) rfl k) ?_
      refine own_go (mkF m 52 #[iv x, iv y, iv z, jv (((y.toInt64) * (x.toInt64)) + (((z - y).toInt64) * ((x + (1 : Int32)).toInt64))), .second] [(.long (((y.toInt64) * (x.toInt64)) + (((z - y).toInt64) * ((x + (1 : Int32)).toInt64))))]) (fun t k => XS.lloadN X0.here hx rfl (hb hby own_d1_51) rfl  k) ?_
      refine own_retJ X0 hx hlk hret (hb hby own_d1_52) ?_ (by decide) (by decide)
      exact ⟨congrArg (fun z => some (Value.long z)) ((show (own_size x y z) = (((y.toInt64) * (x.toInt64)) + (((z - y).toInt64) * ((x + (1 : Int32)).toInt64))) from ((if_neg hc2).trans ((if_neg hc21).trans rfl))).trans (by rfl : (((y.toInt64) * (x.toInt64)) + (((z - y).toInt64) * ((x + (1 : Int32)).toInt64))) = (((y.toInt64) * (x.toInt64)) + (((z - y).toInt64) * ((x + (1 : Int32)).toInt64))))).symm, e0, rfl⟩

def own_am (mn : Int32) : Int32 := (if mn = (0 : Int32) then (1 : Int32) else mn)


theorem own_ring (M B X : Int64) : M * B + (X - M) * (B + 1) = X * (B + 1) - M := by grind
theorem own_sz {b mn mx : Int32} (hb : 0 ≤ b.toInt) (hb2 : b.toInt < 2147483647) (h0 : 0 ≤ mn.toInt) (h1 : mn.toInt ≤ mx.toInt) : own_size b mn mx = mx.toInt64 * (b.toInt64 + 1) - mn.toInt64 := by
  have l2 := mx.toInt_lt
  have e1 : (1 : Int32).toInt = 1 := rfl
  have hne : ¬ mx = -1 := fun q => by
    have : mx.toInt = -1 := by rw [q]; rfl
    omega
  have s1 : (mx - mn).toInt64 = mx.toInt64 - mn.toInt64 := by
    rw [← Int64.toInt_inj, Int32.toInt_toInt64, Jvm.Kit.i32_sub (by omega) (by omega), Jvm.Kit.i64_sub (by simp only [Int32.toInt_toInt64]; omega) (by simp only [Int32.toInt_toInt64]; omega)]
    simp only [Int32.toInt_toInt64]
  have s2 : (b + 1).toInt64 = b.toInt64 + 1 := by
    have e64 : (1 : Int64).toInt = 1 := rfl
    rw [← Int64.toInt_inj, Int32.toInt_toInt64, Jvm.Kit.i32_add (by omega) (by omega), Jvm.Kit.i64_add (by simp only [Int32.toInt_toInt64]; omega) (by simp only [Int32.toInt_toInt64]; omega)]
    simp only [Int32.toInt_toInt64, e1, e64]
  unfold own_size
  rw [if_neg hne, if_neg hne, s1, s2]
  exact own_ring _ _ _
theorem own_szu {b mn am : Int32} (hb : 0 ≤ b.toInt) (hb2 : b.toInt < 2147483647) (h0 : 0 ≤ mn.toInt) (ha : am = if mn = 0 then 1 else mn) : own_size b mn (-1) = own_size b mn am + 1 := by
  have e1 : (1 : Int32).toInt = 1 := rfl
  by_cases h : mn = 0
  · rw [if_pos h] at ha
    subst ha h
    rw [own_sz (mx := 1) hb hb2 (by decide) (by decide)]
    have : own_size b 0 (-1) = b.toInt64 + 2 := rfl
    rw [this]
    have e2 : (1 : Int32).toInt64 = 1 := rfl
    have e3 : (0 : Int32).toInt64 = 0 := rfl
    rw [e2, e3]
    generalize b.toInt64 = B
    grind
  · rw [if_neg h] at ha
    subst ha
    rw [own_sz (mx := am) hb hb2 h0 (Int.le_refl _)]
    have : own_size b am (-1) = am.toInt64 * b.toInt64 + 1 := by
      unfold own_size
      rw [if_pos rfl, if_neg h, if_pos rfl]
    rw [this]
    generalize b.toInt64 = B
    generalize am.toInt64 = M
    grind
theorem own_b (x : Int32) : 0 ≤ ((x &&& (2147483647 : Int32)) - ((x &&& (2147483647 : Int32)) / (2147483647 : Int32)) * (2147483647 : Int32)).toInt ∧ ((x &&& (2147483647 : Int32)) - ((x &&& (2147483647 : Int32)) / (2147483647 : Int32)) * (2147483647 : Int32)).toInt < 2147483647 := by
  have h1 := Jvm.Kit.i32_mask x 2147483647 (k := 31) (by decide) (by decide)
  have h2 : ((x &&& (2147483647 : Int32)) - ((x &&& (2147483647 : Int32)) / (2147483647 : Int32)) * (2147483647 : Int32)) = (x &&& (2147483647 : Int32)) % 2147483647 := by
    rw [← Int32.toInt_inj, Int32.toInt_mod]
    exact own_rem32 _ _
  rw [h2, Jvm.Kit.i32_rem_nonneg (by omega)]
  have e : (2147483647 : Int32).toInt = 2147483647 := rfl
  rw [e]
  omega
theorem own_mx {mn x : Int32} (h0 : 0 ≤ mn.toInt) : mn.toInt ≤ ((mn.toInt64 + ((x.toInt64 &&& (2147483647 : Int64)) - ((x.toInt64 &&& (2147483647 : Int64)) / (((2147483647 : Int64) - mn.toInt64) + (1 : Int64))) * (((2147483647 : Int64) - mn.toInt64) + (1 : Int64)))).toInt32).toInt := by
  have l1 := mn.toInt_lt
  have e64 : (1 : Int64).toInt = 1 := rfl
  have eM : (2147483647 : Int64).toInt = 2147483647 := rfl
  have k1 := Int32.toInt_toInt64 mn
  have k2 := Jvm.Kit.i64_mask x.toInt64 2147483647 (k := 31) (by decide) (by decide)
  have k3 : ((2147483647 : Int64) - mn.toInt64).toInt = 2147483647 - mn.toInt := by rw [Jvm.Kit.i64_sub (by omega) (by omega), k1, eM]
  have k4 : (((2147483647 : Int64) - mn.toInt64) + (1 : Int64)).toInt = 2147483648 - mn.toInt := by rw [Jvm.Kit.i64_add (by omega) (by omega), k3, e64]; omega
  generalize (((2147483647 : Int64) - mn.toInt64) + (1 : Int64)) = sp at *
  generalize (x.toInt64 &&& (2147483647 : Int64)) = y at *
  have k5 := Jvm.Kit.i64_rem_nonneg (x := y) (y := sp) (by omega)
  generalize (y - (y / sp) * sp) = r at *
  have k6 : 0 ≤ r.toInt := by rw [k5]; exact Int.emod_nonneg _ (by omega)
  have k7 : r.toInt < sp.toInt := by rw [k5]; exact Int.emod_lt_of_pos _ (by omega)
  have k8 : (mn.toInt64 + r).toInt = mn.toInt + r.toInt := by rw [Jvm.Kit.i64_add (by omega) (by omega), k1]
  rw [Jvm.Kit.i32_of_i64 (by omega) (by omega), k8]
  omega


theorem own_amle {mn am : Int32} (h0 : 0 ≤ mn.toInt) (h : am = own_am mn) : mn.toInt ≤ am.toInt := by
  unfold own_am at h
  by_cases q : mn = 0
  · rw [if_pos q] at h; subst h q; decide
  · rw [if_neg q] at h; subst h; exact Int.le_refl _
theorem own_span {mn : Int32} (h0 : 0 ≤ mn.toInt) : (((2147483647 : Int64) - mn.toInt64) + (1 : Int64)) ≠ 0 := fun q => by
  have l1 := mn.toInt_lt
  have e64 : (1 : Int64).toInt = 1 := rfl
  have eM : (2147483647 : Int64).toInt = 2147483647 := rfl
  have k1 := Int32.toInt_toInt64 mn
  have k3 : ((2147483647 : Int64) - mn.toInt64).toInt = 2147483647 - mn.toInt := by rw [Jvm.Kit.i64_sub (by omega) (by omega), k1, eM]
  have k4 : (((2147483647 : Int64) - mn.toInt64) + (1 : Int64)).toInt = 2147483648 - mn.toInt := by rw [Jvm.Kit.i64_add (by omega) (by omega), k3, e64]; omega
  rw [q] at k4
  have : (0 : Int64).toInt = 0 := rfl
  omega

theorem own_pn_own_rm0 : plainFor x = true := plainFor_of_name (show plainName "com/example/alcuin/alcuin/service/EreNodeRepetitionSizePinLaw" = true by first | (simp [plainName, overriddenIn]; done) | decide +kernel)
set_option maxRecDepth 65536 in
set_option maxHeartbeats 40000000 in
theorem own_rm0 (l : Launch) (Z : State) (a0 : Array Value) (hw : ∀ d ∈ tables_1, d.before a0 Z = true) (ws : List Jvm.Cond) (h0 : Heap) (x0 x1 x2 : Int32)  :
    own_C l Z x code maxLocals ret ws room_1 #[(.int x0), (.int x1), (.int x2)] h0 (fun v h L => v = some (.int 1) ∧ Fr h0.size L) := by
  refine own_met own_pn_own_rm0 #[iv x0, iv x1, iv x2, .unset, .unset, .unset, .unset, .unset, .unset, .unset, .unset, .unset, .unset, .unset, .unset, .unset, .unset, .unset, .unset] (fun m => by first | (simp [entryFrame, mkF, argsToLocals, Value.category, maxLocals]; done) | rfl) ?_
  intro p e s m below meth c s₁ hx hby hml hown hret hlk hZ hnm X0 e0
  replace hml : c.maxLocals = 19 := hml
  refine own_go (mkF m 1 #[iv x0, iv x1, iv x2, .unset, .unset, .unset, .unset, .unset, .unset, .unset, .unset, .unset, .unset, .unset, .unset, .unset, .unset, .unset, .unset] [(.int x0)]) (fun t k => XS.iloadN X0.here hx rfl (hb hby at_0) rfl  k) ?_
  refine own_go (mkF m 3 #[iv x0, iv x1, iv x2, .unset, .unset, .unset, .unset, .unset, .unset, .unset, .unset, .unset, .unset, .unset, .unset, .unset, .unset, .unset, .unset] [(.int (2147483647 : Int32)), (.int x0)]) (fun t k => X0.ldcInt hx hown (mvT hZ (hw _ (List.mem_of_getElem? (i := 0) rfl))) (g := (mkF m 1 #[iv x0, iv x1, iv x2, .unset, .unset, .unset, .unset, .unset, .unset, .unset, .unset, .unset, .unset, .unset, .unset, .unset, .unset, .unset, .unset] [(.int x0)])) rfl (hb hby at_1) _ k) ?_
  refine own_go (mkF m 4 #[iv x0, iv x1, iv x2, .unset, .unset, .unset, .unset, .unset, .unset, .unset, .unset, .unset, .unset, .unset, .unset, .unset, .unset, .unset, .unset] [(.int (x0 &&& (2147483647 : Int32)))]) (fun t k => XS.iand X0.here hx rfl (hb hby at_3) rfl k) ?_
  refine own_go (mkF m 6 #[iv x0, iv x1, iv x2, .unset, .unset, .unset, .unset, .unset, .unset, .unset, .unset, .unset, .unset, .unset, .unset, .unset, .unset, .unset, .unset] [(.int (2147483647 : Int32)), (.int (x0 &&& (2147483647 : Int32)))]) (fun t k => X0.ldcInt hx hown (mvT hZ (hw _ (List.mem_of_getElem? (i := 0) rfl))) (g := (mkF m 4 #[iv x0, iv x1, iv x2, .unset, .unset, .unset, .unset, .unset, .unset, .unset, .unset, .unset, .unset, .unset, .unset, .unset, .unset, .unset, .unset] [(.int (x0 &&& (2147483647 : Int32)))])) rfl (hb hby at_4) _ k) ?_
  refine own_go (mkF m 7 #[iv x0, iv x1, iv x2, .unset, .unset, .unset, .unset, .unset, .unset, .unset, .unset, .unset, .unset, .unset, .unset, .unset, .unset, .unset, .unset] [(.int ((x0 &&& (2147483647 : Int32)) - ((x0 &&& (2147483647 : Int32)) / (2147483647 : Int32)) * (2147483647 : Int32)))]) (fun t k => XS.irem X0.here hx rfl (hb hby at_6) rfl (by decide) k) ?_
  obtain ⟨hb1, hb2⟩ := own_b x0
  generalize ((x0 &&& (2147483647 : Int32)) - ((x0 &&& (2147483647 : Int32)) / (2147483647 : Int32)) * (2147483647 : Int32)) = b at hb1 hb2 ⊢
  refine own_go (mkF m 8 #[iv x0, iv x1, iv x2, iv b, .unset, .unset, .unset, .unset, .unset, .unset, .unset, .unset, .unset, .unset, .unset, .unset, .unset, .unset, .unset] []) (fun t k => XS.istoreN X0.here hx rfl (hb hby at_7) rfl (l' := #[iv x0, iv x1, iv x2, iv b, .unset, .unset, .unset, .unset, .unset, .unset, .unset, .unset, .unset, .unset, .unset, .unset, .unset, .unset, .unset]) rfl k) ?_
  refine own_go (mkF m 9 #[iv x0, iv x1, iv x2, iv b, .unset, .unset, .unset, .unset, .unset, .unset, .unset, .unset, .unset, .unset, .unset, .unset, .unset, .unset, .unset] [(.int x1)]) (fun t k => XS.iloadN X0.here hx rfl (hb hby at_8) rfl  k) ?_
  refine own_go (mkF m 11 #[iv x0, iv x1, iv x2, iv b, .unset, .unset, .unset, .unset, .unset, .unset, .unset, .unset, .unset, .unset, .unset, .unset, .unset, .unset, .unset] [(.int (2147483647 : Int32)), (.int x1)]) (fun t k => X0.ldcInt hx hown (mvT hZ (hw _ (List.mem_of_getElem? (i := 0) rfl))) (g := (mkF m 9 #[iv x0, iv x1, iv x2, iv b, .unset, .unset, .unset, .unset, .unset, .unset, .unset, .unset, .unset, .unset, .unset, .unset, .unset, .unset, .unset] [(.int x1)])) rfl (hb hby at_9) _ k) ?_
  refine own_go (mkF m 12 #[iv x0, iv x1, iv x2, iv b, .unset, .unset, .unset, .unset, .unset, .unset, .unset, .unset, .unset, .unset, .unset, .unset, .unset, .unset, .unset] [(.int (x1 &&& (2147483647 : Int32)))]) (fun t k => XS.iand X0.here hx rfl (hb hby at_11) rfl k) ?_
  have hm1 : 0 ≤ (x1 &&& (2147483647 : Int32)).toInt := by rw [Jvm.Kit.i32_mask x1 2147483647 (k := 31) (by decide) (by decide)]; exact Int.emod_nonneg _ (by decide)
  generalize (x1 &&& (2147483647 : Int32)) = mn at hm1 ⊢
  refine own_go (mkF m 14 #[iv x0, iv x1, iv x2, iv b, iv mn, .unset, .unset, .unset, .unset, .unset, .unset, .unset, .unset, .unset, .unset, .unset, .unset, .unset, .unset] []) (fun t k => XS.istore X0.here hx rfl (hb hby at_12) rfl (l' := #[iv x0, iv x1, iv x2, iv b, iv mn, .unset, .unset, .unset, .unset, .unset, .unset, .unset, .unset, .unset, .unset, .unset, .unset, .unset, .unset]) rfl k) ?_
  refine own_go (mkF m 17 #[iv x0, iv x1, iv x2, iv b, iv mn, .unset, .unset, .unset, .unset, .unset, .unset, .unset, .unset, .unset, .unset, .unset, .unset, .unset, .unset] [(.long (2147483647 : Int64))]) (fun t k => X0.ldc2Long hx hown (mvT hZ (hw _ (List.mem_of_getElem? (i := 1) rfl))) (g := (mkF m 14 #[iv x0, iv x1, iv x2, iv b, iv mn, .unset, .unset, .unset, .unset, .unset, .unset, .unset, .unset, .unset, .unset, .unset, .unset, .unset, .unset] [])) rfl (hb hby at_14) _ k) ?_
  refine own_go (mkF m 19 #[iv x0, iv x1, iv x2, iv b, iv mn, .unset, .unset, .unset, .unset, .unset, .unset, .unset, .unset, .unset, .unset, .unset, .unset, .unset, .unset] [(.int mn), (.long (2147483647 : Int64))]) (fun t k => XS.iload X0.here hx rfl (hb hby at_17) rfl  k) ?_
  refine own_go (mkF m 20 #[iv x0, iv x1, iv x2, iv b, iv mn, .unset, .unset, .unset, .unset, .unset, .unset, .unset, .unset, .unset, .unset, .unset, .unset, .unset, .unset] [(.long (mn.toInt64)), (.long (2147483647 : Int64))]) (fun t k => XS.i2l X0.here hx rfl (hb hby at_19) rfl k) ?_
  refine own_go (mkF m 21 #[iv x0, iv x1, iv x2, iv b, iv mn, .unset, .unset, .unset, .unset, .unset, .unset, .unset, .unset, .unset, .unset, .unset, .unset, .unset, .unset] [(.long ((2147483647 : Int64) - (mn.toInt64)))]) (fun t k => XS.lsub X0.here hx rfl (hb hby at_20) rfl k) ?_
  refine own_go (mkF m 22 #[iv x0, iv x1, iv x2, iv b, iv mn, .unset, .unset, .unset, .unset, .unset, .unset, .unset, .unset, .unset, .unset, .unset, .unset, .unset, .unset] [(.long (1 : Int64)), (.long ((2147483647 : Int64) - (mn.toInt64)))]) (fun t k => XS.lconst X0.here hx rfl (hb hby at_21) k) ?_
  refine own_go (mkF m 23 #[iv x0, iv x1, iv x2, iv b, iv mn, .unset, .unset, .unset, .unset, .unset, .unset, .unset, .unset, .unset, .unset, .unset, .unset, .unset, .unset] [(.long (((2147483647 : Int64) - (mn.toInt64)) + (1 : Int64)))]) (fun t k => XS.ladd X0.here hx rfl (hb hby at_22) rfl k) ?_
  refine own_go (mkF m 25 #[iv x0, iv x1, iv x2, iv b, iv mn, jv (((2147483647 : Int64) - (mn.toInt64)) + (1 : Int64)), .second, .unset, .unset, .unset, .unset, .unset, .unset, .unset, .unset, .unset, .unset, .unset, .unset] []) (fun t k => XS.lstore X0.here hx rfl (hb hby at_23) rfl (l' := #[iv x0, iv x1, iv x2, iv b, iv mn, jv (((2147483647 : Int64) - (mn.toInt64)) + (1 : Int64)), .second, .unset, .unset, .unset, .unset, .unset, .unset, .unset, .unset, .unset, .unset, .unset, .unset]) rfl k) ?_
  refine own_go (mkF m 27 #[iv x0, iv x1, iv x2, iv b, iv mn, jv (((2147483647 : Int64) - (mn.toInt64)) + (1 : Int64)), .second, .unset, .unset, .unset, .unset, .unset, .unset, .unset, .unset, .unset, .unset, .unset, .unset] [(.int mn)]) (fun t k => XS.iload X0.here hx rfl (hb hby at_25) rfl  k) ?_
  refine own_go (mkF m 28 #[iv x0, iv x1, iv x2, iv b, iv mn, jv (((2147483647 : Int64) - (mn.toInt64)) + (1 : Int64)), .second, .unset, .unset, .unset, .unset, .unset, .unset, .unset, .unset, .unset, .unset, .unset, .unset] [(.long (mn.toInt64))]) (fun t k => XS.i2l X0.here hx rfl (hb hby at_27) rfl k) ?_
  refine own_go (mkF m 29 #[iv x0, iv x1, iv x2, iv b, iv mn, jv (((2147483647 : Int64) - (mn.toInt64)) + (1 : Int64)), .second, .unset, .unset, .unset, .unset, .unset, .unset, .unset, .unset, .unset, .unset, .unset, .unset] [(.int x2), (.long (mn.toInt64))]) (fun t k => XS.iloadN X0.here hx rfl (hb hby at_28) rfl  k) ?_
  refine own_go (mkF m 30 #[iv x0, iv x1, iv x2, iv b, iv mn, jv (((2147483647 : Int64) - (mn.toInt64)) + (1 : Int64)), .second, .unset, .unset, .unset, .unset, .unset, .unset, .unset, .unset, .unset, .unset, .unset, .unset] [(.long (x2.toInt64)), (.long (mn.toInt64))]) (fun t k => XS.i2l X0.here hx rfl (hb hby at_29) rfl k) ?_
  refine own_go (mkF m 33 #[iv x0, iv x1, iv x2, iv b, iv mn, jv (((2147483647 : Int64) - (mn.toInt64)) + (1 : Int64)), .second, .unset, .unset, .unset, .unset, .unset, .unset, .unset, .unset, .unset, .unset, .unset, .unset] [(.long (2147483647 : Int64)), (.long (x2.toInt64)), (.long (mn.toInt64))]) (fun t k => X0.ldc2Long hx hown (mvT hZ (hw _ (List.mem_of_getElem? (i := 1) rfl))) (g := (mkF m 30 #[iv x0, iv x1, iv x2, iv b, iv mn, jv (((2147483647 : Int64) - (mn.toInt64)) + (1 : Int64)), .second, .unset, .unset, .unset, .unset, .unset, .unset, .unset, .unset, .unset, .unset, .unset, .unset] [(.long (x2.toInt64)), (.long (mn.toInt64))])) rfl (hb hby at_30) _ k) ?_
  refine own_go (mkF m 34 #[iv x0, iv x1, iv x2, iv b, iv mn, jv (((2147483647 : Int64) - (mn.toInt64)) + (1 : Int64)), .second, .unset, .unset, .unset, .unset, .unset, .unset, .unset, .unset, .unset, .unset, .unset, .unset] [(.long ((x2.toInt64) &&& (2147483647 : Int64))), (.long (mn.toInt64))]) (fun t k => XS.land X0.here hx rfl (hb hby at_33) rfl k) ?_
  refine own_go (mkF m 36 #[iv x0, iv x1, iv x2, iv b, iv mn, jv (((2147483647 : Int64) - (mn.toInt64)) + (1 : Int64)), .second, .unset, .unset, .unset, .unset, .unset, .unset, .unset, .unset, .unset, .unset, .unset, .unset] [(.long (((2147483647 : Int64) - (mn.toInt64)) + (1 : Int64))), (.long ((x2.toInt64) &&& (2147483647 : Int64))), (.long (mn.toInt64))]) (fun t k => XS.lload X0.here hx rfl (hb hby at_34) rfl  k) ?_
  refine own_go (mkF m 37 #[iv x0, iv x1, iv x2, iv b, iv mn, jv (((2147483647 : Int64) - (mn.toInt64)) + (1 : Int64)), .second, .unset, .unset, .unset, .unset, .unset, .unset, .unset, .unset, .unset, .unset, .unset, .unset] [(.long (((x2.toInt64) &&& (2147483647 : Int64)) - (((x2.toInt64) &&& (2147483647 : Int64)) / (((2147483647 : Int64) - (mn.toInt64)) + (1 : Int64))) * (((2147483647 : Int64) - (mn.toInt64)) + (1 : Int64)))), (.long (mn.toInt64))]) (fun t k => XS.lrem X0.here hx rfl (hb hby at_36) rfl (own_span hm1) k) ?_
  refine own_go (mkF m 38 #[iv x0, iv x1, iv x2, iv b, iv mn, jv (((2147483647 : Int64) - (mn.toInt64)) + (1 : Int64)), .second, .unset, .unset, .unset, .unset, .unset, .unset, .unset, .unset, .unset, .unset, .unset, .unset] [(.long ((mn.toInt64) + (((x2.toInt64) &&& (2147483647 : Int64)) - (((x2.toInt64) &&& (2147483647 : Int64)) / (((2147483647 : Int64) - (mn.toInt64)) + (1 : Int64))) * (((2147483647 : Int64) - (mn.toInt64)) + (1 : Int64)))))]) (fun t k => XS.ladd X0.here hx rfl (hb hby at_37) rfl k) ?_
  refine own_go (mkF m 39 #[iv x0, iv x1, iv x2, iv b, iv mn, jv (((2147483647 : Int64) - (mn.toInt64)) + (1 : Int64)), .second, .unset, .unset, .unset, .unset, .unset, .unset, .unset, .unset, .unset, .unset, .unset, .unset] [(.int (((mn.toInt64) + (((x2.toInt64) &&& (2147483647 : Int64)) - (((x2.toInt64) &&& (2147483647 : Int64)) / (((2147483647 : Int64) - (mn.toInt64)) + (1 : Int64))) * (((2147483647 : Int64) - (mn.toInt64)) + (1 : Int64)))).toInt32))]) (fun t k => XS.l2i X0.here hx rfl (hb hby at_38) rfl k) ?_
  have hm2 := own_mx (x := x2) hm1
  generalize (((mn.toInt64) + (((x2.toInt64) &&& (2147483647 : Int64)) - (((x2.toInt64) &&& (2147483647 : Int64)) / (((2147483647 : Int64) - (mn.toInt64)) + (1 : Int64))) * (((2147483647 : Int64) - (mn.toInt64)) + (1 : Int64)))).toInt32) = mx at hm2 ⊢
  refine own_go (mkF m 41 #[iv x0, iv x1, iv x2, iv b, iv mn, jv (((2147483647 : Int64) - (mn.toInt64)) + (1 : Int64)), .second, iv mx, .unset, .unset, .unset, .unset, .unset, .unset, .unset, .unset, .unset, .unset, .unset] []) (fun t k => XS.istore X0.here hx rfl (hb hby at_39) rfl (l' := #[iv x0, iv x1, iv x2, iv b, iv mn, jv (((2147483647 : Int64) - (mn.toInt64)) + (1 : Int64)), .second, iv mx, .unset, .unset, .unset, .unset, .unset, .unset, .unset, .unset, .unset, .unset, .unset]) rfl k) ?_
  refine own_go (mkF m 42 #[iv x0, iv x1, iv x2, iv b, iv mn, jv (((2147483647 : Int64) - (mn.toInt64)) + (1 : Int64)), .second, iv mx, .unset, .unset, .unset, .unset, .unset, .unset, .unset, .unset, .unset, .unset, .unset] [(.int b)]) (fun t k => XS.iloadN X0.here hx rfl (hb hby at_41) rfl  k) ?_
  refine own_go (mkF m 44 #[iv x0, iv x1, iv x2, iv b, iv mn, jv (((2147483647 : Int64) - (mn.toInt64)) + (1 : Int64)), .second, iv mx, .unset, .unset, .unset, .unset, .unset, .unset, .unset, .unset, .unset, .unset, .unset] [(.int mn), (.int b)]) (fun t k => XS.iload X0.here hx rfl (hb hby at_42) rfl  k) ?_
  refine own_go (mkF m 46 #[iv x0, iv x1, iv x2, iv b, iv mn, jv (((2147483647 : Int64) - (mn.toInt64)) + (1 : Int64)), .second, iv mx, .unset, .unset, .unset, .unset, .unset, .unset, .unset, .unset, .unset, .unset, .unset] [(.int mx), (.int mn), (.int b)]) (fun t k => XS.iload X0.here hx rfl (hb hby at_44) rfl  k) ?_
  refine own_callP X0 hx hZ (y := (⟨"com/example/alcuin/alcuin/service/EreNode", "repetitionSize", "(III)J"⟩ : MethodName)) (fr := 0) (lo := 0) (r := (.long (own_size b mn mx))) hown (hw _ (List.mem_of_getElem? (i := 2) rfl)) (hw _ (List.mem_of_getElem? (i := 3) rfl)) (hw _ (List.mem_of_getElem? (i := 4) rfl)) (hw _ (List.mem_of_getElem? (i := 5) rfl)) (by decide) e0 [(.int b), (.int mn), (.int mx)] [] (own_rm1 l Z a0 hw [] h0 b mn mx) 0 (by decide) (by decide) (Nat.le_of_eq rfl) (by decide) (by decide) (by rw [hml]; rfl) (lenOf own_pd0 rfl) rfl (hb hby at_46) ?_
  intro T1 X1 e1
  refine own_go (mkF m 51 #[iv x0, iv x1, iv x2, iv b, iv mn, jv (((2147483647 : Int64) - (mn.toInt64)) + (1 : Int64)), .second, iv mx, jv (own_size b mn mx), .second, .unset, .unset, .unset, .unset, .unset, .unset, .unset, .unset, .unset] []) (fun t k => XS.lstore X1.here hx rfl (hb hby at_49) rfl (l' := #[iv x0, iv x1, iv x2, iv b, iv mn, jv (((2147483647 : Int64) - (mn.toInt64)) + (1 : Int64)), .second, iv mx, jv (own_size b mn mx), .second, .unset, .unset, .unset, .unset, .unset, .unset, .unset, .unset, .unset]) rfl k) ?_
  refine own_go (mkF m 53 #[iv x0, iv x1, iv x2, iv b, iv mn, jv (((2147483647 : Int64) - (mn.toInt64)) + (1 : Int64)), .second, iv mx, jv (own_size b mn mx), .second, .unset, .unset, .unset, .unset, .unset, .unset, .unset, .unset, .unset] [(.long (own_size b mn mx))]) (fun t k => XS.lload X1.here hx rfl (hb hby at_51) rfl  k) ?_
  refine own_go (mkF m 55 #[iv x0, iv x1, iv x2, iv b, iv mn, jv (((2147483647 : Int64) - (mn.toInt64)) + (1 : Int64)), .second, iv mx, jv (own_size b mn mx), .second, .unset, .unset, .unset, .unset, .unset, .unset, .unset, .unset, .unset] [(.int mx), (.long (own_size b mn mx))]) (fun t k => XS.iload X1.here hx rfl (hb hby at_53) rfl  k) ?_
  refine own_go (mkF m 56 #[iv x0, iv x1, iv x2, iv b, iv mn, jv (((2147483647 : Int64) - (mn.toInt64)) + (1 : Int64)), .second, iv mx, jv (own_size b mn mx), .second, .unset, .unset, .unset, .unset, .unset, .unset, .unset, .unset, .unset] [(.long (mx.toInt64)), (.long (own_size b mn mx))]) (fun t k => XS.i2l X1.here hx rfl (hb hby at_55) rfl k) ?_
  refine own_go (mkF m 57 #[iv x0, iv x1, iv x2, iv b, iv mn, jv (((2147483647 : Int64) - (mn.toInt64)) + (1 : Int64)), .second, iv mx, jv (own_size b mn mx), .second, .unset, .unset, .unset, .unset, .unset, .unset, .unset, .unset, .unset] [(.int b), (.long (mx.toInt64)), (.long (own_size b mn mx))]) (fun t k => XS.iloadN X1.here hx rfl (hb hby at_56) rfl  k) ?_
  refine own_go (mkF m 58 #[iv x0, iv x1, iv x2, iv b, iv mn, jv (((2147483647 : Int64) - (mn.toInt64)) + (1 : Int64)), .second, iv mx, jv (own_size b mn mx), .second, .unset, .unset, .unset, .unset, .unset, .unset, .unset, .unset, .unset] [(.long (b.toInt64)), (.long (mx.toInt64)), (.long (own_size b mn mx))]) (fun t k => XS.i2l X1.here hx rfl (hb hby at_57) rfl k) ?_
  refine own_go (mkF m 59 #[iv x0, iv x1, iv x2, iv b, iv mn, jv (((2147483647 : Int64) - (mn.toInt64)) + (1 : Int64)), .second, iv mx, jv (own_size b mn mx), .second, .unset, .unset, .unset, .unset, .unset, .unset, .unset, .unset, .unset] [(.long (1 : Int64)), (.long (b.toInt64)), (.long (mx.toInt64)), (.long (own_size b mn mx))]) (fun t k => XS.lconst X1.here hx rfl (hb hby at_58) k) ?_
  refine own_go (mkF m 60 #[iv x0, iv x1, iv x2, iv b, iv mn, jv (((2147483647 : Int64) - (mn.toInt64)) + (1 : Int64)), .second, iv mx, jv (own_size b mn mx), .second, .unset, .unset, .unset, .unset, .unset, .unset, .unset, .unset, .unset] [(.long ((b.toInt64) + (1 : Int64))), (.long (mx.toInt64)), (.long (own_size b mn mx))]) (fun t k => XS.ladd X1.here hx rfl (hb hby at_59) rfl k) ?_
  refine own_go (mkF m 61 #[iv x0, iv x1, iv x2, iv b, iv mn, jv (((2147483647 : Int64) - (mn.toInt64)) + (1 : Int64)), .second, iv mx, jv (own_size b mn mx), .second, .unset, .unset, .unset, .unset, .unset, .unset, .unset, .unset, .unset] [(.long ((mx.toInt64) * ((b.toInt64) + (1 : Int64)))), (.long (own_size b mn mx))]) (fun t k => XS.lmul X1.here hx rfl (hb hby at_60) rfl k) ?_
  refine own_go (mkF m 63 #[iv x0, iv x1, iv x2, iv b, iv mn, jv (((2147483647 : Int64) - (mn.toInt64)) + (1 : Int64)), .second, iv mx, jv (own_size b mn mx), .second, .unset, .unset, .unset, .unset, .unset, .unset, .unset, .unset, .unset] [(.int mn), (.long ((mx.toInt64) * ((b.toInt64) + (1 : Int64)))), (.long (own_size b mn mx))]) (fun t k => XS.iload X1.here hx rfl (hb hby at_61) rfl  k) ?_
  refine own_go (mkF m 64 #[iv x0, iv x1, iv x2, iv b, iv mn, jv (((2147483647 : Int64) - (mn.toInt64)) + (1 : Int64)), .second, iv mx, jv (own_size b mn mx), .second, .unset, .unset, .unset, .unset, .unset, .unset, .unset, .unset, .unset] [(.long (mn.toInt64)), (.long ((mx.toInt64) * ((b.toInt64) + (1 : Int64)))), (.long (own_size b mn mx))]) (fun t k => XS.i2l X1.here hx rfl (hb hby at_63) rfl k) ?_
  refine own_go (mkF m 65 #[iv x0, iv x1, iv x2, iv b, iv mn, jv (((2147483647 : Int64) - (mn.toInt64)) + (1 : Int64)), .second, iv mx, jv (own_size b mn mx), .second, .unset, .unset, .unset, .unset, .unset, .unset, .unset, .unset, .unset] [(.long (((mx.toInt64) * ((b.toInt64) + (1 : Int64))) - (mn.toInt64))), (.long (own_size b mn mx))]) (fun t k => XS.lsub X1.here hx rfl (hb hby at_64) rfl k) ?_
  refine own_go (mkF m 66 #[iv x0, iv x1, iv x2, iv b, iv mn, jv (((2147483647 : Int64) - (mn.toInt64)) + (1 : Int64)), .second, iv mx, jv (own_size b mn mx), .second, .unset, .unset, .unset, .unset, .unset, .unset, .unset, .unset, .unset] [(.int (lcmpW (own_size b mn mx) (((mx.toInt64) * ((b.toInt64) + (1 : Int64))) - (mn.toInt64))))]) (fun t k => XS.lcmp X1.here hx rfl (hb hby at_65) rfl k) ?_
  refine own_go (mkF m 69 #[iv x0, iv x1, iv x2, iv b, iv mn, jv (((2147483647 : Int64) - (mn.toInt64)) + (1 : Int64)), .second, iv mx, jv (own_size b mn mx), .second, .unset, .unset, .unset, .unset, .unset, .unset, .unset, .unset, .unset] []) (fun t k => XS.ifNo X1.here hx rfl (hb hby at_66) rfl ((if0 _ _).trans (teq ((lw_eq (own_size b mn mx) (((mx.toInt64) * ((b.toInt64) + (1 : Int64))) - (mn.toInt64))).mpr (own_sz hb1 hb2 hm1 hm2))).2) k) ?_
  refine own_go (mkF m 70 #[iv x0, iv x1, iv x2, iv b, iv mn, jv (((2147483647 : Int64) - (mn.toInt64)) + (1 : Int64)), .second, iv mx, jv (own_size b mn mx), .second, .unset, .unset, .unset, .unset, .unset, .unset, .unset, .unset, .unset] [(.int (1 : Int32))]) (fun t k => XS.iconst X1.here hx rfl (hb hby at_69) k) ?_
  refine own_go (mkF m 74 #[iv x0, iv x1, iv x2, iv b, iv mn, jv (((2147483647 : Int64) - (mn.toInt64)) + (1 : Int64)), .second, iv mx, jv (own_size b mn mx), .second, .unset, .unset, .unset, .unset, .unset, .unset, .unset, .unset, .unset] [(.int (1 : Int32))]) (fun t k => XS.goto X1.here hx rfl (pc0 := 70) (pc' := 74) rfl (hb hby at_70) (by decide) (by decide) k) ?_
  refine own_go (mkF m 76 #[iv x0, iv x1, iv x2, iv b, iv mn, jv (((2147483647 : Int64) - (mn.toInt64)) + (1 : Int64)), .second, iv mx, jv (own_size b mn mx), .second, iv (1 : Int32), .unset, .unset, .unset, .unset, .unset, .unset, .unset, .unset] []) (fun t k => XS.istore X1.here hx rfl (hb hby at_74) rfl (l' := #[iv x0, iv x1, iv x2, iv b, iv mn, jv (((2147483647 : Int64) - (mn.toInt64)) + (1 : Int64)), .second, iv mx, jv (own_size b mn mx), .second, iv (1 : Int32), .unset, .unset, .unset, .unset, .unset, .unset, .unset, .unset]) rfl k) ?_
  refine own_go (mkF m 78 #[iv x0, iv x1, iv x2, iv b, iv mn, jv (((2147483647 : Int64) - (mn.toInt64)) + (1 : Int64)), .second, iv mx, jv (own_size b mn mx), .second, iv (1 : Int32), .unset, .unset, .unset, .unset, .unset, .unset, .unset, .unset] [(.int mn)]) (fun t k => XS.iload X1.here hx rfl (hb hby at_76) rfl  k) ?_
  refine own_go (mkF m 80 #[iv x0, iv x1, iv x2, iv b, iv mn, jv (((2147483647 : Int64) - (mn.toInt64)) + (1 : Int64)), .second, iv mx, jv (own_size b mn mx), .second, iv (1 : Int32), iv mn, .unset, .unset, .unset, .unset, .unset, .unset, .unset] []) (fun t k => XS.istore X1.here hx rfl (hb hby at_78) rfl (l' := #[iv x0, iv x1, iv x2, iv b, iv mn, jv (((2147483647 : Int64) - (mn.toInt64)) + (1 : Int64)), .second, iv mx, jv (own_size b mn mx), .second, iv (1 : Int32), iv mn, .unset, .unset, .unset, .unset, .unset, .unset, .unset]) rfl k) ?_
  have JA : ∀ (am : Int32), am = (own_am mn) → own_G p e below s (fun v h L => v = some (.int 1) ∧ Fr h0.size L) room_1.cells room_1.slots T1 (mkF m 91 #[iv x0, iv x1, iv x2, iv b, iv mn, jv (((2147483647 : Int64) - (mn.toInt64)) + (1 : Int64)), .second, iv mx, jv (own_size b mn mx), .second, iv (1 : Int32), iv mn, .unset, .unset, .unset, .unset, .unset, .unset, .unset] [(.int am)]) := by
    intro am hJA
    refine own_go (mkF m 93 #[iv x0, iv x1, iv x2, iv b, iv mn, jv (((2147483647 : Int64) - (mn.toInt64)) + (1 : Int64)), .second, iv mx, jv (own_size b mn mx), .second, iv (1 : Int32), iv mn, iv am, .unset, .unset, .unset, .unset, .unset, .unset] []) (fun t k => XS.istore X1.here hx rfl (hb hby at_91) rfl (l' := #[iv x0, iv x1, iv x2, iv b, iv mn, jv (((2147483647 : Int64) - (mn.toInt64)) + (1 : Int64)), .second, iv mx, jv (own_size b mn mx), .second, iv (1 : Int32), iv mn, iv am, .unset, .unset, .unset, .unset, .unset, .unset]) rfl k) ?_
    refine own_go (mkF m 94 #[iv x0, iv x1, iv x2, iv b, iv mn, jv (((2147483647 : Int64) - (mn.toInt64)) + (1 : Int64)), .second, iv mx, jv (own_size b mn mx), .second, iv (1 : Int32), iv mn, iv am, .unset, .unset, .unset, .unset, .unset, .unset] [(.int b)]) (fun t k => XS.iloadN X1.here hx rfl (hb hby at_93) rfl  k) ?_
    refine own_go (mkF m 96 #[iv x0, iv x1, iv x2, iv b, iv mn, jv (((2147483647 : Int64) - (mn.toInt64)) + (1 : Int64)), .second, iv mx, jv (own_size b mn mx), .second, iv (1 : Int32), iv mn, iv am, .unset, .unset, .unset, .unset, .unset, .unset] [(.int mn), (.int b)]) (fun t k => XS.iload X1.here hx rfl (hb hby at_94) rfl  k) ?_
    refine own_go (mkF m 98 #[iv x0, iv x1, iv x2, iv b, iv mn, jv (((2147483647 : Int64) - (mn.toInt64)) + (1 : Int64)), .second, iv mx, jv (own_size b mn mx), .second, iv (1 : Int32), iv mn, iv am, .unset, .unset, .unset, .unset, .unset, .unset] [(.int am), (.int mn), (.int b)]) (fun t k => XS.iload X1.here hx rfl (hb hby at_96) rfl  k) ?_
    refine own_callP X1 hx hZ (y := (⟨"com/example/alcuin/alcuin/service/EreNode", "repetitionSize", "(III)J"⟩ : MethodName)) (fr := 0) (lo := 0) (r := (.long (own_size b mn am))) hown (hw _ (List.mem_of_getElem? (i := 2) rfl)) (hw _ (List.mem_of_getElem? (i := 3) rfl)) (hw _ (List.mem_of_getElem? (i := 4) rfl)) (hw _ (List.mem_of_getElem? (i := 5) rfl)) (by decide) e1 [(.int b), (.int mn), (.int am)] [] (own_rm1 l Z a0 hw [] h0 b mn am) 0 (by decide) (by decide) (Nat.le_of_eq rfl) (by decide) (by decide) (by rw [hml]; rfl) (lenOf own_pd0 rfl) rfl (hb hby at_98) ?_
    intro T2 X2 e2
    refine own_go (mkF m 103 #[iv x0, iv x1, iv x2, iv b, iv mn, jv (((2147483647 : Int64) - (mn.toInt64)) + (1 : Int64)), .second, iv mx, jv (own_size b mn mx), .second, iv (1 : Int32), iv mn, iv am, jv (own_size b mn am), .second, .unset, .unset, .unset, .unset] []) (fun t k => XS.lstore X2.here hx rfl (hb hby at_101) rfl (l' := #[iv x0, iv x1, iv x2, iv b, iv mn, jv (((2147483647 : Int64) - (mn.toInt64)) + (1 : Int64)), .second, iv mx, jv (own_size b mn mx), .second, iv (1 : Int32), iv mn, iv am, jv (own_size b mn am), .second, .unset, .unset, .unset, .unset]) rfl k) ?_
    refine own_go (mkF m 105 #[iv x0, iv x1, iv x2, iv b, iv mn, jv (((2147483647 : Int64) - (mn.toInt64)) + (1 : Int64)), .second, iv mx, jv (own_size b mn mx), .second, iv (1 : Int32), iv mn, iv am, jv (own_size b mn am), .second, .unset, .unset, .unset, .unset] [(.long (own_size b mn am))]) (fun t k => XS.lload X2.here hx rfl (hb hby at_103) rfl  k) ?_
    refine own_go (mkF m 107 #[iv x0, iv x1, iv x2, iv b, iv mn, jv (((2147483647 : Int64) - (mn.toInt64)) + (1 : Int64)), .second, iv mx, jv (own_size b mn mx), .second, iv (1 : Int32), iv mn, iv am, jv (own_size b mn am), .second, .unset, .unset, .unset, .unset] [(.int am), (.long (own_size b mn am))]) (fun t k => XS.iload X2.here hx rfl (hb hby at_105) rfl  k) ?_
    refine own_go (mkF m 108 #[iv x0, iv x1, iv x2, iv b, iv mn, jv (((2147483647 : Int64) - (mn.toInt64)) + (1 : Int64)), .second, iv mx, jv (own_size b mn mx), .second, iv (1 : Int32), iv mn, iv am, jv (own_size b mn am), .second, .unset, .unset, .unset, .unset] [(.long (am.toInt64)), (.long (own_size b mn am))]) (fun t k => XS.i2l X2.here hx rfl (hb hby at_107) rfl k) ?_
    refine own_go (mkF m 109 #[iv x0, iv x1, iv x2, iv b, iv mn, jv (((2147483647 : Int64) - (mn.toInt64)) + (1 : Int64)), .second, iv mx, jv (own_size b mn mx), .second, iv (1 : Int32), iv mn, iv am, jv (own_size b mn am), .second, .unset, .unset, .unset, .unset] [(.int b), (.long (am.toInt64)), (.long (own_size b mn am))]) (fun t k => XS.iloadN X2.here hx rfl (hb hby at_108) rfl  k) ?_
    refine own_go (mkF m 110 #[iv x0, iv x1, iv x2, iv b, iv mn, jv (((2147483647 : Int64) - (mn.toInt64)) + (1 : Int64)), .second, iv mx, jv (own_size b mn mx), .second, iv (1 : Int32), iv mn, iv am, jv (own_size b mn am), .second, .unset, .unset, .unset, .unset] [(.long (b.toInt64)), (.long (am.toInt64)), (.long (own_size b mn am))]) (fun t k => XS.i2l X2.here hx rfl (hb hby at_109) rfl k) ?_
    refine own_go (mkF m 111 #[iv x0, iv x1, iv x2, iv b, iv mn, jv (((2147483647 : Int64) - (mn.toInt64)) + (1 : Int64)), .second, iv mx, jv (own_size b mn mx), .second, iv (1 : Int32), iv mn, iv am, jv (own_size b mn am), .second, .unset, .unset, .unset, .unset] [(.long (1 : Int64)), (.long (b.toInt64)), (.long (am.toInt64)), (.long (own_size b mn am))]) (fun t k => XS.lconst X2.here hx rfl (hb hby at_110) k) ?_
    refine own_go (mkF m 112 #[iv x0, iv x1, iv x2, iv b, iv mn, jv (((2147483647 : Int64) - (mn.toInt64)) + (1 : Int64)), .second, iv mx, jv (own_size b mn mx), .second, iv (1 : Int32), iv mn, iv am, jv (own_size b mn am), .second, .unset, .unset, .unset, .unset] [(.long ((b.toInt64) + (1 : Int64))), (.long (am.toInt64)), (.long (own_size b mn am))]) (fun t k => XS.ladd X2.here hx rfl (hb hby at_111) rfl k) ?_
    refine own_go (mkF m 113 #[iv x0, iv x1, iv x2, iv b, iv mn, jv (((2147483647 : Int64) - (mn.toInt64)) + (1 : Int64)), .second, iv mx, jv (own_size b mn mx), .second, iv (1 : Int32), iv mn, iv am, jv (own_size b mn am), .second, .unset, .unset, .unset, .unset] [(.long ((am.toInt64) * ((b.toInt64) + (1 : Int64)))), (.long (own_size b mn am))]) (fun t k => XS.lmul X2.here hx rfl (hb hby at_112) rfl k) ?_
    refine own_go (mkF m 115 #[iv x0, iv x1, iv x2, iv b, iv mn, jv (((2147483647 : Int64) - (mn.toInt64)) + (1 : Int64)), .second, iv mx, jv (own_size b mn mx), .second, iv (1 : Int32), iv mn, iv am, jv (own_size b mn am), .second, .unset, .unset, .unset, .unset] [(.int mn), (.long ((am.toInt64) * ((b.toInt64) + (1 : Int64)))), (.long (own_size b mn am))]) (fun t k => XS.iload X2.here hx rfl (hb hby at_113) rfl  k) ?_
    refine own_go (mkF m 116 #[iv x0, iv x1, iv x2, iv b, iv mn, jv (((2147483647 : Int64) - (mn.toInt64)) + (1 : Int64)), .second, iv mx, jv (own_size b mn mx), .second, iv (1 : Int32), iv mn, iv am, jv (own_size b mn am), .second, .unset, .unset, .unset, .unset] [(.long (mn.toInt64)), (.long ((am.toInt64) * ((b.toInt64) + (1 : Int64)))), (.long (own_size b mn am))]) (fun t k => XS.i2l X2.here hx rfl (hb hby at_115) rfl k) ?_
    refine own_go (mkF m 117 #[iv x0, iv x1, iv x2, iv b, iv mn, jv (((2147483647 : Int64) - (mn.toInt64)) + (1 : Int64)), .second, iv mx, jv (own_size b mn mx), .second, iv (1 : Int32), iv mn, iv am, jv (own_size b mn am), .second, .unset, .unset, .unset, .unset] [(.long (((am.toInt64) * ((b.toInt64) + (1 : Int64))) - (mn.toInt64))), (.long (own_size b mn am))]) (fun t k => XS.lsub X2.here hx rfl (hb hby at_116) rfl k) ?_
    refine own_go (mkF m 118 #[iv x0, iv x1, iv x2, iv b, iv mn, jv (((2147483647 : Int64) - (mn.toInt64)) + (1 : Int64)), .second, iv mx, jv (own_size b mn mx), .second, iv (1 : Int32), iv mn, iv am, jv (own_size b mn am), .second, .unset, .unset, .unset, .unset] [(.int (lcmpW (own_size b mn am) (((am.toInt64) * ((b.toInt64) + (1 : Int64))) - (mn.toInt64))))]) (fun t k => XS.lcmp X2.here hx rfl (hb hby at_117) rfl k) ?_
    refine own_go (mkF m 121 #[iv x0, iv x1, iv x2, iv b, iv mn, jv (((2147483647 : Int64) - (mn.toInt64)) + (1 : Int64)), .second, iv mx, jv (own_size b mn mx), .second, iv (1 : Int32), iv mn, iv am, jv (own_size b mn am), .second, .unset, .unset, .unset, .unset] []) (fun t k => XS.ifNo X2.here hx rfl (hb hby at_118) rfl ((if0 _ _).trans (teq ((lw_eq (own_size b mn am) (((am.toInt64) * ((b.toInt64) + (1 : Int64))) - (mn.toInt64))).mpr (own_sz hb1 hb2 hm1 (own_amle hm1 hJA)))).2) k) ?_
    refine own_go (mkF m 122 #[iv x0, iv x1, iv x2, iv b, iv mn, jv (((2147483647 : Int64) - (mn.toInt64)) + (1 : Int64)), .second, iv mx, jv (own_size b mn mx), .second, iv (1 : Int32), iv mn, iv am, jv (own_size b mn am), .second, .unset, .unset, .unset, .unset] [(.int (1 : Int32))]) (fun t k => XS.iconst X2.here hx rfl (hb hby at_121) k) ?_
    refine own_go (mkF m 126 #[iv x0, iv x1, iv x2, iv b, iv mn, jv (((2147483647 : Int64) - (mn.toInt64)) + (1 : Int64)), .second, iv mx, jv (own_size b mn mx), .second, iv (1 : Int32), iv mn, iv am, jv (own_size b mn am), .second, .unset, .unset, .unset, .unset] [(.int (1 : Int32))]) (fun t k => XS.goto X2.here hx rfl (pc0 := 122) (pc' := 126) rfl (hb hby at_122) (by decide) (by decide) k) ?_
    refine own_go (mkF m 128 #[iv x0, iv x1, iv x2, iv b, iv mn, jv (((2147483647 : Int64) - (mn.toInt64)) + (1 : Int64)), .second, iv mx, jv (own_size b mn mx), .second, iv (1 : Int32), iv mn, iv am, jv (own_size b mn am), .second, iv (1 : Int32), .unset, .unset, .unset] []) (fun t k => XS.istore X2.here hx rfl (hb hby at_126) rfl (l' := #[iv x0, iv x1, iv x2, iv b, iv mn, jv (((2147483647 : Int64) - (mn.toInt64)) + (1 : Int64)), .second, iv mx, jv (own_size b mn mx), .second, iv (1 : Int32), iv mn, iv am, jv (own_size b mn am), .second, iv (1 : Int32), .unset, .unset, .unset]) rfl k) ?_
    refine own_go (mkF m 129 #[iv x0, iv x1, iv x2, iv b, iv mn, jv (((2147483647 : Int64) - (mn.toInt64)) + (1 : Int64)), .second, iv mx, jv (own_size b mn mx), .second, iv (1 : Int32), iv mn, iv am, jv (own_size b mn am), .second, iv (1 : Int32), .unset, .unset, .unset] [(.int b)]) (fun t k => XS.iloadN X2.here hx rfl (hb hby at_128) rfl  k) ?_
    refine own_go (mkF m 131 #[iv x0, iv x1, iv x2, iv b, iv mn, jv (((2147483647 : Int64) - (mn.toInt64)) + (1 : Int64)), .second, iv mx, jv (own_size b mn mx), .second, iv (1 : Int32), iv mn, iv am, jv (own_size b mn am), .second, iv (1 : Int32), .unset, .unset, .unset] [(.int mn), (.int b)]) (fun t k => XS.iload X2.here hx rfl (hb hby at_129) rfl  k) ?_
    refine own_go (mkF m 132 #[iv x0, iv x1, iv x2, iv b, iv mn, jv (((2147483647 : Int64) - (mn.toInt64)) + (1 : Int64)), .second, iv mx, jv (own_size b mn mx), .second, iv (1 : Int32), iv mn, iv am, jv (own_size b mn am), .second, iv (1 : Int32), .unset, .unset, .unset] [(.int (-1 : Int32)), (.int mn), (.int b)]) (fun t k => XS.iconst X2.here hx rfl (hb hby at_131) k) ?_
    refine own_callP X2 hx hZ (y := (⟨"com/example/alcuin/alcuin/service/EreNode", "repetitionSize", "(III)J"⟩ : MethodName)) (fr := 0) (lo := 0) (r := (.long (own_size b mn (-1 : Int32)))) hown (hw _ (List.mem_of_getElem? (i := 2) rfl)) (hw _ (List.mem_of_getElem? (i := 3) rfl)) (hw _ (List.mem_of_getElem? (i := 4) rfl)) (hw _ (List.mem_of_getElem? (i := 5) rfl)) (by decide) e2 [(.int b), (.int mn), (.int (-1 : Int32))] [] (own_rm1 l Z a0 hw [] h0 b mn (-1 : Int32)) 0 (by decide) (by decide) (Nat.le_of_eq rfl) (by decide) (by decide) (by rw [hml]; rfl) (lenOf own_pd0 rfl) rfl (hb hby at_132) ?_
    intro T3 X3 e3
    refine own_go (mkF m 137 #[iv x0, iv x1, iv x2, iv b, iv mn, jv (((2147483647 : Int64) - (mn.toInt64)) + (1 : Int64)), .second, iv mx, jv (own_size b mn mx), .second, iv (1 : Int32), iv mn, iv am, jv (own_size b mn am), .second, iv (1 : Int32), jv (own_size b mn (-1 : Int32)), .second, .unset] []) (fun t k => XS.lstore X3.here hx rfl (hb hby at_135) rfl (l' := #[iv x0, iv x1, iv x2, iv b, iv mn, jv (((2147483647 : Int64) - (mn.toInt64)) + (1 : Int64)), .second, iv mx, jv (own_size b mn mx), .second, iv (1 : Int32), iv mn, iv am, jv (own_size b mn am), .second, iv (1 : Int32), jv (own_size b mn (-1 : Int32)), .second, .unset]) rfl k) ?_
    refine own_go (mkF m 139 #[iv x0, iv x1, iv x2, iv b, iv mn, jv (((2147483647 : Int64) - (mn.toInt64)) + (1 : Int64)), .second, iv mx, jv (own_size b mn mx), .second, iv (1 : Int32), iv mn, iv am, jv (own_size b mn am), .second, iv (1 : Int32), jv (own_size b mn (-1 : Int32)), .second, .unset] [(.long (own_size b mn (-1 : Int32)))]) (fun t k => XS.lload X3.here hx rfl (hb hby at_137) rfl  k) ?_
    refine own_go (mkF m 141 #[iv x0, iv x1, iv x2, iv b, iv mn, jv (((2147483647 : Int64) - (mn.toInt64)) + (1 : Int64)), .second, iv mx, jv (own_size b mn mx), .second, iv (1 : Int32), iv mn, iv am, jv (own_size b mn am), .second, iv (1 : Int32), jv (own_size b mn (-1 : Int32)), .second, .unset] [(.long (own_size b mn am)), (.long (own_size b mn (-1 : Int32)))]) (fun t k => XS.lload X3.here hx rfl (hb hby at_139) rfl  k) ?_
    refine own_go (mkF m 142 #[iv x0, iv x1, iv x2, iv b, iv mn, jv (((2147483647 : Int64) - (mn.toInt64)) + (1 : Int64)), .second, iv mx, jv (own_size b mn mx), .second, iv (1 : Int32), iv mn, iv am, jv (own_size b mn am), .second, iv (1 : Int32), jv (own_size b mn (-1 : Int32)), .second, .unset] [(.long (1 : Int64)), (.long (own_size b mn am)), (.long (own_size b mn (-1 : Int32)))]) (fun t k => XS.lconst X3.here hx rfl (hb hby at_141) k) ?_
    refine own_go (mkF m 143 #[iv x0, iv x1, iv x2, iv b, iv mn, jv (((2147483647 : Int64) - (mn.toInt64)) + (1 : Int64)), .second, iv mx, jv (own_size b mn mx), .second, iv (1 : Int32), iv mn, iv am, jv (own_size b mn am), .second, iv (1 : Int32), jv (own_size b mn (-1 : Int32)), .second, .unset] [(.long ((own_size b mn am) + (1 : Int64))), (.long (own_size b mn (-1 : Int32)))]) (fun t k => XS.ladd X3.here hx rfl (hb hby at_142) rfl k) ?_
    refine own_go (mkF m 144 #[iv x0, iv x1, iv x2, iv b, iv mn, jv (((2147483647 : Int64) - (mn.toInt64)) + (1 : Int64)), .second, iv mx, jv (own_size b mn mx), .second, iv (1 : Int32), iv mn, iv am, jv (own_size b mn am), .second, iv (1 : Int32), jv (own_size b mn (-1 : Int32)), .second, .unset] [(.int (lcmpW (own_size b mn (-1 : Int32)) ((own_size b mn am) + (1 : Int64))))]) (fun t k => XS.lcmp X3.here hx rfl (hb hby at_143) rfl k) ?_
    refine own_go (mkF m 147 #[iv x0, iv x1, iv x2, iv b, iv mn, jv (((2147483647 : Int64) - (mn.toInt64)) + (1 : Int64)), .second, iv mx, jv (own_size b mn mx), .second, iv (1 : Int32), iv mn, iv am, jv (own_size b mn am), .second, iv (1 : Int32), jv (own_size b mn (-1 : Int32)), .second, .unset] []) (fun t k => XS.ifNo X3.here hx rfl (hb hby at_144) rfl ((if0 _ _).trans (teq ((lw_eq (own_size b mn (-1 : Int32)) ((own_size b mn am) + (1 : Int64))).mpr (own_szu hb1 hb2 hm1 hJA))).2) k) ?_
    refine own_go (mkF m 148 #[iv x0, iv x1, iv x2, iv b, iv mn, jv (((2147483647 : Int64) - (mn.toInt64)) + (1 : Int64)), .second, iv mx, jv (own_size b mn mx), .second, iv (1 : Int32), iv mn, iv am, jv (own_size b mn am), .second, iv (1 : Int32), jv (own_size b mn (-1 : Int32)), .second, .unset] [(.int (1 : Int32))]) (fun t k => XS.iconst X3.here hx rfl (hb hby at_147) k) ?_
    refine own_go (mkF m 152 #[iv x0, iv x1, iv x2, iv b, iv mn, jv (((2147483647 : Int64) - (mn.toInt64)) + (1 : Int64)), .second, iv mx, jv (own_size b mn mx), .second, iv (1 : Int32), iv mn, iv am, jv (own_size b mn am), .second, iv (1 : Int32), jv (own_size b mn (-1 : Int32)), .second, .unset] [(.int (1 : Int32))]) (fun t k => XS.goto X3.here hx rfl (pc0 := 148) (pc' := 152) rfl (hb hby at_148) (by decide) (by decide) k) ?_
    refine own_go (mkF m 154 #[iv x0, iv x1, iv x2, iv b, iv mn, jv (((2147483647 : Int64) - (mn.toInt64)) + (1 : Int64)), .second, iv mx, jv (own_size b mn mx), .second, iv (1 : Int32), iv mn, iv am, jv (own_size b mn am), .second, iv (1 : Int32), jv (own_size b mn (-1 : Int32)), .second, iv (1 : Int32)] []) (fun t k => XS.istore X3.here hx rfl (hb hby at_152) rfl (l' := #[iv x0, iv x1, iv x2, iv b, iv mn, jv (((2147483647 : Int64) - (mn.toInt64)) + (1 : Int64)), .second, iv mx, jv (own_size b mn mx), .second, iv (1 : Int32), iv mn, iv am, jv (own_size b mn am), .second, iv (1 : Int32), jv (own_size b mn (-1 : Int32)), .second, iv (1 : Int32)]) rfl k) ?_
    refine own_go (mkF m 156 #[iv x0, iv x1, iv x2, iv b, iv mn, jv (((2147483647 : Int64) - (mn.toInt64)) + (1 : Int64)), .second, iv mx, jv (own_size b mn mx), .second, iv (1 : Int32), iv mn, iv am, jv (own_size b mn am), .second, iv (1 : Int32), jv (own_size b mn (-1 : Int32)), .second, iv (1 : Int32)] [(.int (1 : Int32))]) (fun t k => XS.iload X3.here hx rfl (hb hby at_154) rfl  k) ?_
    refine own_go (mkF m 159 #[iv x0, iv x1, iv x2, iv b, iv mn, jv (((2147483647 : Int64) - (mn.toInt64)) + (1 : Int64)), .second, iv mx, jv (own_size b mn mx), .second, iv (1 : Int32), iv mn, iv am, jv (own_size b mn am), .second, iv (1 : Int32), jv (own_size b mn (-1 : Int32)), .second, iv (1 : Int32)] []) (fun t k => XS.ifNo X3.here hx rfl (hb hby at_156) rfl ((if0 _ _).trans (feq (by decide)).1) k) ?_
    refine own_go (mkF m 161 #[iv x0, iv x1, iv x2, iv b, iv mn, jv (((2147483647 : Int64) - (mn.toInt64)) + (1 : Int64)), .second, iv mx, jv (own_size b mn mx), .second, iv (1 : Int32), iv mn, iv am, jv (own_size b mn am), .second, iv (1 : Int32), jv (own_size b mn (-1 : Int32)), .second, iv (1 : Int32)] [(.int (1 : Int32))]) (fun t k => XS.iload X3.here hx rfl (hb hby at_159) rfl  k) ?_
    refine own_go (mkF m 164 #[iv x0, iv x1, iv x2, iv b, iv mn, jv (((2147483647 : Int64) - (mn.toInt64)) + (1 : Int64)), .second, iv mx, jv (own_size b mn mx), .second, iv (1 : Int32), iv mn, iv am, jv (own_size b mn am), .second, iv (1 : Int32), jv (own_size b mn (-1 : Int32)), .second, iv (1 : Int32)] []) (fun t k => XS.ifNo X3.here hx rfl (hb hby at_161) rfl ((if0 _ _).trans (feq (by decide)).1) k) ?_
    refine own_go (mkF m 166 #[iv x0, iv x1, iv x2, iv b, iv mn, jv (((2147483647 : Int64) - (mn.toInt64)) + (1 : Int64)), .second, iv mx, jv (own_size b mn mx), .second, iv (1 : Int32), iv mn, iv am, jv (own_size b mn am), .second, iv (1 : Int32), jv (own_size b mn (-1 : Int32)), .second, iv (1 : Int32)] [(.int (1 : Int32))]) (fun t k => XS.iload X3.here hx rfl (hb hby at_164) rfl  k) ?_
    refine own_go (mkF m 169 #[iv x0, iv x1, iv x2, iv b, iv mn, jv (((2147483647 : Int64) - (mn.toInt64)) + (1 : Int64)), .second, iv mx, jv (own_size b mn mx), .second, iv (1 : Int32), iv mn, iv am, jv (own_size b mn am), .second, iv (1 : Int32), jv (own_size b mn (-1 : Int32)), .second, iv (1 : Int32)] []) (fun t k => XS.ifNo X3.here hx rfl (hb hby at_166) rfl ((if0 _ _).trans (feq (by decide)).1) k) ?_
    refine own_go (mkF m 170 #[iv x0, iv x1, iv x2, iv b, iv mn, jv (((2147483647 : Int64) - (mn.toInt64)) + (1 : Int64)), .second, iv mx, jv (own_size b mn mx), .second, iv (1 : Int32), iv mn, iv am, jv (own_size b mn am), .second, iv (1 : Int32), jv (own_size b mn (-1 : Int32)), .second, iv (1 : Int32)] [(.int (1 : Int32))]) (fun t k => XS.iconst X3.here hx rfl (hb hby at_169) k) ?_
    refine own_go (mkF m 174 #[iv x0, iv x1, iv x2, iv b, iv mn, jv (((2147483647 : Int64) - (mn.toInt64)) + (1 : Int64)), .second, iv mx, jv (own_size b mn mx), .second, iv (1 : Int32), iv mn, iv am, jv (own_size b mn am), .second, iv (1 : Int32), jv (own_size b mn (-1 : Int32)), .second, iv (1 : Int32)] [(.int (1 : Int32))]) (fun t k => XS.goto X3.here hx rfl (pc0 := 170) (pc' := 174) rfl (hb hby at_170) (by decide) (by decide) k) ?_
    refine own_retZ X3 hx hlk hret (hb hby at_174) ?_ (by decide) (by decide)
    exact ⟨rfl, Fr.nil _⟩
  refine own_go (mkF m 82 #[iv x0, iv x1, iv x2, iv b, iv mn, jv (((2147483647 : Int64) - (mn.toInt64)) + (1 : Int64)), .second, iv mx, jv (own_size b mn mx), .second, iv (1 : Int32), iv mn, .unset, .unset, .unset, .unset, .unset, .unset, .unset] [(.int mn)]) (fun t k => XS.iload X1.here hx rfl (hb hby at_80) rfl  k) ?_
  by_cases hc82 : mn = (0 : Int32)
  · skip
    refine own_go (mkF m 85 #[iv x0, iv x1, iv x2, iv b, iv mn, jv (((2147483647 : Int64) - (mn.toInt64)) + (1 : Int64)), .second, iv mx, jv (own_size b mn mx), .second, iv (1 : Int32), iv mn, .unset, .unset, .unset, .unset, .unset, .unset, .unset] []) (fun t k => XS.ifNo X1.here hx rfl (hb hby at_82) rfl ((if0 _ _).trans (teq hc82).2) k) ?_
    refine own_go (mkF m 86 #[iv x0, iv x1, iv x2, iv b, iv mn, jv (((2147483647 : Int64) - (mn.toInt64)) + (1 : Int64)), .second, iv mx, jv (own_size b mn mx), .second, iv (1 : Int32), iv mn, .unset, .unset, .unset, .unset, .unset, .unset, .unset] [(.int (1 : Int32))]) (fun t k => XS.iconst X1.here hx rfl (hb hby at_85) k) ?_
    refine own_go (mkF m 91 #[iv x0, iv x1, iv x2, iv b, iv mn, jv (((2147483647 : Int64) - (mn.toInt64)) + (1 : Int64)), .second, iv mx, jv (own_size b mn mx), .second, iv (1 : Int32), iv mn, .unset, .unset, .unset, .unset, .unset, .unset, .unset] [(.int (1 : Int32))]) (fun t k => XS.goto X1.here hx rfl (pc0 := 86) (pc' := 91) rfl (hb hby at_86) (by decide) (by decide) k) ?_
    exact JA ((1 : Int32)) (show (1 : Int32) = (own_am mn) from (show (own_am mn) = (1 : Int32) from ((if_pos hc82).trans rfl)).symm)
  · skip
    refine own_go (mkF m 89 #[iv x0, iv x1, iv x2, iv b, iv mn, jv (((2147483647 : Int64) - (mn.toInt64)) + (1 : Int64)), .second, iv mx, jv (own_size b mn mx), .second, iv (1 : Int32), iv mn, .unset, .unset, .unset, .unset, .unset, .unset, .unset] []) (fun t k => XS.ifYes X1.here hx rfl (pc0 := 82) (pc' := 89) rfl (hb hby at_82) rfl ((if0 _ _).trans (feq hc82).2) (by decide) (by decide) k) ?_
    refine own_go (mkF m 91 #[iv x0, iv x1, iv x2, iv b, iv mn, jv (((2147483647 : Int64) - (mn.toInt64)) + (1 : Int64)), .second, iv mx, jv (own_size b mn mx), .second, iv (1 : Int32), iv mn, .unset, .unset, .unset, .unset, .unset, .unset, .unset] [(.int mn)]) (fun t k => XS.iload X1.here hx rfl (hb hby at_89) rfl  k) ?_
    exact JA (mn) (show mn = (own_am mn) from (show (own_am mn) = mn from ((if_neg hc82).trans rfl)).symm)

set_option maxRecDepth 65536 in
set_option maxHeartbeats 40000000 in
theorem comes_1 {Post : Tables → Env → Array Value → State → Outcome → State → Prop} (hpost : ∀ tb e args s v u, (limb_1_1.after args s (.returned v) u = true ∧ limb_1_2.after args s (.returned v) u = true ∧ True) → FrameEnd s (.returned v) u (Jvm.fieldLocs frame_1_writes args s ++ Jvm.arrayLocs frame_1_arrays args s ++ Jvm.staticLocs frame_1_statics s) 0 0 → Post tb e args s (.returned v) u) :
    ArmFor flags0 classFile x code maxLocals ret World_1 tables_1 room_1 Calls_1 rest_1 Pre_1 Post := by
  intro l hfl _ _ p e ha hc hk s m args below hf hA hF happ hP
  obtain ⟨hcalls, hrest, hpre⟩ := hP
  obtain ⟨-, -, -, hnamed, -, -, -, hat⟩ := (Spec.applies_iff hf).mp happ
  obtain ⟨hg, hn⟩ := and_e (Cond.before_iff.mp (show (Jvm.Cond.and given_1 narrow_1).before args s = true from hpre))
  obtain ⟨g1, g2⟩ := and_e hg
  obtain ⟨g3, g4⟩ := and_e g2
  obtain ⟨g5, g6⟩ := and_e g4
  obtain ⟨w0, w1, w2, rfl⟩ : ∃ w0 w1 w2 : Value, args = #[w0, w1, w2] := by
    have hs : args.size = 3 := by simpa [Cond.value, given_1] using g1
    obtain ⟨L⟩ := args
    match L, hs with
    | [w0, w1, w2], _ => exact ⟨w0, w1, w2, rfl⟩
  have hw := fun d (hd : d ∈ tables_1) => atoms_spec (ws := Jvm.Cond.code x code maxLocals ret :: tables_1) hat d (List.mem_cons_of_mem _ hd)
  obtain ⟨i0, ei0⟩ := is_v g3
  obtain rfl : w0 = (.int i0) := Option.some.inj ei0
  obtain ⟨i1, ei1⟩ := is_v g5
  obtain rfl : w1 = (.int i1) := Option.some.inj ei1
  obtain ⟨i2, ei2⟩ := is_v g6
  obtain rfl : w2 = (.int i2) := Option.some.inj ei2
  obtain ⟨n, o, h1, h2, h3, _, L, rfl, ⟨rfl, N⟩, hq⟩ := own_rm0 l s _ hw tables_1 s.heap i0 i1 i2  p e ha hc hk s m _ below hf ((Spec.applies_iff_loose hf).mp happ).1 ⟨rfl, State.Warmed39.refl s, rfl⟩ trivial
  refine ⟨n, _, h1, h2, h3, hpost _ _ _ _ _ _ ⟨Cond.after_iff.mpr rfl, Cond.after_iff.mpr (eq_i res_at (Term.int_eval (1)) rfl), trivial⟩ ⟨hq.1, hq.2.1, (hq.2.2.sift fun y hy => Or.inr (N y hy)).mono (by decide) (by decide)⟩⟩
theorem main_1_1 : Claimed_1_1 := comes_1 fun _ _ _ _ _ _ h hF => ⟨h.1, hF⟩
theorem main_1_2 : Claimed_1_2 := comes_1 fun _ _ _ _ _ _ h hF => ⟨h.2.1, hF⟩
end Jvm.Pilot.@@N@@
namespace Jvm.Pilot.@@N@@
open Jvm Jvm.ClassFile Sem Op Lib Jvm.Free Jvm.Stand Jvm.Pilot.@@N@@.Jvm.D
/-! MADE BY PROGRAM (witnessworld.py) out of the Statement's table words and the real class files: 9 classes; the members and pool entries that the words name. The judged class is class 1, her method 1. -/
namespace start1
open Jvm.ClassFile
def u (s : String) : CpInfo := .utf8 (stringToUtf16 s)
/-- a pool by its gaps: so many unusable entries, then the entry; so many at the end -/
def gap : Nat → List CpInfo → List CpInfo
  | 0, r => r
  | n + 1, r => .unusable :: gap n r
def poolList (es : List (Nat × CpInfo)) (last : Nat) : List CpInfo := es.foldr (fun e r => gap e.1 (e.2 :: r)) (gap last [])
def pool (es : List (Nat × CpInfo)) (last : Nat) : Array CpInfo := ⟨poolList es last⟩
def fileOf (pool : Array CpInfo) (this : Nat) (attrs : Array Attribute := #[]) (ms : Array MethodInfo := #[]) (fl : Nat := 33) (sup : Nat := 0) (ifs : Array Nat := #[]) (fds : Array FieldInfo := #[]) : ClassFile where
  minorVersion := 0
  majorVersion := 65
  constantPool := pool
  accessFlags := fl
  thisClass := this
  superClass := sup
  interfaces := ifs
  fields := fds
  methods := ms
  attributes := attrs
def plain (name : String) (sup : Option ClassId) : Class where
  name := name
  kind := .ordinary
  loader := none
  accessFlags := 33
  super := sup
  interfaces := #[]
  cf := none
  fields := #[]
  methods := #[]
  instanceTypes := #[]
  staticTypes := #[]
  resolved := #[]
  callSites := []
  init := .initialized
  statics := none
  mirror := none

def pool0 : Array CpInfo := pool [(5, u "<init>"), (0, u "()V"), (1, .class_ 10), (1, u "java/lang/Object")] 113

def k0m0 : Method := { name := "<init>", desc := "()V", sig := { parameters := [], returnType := none }, accessFlags := 1, code := none }
/-- java/lang/Object -/
def k0 : Class := { plain "java/lang/Object" none with
  accessFlags := 33
  interfaces := #[]
  cf := some (fileOf pool0 8 #[] #[{ accessFlags := 1, nameIndex := 5, descriptorIndex := 6, attributes := #[] }] 33 0 #[] #[])
  fields := #[]
  methods := #[k0m0]
  instanceTypes := #[]
  staticTypes := #[]
  resolved := Array.replicate 124 none
  statics := none }

def pool1 : Array CpInfo := pool [(2, .class_ 4), (1, u "java/lang/Object"), (0, u "<init>"), (0, u "()V"), (0, .integer 2147483647), (0, .long 2147483647), (1, .methodref 11 12), (0, .class_ 13), (0, .nameAndType 14 15), (0, u "com/example/alcuin/alcuin/service/EreNode"), (0, u "repetitionSize"), (0, u "(III)J"), (0, .class_ 17), (0, u "com/example/alcuin/alcuin/service/EreNodeRepetitionSizePinLaw"), (2, u "law"), (0, u "(III)Z")] 3

def k1m0 : Method := { name := "<init>", desc := "()V", sig := { parameters := [], returnType := none }, accessFlags := 1, code := none }
def k1c1 : Code := { maxStack := 8, maxLocals := 19, code := code, exceptionTable := #[], attributes := #[] }
def k1m1 : Method := { name := "law", desc := "(III)Z", sig := { parameters := [.int, .int, .int], returnType := some .boolean }, accessFlags := 9, code := some k1c1 }
/-- com/example/alcuin/alcuin/service/EreNodeRepetitionSizePinLaw -/
def k1 : Class := { plain "com/example/alcuin/alcuin/service/EreNodeRepetitionSizePinLaw" (some 0) with
  accessFlags := 49
  interfaces := #[]
  cf := some (fileOf pool1 16 #[] #[{ accessFlags := 1, nameIndex := 5, descriptorIndex := 6, attributes := #[] }, { accessFlags := 9, nameIndex := 20, descriptorIndex := 21, attributes := #[] }] 49 2 #[] #[])
  fields := #[]
  methods := #[k1m0, k1m1]
  instanceTypes := #[]
  staticTypes := #[]
  resolved := Array.replicate 25 none
  statics := none }

def pool2 : Array CpInfo := pool [(4, .class_ 6), (1, u "java/lang/Object"), (3, .class_ 12), (1, u "com/example/alcuin/alcuin/service/EreNode"), (0, u "kind"), (0, u "Lcom/example/alcuin/alcuin/service/EreNode$Kind;"), (2, u "instruction"), (0, u "Lcom/example/alcuin/alcuin/service/EreInstruction;"), (2, u "children"), (0, u "[Lcom/example/alcuin/alcuin/service/EreNode;"), (2, u "offsets"), (0, u "[I"), (2, u "size"), (0, u "I"), (2, u "min"), (2, u "max"), (2, u "group"), (2, u "width"), (1, .class_ 46), (1, u "com/example/alcuin/alcuin/service/EreNode$Kind"), (4, u "firstGroup"), (10, u "NO_NUMBERS"), (2, u "widthsAfter"), (2, u "runEnds"), (2, u "runWidths"), (16, u "NO_CHILDREN"), (24, .long 2), (3, u "repetitionSize"), (0, u "(III)J"), (112, u "UNBOUNDED"), (2, u "NO_GROUP"), (0, u "VARIABLE")] 45

def k2c0 : Code := { maxStack := 6, maxLocals := 5, code := prog_66_method_5_code, exceptionTable := #[], attributes := #[] }
def k2m0 : Method := { name := "repetitionSize", desc := "(III)J", sig := { parameters := [.int, .int, .int], returnType := some .long }, accessFlags := 8, code := some k2c0 }
/-- com/example/alcuin/alcuin/service/EreNode -/
def k2 : Class := { plain "com/example/alcuin/alcuin/service/EreNode" (some 0) with
  accessFlags := 48
  interfaces := #[]
  cf := some (fileOf pool2 10 #[.nestMembers #[44]] #[{ accessFlags := 8, nameIndex := 117, descriptorIndex := 118, attributes := #[] }] 48 4 #[] #[{ accessFlags := 24, nameIndex := 231, descriptorIndex := 30, attributes := #[] }, { accessFlags := 24, nameIndex := 234, descriptorIndex := 30, attributes := #[] }, { accessFlags := 24, nameIndex := 235, descriptorIndex := 30, attributes := #[] }, { accessFlags := 26, nameIndex := 88, descriptorIndex := 22, attributes := #[] }, { accessFlags := 26, nameIndex := 62, descriptorIndex := 26, attributes := #[] }, { accessFlags := 16, nameIndex := 13, descriptorIndex := 14, attributes := #[] }, { accessFlags := 16, nameIndex := 29, descriptorIndex := 30, attributes := #[] }, { accessFlags := 16, nameIndex := 51, descriptorIndex := 30, attributes := #[] }, { accessFlags := 16, nameIndex := 42, descriptorIndex := 30, attributes := #[] }, { accessFlags := 16, nameIndex := 33, descriptorIndex := 30, attributes := #[] }, { accessFlags := 16, nameIndex := 36, descriptorIndex := 30, attributes := #[] }, { accessFlags := 16, nameIndex := 39, descriptorIndex := 30, attributes := #[] }, { accessFlags := 18, nameIndex := 17, descriptorIndex := 18, attributes := #[] }, { accessFlags := 18, nameIndex := 21, descriptorIndex := 22, attributes := #[] }, { accessFlags := 18, nameIndex := 25, descriptorIndex := 26, attributes := #[] }, { accessFlags := 18, nameIndex := 65, descriptorIndex := 26, attributes := #[] }, { accessFlags := 18, nameIndex := 68, descriptorIndex := 26, attributes := #[] }, { accessFlags := 18, nameIndex := 71, descriptorIndex := 26, attributes := #[] }])
  fields := #[{ name := "UNBOUNDED", type := .int, accessFlags := 24, slot := 0, constantValue := 0 }, { name := "NO_GROUP", type := .int, accessFlags := 24, slot := 1, constantValue := 0 }, { name := "VARIABLE", type := .int, accessFlags := 24, slot := 2, constantValue := 0 }, { name := "NO_CHILDREN", type := (.array (.object "com/example/alcuin/alcuin/service/EreNode")), accessFlags := 26, slot := 3, constantValue := 0 }, { name := "NO_NUMBERS", type := (.array .int), accessFlags := 26, slot := 4, constantValue := 0 }, { name := "kind", type := (.object "com/example/alcuin/alcuin/service/EreNode$Kind"), accessFlags := 16, slot := 0, constantValue := 0 }, { name := "size", type := .int, accessFlags := 16, slot := 1, constantValue := 0 }, { name := "firstGroup", type := .int, accessFlags := 16, slot := 2, constantValue := 0 }, { name := "width", type := .int, accessFlags := 16, slot := 3, constantValue := 0 }, { name := "min", type := .int, accessFlags := 16, slot := 4, constantValue := 0 }, { name := "max", type := .int, accessFlags := 16, slot := 5, constantValue := 0 }, { name := "group", type := .int, accessFlags := 16, slot := 6, constantValue := 0 }, { name := "instruction", type := (.object "com/example/alcuin/alcuin/service/EreInstruction"), accessFlags := 18, slot := 7, constantValue := 0 }, { name := "children", type := (.array (.object "com/example/alcuin/alcuin/service/EreNode")), accessFlags := 18, slot := 8, constantValue := 0 }, { name := "offsets", type := (.array .int), accessFlags := 18, slot := 9, constantValue := 0 }, { name := "widthsAfter", type := (.array .int), accessFlags := 18, slot := 10, constantValue := 0 }, { name := "runEnds", type := (.array .int), accessFlags := 18, slot := 11, constantValue := 0 }, { name := "runWidths", type := (.array .int), accessFlags := 18, slot := 12, constantValue := 0 }]
  methods := #[k2m0]
  instanceTypes := #[(.object "com/example/alcuin/alcuin/service/EreNode$Kind"), .int, .int, .int, .int, .int, .int, (.object "com/example/alcuin/alcuin/service/EreInstruction"), (.array (.object "com/example/alcuin/alcuin/service/EreNode")), (.array .int), (.array .int), (.array .int), (.array .int)]
  staticTypes := #[.int, .int, .int, (.array (.object "com/example/alcuin/alcuin/service/EreNode")), (.array .int)]
  resolved := Array.replicate 281 none
  statics := none }

def pool3 : Array CpInfo := pool [(1, u "java/lang/Cloneable"), (0, .class_ 1), (0, u "java/lang/Object"), (0, .class_ 3)] 3

/-- java/lang/Cloneable -/
def k3 : Class := { plain "java/lang/Cloneable" (some 0) with
  accessFlags := 1537
  interfaces := #[]
  cf := some (fileOf pool3 2 #[] #[] 1537 4 #[] #[])
  fields := #[]
  methods := #[]
  instanceTypes := #[]
  staticTypes := #[]
  resolved := Array.replicate 8 none
  statics := none }

def pool4 : Array CpInfo := pool [(1, u "java/io/Serializable"), (0, .class_ 1), (0, u "java/lang/Object"), (0, .class_ 3)] 3

/-- java/io/Serializable -/
def k4 : Class := { plain "java/io/Serializable" (some 0) with
  accessFlags := 1537
  interfaces := #[]
  cf := some (fileOf pool4 2 #[] #[] 1537 4 #[] #[])
  fields := #[]
  methods := #[]
  instanceTypes := #[]
  staticTypes := #[]
  resolved := Array.replicate 8 none
  statics := none }

/-- the primitive byte -/
def k5 : Class := { plain "byte" none with kind := .primitive 'B', accessFlags := 0x411 }
/-- [B -/
def k6 : Class := { plain "[B" (some 0) with kind := .array 5 .byte, interfaces := #[3, 4], accessFlags := 1041 }

/-- the primitive int -/
def k7 : Class := { plain "int" none with kind := .primitive 'I', accessFlags := 0x411 }
/-- [I -/
def k8 : Class := { plain "[I" (some 0) with kind := .array 7 .int, interfaces := #[3, 4], accessFlags := 1041 }

def heap : Heap := #[]
def classes : Array Class := #[k0, k1, k2, k3, k4, k5, k6, k7, k8]
def interned : List (Array UInt16 × Addr) := []
def slotsUsed : Nat := 0
def theMethod : MethodId := ⟨1, 1⟩
def args0 : Array Value := #[.int 5, .int 7, .int 3]
def aboutOver (below : List Frame) : State where
  vm := { classes := classes, interned := interned.toArray }
  heap := heap
  slotsUsed := slotsUsed
  threads := #[{ frames := .invoking theMethod args0 :: below }]
def below0 : List Frame := [.native { method := ⟨0, 0⟩, args := #[] }]
def about1 : State := aboutOver below0
def p0 : Program := .bare "" "" ""
def e0 : Env := launch0.env 0 0 0
theorem w_frames : about1.frames = Frame.invoking theMethod args0 :: below0 := rfl
set_option maxRecDepth 65536 in
theorem w_args : argsFit about1.vm theMethod args0 = true := by decide +kernel
set_option maxRecDepth 65536 in
theorem w_heap : heapFits about1 = true := by decide +kernel
set_option maxRecDepth 65536 in
theorem w_runnable : about1.curStatus? = some .runnable := by decide +kernel
set_option maxRecDepth 65536 in
theorem w_alone : about1.alone = true := by decide +kernel
set_option maxRecDepth 65536 in
theorem w_named : about1.methodNamed? x = some theMethod := by decide +kernel
set_option maxRecDepth 65536 in
theorem w_hears : about1.hears theMethod below0 = true := by decide +kernel
set_option maxRecDepth 65536 in
theorem w_ripe : about1.ripe theMethod args0 below0 = true := by decide +kernel
theorem w_running : about1.status = .running := rfl
set_option maxRecDepth 65536 in
theorem w_room : about1.hasRoom e0.platform room_1 = true :=
  launch0.hasRoom_least _ room_1 (by decide +kernel) (by decide +kernel) (by decide +kernel) (by decide +kernel) (by decide +kernel) (by decide +kernel)
theorem allAtoms_all (ts : List Jvm.Cond) (a : Array Jvm.Value) (st : Jvm.State) : (allAtoms ts).before a st = ts.all (fun c => c.before a st) := by
  induction ts with
  | nil => rfl
  | cons c t ih =>
    show (Jvm.Cond.and c (allAtoms t)).before a st = _
    rw [Jvm.Cond.before_and, ih, List.all_cons]
def words1 : List Jvm.Cond := Jvm.Cond.code x code maxLocals ret :: tables_1
/-- a 'code' word, met by the world's own term for the bytes: nothing is compared byte by byte -/
theorem code_word {y : MethodName} {bytes : ByteArray} {mx : Nat} {rt : Option FieldType} {a : Array Value} {s : State} {m : MethodId} {meth : Method} {c : Code} (h1 : s.methodNamed? y = some m) (h2 : s.vm.method? m = some meth) (h3 : meth.code = some c) (h4 : c.code = bytes)
    (h5 : (c.maxLocals == mx && c.exceptionTable.isEmpty && decide (c.maxStack ≤ mostOperands) && decide (meth.sig.returnType = rt) && !meth.locks && decide (parseMethodDescriptor y.desc = some meth.sig)) = true) : (Jvm.Cond.code y bytes mx rt).before a s = true := by
  simp only [Bool.and_eq_true, beq_iff_eq, Bool.not_eq_true', decide_eq_true_eq] at h5
  obtain ⟨⟨⟨⟨⟨g1, g2⟩, g3⟩, g4⟩, g5⟩, g6⟩ := h5
  simp [Cond.before, Cond.holds, Cond.value, h1, h2, h3, h4, g1, g2, g3, g4, g5, g6]
def isCode : Jvm.Cond → Bool
  | .code _ _ _ _ => true
  | _ => false
theorem all_split {L : List Jvm.Cond} {P : Jvm.Cond → Bool} (h1 : L.all (fun c => isCode c || P c) = true) (h2 : ∀ c ∈ L.filter isCode, P c = true) : L.all P = true := by
  refine List.all_eq_true.mpr fun c hc => ?_
  have h := List.all_eq_true.mp h1 c hc
  rcases Bool.eq_false_or_eq_true (isCode c) with hi | hi
  · exact h2 c (List.mem_filter.mpr ⟨hc, hi⟩)
  · simpa [hi] using h
set_option maxRecDepth 65536 in
theorem w_c0 : (Jvm.Cond.code x code maxLocals ret).before args0 about1 = true := code_word (m := ⟨1, 1⟩) (meth := k1m1) (c := k1c1) (by decide +kernel) rfl rfl rfl (by decide +kernel)
set_option maxRecDepth 65536 in
theorem w_c1 : (Jvm.Cond.code ({ cls := "com/example/alcuin/alcuin/service/EreNode", name := "repetitionSize", desc := "(III)J" } : Jvm.MethodName) prog_66_method_5_code (5 : Nat) (Option.some Jvm.ClassFile.FieldType.long)).before args0 about1 = true := code_word (m := ⟨2, 0⟩) (meth := k2m0) (c := k2c0) (by decide +kernel) rfl rfl rfl (by decide +kernel)
def codes1 : List Jvm.Cond := [Jvm.Cond.code x code maxLocals ret, Jvm.Cond.code ({ cls := "com/example/alcuin/alcuin/service/EreNode", name := "repetitionSize", desc := "(III)J" } : Jvm.MethodName) prog_66_method_5_code (5 : Nat) (Option.some Jvm.ClassFile.FieldType.long)]
set_option maxRecDepth 65536 in
theorem codes_eq : words1.filter isCode = codes1 := rfl
theorem w_codes : ∀ c ∈ words1.filter isCode, c.before args0 about1 = true := by
  rw [codes_eq]
  intro c hc
  simp only [codes1, List.mem_cons, List.not_mem_nil, or_false] at hc
  rcases hc with rfl | rfl
  · exact w_c0
  · exact w_c1
set_option maxRecDepth 65536 in
theorem w_t1 : words1.all (fun c => isCode c || c.before args0 about1) = true := by decide +kernel
theorem w_tables : (allAtoms (Jvm.Cond.code x code maxLocals ret :: tables_1)).before args0 about1 = true := by
  rw [allAtoms_all]
  show words1.all (fun c => c.before args0 about1) = true
  refine all_split ?_ w_codes
  rw [w_t1]
set_option maxRecDepth 65536 in
theorem w_case : (Jvm.Cond.and given_1 narrow_1).before args0 about1 = true := by decide +kernel
theorem w_applies : (headSpec (Jvm.Cond.code x code maxLocals ret :: tables_1) room_1).applies x e0.platform about1 = true :=
  (Spec.applies_iff w_frames).mpr ⟨w_running, w_runnable, w_alone, w_named, w_hears, w_ripe, w_room, w_tables⟩
theorem atStart : AtStart classFile x code maxLocals ret World_1 tables_1 room_1 Calls_1 rest_1 Pre_1 launch0 p0 e0 about1 theMethod args0 below0 :=
  ⟨lists_1, trivial, launch0.admits_env _ _ _, launch0.least_env, fairChoices_fair.cas, fairChoices_fair.clock, w_frames, w_args, w_heap, w_applies, trivial, trivial, w_case⟩
end start1
theorem witness_1 : WitnessClaimed_1 := ⟨start1.p0, start1.e0, start1.about1, start1.theMethod, start1.args0, start1.below0, start1.atStart⟩
end Jvm.Pilot.@@N@@
