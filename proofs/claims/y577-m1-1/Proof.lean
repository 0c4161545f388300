import JvmDerived
import JvmDerived.Pilot.@@N@@Statement
import JvmDerived.Pilot.@@N@@Code
set_option linter.unusedVariables false
set_option linter.unusedSimpArgs false
namespace Jvm.Pilot.@@N@@
open Jvm Jvm.ClassFile Sem Op Lib Jvm.Free Jvm.Stand Jvm.LawKit Jvm.RoadKit Bundle Jvm.Pilot.@@N@@.Jvm.D
/-! own_Out: from the frame g over T the run comes to a return of which Q speaks. A walk is a proof of own_Out from its entry, backwards step by step; so it may fork. -/
section OwnKit
variable {p : Program} {l : Launch} {e : Env} {R : Room} {s : State} {m : MethodId} {args : Array Value} {below : List Frame} {meth : Method} {c : Code} {T : State} {locs : List Loc} {cells slots kc ks : Nat} {Z : State} {a0 : Array Value} {h h' h0 : Heap} {Q : Option Value → Heap → List Loc → Prop} {g : JFrame}
def own_Out (p : Program) (e : Env) (below : List Frame) (s : State) (Q : Option Value → Heap → List Loc → Prop) (kc ks : Nat) (T : State) (g : JFrame) : Prop :=
  ∃ U o, Steps p.tables e below (T.setTop g) U ∧ U.status = .running ∧ Ended U below o ∧ ∃ v L, o = .returned v ∧ Q v U.heap L ∧ FrameEnd s o U L kc ks
theorem own_st (T' : State) (g' : JFrame) (st : ∀ t, Steps p.tables e below (T'.setTop g') t → Steps p.tables e below (T.setTop g) t) (k : own_Out p e below s Q kc ks T' g') : own_Out p e below s Q kc ks T g := by
  obtain ⟨U, o, h1, h2⟩ := k; exact ⟨U, o, st _ h1, h2⟩
theorem own_tr (T' : State) (g' : JFrame) (st : Steps p.tables e below (T.setTop g) (T'.setTop g')) (k : own_Out p e below s Q kc ks T' g') : own_Out p e below s Q kc ks T g := by
  obtain ⟨U, o, h1, h2⟩ := k; exact ⟨U, o, st.trans h1, h2⟩
theorem own_ret (X : Stand p l e R s m args below meth c T locs cells slots) (hx : p.tables.exec = Jvm.exec) (hlk : meth.locks = false) {pc : Nat} {Ls : Array Slot} {w : Value} {t : FieldType} {i : Instr} {rest : List Value} (hret : meth.sig.returnType = some t) (hn : narrow t w = w)
    (hi : (i = .ireturn ∧ (t = .int ∨ t = .boolean ∨ t = .byte ∨ t = .char ∨ t = .short) ∧ ∃ z, w = .int z) ∨ (i = .lreturn ∧ t = .long ∧ ∃ z, w = .long z) ∨ (i = .dreturn ∧ t = .double ∧ ∃ z, w = .double z) ∨ (i = .freturn ∧ t = .float ∧ ∃ z, w = .float z) ∨ (i = .areturn ∧ t.isReference = true ∧ w.isRef = true))
    (hd : decode c.code pc = .ok (i, 1)) (hc : cells ≤ kc) (hs : slots ≤ ks) (hq : Q (some w) T.heap locs) : own_Out p e below s Q kc ks T (mkF m pc Ls (w :: rest)) := by
  obtain ⟨fs, hr, hrun, hended, hW, hsame⟩ := X.leave (v := some w) (fun h => by rw [hret] at h; cases h) hlk
  exact ⟨_, _, retOut X hx hret hn hi hd hr, hrun, hended, _, _, rfl, hq, ⟨_, rfl⟩, hW, hsame.mono hc hs⟩
theorem own_retI (X : Stand p l e R s m args below meth c T locs cells slots) (hx : p.tables.exec = Jvm.exec) (hlk : meth.locks = false) {pc : Nat} {Ls : Array Slot} {z : Int32} {rest : List Value} (hret : meth.sig.returnType = some .int)
    (hd : decode c.code pc = .ok (.ireturn, 1)) (hc : cells ≤ kc) (hs : slots ≤ ks) (hq : Q (some (.int z)) T.heap locs) : own_Out p e below s Q kc ks T (mkF m pc Ls (.int z :: rest)) :=
  own_ret X hx hlk hret rfl (Or.inl ⟨rfl, Or.inl rfl, z, rfl⟩) hd hc hs hq
theorem own_retJ (X : Stand p l e R s m args below meth c T locs cells slots) (hx : p.tables.exec = Jvm.exec) (hlk : meth.locks = false) {pc : Nat} {Ls : Array Slot} {z : Int64} {rest : List Value} (hret : meth.sig.returnType = some .long)
    (hd : decode c.code pc = .ok (.lreturn, 1)) (hc : cells ≤ kc) (hs : slots ≤ ks) (hq : Q (some (.long z)) T.heap locs) : own_Out p e below s Q kc ks T (mkF m pc Ls (.long z :: rest)) :=
  own_ret X hx hlk hret rfl (Or.inr (Or.inl ⟨rfl, rfl, z, rfl⟩)) hd hc hs hq
theorem own_nref {t : FieldType} {w : Value} (ht : t.isReference = true) (hw : w.isRef = true) : narrow t w = w := by
  cases t <;> first | (cases ht; done) | (cases w <;> first | rfl | (cases hw; done))
theorem own_retA (X : Stand p l e R s m args below meth c T locs cells slots) (hx : p.tables.exec = Jvm.exec) (hlk : meth.locks = false) {pc : Nat} {Ls : Array Slot} {w : Value} {t : FieldType} {rest : List Value} (hret : meth.sig.returnType = some t) (ht : t.isReference = true) (hw : w.isRef = true)
    (hd : decode c.code pc = .ok (.areturn, 1)) (hc : cells ≤ kc) (hs : slots ≤ ks) (hq : Q (some w) T.heap locs) : own_Out p e below s Q kc ks T (mkF m pc Ls (w :: rest)) :=
  own_ret X hx hlk hret (own_nref ht hw) (Or.inr (Or.inr (Or.inr (Or.inr ⟨rfl, ht, hw⟩)))) hd hc hs hq
theorem own_retN (X : Stand p l e R s m args below meth c T locs cells slots) (hx : p.tables.exec = Jvm.exec) (hlk : meth.locks = false) {pc : Nat} {Ls : Array Slot} {z : Int32} {t : FieldType} {rest : List Value} (hret : meth.sig.returnType = some t) (ht : t = .boolean ∨ t = .byte ∨ t = .char ∨ t = .short)
    (hd : decode c.code pc = .ok (.ireturn, 1)) (hc : cells ≤ kc) (hs : slots ≤ ks) (hq : Q (some (.int (nar t z))) T.heap locs) : own_Out p e below s Q kc ks T (mkF m pc Ls (.int z :: rest)) := by
  obtain ⟨fs, hr, hrun, hended, hW, hsame⟩ := X.leave (v := some (.int (nar t z))) (fun h => by rw [hret] at h; cases h) hlk
  exact ⟨_, _, retN X hx hret ht hd hr, hrun, hended, _, _, rfl, hq, ⟨_, rfl⟩, hW, hsame.mono hc hs⟩
theorem own_ret0 (X : Stand p l e R s m args below meth c T locs cells slots) (hx : p.tables.exec = Jvm.exec) (hlk : meth.locks = false) {pc : Nat} {Ls : Array Slot} (hret : meth.sig.returnType = none)
    (hd : decode c.code pc = .ok (.return_, 1)) (hc : cells ≤ kc) (hs : slots ≤ ks) (hq : Q none T.heap locs) : own_Out p e below s Q kc ks T (mkF m pc Ls []) := by
  obtain ⟨fs, hr, hrun, hended, hW, hsame⟩ := X.leave (v := none) (fun _ => rfl) hlk
  exact ⟨_, _, X.returnOut hx hret hd hr, hrun, hended, _, _, rfl, hq, ⟨_, rfl⟩, hW, hsame.mono hc hs⟩
/-- a method's contract at the arguments as' over the heap h0 -/
def own_Met (l : Launch) (Z : State) (y : MethodName) (bytes : ByteArray) (maxL : Nat) (ret : Option FieldType) (rm : Room) (as' : Array Value) (h0 : Heap) (Q : Option Value → Heap → List Loc → Prop) : Prop :=
  ∀ ws : List Jvm.Cond, MetFree l y (head1 (Jvm.Cond.code y bytes maxL ret :: ws) rm) (fun a U => a = as' ∧ Z.Warmed39 U.vm ∧ U.heap = h0) (fun _ _ _ _ _ => True) (fun _ U o U' => ∃ v L, o = .returned v ∧ Q v U'.heap L ∧ FrameEnd U o U' L rm.cells rm.slots)
theorem own_body {y : MethodName} {bytes : ByteArray} {maxL : Nat} {ret : Option FieldType} {rm : Room} {as' : Array Value} (Ls : Array Slot) (hp : plainFor y = true) (hef : ∀ m, entryFrame m as' maxL = mkF m 0 Ls [])
    (hbody : ∀ (p : Program) (e : Env) (s : State) (m : MethodId) (below : List Frame) (meth : Method) (c : Code) (s₁ : State), Stand p l e rm s m as' below meth c s₁ [] 0 0 → p.tables.exec = Jvm.exec → c.code = bytes → c.maxLocals = maxL → meth.sig.returnType = ret → meth.locks = false → Z.Warmed39 s.vm → s.vm.findClass y.cls = some m.cls → meth.name = y.name → s₁.heap = h0 →
      own_Out p e below s Q rm.cells rm.slots s₁ (mkF m 0 Ls [])) : own_Met l Z y bytes maxL ret rm as' h0 Q := by
  intro ws
  refine MetFree.of_bodySF hp hisR ?_
  intro p e s m args below meth c s₁ Bd hml0 hP hK
  obtain ⟨rfl, hZ, hh⟩ := hP
  have X0 : Stand p l e rm s m args below meth c s₁ [] 0 0 := Stand.of_body Bd
  have e0 : s₁.heap = h0 := by rw [← hh, Bd.state]; rfl
  obtain ⟨U, o, h1, h2⟩ := hbody p e s m below meth c s₁ X0 Bd.exec Bd.bytes hml0 Bd.returns Bd.notSynchronized hZ (findClass_of_methodNamed Bd.named) (name_of_methodNamed Bd.named Bd.method).1 e0
  exact ⟨U, o, castTop (hef m) h1, h2⟩
theorem own_callS (X : Stand p l e R s m args below meth c T locs cells slots) (hx : p.tables.exec = Jvm.exec) (hZ : Z.Warmed39 s.vm) {own : String} {index : Nat} {y : MethodName} {bytes : ByteArray} {maxL : Nat} {ret : Option FieldType} (hown : s.vm.findClass own = some m.cls)
    (w1 : (Cond.methodLink own index y).before a0 Z = true) (w2 : (Cond.static y).before a0 Z = true) (w3 : (Cond.initialized y.cls).before a0 Z = true) (w4 : (Cond.code y bytes maxL ret).before a0 Z = true) (hy : y.cls ≠ "java/lang/invoke/MethodHandle" ∧ y.cls ≠ "java/lang/invoke/VarHandle")
    {rm : Room} (argsL rest : List Value) {Qc : Option Value → Heap → List Loc → Prop} (M : own_Met l Z y bytes maxL ret rm argsL.toArray h Qc) (W : Nat) (hf : rm.frames + 1 ≤ R.frames) (hl : W + (maxL + 11) + rm.locals ≤ R.locals) (eT : T.heap = h)
    {pc : Nat} {Ls : Array Slot} {st : List Value} (hsize : Ls.size = c.maxLocals) (hlen : ∀ sig, parseMethodDescriptor y.desc = some sig → argsL.length = sig.parameters.length) (hstack : st = argsL.reverse ++ rest) (hW : (rest.map fun v => v.category).sum ≤ W)
    (hd : decode c.code pc = .ok (.invokestatic index, 3)) (hc : cells + rm.cells ≤ R.cells) (hs : slots + rm.slots ≤ R.slots)
    (k : ∀ v T' L, Stand p l e R s m args below meth c T' (locs ++ L) (cells + rm.cells) (slots + rm.slots) → Qc v T'.heap L → own_Out p e below s Q kc ks T' (mkF m (pc + 3) Ls (v.toList ++ rest))) : own_Out p e below s Q kc ks T (mkF m pc Ls st) := by
  obtain ⟨v, vm1, ⟨T', L', c', n'⟩, -, X', ⟨L, hQ, r1, r2, r3⟩, stp⟩ := Jvm.LawKit.callS X hx (y := y) (bytes := bytes) (maxL := maxL) (ret := ret) hown (mvT hZ w1) (mvT hZ w2) (mvT hZ w3) (mvT hZ w4) hy (backOf (W := W) (M []) hZ w4 w3 hf hl) (g := mkF m pc Ls st) rfl hsize (argsL := argsL) (rest := rest) hlen hstack (by show 2 * 0 + _ ≤ _; omega) hd (fun _ _ => ⟨rfl, eT, hc, hs⟩)
  dsimp only [Pt.U, Pt.locs, Pt.cells, Pt.slots] at X' r1 r2 r3 stp hQ
  subst r1 r2 r3
  exact own_st _ _ stp (k v T' L X' hQ)
theorem own_callC (X : Stand p l e R s m args below meth c T locs cells slots) (hx : p.tables.exec = Jvm.exec) (hZ : Z.Warmed39 s.vm) {own : String} {index : Nat} {y : MethodName} {bytes : ByteArray} {maxL : Nat} (hy1 : y.name = "<init>") (hown : s.vm.findClass own = some m.cls)
    (w1 : (Cond.methodLink own index y).before a0 Z = true) (w2 : (Cond.instanceMethod y).before a0 Z = true) (w3 : (Cond.initialized y.cls).before a0 Z = true) (w4 : (Cond.code y bytes maxL none).before a0 Z = true) (hy : y.cls ≠ "java/lang/invoke/MethodHandle" ∧ y.cls ≠ "java/lang/invoke/VarHandle")
    {rm : Room} (a : Addr) (argsL rest : List Value) {Qc : Option Value → Heap → List Loc → Prop} (M : own_Met l Z y bytes maxL none rm (.ref a :: argsL).toArray h Qc) (W : Nat) (hf : rm.frames + 1 ≤ R.frames) (hl : W + (maxL + 11) + rm.locals ≤ R.locals) (eT : T.heap = h)
    {pc : Nat} {Ls : Array Slot} {st : List Value} (hsize : Ls.size = c.maxLocals) (hlen : ∀ sig, parseMethodDescriptor y.desc = some sig → argsL.length = sig.parameters.length) (hstack : st = argsL.reverse ++ .ref a :: rest) (hW : (rest.map fun v => v.category).sum ≤ W)
    (hd : decode c.code pc = .ok (.invokespecial index, 3)) (hc : cells + rm.cells ≤ R.cells) (hs : slots + rm.slots ≤ R.slots)
    (k : ∀ v T' L, Stand p l e R s m args below meth c T' (locs ++ L) (cells + rm.cells) (slots + rm.slots) → Qc v T'.heap L → own_Out p e below s Q kc ks T' (mkF m (pc + 3) Ls (v.toList ++ rest))) : own_Out p e below s Q kc ks T (mkF m pc Ls st) := by
  obtain ⟨v, vm1, ⟨T', L', c', n'⟩, -, X', ⟨L, hQ, r1, r2, r3⟩, stp⟩ := X.specialBack hx (y := y) (bytes := bytes) (maxL := maxL) hy1 hown (mvT hZ w1) (mvT hZ w2) (mvT hZ w4) hy (backOf (W := W) (M []) hZ w4 w3 hf hl) (g := mkF m pc Ls st) rfl hsize (Steps.refl _) (a := a) (argsL := argsL) (rest := rest) hlen hstack (by show 2 * 0 + _ ≤ _; omega) hd (fun _ _ => ⟨rfl, eT, hc, hs⟩)
  dsimp only [Pt.U, Pt.locs, Pt.cells, Pt.slots] at X' r1 r2 r3 stp hQ
  subst r1 r2 r3
  exact own_tr _ _ stp (k v T' L X' hQ)
theorem own_callV (X : Stand p l e R s m args below meth c T locs cells slots) (hx : p.tables.exec = Jvm.exec) (hZ : Z.Warmed39 s.vm) {own C : String} {index : Nat} {y z : MethodName} {bytes : ByteArray} {maxL : Nat} {ret : Option FieldType} (hown : s.vm.findClass own = some m.cls)
    (w1 : (Cond.methodLink own index y).before a0 Z = true) (w2 : (Cond.declares y).before a0 Z = true) (hnf : NotFace s y) (w5 : (Cond.selects C y z).before a0 Z = true) (w6 : (Cond.instanceMethod z).before a0 Z = true) (w3 : (Cond.initialized z.cls).before a0 Z = true) (w4 : (Cond.code z bytes maxL ret).before a0 Z = true) (hy : y.cls ≠ "java/lang/invoke/MethodHandle" ∧ y.cls ≠ "java/lang/invoke/VarHandle")
    {rm : Room} (a : Addr) (argsL rest : List Value) {Qc : Option Value → Heap → List Loc → Prop} (E : Exa Z h a C) (M : own_Met l Z z bytes maxL ret rm (.ref a :: argsL).toArray h Qc) (W : Nat) (hf : rm.frames + 1 ≤ R.frames) (hl : W + (maxL + 11) + rm.locals ≤ R.locals) (eT : T.heap = h)
    {pc : Nat} {Ls : Array Slot} {st : List Value} (hsize : Ls.size = c.maxLocals) (hlen : ∀ sig, parseMethodDescriptor y.desc = some sig → argsL.length = sig.parameters.length) (hstack : st = argsL.reverse ++ .ref a :: rest) (hW : (rest.map fun v => v.category).sum ≤ W)
    (hd : decode c.code pc = .ok (.invokevirtual index, 3)) (hc : cells + rm.cells ≤ R.cells) (hs : slots + rm.slots ≤ R.slots)
    (k : ∀ v T' L, Stand p l e R s m args below meth c T' (locs ++ L) (cells + rm.cells) (slots + rm.slots) → Qc v T'.heap L → own_Out p e below s Q kc ks T' (mkF m (pc + 3) Ls (v.toList ++ rest))) : own_Out p e below s Q kc ks T (mkF m pc Ls st) := by
  obtain ⟨cq, kq, qa, qb, qc⟩ := isOf hZ eT E
  obtain ⟨v, vm1, ⟨T', L', c', n'⟩, -, X', ⟨L, hQ, r1, r2, r3⟩, stp⟩ := X.virtualBack hx (y := y) (z := z) hown (mvT hZ w1) (mvT hZ w2) hnf (mvT hZ w5) (mvT hZ w6) hy (backOf (W := W) (M []) hZ w4 w3 hf hl) qa qc (g := mkF m pc Ls st) rfl hsize (Steps.refl _) (argsL := argsL) (rest := rest) hlen hstack (by show 2 * 0 + _ ≤ _; omega) hd (fun _ _ => ⟨rfl, eT, hc, hs⟩)
  dsimp only [Pt.U, Pt.locs, Pt.cells, Pt.slots] at X' r1 r2 r3 stp hQ
  subst r1 r2 r3
  exact own_tr _ _ stp (k v T' L X' hQ)
theorem own_callI (X : Stand p l e R s m args below meth c T locs cells slots) (hx : p.tables.exec = Jvm.exec) (hZ : Z.Warmed39 s.vm) {own C : String} {index count : Nat} {xi y : MethodName} {bytes : ByteArray} {maxL : Nat} {ret : Option FieldType} (hown : s.vm.findClass own = some m.cls)
    (w1 : (Cond.methodLink own index xi).before args s = true) (w2 : (Cond.declares xi).before args s = true) (w7 : (Cond.interfaceMethod xi.cls xi.cls xi.name xi.desc).before args s = true) (w5 : (Cond.selects C xi y).before args s = true) (w6 : (Cond.instanceMethod y).before args s = true) (w8 : (Cond.publicMethod y).before args s = true) (w9 : (Cond.unhidden C xi.name xi.desc).before args s = true) (w10 : (Cond.castable C xi.cls).before args s = true) (w3 : (Cond.initialized y.cls).before a0 Z = true) (w4 : (Cond.code y bytes maxL ret).before a0 Z = true) (hy : xi.cls ≠ "java/lang/invoke/MethodHandle" ∧ xi.cls ≠ "java/lang/invoke/VarHandle")
    {rm : Room} (a : Addr) (argsL rest : List Value) {Qc : Option Value → Heap → List Loc → Prop} (E : Exa Z h a C) (M : own_Met l Z y bytes maxL ret rm (.ref a :: argsL).toArray h Qc) (W : Nat) (hf : rm.frames + 1 ≤ R.frames) (hl : W + (maxL + 11) + rm.locals ≤ R.locals) (eT : T.heap = h)
    {pc : Nat} {Ls : Array Slot} {st : List Value} (hsize : Ls.size = c.maxLocals) (hlen : ∀ sig, parseMethodDescriptor xi.desc = some sig → argsL.length = sig.parameters.length) (hstack : st = argsL.reverse ++ .ref a :: rest) (hW : (rest.map fun v => v.category).sum ≤ W)
    (hd : decode c.code pc = .ok (.invokeinterface index count, 5)) (hc : cells + rm.cells ≤ R.cells) (hs : slots + rm.slots ≤ R.slots)
    (k : ∀ v T' L, Stand p l e R s m args below meth c T' (locs ++ L) (cells + rm.cells) (slots + rm.slots) → Qc v T'.heap L → own_Out p e below s Q kc ks T' (mkF m (pc + 5) Ls (v.toList ++ rest))) : own_Out p e below s Q kc ks T (mkF m pc Ls st) := by
  obtain ⟨cq, kq, qa, qb, qc⟩ := isOf hZ eT E
  obtain ⟨v, vm1, ⟨T', L', c', n'⟩, -, X', ⟨L, hQ, r1, r2, r3⟩, stp⟩ := X.interfaceBack hx (xi := xi) (y := y) hown w1 w2 w7 w5 w6 w8 w9 w10 hy (backOf (W := W) (M []) hZ w4 w3 hf hl) qa qb qc (g := mkF m pc Ls st) rfl hsize (Steps.refl _) (argsL := argsL) (rest := rest) hlen hstack (by show 2 * 0 + _ ≤ _; omega) hd (fun _ _ => ⟨rfl, eT, hc, hs⟩)
  dsimp only [Pt.U, Pt.locs, Pt.cells, Pt.slots] at X' r1 r2 r3 stp hQ
  subst r1 r2 r3
  exact own_tr _ _ stp (k v T' L X' hQ)
theorem own_callP (X : Stand p l e R s m args below meth c T locs cells slots) (hx : p.tables.exec = Jvm.exec) (hZ : Z.Warmed39 s.vm) {own : String} {index : Nat} {y : MethodName} {bytes : ByteArray} {maxL : Nat} {ret : Option FieldType} (hown : s.vm.findClass own = some m.cls)
    (w1 : (Cond.methodLink own index y).before a0 Z = true) (w2 : (Cond.instanceMethod y).before a0 Z = true) (w5 : (Cond.selects y.cls y y).before a0 Z = true) (w6 : (Cond.privateMethod y).before a0 Z = true) (w3 : (Cond.initialized y.cls).before a0 Z = true) (w4 : (Cond.code y bytes maxL ret).before a0 Z = true) (hy : y.cls ≠ "java/lang/invoke/MethodHandle" ∧ y.cls ≠ "java/lang/invoke/VarHandle")
    {rm : Room} (a : Addr) (argsL rest : List Value) {C : String} {Qc : Option Value → Heap → List Loc → Prop} (E : Exa Z h a C) (M : own_Met l Z y bytes maxL ret rm (.ref a :: argsL).toArray h Qc) (W : Nat) (hf : rm.frames + 1 ≤ R.frames) (hl : W + (maxL + 11) + rm.locals ≤ R.locals) (eT : T.heap = h)
    {pc : Nat} {Ls : Array Slot} {st : List Value} (hsize : Ls.size = c.maxLocals) (hlen : ∀ sig, parseMethodDescriptor y.desc = some sig → argsL.length = sig.parameters.length) (hstack : st = argsL.reverse ++ .ref a :: rest) (hW : (rest.map fun v => v.category).sum ≤ W)
    (hd : decode c.code pc = .ok (.invokevirtual index, 3)) (hc : cells + rm.cells ≤ R.cells) (hs : slots + rm.slots ≤ R.slots)
    (k : ∀ v T' L, Stand p l e R s m args below meth c T' (locs ++ L) (cells + rm.cells) (slots + rm.slots) → Qc v T'.heap L → own_Out p e below s Q kc ks T' (mkF m (pc + 3) Ls (v.toList ++ rest))) : own_Out p e below s Q kc ks T (mkF m pc Ls st) := by
  obtain ⟨cq, qa, qb⟩ := E.cell
  obtain ⟨v, vm1, ⟨T', L', c', n'⟩, -, X', ⟨L, hQ, r1, r2, r3⟩, stp⟩ := X.privateBack hx (y := y) (bytes := bytes) (maxL := maxL) (ret := ret) hown (mvT hZ w1) (mvT hZ w2) (mvT hZ w5) (Cond.privateMethod_at (mvP hZ w6 (args := #[]))) (mvT hZ w4) hy (backOf (W := W) (M []) hZ w4 w3 hf hl) (g := mkF m pc Ls st) rfl hsize (Steps.refl _) (a := a) (by rw [eT]; exact qa) qb (argsL := argsL) (rest := rest) hlen hstack (by show 2 * 0 + _ ≤ _; omega) hd (fun _ _ => ⟨rfl, eT, hc, hs⟩)
  dsimp only [Pt.U, Pt.locs, Pt.cells, Pt.slots] at X' r1 r2 r3 stp hQ
  subst r1 r2 r3
  exact own_tr _ _ stp (k v T' L X' hQ)
/-- an array by its values: n places, place i holds f i -/
def own_A (Z : State) (h : Heap) (a : Addr) (k : ClassId) (ty : FieldType) (n : Nat) (f : Nat → Value) : Prop := ∃ cl : Cell, Arr Z h a cl ty ∧ cl.cls = k ∧ cl.slots.size = n ∧ n < 2 ^ 31 ∧ ∀ i, i < n → cl.slots[i]? = some (f i)
variable {a b : Addr} {k : ClassId} {ty : FieldType} {n : Nat} {f f' : Nat → Value} {sl : Nat} {v : Value} {ws : List Addr}
theorem own_A.lt (F : own_A Z h a k ty n f) : a < h.size := by obtain ⟨c, A, -⟩ := F; exact A.lt
theorem own_A.ext (F : own_A Z h a k ty n f) (E : Ext h h') : own_A Z h' a k ty n f := by obtain ⟨c, A, r⟩ := F; exact ⟨c, A.ext E, r⟩
theorem own_A.other (F : own_A Z h b k ty n f) (W : Wr h h' a sl v) (q : b ≠ a) : own_A Z h' b k ty n f := by obtain ⟨c, A, r⟩ := F; exact ⟨c, A.other W q, r⟩
theorem own_A.keep (F : own_A Z h a k ty n f) (K : Keep h h' ws) (q : a ∉ ws) : own_A Z h' a k ty n f := by obtain ⟨c, A, r⟩ := F; exact ⟨c, ⟨K.2.1 a c A.1 q, A.2⟩, r⟩
theorem own_A.cong (F : own_A Z h a k ty n f) (q : ∀ i, i < n → f i = f' i) : own_A Z h a k ty n f' := by obtain ⟨c, A, r1, r2, r3, r4⟩ := F; exact ⟨c, A, r1, r2, r3, fun i hi => by rw [r4 i hi, q i hi]⟩
theorem own_A.new {z : Int32} (A : Arr Z h a (newA k ty z) ty) (q : ¬ z < 0) : own_A Z h a k ty z.toNatClampNeg (fun _ => defaultValue ty) := ⟨_, A, rfl, sz_new _ _ _, (back32 q).2, fun i hi => by simp [newA, hi]⟩
theorem own_A.newL {z : Int32} (A : Arr Z h a (newA k ty z) ty) (q : ¬ z < 0) (n : Nat) (hn : z.toNatClampNeg = n) (d : Value) (hd : defaultValue ty = d) : own_A Z h a k ty n (fun i => (List.replicate n d).getD i d) := by
  subst hn hd
  refine (own_A.new A q).cong fun i hi => ?_
  simp [List.getD_eq_getElem?_getD, List.getElem?_replicate, hi]
theorem own_jn {j : Int32} {i : Nat} (q : j.toInt = (i : Int)) : j.toNatClampNeg = i := by simp only [Int32.toNatClampNeg]; omega
theorem own_in {j : Int32} {i n : Nat} {cl : Cell} (q : j.toInt = (i : Int)) (hi : i < n) (S : cl.slots.size = n) : ¬ (j < 0 ∨ cl.slots.size ≤ j.toNatClampNeg) := by
  rw [own_jn q, Int32.lt_iff_toInt_lt, q, S]; have : (0 : Int32).toInt = 0 := rfl; omega
theorem own_A.set (F : own_A Z h a k ty n f) {i : Nat} (hi : i < n) (W : Wr h h' a i v) : own_A Z h' a k ty n (fun x => if x = i then v else f x) := by
  obtain ⟨cl, A, r1, r2, r3, r4⟩ := F
  refine ⟨_, A.same W, r1, by rw [sz_set]; exact r2, r3, fun x hx => ?_⟩
  by_cases q : x = i
  · subst q; simp [Cell.setSlot, r2, hi]
  · show (cl.slots.setIfInBounds i v)[x]? = _
    rw [Array.getElem?_setIfInBounds_ne (Ne.symm q)]; simp only [q, if_false]; exact r4 x hx
theorem own_A.setL {L : List Value} {d : Value} (F : own_A Z h a k ty n (fun x => L.getD x d)) {i : Nat} (hi : i < n) (hL : i < L.length) (W : Wr h h' a i v) : own_A Z h' a k ty n (fun x => (L.set i v).getD x d) := by
  refine (F.set hi W).cong fun x hx => ?_
  by_cases q : x = i
  · subst q; simp [List.getD_eq_getElem?_getD, List.getElem?_set, hL]
  · simp [List.getD_eq_getElem?_getD, List.getElem?_set, q, Ne.symm q]
theorem own_A.setI {b : Nat → Int32} {x : Int32} (F : own_A Z h a k ty n (fun y => .int (b y))) {i : Nat} (hi : i < n) (W : Wr h h' a i (.int x)) : own_A Z h' a k ty n (fun y => .int (if y = i then x else b y)) := by
  refine (F.set hi W).cong fun y hy => ?_
  by_cases q : y = i <;> simp [q]
theorem own_A.setLI {L : List Int32} {x : Int32} (F : own_A Z h a k ty n (fun y => .int (L.getD y 0))) {i : Nat} (hi : i < n) (hL : i < L.length) (W : Wr h h' a i (.int x)) : own_A Z h' a k ty n (fun y => .int ((L.set i x).getD y 0)) := by
  refine (F.setI hi W).cong fun y hy => ?_
  by_cases q : y = i
  · subst q; simp [List.getD_eq_getElem?_getD, List.getElem?_set, hL]
  · simp [List.getD_eq_getElem?_getD, List.getElem?_set, q, Ne.symm q]
theorem own_A.snocI {L : List Int32} {x : Int32} (F : own_A Z h a k ty n (fun y => .int (L.getD y 0))) {i : Nat} (hi : i < n) (hL : L.length = i) (W : Wr h h' a i (.int x)) : own_A Z h' a k ty n (fun y => .int ((L ++ [x]).getD y 0)) := by
  refine (F.setI hi W).cong fun y hy => ?_
  by_cases q : y = i
  · subst q; subst hL; simp [List.getD_eq_getElem?_getD]
  · by_cases r : y < L.length
    · simp [List.getD_eq_getElem?_getD, q, List.getElem?_append_left r]
    · have h1 : L[y]? = none := List.getElem?_eq_none (by omega)
      have h2 : (L ++ [x])[y]? = none := List.getElem?_eq_none (by simp; omega)
      simp [List.getD_eq_getElem?_getD, q, h1, h2]
theorem own_A.newI {z : Int32} (A : Arr Z h a (newA k ty z) ty) (q : ¬ z < 0) (n : Nat) (hn : z.toNatClampNeg = n) (hd : defaultValue ty = .int 0) : own_A Z h a k ty n (fun _ => .int 0) := by
  subst hn; rw [← hd]; exact own_A.new A q
theorem own_A.newLI {z : Int32} (A : Arr Z h a (newA k ty z) ty) (q : ¬ z < 0) (n : Nat) (hn : z.toNatClampNeg = n) (hd : defaultValue ty = .int 0) : own_A Z h a k ty n (fun y => .int ((List.replicate n (0 : Int32)).getD y 0)) := by
  refine (own_A.newI A q n hn hd).cong fun i hi => ?_
  simp [List.getD_eq_getElem?_getD, List.getElem?_replicate, hi]
theorem own_stI (X : Stand p l e R s m args below meth c T locs cells slots) (hx : p.tables.exec = Jvm.exec) (hZ : Z.Warmed39 s.vm) (eT : T.heap = h) (F : own_A Z h a k .int n f) {j x : Int32} (i : Nat) (q : j.toInt = (i : Int)) (hi : i < n) {pc : Nat} {Ls : Array Slot} {rest : List Value} (hd : decode c.code pc = .ok (.iastore, 1)) :
    ∃ T' h', Stand p l e R s m args below meth c T' (locs ++ [⟨a, i⟩]) cells slots ∧ T'.heap = h' ∧ Wr h h' a i (.int x) ∧ ∀ t, Steps p.tables e below (T'.setTop (mkF m (pc + 1) Ls rest)) t → Steps p.tables e below (T.setTop (mkF m pc Ls (.int x :: .int j :: .ref a :: rest))) t := by
  obtain ⟨cl, A, r1, r2, r3, r4⟩ := F
  have := stI X hx hZ eT A (j := j) (x := x) (own_in q hi r2) (g := mkF m pc Ls (.int x :: .int j :: .ref a :: rest)) rfl rfl hd
  rw [own_jn q] at this; exact this
theorem own_stB (X : Stand p l e R s m args below meth c T locs cells slots) (hx : p.tables.exec = Jvm.exec) (hZ : Z.Warmed39 s.vm) (eT : T.heap = h) (F : own_A Z h a k .byte n f) {j x : Int32} (x' : Int32) (hx' : nar .byte x = x') (i : Nat) (q : j.toInt = (i : Int)) (hi : i < n) {pc : Nat} {Ls : Array Slot} {rest : List Value} (hd : decode c.code pc = .ok (.bastore, 1)) :
    ∃ T' h', Stand p l e R s m args below meth c T' (locs ++ [⟨a, i⟩]) cells slots ∧ T'.heap = h' ∧ Wr h h' a i (.int x') ∧ ∀ t, Steps p.tables e below (T'.setTop (mkF m (pc + 1) Ls rest)) t → Steps p.tables e below (T.setTop (mkF m pc Ls (.int x :: .int j :: .ref a :: rest))) t := by
  obtain ⟨cl, A, r1, r2, r3, r4⟩ := F
  have := stB X hx hZ eT A (j := j) (x := x) (own_in q hi r2) (g := mkF m pc Ls (.int x :: .int j :: .ref a :: rest)) rfl rfl hd
  rw [own_jn q] at this; subst hx'; exact this
theorem own_stC (X : Stand p l e R s m args below meth c T locs cells slots) (hx : p.tables.exec = Jvm.exec) (hZ : Z.Warmed39 s.vm) (eT : T.heap = h) (F : own_A Z h a k .char n f) {j x : Int32} (x' : Int32) (hx' : nar .char x = x') (i : Nat) (q : j.toInt = (i : Int)) (hi : i < n) {pc : Nat} {Ls : Array Slot} {rest : List Value} (hd : decode c.code pc = .ok (.castore, 1)) :
    ∃ T' h', Stand p l e R s m args below meth c T' (locs ++ [⟨a, i⟩]) cells slots ∧ T'.heap = h' ∧ Wr h h' a i (.int x') ∧ ∀ t, Steps p.tables e below (T'.setTop (mkF m (pc + 1) Ls rest)) t → Steps p.tables e below (T.setTop (mkF m pc Ls (.int x :: .int j :: .ref a :: rest))) t := by
  obtain ⟨cl, A, r1, r2, r3, r4⟩ := F
  have := stC X hx hZ eT A (j := j) (x := x) (own_in q hi r2) (g := mkF m pc Ls (.int x :: .int j :: .ref a :: rest)) rfl rfl hd
  rw [own_jn q] at this; subst hx'; exact this
theorem own_stR (X : Stand p l e R s m args below meth c T locs cells slots) (hx : p.tables.exec = Jvm.exec) (hZ : Z.Warmed39 s.vm) (eT : T.heap = h) {C : String} (F : own_A Z h a k (.object C) n f) {j : Int32} {v : Value} (O : Ovr Z k C) (I : v = .null ∨ ∃ y, v = .ref y ∧ Ins Z h y C true) (i : Nat) (q : j.toInt = (i : Int)) (hi : i < n) {pc : Nat} {Ls : Array Slot} {rest : List Value} (hd : decode c.code pc = .ok (.aastore, 1)) :
    ∃ T' h', Stand p l e R s m args below meth c T' (locs ++ [⟨a, i⟩]) cells slots ∧ T'.heap = h' ∧ Wr h h' a i v ∧ ∀ t, Steps p.tables e below (T'.setTop (mkF m (pc + 1) Ls rest)) t → Steps p.tables e below (T.setTop (mkF m pc Ls (v :: .int j :: .ref a :: rest))) t := by
  obtain ⟨cl, A, r1, r2, r3, r4⟩ := F
  have S : Sto Z h a v := by
    rcases I with rfl | ⟨y, rfl, I⟩
    · exact Or.inl rfl
    · exact Sto.ofV A r1 O I
  have := stR X hx hZ eT A (j := j) (own_in q hi r2) rfl S (g := mkF m pc Ls (v :: .int j :: .ref a :: rest)) rfl rfl hd
  rw [own_jn q] at this; exact this
theorem own_stRA (X : Stand p l e R s m args below meth c T locs cells slots) (hx : p.tables.exec = Jvm.exec) (hZ : Z.Warmed39 s.vm) (eT : T.heap = h) {C : String} {t0 : FieldType} (F : own_A Z h a k (.array t0) n f) {j : Int32} {v : Value} (O : OvrA Z k t0 C) (I : v = .null ∨ ∃ y, v = .ref y ∧ Ins Z h y C true) (i : Nat) (q : j.toInt = (i : Int)) (hi : i < n) {pc : Nat} {Ls : Array Slot} {rest : List Value} (hd : decode c.code pc = .ok (.aastore, 1)) :
    ∃ T' h', Stand p l e R s m args below meth c T' (locs ++ [⟨a, i⟩]) cells slots ∧ T'.heap = h' ∧ Wr h h' a i v ∧ ∀ t, Steps p.tables e below (T'.setTop (mkF m (pc + 1) Ls rest)) t → Steps p.tables e below (T.setTop (mkF m pc Ls (v :: .int j :: .ref a :: rest))) t := by
  obtain ⟨cl, A, r1, r2, r3, r4⟩ := F
  have S : Sto Z h a v := by
    rcases I with rfl | ⟨y, rfl, I⟩
    · exact Or.inl rfl
    · exact Sto.ofVA A r1 O I
  have := stR X hx hZ eT A (j := j) (own_in q hi r2) rfl S (g := mkF m pc Ls (v :: .int j :: .ref a :: rest)) rfl rfl hd
  rw [own_jn q] at this; exact this
theorem own_ldI (X : Stand p l e R s m args below meth c T locs cells slots) (hx : p.tables.exec = Jvm.exec) (hZ : Z.Warmed39 s.vm) (eT : T.heap = h) (F : own_A Z h a k .int n f) {j : Int32} (i : Nat) (q : j.toInt = (i : Int)) (hi : i < n) {pc : Nat} {Ls : Array Slot} {rest : List Value} (hd : decode c.code pc = .ok (.iaload, 1)) :
    ∀ t, Steps p.tables e below (T.setTop (mkF m (pc + 1) Ls (f i :: rest))) t → Steps p.tables e below (T.setTop (mkF m pc Ls (.int j :: .ref a :: rest))) t := fun t kt => by
  obtain ⟨cl, A, r1, r2, r3, r4⟩ := F
  exact X.iaload hx (j := j) (v := f i) (by rw [eT]; exact A.1) (State.isArrayOf_alike hZ.alike A.2.1) A.2.2 (own_in q hi r2) (by rw [own_jn q]; exact r4 i hi) (g := mkF m pc Ls (.int j :: .ref a :: rest)) rfl rfl hd _ kt
theorem own_ldB (X : Stand p l e R s m args below meth c T locs cells slots) (hx : p.tables.exec = Jvm.exec) (hZ : Z.Warmed39 s.vm) (eT : T.heap = h) (F : own_A Z h a k .byte n f) {j : Int32} (i : Nat) (q : j.toInt = (i : Int)) (hi : i < n) {pc : Nat} {Ls : Array Slot} {rest : List Value} (hd : decode c.code pc = .ok (.baload, 1)) :
    ∀ t, Steps p.tables e below (T.setTop (mkF m (pc + 1) Ls (f i :: rest))) t → Steps p.tables e below (T.setTop (mkF m pc Ls (.int j :: .ref a :: rest))) t := fun t kt => by
  obtain ⟨cl, A, r1, r2, r3, r4⟩ := F
  exact X.baloadBytes hx (j := j) (v := f i) (by rw [eT]; exact A.1) (State.isArrayOf_alike hZ.alike A.2.1) A.2.2 (own_in q hi r2) (by rw [own_jn q]; exact r4 i hi) (g := mkF m pc Ls (.int j :: .ref a :: rest)) rfl rfl hd _ kt
theorem own_ldC (X : Stand p l e R s m args below meth c T locs cells slots) (hx : p.tables.exec = Jvm.exec) (hZ : Z.Warmed39 s.vm) (eT : T.heap = h) (F : own_A Z h a k .char n f) {j : Int32} (i : Nat) (q : j.toInt = (i : Int)) (hi : i < n) {pc : Nat} {Ls : Array Slot} {rest : List Value} (hd : decode c.code pc = .ok (.caload, 1)) :
    ∀ t, Steps p.tables e below (T.setTop (mkF m (pc + 1) Ls (f i :: rest))) t → Steps p.tables e below (T.setTop (mkF m pc Ls (.int j :: .ref a :: rest))) t := fun t kt => by
  obtain ⟨cl, A, r1, r2, r3, r4⟩ := F
  exact X.caload hx (j := j) (v := f i) (by rw [eT]; exact A.1) (State.isArrayOf_alike hZ.alike A.2.1) A.2.2 (own_in q hi r2) (by rw [own_jn q]; exact r4 i hi) (g := mkF m pc Ls (.int j :: .ref a :: rest)) rfl rfl hd _ kt
theorem own_ldR (X : Stand p l e R s m args below meth c T locs cells slots) (hx : p.tables.exec = Jvm.exec) (hZ : Z.Warmed39 s.vm) (eT : T.heap = h) (F : own_A Z h a k ty n f) (hty : ty.isReference = true) {j : Int32} (i : Nat) (q : j.toInt = (i : Int)) (hi : i < n) {pc : Nat} {Ls : Array Slot} {rest : List Value} (hd : decode c.code pc = .ok (.aaload, 1)) :
    ∀ t, Steps p.tables e below (T.setTop (mkF m (pc + 1) Ls (f i :: rest))) t → Steps p.tables e below (T.setTop (mkF m pc Ls (.int j :: .ref a :: rest))) t := fun t kt => by
  obtain ⟨cl, A, r1, r2, r3, r4⟩ := F
  exact X.aaload hx (j := j) (v := f i) (by rw [eT]; exact A.1) (State.isArrayOf_alike hZ.alike A.2.1) hty A.2.2 (own_in q hi r2) (by rw [own_jn q]; exact r4 i hi) (g := mkF m pc Ls (.int j :: .ref a :: rest)) rfl rfl hd _ kt
theorem own_len (X : Stand p l e R s m args below meth c T locs cells slots) (hx : p.tables.exec = Jvm.exec) (hZ : Z.Warmed39 s.vm) (eT : T.heap = h) (F : own_A Z h a k ty n f) {pc : Nat} {Ls : Array Slot} {rest : List Value} (hd : decode c.code pc = .ok (.arraylength, 1)) (z : Int32) (hz : z.toInt = (n : Int)) :
    ∀ t, Steps p.tables e below (T.setTop (mkF m (pc + 1) Ls (.int z :: rest))) t → Steps p.tables e below (T.setTop (mkF m pc Ls (.ref a :: rest))) t := fun t kt => by
  obtain ⟨cl, A, r1, r2, r3, r4⟩ := F
  have q : cl.slots.size.toInt32 = z := by
    apply Int32.toInt_inj.mp; rw [r2, hz]; exact len_toInt r3
  exact X.arraylength hx (by rw [eT]; exact A.1) (State.isArrayOf_alike hZ.alike A.2.1) (g := mkF m pc Ls (.ref a :: rest)) rfl rfl hd _ (by rw [q]; exact kt)
theorem own_cat {w : Value} (h : w.isRef = true) : w.category = 1 := by cases w <;> first | rfl | cases h
theorem own_nb (x : Int32) : nar .byte x.toInt8.toInt32 = x.toInt8.toInt32 := by simp [nar]
theorem own_nc (x : Int32) : nar .char x.toUInt32.toUInt16.toUInt32.toInt32 = x.toUInt32.toUInt16.toUInt32.toInt32 := by
  have := Jvm.Free.XT.narrow_c x
  simpa [nar, narrow] using this
theorem own_nz {z : Int32} (q : z = 0 ∨ z = 1) : nar .boolean z = z := by rcases q with rfl | rfl <;> rfl
theorem own_bt {P : Prop} [Decidable P] (q : P) : ¬ ((if P then (1 : Int32) else 0) = 0) := by simp [q]
theorem own_bf {P : Prop} [Decidable P] (q : ¬ P) : (if P then (1 : Int32) else 0) = 0 := by simp [q]
theorem own_nt {P : Prop} [Decidable P] (q : P) : (if P then (0 : Int32) else 1) = 0 := by simp [q]
theorem own_nf {P : Prop} [Decidable P] (q : ¬ P) : ¬ ((if P then (0 : Int32) else 1) = 0) := by simp [q]
theorem own_lrem {target : State} (X : Stand p l e R s m args below meth c T locs cells slots) (hx : p.tables.exec = Jvm.exec) (hg : g.method = m) {x y : Int64} {rest : List Value} (hd : decode c.code g.pc = .ok (.lrem, 1)) (hs : g.stack = .long y :: .long x :: rest) (hy : y ≠ 0)
    (hr : Steps p.tables e below (T.setTop { g with pc := g.pc + 1, stack := .long (x % y) :: rest }) target) : Steps p.tables e below (T.setTop g) target := XS.lrem X.here hx hg hd hs hy (by rw [lrem_mod]; exact hr)
end OwnKit
theorem djdk_29_method_70_code_0 : decode jdk_29_method_70_code 0 = .ok (.lload_n 0, 1) := by decide +kernel
theorem djdk_29_method_70_code_1 : decode jdk_29_method_70_code 1 = .ok (.lload_n 2, 1) := by decide +kernel
theorem djdk_29_method_70_code_2 : decode jdk_29_method_70_code 2 = .ok (.lcmp, 1) := by decide +kernel
theorem djdk_29_method_70_code_3 : decode jdk_29_method_70_code 3 = .ok (.ifCond .gt 7, 3) := by decide +kernel
theorem djdk_29_method_70_code_10 : decode jdk_29_method_70_code 10 = .ok (.lload_n 2, 1) := by decide +kernel
theorem djdk_29_method_70_code_6 : decode jdk_29_method_70_code 6 = .ok (.lload_n 0, 1) := by decide +kernel
theorem djdk_29_method_70_code_7 : decode jdk_29_method_70_code 7 = .ok (.goto 4, 3) := by decide +kernel
theorem djdk_29_method_70_code_11 : decode jdk_29_method_70_code 11 = .ok (.lreturn, 1) := by decide +kernel
theorem ef_rm1 (m_ : MethodId) (x : Int64) (y : Int64) : entryFrame m_ #[(.long x), (.long y)] 4 = mkF m_ 0 #[.val (.long x), .second, .val (.long y), .second] [] := by first | (simp [entryFrame, mkF, argsToLocals, Value.category]; done) | rfl
def f1 (x : Int64) (y : Int64) : Int64 := (if y < x then y else x)
set_option maxRecDepth 65536 in
set_option maxHeartbeats 40000000 in
theorem rm1 (l : Launch) (Z : State) (a0 : Array Value) (hw : ∀ d ∈ tables_1, d.before a0 Z = true) (x : Int64) (y : Int64) (h0 : Heap) (n0 : Nat) (Z0 : n0 ≤ h0.size)  :
    own_Met l Z (⟨"java/lang/Math", "min", "(JJ)J"⟩ : MethodName) jdk_29_method_70_code 4 (some .long) ({ frames := 0, cells := 0, slots := 0, locals := 0 } : Room) #[(.long x), (.long y)] h0 (fun v h L => v = some (.long (f1 x y)) ∧ Fr n0 L ∧ h = h0) := by
  refine own_body #[.val (.long x), .second, .val (.long y), .second] (Jvm.Free.JP.mathPlain rfl (by decide +kernel)) (fun m_ => ef_rm1 m_ x y) ?_
  intro p_ e_ s_ m_ below meth c_ s₁ X0 hx hby hml hret hlk hZ hown hnm e0
  have N0 := Fr.nil n0
  show own_Out p_ e_ below s_ _ _ _ s₁ (mkF m_ 0 #[.val (.long x), .second, .val (.long y), .second] [])
  refine own_st s₁ (mkF m_ 11 #[.val (.long x), .second, .val (.long y), .second] [(.long (if y < x then y else x))]) (fun t_ k_ => ?_) ?_
  · refine XS.lloadN X0.here hx rfl (hb hby djdk_29_method_70_code_0) rfl ?_
    show Steps p_.tables e_ below (s₁.setTop (mkF m_ 1 #[.val (.long x), .second, .val (.long y), .second] [(.long x)])) t_
    refine XS.lloadN X0.here hx rfl (hb hby djdk_29_method_70_code_1) rfl ?_
    show Steps p_.tables e_ below (s₁.setTop (mkF m_ 2 #[.val (.long x), .second, .val (.long y), .second] [(.long y), (.long x)])) t_
    refine XS.lcmp X0.here hx rfl (hb hby djdk_29_method_70_code_2) rfl ?_
    show Steps p_.tables e_ below (s₁.setTop (mkF m_ 3 #[.val (.long x), .second, .val (.long y), .second] [(.int (lcmpW x y))])) t_
    have jn3 : ∀ t_, Steps p_.tables e_ below (s₁.setTop (mkF m_ 11 #[.val (.long x), .second, .val (.long y), .second] [(.long (if y < x then y else x))])) t_ → Steps p_.tables e_ below (s₁.setTop (mkF m_ 3 #[.val (.long x), .second, .val (.long y), .second] [(.int (lcmpW x y))])) t_ := by
      intro t_ k_
      by_cases hc3 : y < x
      · refine XS.ifYes X0.here hx rfl (pc0 := 3) (pc' := 10) rfl (hb hby djdk_29_method_70_code_3) rfl ((if0 _ _).trans (tlt ((lw_gt x y).mpr hc3)).2.2.1) (by decide) (by decide) ?_
        show Steps p_.tables e_ below (s₁.setTop (mkF m_ 10 #[.val (.long x), .second, .val (.long y), .second] [])) t_
        refine XS.lloadN X0.here hx rfl (hb hby djdk_29_method_70_code_10) rfl ?_
        show Steps p_.tables e_ below (s₁.setTop (mkF m_ 11 #[.val (.long x), .second, .val (.long y), .second] [(.long y)])) t_
        simp only [if_pos hc3] at k_ ⊢
        exact k_
      · refine XS.ifNo X0.here hx rfl (hb hby djdk_29_method_70_code_3) rfl ((if0 _ _).trans (flt (fun q => hc3 ((lw_gt x y).mp q))).2.2.1) ?_
        show Steps p_.tables e_ below (s₁.setTop (mkF m_ 6 #[.val (.long x), .second, .val (.long y), .second] [])) t_
        refine XS.lloadN X0.here hx rfl (hb hby djdk_29_method_70_code_6) rfl ?_
        show Steps p_.tables e_ below (s₁.setTop (mkF m_ 7 #[.val (.long x), .second, .val (.long y), .second] [(.long x)])) t_
        refine XS.goto X0.here hx rfl (pc0 := 7) (pc' := 11) rfl (hb hby djdk_29_method_70_code_7) (by decide) (by decide) ?_
        show Steps p_.tables e_ below (s₁.setTop (mkF m_ 11 #[.val (.long x), .second, .val (.long y), .second] [(.long x)])) t_
        simp only [if_neg hc3] at k_ ⊢
        exact k_
    refine jn3 _ ?_
    show Steps p_.tables e_ below (s₁.setTop (mkF m_ 11 #[.val (.long x), .second, .val (.long y), .second] [(.long (if y < x then y else x))])) t_
    exact k_
  refine own_retJ X0 hx hlk hret (hb hby djdk_29_method_70_code_11) (by decide) (by decide) ?_
  rw [e0]
  exact ⟨by simp only [f1], N0, rfl⟩
def own_ct (mask : Int32) : Int32 := (((((mask &&& (1 : Int32)) + (((mask.toUInt32 >>> ((1 : Int32) &&& 31).toUInt32).toInt32) &&& (1 : Int32))) + (((mask.toUInt32 >>> ((2 : Int32) &&& 31).toUInt32).toInt32) &&& (1 : Int32))) + (((mask.toUInt32 >>> ((3 : Int32) &&& 31).toUInt32).toInt32) &&& (1 : Int32))) + (((mask.toUInt32 >>> ((4 : Int32) &&& 31).toUInt32).toInt32) &&& (1 : Int32)))
def own_ctn (mask : Int32) : Nat := (own_ct mask).toNatClampNeg
def own_bit (mask : Int32) (i : Nat) : Int := (mask.toInt / 2 ^ i) % 2
theorem own_ofI {mask : Int32} (h : 0 ≤ mask.toInt ∧ mask.toInt < 32) : ∃ k : Fin 32, mask = Int32.ofNat k.1 :=
  ⟨⟨mask.toInt.toNat, by omega⟩, by
    apply Int32.toInt_inj.mp
    rw [Int32.toInt_ofNat_small (by show mask.toInt.toNat < 2 ^ 31; omega)]; show mask.toInt = ((mask.toInt.toNat : Nat) : Int); omega⟩
theorem own_ctD : ∀ k : Fin 32, (own_ct (Int32.ofNat k.1)).toInt = own_bit (Int32.ofNat k.1) 0 + own_bit (Int32.ofNat k.1) 1 + own_bit (Int32.ofNat k.1) 2 + own_bit (Int32.ofNat k.1) 3 + own_bit (Int32.ofNat k.1) 4 := by decide +kernel
theorem own_ct0 {mask : Int32} (hm : 0 ≤ mask.toInt ∧ mask.toInt < 32) : (own_ct mask).toInt = own_bit mask 0 + own_bit mask 1 + own_bit mask 2 + own_bit mask 3 + own_bit mask 4 := by
  obtain ⟨k, rfl⟩ := own_ofI hm; exact own_ctD k
theorem own_bitr (mask : Int32) (i : Nat) : 0 ≤ own_bit mask i ∧ own_bit mask i < 2 := by unfold own_bit; omega
theorem own_ctR {mask : Int32} (hm : 0 ≤ mask.toInt ∧ mask.toInt < 32) : 0 ≤ (own_ct mask).toInt ∧ (own_ct mask).toInt ≤ 5 := by
  have := own_ct0 hm; have := own_bitr mask 0; have := own_bitr mask 1; have := own_bitr mask 2; have := own_bitr mask 3; have := own_bitr mask 4; omega
theorem own_ct1 {mask : Int32} (hm : 0 ≤ mask.toInt ∧ mask.toInt < 32) : (own_ct mask).toInt = (own_ctn mask : Int) := by
  have := own_ctR hm; unfold own_ctn; simp only [Int32.toNatClampNeg]; omega
theorem own_ctE {mask : Int32} (hm : 0 ≤ mask.toInt ∧ mask.toInt < 32) : (own_ctn mask : Int) = own_bit mask 0 + own_bit mask 1 + own_bit mask 2 + own_bit mask 3 + own_bit mask 4 ∧ 0 ≤ own_bit mask 0 ∧ 0 ≤ own_bit mask 1 ∧ 0 ≤ own_bit mask 2 ∧ 0 ≤ own_bit mask 3 ∧ 0 ≤ own_bit mask 4 := by
  have := own_ct1 hm; have := own_ct0 hm
  exact ⟨by omega, (own_bitr _ _).1, (own_bitr _ _).1, (own_bitr _ _).1, (own_bitr _ _).1, (own_bitr _ _).1⟩
theorem own_ct3 {mask : Int32} (hm : 0 ≤ mask.toInt ∧ mask.toInt < 32) : ¬ own_ct mask < 0 := by
  have := own_ctR hm; rw [Int32.lt_iff_toInt_lt]; have : (0 : Int32).toInt = 0 := rfl; omega
theorem own_ct4 {mask : Int32} (hm : 0 ≤ mask.toInt ∧ mask.toInt < 32) : (own_ct mask).toNatClampNeg ≤ 5 := by
  have := own_ctR hm; simp only [Int32.toNatClampNeg]; omega
def own_pw (i : Nat) : Int32 := Int32.ofNat (2 ^ i)
theorem own_bD : ∀ k : Fin 32, ∀ i : Fin 5, ((Int32.ofNat k.1) &&& own_pw i.1 = 0 ↔ own_bit (Int32.ofNat k.1) i.1 = 0) := by decide +kernel
theorem own_bz {mask : Int32} (hm : 0 ≤ mask.toInt ∧ mask.toInt < 32) {i : Nat} (hi : i < 5) (h : (mask &&& own_pw i) = (0 : Int32)) : own_bit mask i = 0 := by
  obtain ⟨k, rfl⟩ := own_ofI hm; exact (own_bD k ⟨i, hi⟩).mp h
theorem own_bo {mask : Int32} (hm : 0 ≤ mask.toInt ∧ mask.toInt < 32) {i : Nat} (hi : i < 5) (h : ¬ (mask &&& own_pw i) = (0 : Int32)) : own_bit mask i = 1 := by
  obtain ⟨k, rfl⟩ := own_ofI hm
  have h' : ¬ own_bit (Int32.ofNat k.1) i = 0 := (not_congr (own_bD k ⟨i, hi⟩)).mp h; have := own_bitr (Int32.ofNat k.1) i; omega
def own_sel (mask : Int32) (e : Nat → Int32) : List Int32 := (if (mask &&& (1 : Int32)) = (0 : Int32) then [] else [e 0]) ++ ((if (mask &&& (2 : Int32)) = (0 : Int32) then [] else [e 1]) ++ ((if (mask &&& (4 : Int32)) = (0 : Int32) then [] else [e 2]) ++ ((if (mask &&& (8 : Int32)) = (0 : Int32) then [] else [e 3]) ++ (if (mask &&& (16 : Int32)) = (0 : Int32) then [] else [e 4]))))
theorem own_inc {i : Int32} {n : Nat} (h : i.toInt = (n : Int)) (hn : n < 1000) : (i + (1 : Int32)).toInt = ((n + 1 : Nat) : Int) := by
  have := c_iadd i 1; have := rng32 (i + 1); have : (1 : Int32).toInt = 1 := rfl; omega
theorem own_ge {i to : Int32} {ni nt : Nat} (hi : i.toInt = (ni : Int)) (ht : to.toInt = (nt : Int)) (h : ni + 0 = nt) : ¬ i < to := by
  rw [Int32.lt_iff_toInt_lt]; omega
theorem own_lt {i to : Int32} {ni nt kk : Nat} (hi : i.toInt = (ni : Int)) (ht : to.toInt = (nt : Int)) (h : ni + (kk + 1) = nt) : i < to := by
  rw [Int32.lt_iff_toInt_lt]; omega
theorem own_eq0 {i to : Int32} {ni nt : Nat} (hi : i.toInt = (ni : Int)) (ht : to.toInt = (nt : Int)) (h : ni + 0 = nt) : i = to := Int32.toInt_inj.mp (by omega)
theorem own_ne0 {i to : Int32} {ni nt kk : Nat} (hi : i.toInt = (ni : Int)) (ht : to.toInt = (nt : Int)) (h : ni + (kk + 1) = nt) : ¬ i = to := fun q => by rw [q] at hi; omega
def own_adv (g : Nat → Int32) (x : Int32) (j : Nat) : Nat → Nat
  | 0 => j
  | k + 1 => if g j < x then own_adv g x (j + 1) k else j
def own_sb (f g : Nat → Int32) (n2 : Nat) (i j : Nat) : Nat → Int32
  | 0 => 1
  | k + 1 => if own_adv g (f i) j (n2 - j) = n2 then 0 else if g (own_adv g (f i) j (n2 - j)) = f i then own_sb f g n2 (i + 1) (own_adv g (f i) j (n2 - j)) k else 0
def own_fi (f g : Nat → Int32) (n2 i k J : Nat) : Int32 := if J = n2 then 0 else if g J = f i then own_sb f g n2 (i + 1) J k else 0
theorem own_fi0 {f g : Nat → Int32} {n2 i k nj : Nat} (h : nj + 0 = n2) : own_fi f g n2 i k (own_adv g (f i) nj 0) = 0 := by
  show own_fi f g n2 i k nj = 0; unfold own_fi; rw [if_pos (by omega)]
theorem own_fi1 {f g : Nat → Int32} {n2 i k nj kj : Nat} (h : ¬ g nj < f i) (h2 : ¬ g nj = f i) : own_fi f g n2 i k (own_adv g (f i) nj (kj + 1)) = 0 := by
  have : own_adv g (f i) nj (kj + 1) = nj := if_neg h
  rw [this]; unfold own_fi; rw [if_neg h2]; split <;> rfl
theorem own_go {f g : Nat → Int32} {n2 i k nj kj : Nat} {R : Int32} (hfi : own_fi f g n2 i k (own_adv g (f i) nj (kj + 1)) = R) (h : ¬ g nj < f i) (h2 : g nj = f i) (hn : nj < n2) : own_sb f g n2 (i + 1) nj k = R := by
  have e : own_adv g (f i) nj (kj + 1) = nj := if_neg h
  rw [e] at hfi; unfold own_fi at hfi; rw [if_neg (by omega), if_pos h2] at hfi; exact hfi

theorem dmethod_3_code_0 : decode method_3_code 0 = .ok (.iload_n 0, 1) := by decide +kernel
theorem dmethod_3_code_1 : decode method_3_code 1 = .ok (.iconst 1, 1) := by decide +kernel
theorem dmethod_3_code_2 : decode method_3_code 2 = .ok (.iand, 1) := by decide +kernel
theorem dmethod_3_code_3 : decode method_3_code 3 = .ok (.iload_n 0, 1) := by decide +kernel
theorem dmethod_3_code_4 : decode method_3_code 4 = .ok (.iconst 1, 1) := by decide +kernel
theorem dmethod_3_code_5 : decode method_3_code 5 = .ok (.iushr, 1) := by decide +kernel
theorem dmethod_3_code_6 : decode method_3_code 6 = .ok (.iconst 1, 1) := by decide +kernel
theorem dmethod_3_code_7 : decode method_3_code 7 = .ok (.iand, 1) := by decide +kernel
theorem dmethod_3_code_8 : decode method_3_code 8 = .ok (.iadd, 1) := by decide +kernel
theorem dmethod_3_code_9 : decode method_3_code 9 = .ok (.iload_n 0, 1) := by decide +kernel
theorem dmethod_3_code_10 : decode method_3_code 10 = .ok (.iconst 2, 1) := by decide +kernel
theorem dmethod_3_code_11 : decode method_3_code 11 = .ok (.iushr, 1) := by decide +kernel
theorem dmethod_3_code_12 : decode method_3_code 12 = .ok (.iconst 1, 1) := by decide +kernel
theorem dmethod_3_code_13 : decode method_3_code 13 = .ok (.iand, 1) := by decide +kernel
theorem dmethod_3_code_14 : decode method_3_code 14 = .ok (.iadd, 1) := by decide +kernel
theorem dmethod_3_code_15 : decode method_3_code 15 = .ok (.iload_n 0, 1) := by decide +kernel
theorem dmethod_3_code_16 : decode method_3_code 16 = .ok (.iconst 3, 1) := by decide +kernel
theorem dmethod_3_code_17 : decode method_3_code 17 = .ok (.iushr, 1) := by decide +kernel
theorem dmethod_3_code_18 : decode method_3_code 18 = .ok (.iconst 1, 1) := by decide +kernel
theorem dmethod_3_code_19 : decode method_3_code 19 = .ok (.iand, 1) := by decide +kernel
theorem dmethod_3_code_20 : decode method_3_code 20 = .ok (.iadd, 1) := by decide +kernel
theorem dmethod_3_code_21 : decode method_3_code 21 = .ok (.iload_n 0, 1) := by decide +kernel
theorem dmethod_3_code_22 : decode method_3_code 22 = .ok (.iconst 4, 1) := by decide +kernel
theorem dmethod_3_code_23 : decode method_3_code 23 = .ok (.iushr, 1) := by decide +kernel
theorem dmethod_3_code_24 : decode method_3_code 24 = .ok (.iconst 1, 1) := by decide +kernel
theorem dmethod_3_code_25 : decode method_3_code 25 = .ok (.iand, 1) := by decide +kernel
theorem dmethod_3_code_26 : decode method_3_code 26 = .ok (.iadd, 1) := by decide +kernel
theorem dmethod_3_code_27 : decode method_3_code 27 = .ok (.istore_n 2, 1) := by decide +kernel
theorem dmethod_3_code_28 : decode method_3_code 28 = .ok (.iload_n 2, 1) := by decide +kernel
theorem dmethod_3_code_29 : decode method_3_code 29 = .ok (.newarray .int, 2) := by decide +kernel
theorem dmethod_3_code_31 : decode method_3_code 31 = .ok (.astore_n 3, 1) := by decide +kernel
theorem dmethod_3_code_32 : decode method_3_code 32 = .ok (.iconst 0, 1) := by decide +kernel
theorem dmethod_3_code_33 : decode method_3_code 33 = .ok (.istore 4, 2) := by decide +kernel
theorem dmethod_3_code_35 : decode method_3_code 35 = .ok (.iload_n 0, 1) := by decide +kernel
theorem dmethod_3_code_36 : decode method_3_code 36 = .ok (.iconst 1, 1) := by decide +kernel
theorem dmethod_3_code_37 : decode method_3_code 37 = .ok (.iand, 1) := by decide +kernel
theorem dmethod_3_code_38 : decode method_3_code 38 = .ok (.ifCond .eq 13, 3) := by decide +kernel
theorem dmethod_3_code_51 : decode method_3_code 51 = .ok (.iload_n 0, 1) := by decide +kernel
theorem dmethod_3_code_52 : decode method_3_code 52 = .ok (.iconst 2, 1) := by decide +kernel
theorem dmethod_3_code_53 : decode method_3_code 53 = .ok (.iand, 1) := by decide +kernel
theorem dmethod_3_code_54 : decode method_3_code 54 = .ok (.ifCond .eq 13, 3) := by decide +kernel
theorem dmethod_3_code_67 : decode method_3_code 67 = .ok (.iload_n 0, 1) := by decide +kernel
theorem dmethod_3_code_68 : decode method_3_code 68 = .ok (.iconst 4, 1) := by decide +kernel
theorem dmethod_3_code_69 : decode method_3_code 69 = .ok (.iand, 1) := by decide +kernel
theorem dmethod_3_code_70 : decode method_3_code 70 = .ok (.ifCond .eq 13, 3) := by decide +kernel
theorem dmethod_3_code_83 : decode method_3_code 83 = .ok (.iload_n 0, 1) := by decide +kernel
theorem dmethod_3_code_84 : decode method_3_code 84 = .ok (.bipush 8, 2) := by decide +kernel
theorem dmethod_3_code_86 : decode method_3_code 86 = .ok (.iand, 1) := by decide +kernel
theorem dmethod_3_code_87 : decode method_3_code 87 = .ok (.ifCond .eq 13, 3) := by decide +kernel
theorem dmethod_3_code_100 : decode method_3_code 100 = .ok (.iload_n 0, 1) := by decide +kernel
theorem dmethod_3_code_101 : decode method_3_code 101 = .ok (.bipush 16, 2) := by decide +kernel
theorem dmethod_3_code_103 : decode method_3_code 103 = .ok (.iand, 1) := by decide +kernel
theorem dmethod_3_code_104 : decode method_3_code 104 = .ok (.ifCond .eq 13, 3) := by decide +kernel
theorem dmethod_3_code_117 : decode method_3_code 117 = .ok (.aload_n 3, 1) := by decide +kernel
theorem dmethod_3_code_118 : decode method_3_code 118 = .ok (.areturn, 1) := by decide +kernel
theorem dmethod_3_code_107 : decode method_3_code 107 = .ok (.aload_n 3, 1) := by decide +kernel
theorem dmethod_3_code_108 : decode method_3_code 108 = .ok (.iload 4, 2) := by decide +kernel
theorem dmethod_3_code_110 : decode method_3_code 110 = .ok (.aload_n 1, 1) := by decide +kernel
theorem dmethod_3_code_111 : decode method_3_code 111 = .ok (.iconst 4, 1) := by decide +kernel
theorem dmethod_3_code_112 : decode method_3_code 112 = .ok (.iaload, 1) := by decide +kernel
theorem dmethod_3_code_113 : decode method_3_code 113 = .ok (.iastore, 1) := by decide +kernel
theorem dmethod_3_code_114 : decode method_3_code 114 = .ok (.iinc 4 1, 3) := by decide +kernel
theorem dmethod_3_code_90 : decode method_3_code 90 = .ok (.aload_n 3, 1) := by decide +kernel
theorem dmethod_3_code_91 : decode method_3_code 91 = .ok (.iload 4, 2) := by decide +kernel
theorem dmethod_3_code_93 : decode method_3_code 93 = .ok (.aload_n 1, 1) := by decide +kernel
theorem dmethod_3_code_94 : decode method_3_code 94 = .ok (.iconst 3, 1) := by decide +kernel
theorem dmethod_3_code_95 : decode method_3_code 95 = .ok (.iaload, 1) := by decide +kernel
theorem dmethod_3_code_96 : decode method_3_code 96 = .ok (.iastore, 1) := by decide +kernel
theorem dmethod_3_code_97 : decode method_3_code 97 = .ok (.iinc 4 1, 3) := by decide +kernel
theorem dmethod_3_code_73 : decode method_3_code 73 = .ok (.aload_n 3, 1) := by decide +kernel
theorem dmethod_3_code_74 : decode method_3_code 74 = .ok (.iload 4, 2) := by decide +kernel
theorem dmethod_3_code_76 : decode method_3_code 76 = .ok (.aload_n 1, 1) := by decide +kernel
theorem dmethod_3_code_77 : decode method_3_code 77 = .ok (.iconst 2, 1) := by decide +kernel
theorem dmethod_3_code_78 : decode method_3_code 78 = .ok (.iaload, 1) := by decide +kernel
theorem dmethod_3_code_79 : decode method_3_code 79 = .ok (.iastore, 1) := by decide +kernel
theorem dmethod_3_code_80 : decode method_3_code 80 = .ok (.iinc 4 1, 3) := by decide +kernel
theorem dmethod_3_code_57 : decode method_3_code 57 = .ok (.aload_n 3, 1) := by decide +kernel
theorem dmethod_3_code_58 : decode method_3_code 58 = .ok (.iload 4, 2) := by decide +kernel
theorem dmethod_3_code_60 : decode method_3_code 60 = .ok (.aload_n 1, 1) := by decide +kernel
theorem dmethod_3_code_61 : decode method_3_code 61 = .ok (.iconst 1, 1) := by decide +kernel
theorem dmethod_3_code_62 : decode method_3_code 62 = .ok (.iaload, 1) := by decide +kernel
theorem dmethod_3_code_63 : decode method_3_code 63 = .ok (.iastore, 1) := by decide +kernel
theorem dmethod_3_code_64 : decode method_3_code 64 = .ok (.iinc 4 1, 3) := by decide +kernel
theorem dmethod_3_code_41 : decode method_3_code 41 = .ok (.aload_n 3, 1) := by decide +kernel
theorem dmethod_3_code_42 : decode method_3_code 42 = .ok (.iload 4, 2) := by decide +kernel
theorem dmethod_3_code_44 : decode method_3_code 44 = .ok (.aload_n 1, 1) := by decide +kernel
theorem dmethod_3_code_45 : decode method_3_code 45 = .ok (.iconst 0, 1) := by decide +kernel
theorem dmethod_3_code_46 : decode method_3_code 46 = .ok (.iaload, 1) := by decide +kernel
theorem dmethod_3_code_47 : decode method_3_code 47 = .ok (.iastore, 1) := by decide +kernel
theorem dmethod_3_code_48 : decode method_3_code 48 = .ok (.iinc 4 1, 3) := by decide +kernel
theorem ef_rm2 (m_ : MethodId) (mask : Int32) (u : Addr) : entryFrame m_ #[(.int mask), (.ref u)] 5 = mkF m_ 0 #[.val (.int mask), .val (.ref u), .unset, .unset, .unset] [] := by first | (simp [entryFrame, mkF, argsToLocals, Value.category]; done) | rfl
theorem own_pn0 : plainName "com/example/refinement_flow_checker/refinementflowchecker/checker/SortedSetsSubsetPinLaw" = true := by first | (simp [plainName, overriddenIn]; done) | decide +kernel
set_option maxRecDepth 65536 in
set_option maxHeartbeats 40000000 in
theorem rm2 (l : Launch) (Z : State) (a0 : Array Value) (hw : ∀ d ∈ tables_1, d.before a0 Z = true) (mask : Int32) (u : Addr) (ku : ClassId) (e : Nat → Int32) (h0 : Heap) (n0 : Nat) (Z0 : n0 ≤ h0.size) (U : own_A Z h0 u ku .int 5 (fun x => .int (e x))) (hm : 0 ≤ mask.toInt ∧ mask.toInt < 32) :
    own_Met l Z (⟨"com/example/refinement_flow_checker/refinementflowchecker/checker/SortedSetsSubsetPinLaw", "build", "(I[I)[I"⟩ : MethodName) method_3_code 5 (some (.array .int)) ({ frames := 0, cells := 1, slots := 5, locals := 0 } : Room) #[(.int mask), (.ref u)] h0 (fun v h L => ∃ (b : Addr) (kb : ClassId), v = some (.ref b) ∧ n0 ≤ b ∧ h0.size ≤ b ∧ Fr n0 L ∧ Keep h0 h [] ∧ own_A Z h b kb .int (own_sel mask e).length (fun x => .int ((own_sel mask e).getD x 0))) := by
  refine own_body #[.val (.int mask), .val (.ref u), .unset, .unset, .unset] (plainFor_of_name own_pn0) (fun m_ => ef_rm2 m_ mask u) ?_
  intro p_ e_ s_ m_ below meth c_ s₁ X0 hx hby hml hret hlk hZ hown hnm e0
  have N0 := Fr.nil n0
  have KP := Keep.refl h0 []
  show own_Out p_ e_ below s_ _ _ _ s₁ (mkF m_ 0 #[.val (.int mask), .val (.ref u), .unset, .unset, .unset] [])
  refine own_st s₁ (mkF m_ 29 #[.val (.int mask), .val (.ref u), .val (.int (own_ct mask)), .unset, .unset] [(.int (own_ct mask))]) (fun t_ k_ => ?_) ?_
  · refine XS.iloadN X0.here hx rfl (hb hby dmethod_3_code_0) rfl ?_
    show Steps p_.tables e_ below (s₁.setTop (mkF m_ 1 #[.val (.int mask), .val (.ref u), .unset, .unset, .unset] [(.int mask)])) t_
    refine XS.iconst X0.here hx rfl (hb hby dmethod_3_code_1) ?_
    show Steps p_.tables e_ below (s₁.setTop (mkF m_ 2 #[.val (.int mask), .val (.ref u), .unset, .unset, .unset] [(.int (1 : Int32)), (.int mask)])) t_
    refine XS.iand X0.here hx rfl (hb hby dmethod_3_code_2) rfl ?_
    show Steps p_.tables e_ below (s₁.setTop (mkF m_ 3 #[.val (.int mask), .val (.ref u), .unset, .unset, .unset] [(.int (mask &&& (1 : Int32)))])) t_
    refine XS.iloadN X0.here hx rfl (hb hby dmethod_3_code_3) rfl ?_
    show Steps p_.tables e_ below (s₁.setTop (mkF m_ 4 #[.val (.int mask), .val (.ref u), .unset, .unset, .unset] [(.int mask), (.int (mask &&& (1 : Int32)))])) t_
    refine XS.iconst X0.here hx rfl (hb hby dmethod_3_code_4) ?_
    show Steps p_.tables e_ below (s₁.setTop (mkF m_ 5 #[.val (.int mask), .val (.ref u), .unset, .unset, .unset] [(.int (1 : Int32)), (.int mask), (.int (mask &&& (1 : Int32)))])) t_
    refine XS.iushr X0.here hx rfl (hb hby dmethod_3_code_5) rfl ?_
    show Steps p_.tables e_ below (s₁.setTop (mkF m_ 6 #[.val (.int mask), .val (.ref u), .unset, .unset, .unset] [(.int ((mask.toUInt32 >>> ((1 : Int32) &&& 31).toUInt32).toInt32)), (.int (mask &&& (1 : Int32)))])) t_
    refine XS.iconst X0.here hx rfl (hb hby dmethod_3_code_6) ?_
    show Steps p_.tables e_ below (s₁.setTop (mkF m_ 7 #[.val (.int mask), .val (.ref u), .unset, .unset, .unset] [(.int (1 : Int32)), (.int ((mask.toUInt32 >>> ((1 : Int32) &&& 31).toUInt32).toInt32)), (.int (mask &&& (1 : Int32)))])) t_
    refine XS.iand X0.here hx rfl (hb hby dmethod_3_code_7) rfl ?_
    show Steps p_.tables e_ below (s₁.setTop (mkF m_ 8 #[.val (.int mask), .val (.ref u), .unset, .unset, .unset] [(.int (((mask.toUInt32 >>> ((1 : Int32) &&& 31).toUInt32).toInt32) &&& (1 : Int32))), (.int (mask &&& (1 : Int32)))])) t_
    refine XS.iadd X0.here hx rfl (hb hby dmethod_3_code_8) rfl ?_
    show Steps p_.tables e_ below (s₁.setTop (mkF m_ 9 #[.val (.int mask), .val (.ref u), .unset, .unset, .unset] [(.int ((mask &&& (1 : Int32)) + (((mask.toUInt32 >>> ((1 : Int32) &&& 31).toUInt32).toInt32) &&& (1 : Int32))))])) t_
    refine XS.iloadN X0.here hx rfl (hb hby dmethod_3_code_9) rfl ?_
    show Steps p_.tables e_ below (s₁.setTop (mkF m_ 10 #[.val (.int mask), .val (.ref u), .unset, .unset, .unset] [(.int mask), (.int ((mask &&& (1 : Int32)) + (((mask.toUInt32 >>> ((1 : Int32) &&& 31).toUInt32).toInt32) &&& (1 : Int32))))])) t_
    refine XS.iconst X0.here hx rfl (hb hby dmethod_3_code_10) ?_
    show Steps p_.tables e_ below (s₁.setTop (mkF m_ 11 #[.val (.int mask), .val (.ref u), .unset, .unset, .unset] [(.int (2 : Int32)), (.int mask), (.int ((mask &&& (1 : Int32)) + (((mask.toUInt32 >>> ((1 : Int32) &&& 31).toUInt32).toInt32) &&& (1 : Int32))))])) t_
    refine XS.iushr X0.here hx rfl (hb hby dmethod_3_code_11) rfl ?_
    show Steps p_.tables e_ below (s₁.setTop (mkF m_ 12 #[.val (.int mask), .val (.ref u), .unset, .unset, .unset] [(.int ((mask.toUInt32 >>> ((2 : Int32) &&& 31).toUInt32).toInt32)), (.int ((mask &&& (1 : Int32)) + (((mask.toUInt32 >>> ((1 : Int32) &&& 31).toUInt32).toInt32) &&& (1 : Int32))))])) t_
    refine XS.iconst X0.here hx rfl (hb hby dmethod_3_code_12) ?_
    show Steps p_.tables e_ below (s₁.setTop (mkF m_ 13 #[.val (.int mask), .val (.ref u), .unset, .unset, .unset] [(.int (1 : Int32)), (.int ((mask.toUInt32 >>> ((2 : Int32) &&& 31).toUInt32).toInt32)), (.int ((mask &&& (1 : Int32)) + (((mask.toUInt32 >>> ((1 : Int32) &&& 31).toUInt32).toInt32) &&& (1 : Int32))))])) t_
    refine XS.iand X0.here hx rfl (hb hby dmethod_3_code_13) rfl ?_
    show Steps p_.tables e_ below (s₁.setTop (mkF m_ 14 #[.val (.int mask), .val (.ref u), .unset, .unset, .unset] [(.int (((mask.toUInt32 >>> ((2 : Int32) &&& 31).toUInt32).toInt32) &&& (1 : Int32))), (.int ((mask &&& (1 : Int32)) + (((mask.toUInt32 >>> ((1 : Int32) &&& 31).toUInt32).toInt32) &&& (1 : Int32))))])) t_
    refine XS.iadd X0.here hx rfl (hb hby dmethod_3_code_14) rfl ?_
    show Steps p_.tables e_ below (s₁.setTop (mkF m_ 15 #[.val (.int mask), .val (.ref u), .unset, .unset, .unset] [(.int (((mask &&& (1 : Int32)) + (((mask.toUInt32 >>> ((1 : Int32) &&& 31).toUInt32).toInt32) &&& (1 : Int32))) + (((mask.toUInt32 >>> ((2 : Int32) &&& 31).toUInt32).toInt32) &&& (1 : Int32))))])) t_
    refine XS.iloadN X0.here hx rfl (hb hby dmethod_3_code_15) rfl ?_
    show Steps p_.tables e_ below (s₁.setTop (mkF m_ 16 #[.val (.int mask), .val (.ref u), .unset, .unset, .unset] [(.int mask), (.int (((mask &&& (1 : Int32)) + (((mask.toUInt32 >>> ((1 : Int32) &&& 31).toUInt32).toInt32) &&& (1 : Int32))) + (((mask.toUInt32 >>> ((2 : Int32) &&& 31).toUInt32).toInt32) &&& (1 : Int32))))])) t_
    refine XS.iconst X0.here hx rfl (hb hby dmethod_3_code_16) ?_
    show Steps p_.tables e_ below (s₁.setTop (mkF m_ 17 #[.val (.int mask), .val (.ref u), .unset, .unset, .unset] [(.int (3 : Int32)), (.int mask), (.int (((mask &&& (1 : Int32)) + (((mask.toUInt32 >>> ((1 : Int32) &&& 31).toUInt32).toInt32) &&& (1 : Int32))) + (((mask.toUInt32 >>> ((2 : Int32) &&& 31).toUInt32).toInt32) &&& (1 : Int32))))])) t_
    refine XS.iushr X0.here hx rfl (hb hby dmethod_3_code_17) rfl ?_
    show Steps p_.tables e_ below (s₁.setTop (mkF m_ 18 #[.val (.int mask), .val (.ref u), .unset, .unset, .unset] [(.int ((mask.toUInt32 >>> ((3 : Int32) &&& 31).toUInt32).toInt32)), (.int (((mask &&& (1 : Int32)) + (((mask.toUInt32 >>> ((1 : Int32) &&& 31).toUInt32).toInt32) &&& (1 : Int32))) + (((mask.toUInt32 >>> ((2 : Int32) &&& 31).toUInt32).toInt32) &&& (1 : Int32))))])) t_
    refine XS.iconst X0.here hx rfl (hb hby dmethod_3_code_18) ?_
    show Steps p_.tables e_ below (s₁.setTop (mkF m_ 19 #[.val (.int mask), .val (.ref u), .unset, .unset, .unset] [(.int (1 : Int32)), (.int ((mask.toUInt32 >>> ((3 : Int32) &&& 31).toUInt32).toInt32)), (.int (((mask &&& (1 : Int32)) + (((mask.toUInt32 >>> ((1 : Int32) &&& 31).toUInt32).toInt32) &&& (1 : Int32))) + (((mask.toUInt32 >>> ((2 : Int32) &&& 31).toUInt32).toInt32) &&& (1 : Int32))))])) t_
    refine XS.iand X0.here hx rfl (hb hby dmethod_3_code_19) rfl ?_
    show Steps p_.tables e_ below (s₁.setTop (mkF m_ 20 #[.val (.int mask), .val (.ref u), .unset, .unset, .unset] [(.int (((mask.toUInt32 >>> ((3 : Int32) &&& 31).toUInt32).toInt32) &&& (1 : Int32))), (.int (((mask &&& (1 : Int32)) + (((mask.toUInt32 >>> ((1 : Int32) &&& 31).toUInt32).toInt32) &&& (1 : Int32))) + (((mask.toUInt32 >>> ((2 : Int32) &&& 31).toUInt32).toInt32) &&& (1 : Int32))))])) t_
    refine XS.iadd X0.here hx rfl (hb hby dmethod_3_code_20) rfl ?_
    show Steps p_.tables e_ below (s₁.setTop (mkF m_ 21 #[.val (.int mask), .val (.ref u), .unset, .unset, .unset] [(.int ((((mask &&& (1 : Int32)) + (((mask.toUInt32 >>> ((1 : Int32) &&& 31).toUInt32).toInt32) &&& (1 : Int32))) + (((mask.toUInt32 >>> ((2 : Int32) &&& 31).toUInt32).toInt32) &&& (1 : Int32))) + (((mask.toUInt32 >>> ((3 : Int32) &&& 31).toUInt32).toInt32) &&& (1 : Int32))))])) t_
    refine XS.iloadN X0.here hx rfl (hb hby dmethod_3_code_21) rfl ?_
    show Steps p_.tables e_ below (s₁.setTop (mkF m_ 22 #[.val (.int mask), .val (.ref u), .unset, .unset, .unset] [(.int mask), (.int ((((mask &&& (1 : Int32)) + (((mask.toUInt32 >>> ((1 : Int32) &&& 31).toUInt32).toInt32) &&& (1 : Int32))) + (((mask.toUInt32 >>> ((2 : Int32) &&& 31).toUInt32).toInt32) &&& (1 : Int32))) + (((mask.toUInt32 >>> ((3 : Int32) &&& 31).toUInt32).toInt32) &&& (1 : Int32))))])) t_
    refine XS.iconst X0.here hx rfl (hb hby dmethod_3_code_22) ?_
    show Steps p_.tables e_ below (s₁.setTop (mkF m_ 23 #[.val (.int mask), .val (.ref u), .unset, .unset, .unset] [(.int (4 : Int32)), (.int mask), (.int ((((mask &&& (1 : Int32)) + (((mask.toUInt32 >>> ((1 : Int32) &&& 31).toUInt32).toInt32) &&& (1 : Int32))) + (((mask.toUInt32 >>> ((2 : Int32) &&& 31).toUInt32).toInt32) &&& (1 : Int32))) + (((mask.toUInt32 >>> ((3 : Int32) &&& 31).toUInt32).toInt32) &&& (1 : Int32))))])) t_
    refine XS.iushr X0.here hx rfl (hb hby dmethod_3_code_23) rfl ?_
    show Steps p_.tables e_ below (s₁.setTop (mkF m_ 24 #[.val (.int mask), .val (.ref u), .unset, .unset, .unset] [(.int ((mask.toUInt32 >>> ((4 : Int32) &&& 31).toUInt32).toInt32)), (.int ((((mask &&& (1 : Int32)) + (((mask.toUInt32 >>> ((1 : Int32) &&& 31).toUInt32).toInt32) &&& (1 : Int32))) + (((mask.toUInt32 >>> ((2 : Int32) &&& 31).toUInt32).toInt32) &&& (1 : Int32))) + (((mask.toUInt32 >>> ((3 : Int32) &&& 31).toUInt32).toInt32) &&& (1 : Int32))))])) t_
    refine XS.iconst X0.here hx rfl (hb hby dmethod_3_code_24) ?_
    show Steps p_.tables e_ below (s₁.setTop (mkF m_ 25 #[.val (.int mask), .val (.ref u), .unset, .unset, .unset] [(.int (1 : Int32)), (.int ((mask.toUInt32 >>> ((4 : Int32) &&& 31).toUInt32).toInt32)), (.int ((((mask &&& (1 : Int32)) + (((mask.toUInt32 >>> ((1 : Int32) &&& 31).toUInt32).toInt32) &&& (1 : Int32))) + (((mask.toUInt32 >>> ((2 : Int32) &&& 31).toUInt32).toInt32) &&& (1 : Int32))) + (((mask.toUInt32 >>> ((3 : Int32) &&& 31).toUInt32).toInt32) &&& (1 : Int32))))])) t_
    refine XS.iand X0.here hx rfl (hb hby dmethod_3_code_25) rfl ?_
    show Steps p_.tables e_ below (s₁.setTop (mkF m_ 26 #[.val (.int mask), .val (.ref u), .unset, .unset, .unset] [(.int (((mask.toUInt32 >>> ((4 : Int32) &&& 31).toUInt32).toInt32) &&& (1 : Int32))), (.int ((((mask &&& (1 : Int32)) + (((mask.toUInt32 >>> ((1 : Int32) &&& 31).toUInt32).toInt32) &&& (1 : Int32))) + (((mask.toUInt32 >>> ((2 : Int32) &&& 31).toUInt32).toInt32) &&& (1 : Int32))) + (((mask.toUInt32 >>> ((3 : Int32) &&& 31).toUInt32).toInt32) &&& (1 : Int32))))])) t_
    refine XS.iadd X0.here hx rfl (hb hby dmethod_3_code_26) rfl ?_
    show Steps p_.tables e_ below (s₁.setTop (mkF m_ 27 #[.val (.int mask), .val (.ref u), .unset, .unset, .unset] [(.int (own_ct mask))])) t_
    refine XS.istoreN X0.here hx rfl (hb hby dmethod_3_code_27) rfl (l' := #[.val (.int mask), .val (.ref u), .val (.int (own_ct mask)), .unset, .unset]) rfl ?_
    show Steps p_.tables e_ below (s₁.setTop (mkF m_ 28 #[.val (.int mask), .val (.ref u), .val (.int (own_ct mask)), .unset, .unset] [])) t_
    refine XS.iloadN X0.here hx rfl (hb hby dmethod_3_code_28) rfl ?_
    show Steps p_.tables e_ below (s₁.setTop (mkF m_ 29 #[.val (.int mask), .val (.ref u), .val (.int (own_ct mask)), .unset, .unset] [(.int (own_ct mask))])) t_
    exact k_
  obtain ⟨T1, h1, k1, X1, e1, E1, A1, st1⟩ := newP X0 hx hZ (hw _ (List.mem_of_getElem? (i := 6) rfl)) e0 (g := (mkF m_ 29 #[.val (.int mask), .val (.ref u), .val (.int (own_ct mask)), .unset, .unset] [(.int (own_ct mask))])) rfl (hb hby dmethod_3_code_29) rfl (own_ct3 hm) (cap := 5) (own_ct4 hm) (by decide) (by decide) (by decide)
  obtain ⟨b1, g1⟩ : ∃ z, z = h0.size := ⟨_, rfl⟩
  rw [← g1] at A1 st1
  have g_b1 : n0 ≤ b1 := g1 ▸ Z0
  have sz_b1 : h0.size ≤ b1 := g1 ▸ KP.1
  have ne_u_b1 : u ≠ b1 := Nat.ne_of_lt (Nat.lt_of_lt_of_le U.lt (Nat.le_of_eq g1.symm))
  replace KP := KP.ext E1
  replace U := U.ext E1
  replace Z0 : n0 ≤ h1.size := Nat.le_trans Z0 E1.1
  have A_b1 : own_A Z h1 b1 k1 .int (own_ctn mask) (fun _ => .int 0) := own_A.newI A1 (own_ct3 hm) (own_ctn mask) rfl rfl
  refine own_st T1 (mkF m_ 31 #[.val (.int mask), .val (.ref u), .val (.int (own_ct mask)), .unset, .unset] [(.ref b1)]) st1 ?_
  refine own_st T1 (mkF m_ 38 #[.val (.int mask), .val (.ref u), .val (.int (own_ct mask)), .val (.ref b1), .val (.int (0 : Int32))] [(.int (mask &&& (1 : Int32)))]) (fun t_ k_ => ?_) ?_
  · refine XS.astoreN X1.here hx rfl (hb hby dmethod_3_code_31) rfl rfl (l' := #[.val (.int mask), .val (.ref u), .val (.int (own_ct mask)), .val (.ref b1), .unset]) rfl ?_
    show Steps p_.tables e_ below (T1.setTop (mkF m_ 32 #[.val (.int mask), .val (.ref u), .val (.int (own_ct mask)), .val (.ref b1), .unset] [])) t_
    refine XS.iconst X1.here hx rfl (hb hby dmethod_3_code_32) ?_
    show Steps p_.tables e_ below (T1.setTop (mkF m_ 33 #[.val (.int mask), .val (.ref u), .val (.int (own_ct mask)), .val (.ref b1), .unset] [(.int (0 : Int32))])) t_
    refine XS.istore X1.here hx rfl (hb hby dmethod_3_code_33) rfl (l' := #[.val (.int mask), .val (.ref u), .val (.int (own_ct mask)), .val (.ref b1), .val (.int (0 : Int32))]) rfl ?_
    show Steps p_.tables e_ below (T1.setTop (mkF m_ 35 #[.val (.int mask), .val (.ref u), .val (.int (own_ct mask)), .val (.ref b1), .val (.int (0 : Int32))] [])) t_
    refine XS.iloadN X1.here hx rfl (hb hby dmethod_3_code_35) rfl ?_
    show Steps p_.tables e_ below (T1.setTop (mkF m_ 36 #[.val (.int mask), .val (.ref u), .val (.int (own_ct mask)), .val (.ref b1), .val (.int (0 : Int32))] [(.int mask)])) t_
    refine XS.iconst X1.here hx rfl (hb hby dmethod_3_code_36) ?_
    show Steps p_.tables e_ below (T1.setTop (mkF m_ 37 #[.val (.int mask), .val (.ref u), .val (.int (own_ct mask)), .val (.ref b1), .val (.int (0 : Int32))] [(.int (1 : Int32)), (.int mask)])) t_
    refine XS.iand X1.here hx rfl (hb hby dmethod_3_code_37) rfl ?_
    show Steps p_.tables e_ below (T1.setTop (mkF m_ 38 #[.val (.int mask), .val (.ref u), .val (.int (own_ct mask)), .val (.ref b1), .val (.int (0 : Int32))] [(.int (mask &&& (1 : Int32)))])) t_
    exact k_
  by_cases hc38 : (mask &&& (1 : Int32)) = (0 : Int32)
  · refine own_st T1 (mkF m_ 51 #[.val (.int mask), .val (.ref u), .val (.int (own_ct mask)), .val (.ref b1), .val (.int (0 : Int32))] []) (fun t_ k_ => XS.ifYes X1.here hx rfl (pc0 := 38) (pc' := 51) rfl (hb hby dmethod_3_code_38) rfl ((if0 _ _).trans (teq hc38).1) (by decide) (by decide) k_) ?_
    refine own_st T1 (mkF m_ 54 #[.val (.int mask), .val (.ref u), .val (.int (own_ct mask)), .val (.ref b1), .val (.int (0 : Int32))] [(.int (mask &&& (2 : Int32)))]) (fun t_ k_ => ?_) ?_
    · refine XS.iloadN X1.here hx rfl (hb hby dmethod_3_code_51) rfl ?_
      show Steps p_.tables e_ below (T1.setTop (mkF m_ 52 #[.val (.int mask), .val (.ref u), .val (.int (own_ct mask)), .val (.ref b1), .val (.int (0 : Int32))] [(.int mask)])) t_
      refine XS.iconst X1.here hx rfl (hb hby dmethod_3_code_52) ?_
      show Steps p_.tables e_ below (T1.setTop (mkF m_ 53 #[.val (.int mask), .val (.ref u), .val (.int (own_ct mask)), .val (.ref b1), .val (.int (0 : Int32))] [(.int (2 : Int32)), (.int mask)])) t_
      refine XS.iand X1.here hx rfl (hb hby dmethod_3_code_53) rfl ?_
      show Steps p_.tables e_ below (T1.setTop (mkF m_ 54 #[.val (.int mask), .val (.ref u), .val (.int (own_ct mask)), .val (.ref b1), .val (.int (0 : Int32))] [(.int (mask &&& (2 : Int32)))])) t_
      exact k_
    by_cases hc54 : (mask &&& (2 : Int32)) = (0 : Int32)
    · refine own_st T1 (mkF m_ 67 #[.val (.int mask), .val (.ref u), .val (.int (own_ct mask)), .val (.ref b1), .val (.int (0 : Int32))] []) (fun t_ k_ => XS.ifYes X1.here hx rfl (pc0 := 54) (pc' := 67) rfl (hb hby dmethod_3_code_54) rfl ((if0 _ _).trans (teq hc54).1) (by decide) (by decide) k_) ?_
      refine own_st T1 (mkF m_ 70 #[.val (.int mask), .val (.ref u), .val (.int (own_ct mask)), .val (.ref b1), .val (.int (0 : Int32))] [(.int (mask &&& (4 : Int32)))]) (fun t_ k_ => ?_) ?_
      · refine XS.iloadN X1.here hx rfl (hb hby dmethod_3_code_67) rfl ?_
        show Steps p_.tables e_ below (T1.setTop (mkF m_ 68 #[.val (.int mask), .val (.ref u), .val (.int (own_ct mask)), .val (.ref b1), .val (.int (0 : Int32))] [(.int mask)])) t_
        refine XS.iconst X1.here hx rfl (hb hby dmethod_3_code_68) ?_
        show Steps p_.tables e_ below (T1.setTop (mkF m_ 69 #[.val (.int mask), .val (.ref u), .val (.int (own_ct mask)), .val (.ref b1), .val (.int (0 : Int32))] [(.int (4 : Int32)), (.int mask)])) t_
        refine XS.iand X1.here hx rfl (hb hby dmethod_3_code_69) rfl ?_
        show Steps p_.tables e_ below (T1.setTop (mkF m_ 70 #[.val (.int mask), .val (.ref u), .val (.int (own_ct mask)), .val (.ref b1), .val (.int (0 : Int32))] [(.int (mask &&& (4 : Int32)))])) t_
        exact k_
      by_cases hc70 : (mask &&& (4 : Int32)) = (0 : Int32)
      · refine own_st T1 (mkF m_ 83 #[.val (.int mask), .val (.ref u), .val (.int (own_ct mask)), .val (.ref b1), .val (.int (0 : Int32))] []) (fun t_ k_ => XS.ifYes X1.here hx rfl (pc0 := 70) (pc' := 83) rfl (hb hby dmethod_3_code_70) rfl ((if0 _ _).trans (teq hc70).1) (by decide) (by decide) k_) ?_
        refine own_st T1 (mkF m_ 87 #[.val (.int mask), .val (.ref u), .val (.int (own_ct mask)), .val (.ref b1), .val (.int (0 : Int32))] [(.int (mask &&& (8 : Int32)))]) (fun t_ k_ => ?_) ?_
        · refine XS.iloadN X1.here hx rfl (hb hby dmethod_3_code_83) rfl ?_
          show Steps p_.tables e_ below (T1.setTop (mkF m_ 84 #[.val (.int mask), .val (.ref u), .val (.int (own_ct mask)), .val (.ref b1), .val (.int (0 : Int32))] [(.int mask)])) t_
          refine XS.bipush X1.here hx rfl (hb hby dmethod_3_code_84) ?_
          show Steps p_.tables e_ below (T1.setTop (mkF m_ 86 #[.val (.int mask), .val (.ref u), .val (.int (own_ct mask)), .val (.ref b1), .val (.int (0 : Int32))] [(.int (8 : Int32)), (.int mask)])) t_
          refine XS.iand X1.here hx rfl (hb hby dmethod_3_code_86) rfl ?_
          show Steps p_.tables e_ below (T1.setTop (mkF m_ 87 #[.val (.int mask), .val (.ref u), .val (.int (own_ct mask)), .val (.ref b1), .val (.int (0 : Int32))] [(.int (mask &&& (8 : Int32)))])) t_
          exact k_
        by_cases hc87 : (mask &&& (8 : Int32)) = (0 : Int32)
        · refine own_st T1 (mkF m_ 100 #[.val (.int mask), .val (.ref u), .val (.int (own_ct mask)), .val (.ref b1), .val (.int (0 : Int32))] []) (fun t_ k_ => XS.ifYes X1.here hx rfl (pc0 := 87) (pc' := 100) rfl (hb hby dmethod_3_code_87) rfl ((if0 _ _).trans (teq hc87).1) (by decide) (by decide) k_) ?_
          refine own_st T1 (mkF m_ 104 #[.val (.int mask), .val (.ref u), .val (.int (own_ct mask)), .val (.ref b1), .val (.int (0 : Int32))] [(.int (mask &&& (16 : Int32)))]) (fun t_ k_ => ?_) ?_
          · refine XS.iloadN X1.here hx rfl (hb hby dmethod_3_code_100) rfl ?_
            show Steps p_.tables e_ below (T1.setTop (mkF m_ 101 #[.val (.int mask), .val (.ref u), .val (.int (own_ct mask)), .val (.ref b1), .val (.int (0 : Int32))] [(.int mask)])) t_
            refine XS.bipush X1.here hx rfl (hb hby dmethod_3_code_101) ?_
            show Steps p_.tables e_ below (T1.setTop (mkF m_ 103 #[.val (.int mask), .val (.ref u), .val (.int (own_ct mask)), .val (.ref b1), .val (.int (0 : Int32))] [(.int (16 : Int32)), (.int mask)])) t_
            refine XS.iand X1.here hx rfl (hb hby dmethod_3_code_103) rfl ?_
            show Steps p_.tables e_ below (T1.setTop (mkF m_ 104 #[.val (.int mask), .val (.ref u), .val (.int (own_ct mask)), .val (.ref b1), .val (.int (0 : Int32))] [(.int (mask &&& (16 : Int32)))])) t_
            exact k_
          by_cases hc104 : (mask &&& (16 : Int32)) = (0 : Int32)
          · refine own_st T1 (mkF m_ 117 #[.val (.int mask), .val (.ref u), .val (.int (own_ct mask)), .val (.ref b1), .val (.int (0 : Int32))] []) (fun t_ k_ => XS.ifYes X1.here hx rfl (pc0 := 104) (pc' := 117) rfl (hb hby dmethod_3_code_104) rfl ((if0 _ _).trans (teq hc104).1) (by decide) (by decide) k_) ?_
            refine own_st T1 (mkF m_ 118 #[.val (.int mask), .val (.ref u), .val (.int (own_ct mask)), .val (.ref b1), .val (.int (0 : Int32))] [(.ref b1)]) (fun t_ k_ => ?_) ?_
            · refine XS.aloadN X1.here hx rfl (hb hby dmethod_3_code_117) rfl rfl ?_
              show Steps p_.tables e_ below (T1.setTop (mkF m_ 118 #[.val (.int mask), .val (.ref u), .val (.int (own_ct mask)), .val (.ref b1), .val (.int (0 : Int32))] [(.ref b1)])) t_
              exact k_
            refine own_retA X1 hx hlk hret rfl rfl (hb hby dmethod_3_code_118) (by decide) (by decide) ?_
            rw [e1]
            have hsel : own_sel mask e = [] := by simp only [own_sel, if_pos hc38, if_pos hc54, if_pos hc70, if_pos hc87, if_pos hc104]; rfl
            have hlen : own_ctn mask = 0 := by have q0 := own_ctE hm; have q38 := own_bz hm (i := 0) (by decide) hc38; have q54 := own_bz hm (i := 1) (by decide) hc54; have q70 := own_bz hm (i := 2) (by decide) hc70; have q87 := own_bz hm (i := 3) (by decide) hc87; have q104 := own_bz hm (i := 4) (by decide) hc104; omega
            refine ⟨b1, k1, rfl, g_b1, sz_b1, N0, KP, ?_⟩
            rw [hsel]; rw [hlen] at A_b1; exact A_b1.cong fun i hi => rfl
          · refine own_st T1 (mkF m_ 107 #[.val (.int mask), .val (.ref u), .val (.int (own_ct mask)), .val (.ref b1), .val (.int (0 : Int32))] []) (fun t_ k_ => XS.ifNo X1.here hx rfl (hb hby dmethod_3_code_104) rfl ((if0 _ _).trans (feq hc104).1) k_) ?_
            refine own_st T1 (mkF m_ 113 #[.val (.int mask), .val (.ref u), .val (.int (own_ct mask)), .val (.ref b1), .val (.int (0 : Int32))] [(.int (e 4)), (.int (0 : Int32)), (.ref b1)]) (fun t_ k_ => ?_) ?_
            · refine XS.aloadN X1.here hx rfl (hb hby dmethod_3_code_107) rfl rfl ?_
              show Steps p_.tables e_ below (T1.setTop (mkF m_ 108 #[.val (.int mask), .val (.ref u), .val (.int (own_ct mask)), .val (.ref b1), .val (.int (0 : Int32))] [(.ref b1)])) t_
              refine XS.iload X1.here hx rfl (hb hby dmethod_3_code_108) rfl ?_
              show Steps p_.tables e_ below (T1.setTop (mkF m_ 110 #[.val (.int mask), .val (.ref u), .val (.int (own_ct mask)), .val (.ref b1), .val (.int (0 : Int32))] [(.int (0 : Int32)), (.ref b1)])) t_
              refine XS.aloadN X1.here hx rfl (hb hby dmethod_3_code_110) rfl rfl ?_
              show Steps p_.tables e_ below (T1.setTop (mkF m_ 111 #[.val (.int mask), .val (.ref u), .val (.int (own_ct mask)), .val (.ref b1), .val (.int (0 : Int32))] [(.ref u), (.int (0 : Int32)), (.ref b1)])) t_
              refine XS.iconst X1.here hx rfl (hb hby dmethod_3_code_111) ?_
              show Steps p_.tables e_ below (T1.setTop (mkF m_ 112 #[.val (.int mask), .val (.ref u), .val (.int (own_ct mask)), .val (.ref b1), .val (.int (0 : Int32))] [(.int (4 : Int32)), (.ref u), (.int (0 : Int32)), (.ref b1)])) t_
              refine own_ldI X1 hx hZ e1 U 4 (by decide) (by decide) (hb hby dmethod_3_code_112) _ ?_
              show Steps p_.tables e_ below (T1.setTop (mkF m_ 113 #[.val (.int mask), .val (.ref u), .val (.int (own_ct mask)), .val (.ref b1), .val (.int (0 : Int32))] [(.int (e 4)), (.int (0 : Int32)), (.ref b1)])) t_
              exact k_
            obtain ⟨T2, h2, X2, e2, W2, st2⟩ := own_stI X1 hx hZ e1 A_b1 0 (by decide) (by have q0 := own_ctE hm; have q38 := own_bz hm (i := 0) (by decide) hc38; have q54 := own_bz hm (i := 1) (by decide) hc54; have q70 := own_bz hm (i := 2) (by decide) hc70; have q87 := own_bz hm (i := 3) (by decide) hc87; have q104 := own_bo hm (i := 4) (by decide) hc104; omega) (j := (0 : Int32)) (x := (e 4)) (Ls := #[.val (.int mask), .val (.ref u), .val (.int (own_ct mask)), .val (.ref b1), .val (.int (0 : Int32))]) (rest := []) (hb hby dmethod_3_code_113)
            have N2 := Fr.snoc X2 N0 g_b1
            replace Z0 : n0 ≤ h2.size := W2.size ▸ Z0
            replace KP := KP.wr W2 (Or.inr sz_b1)
            replace U := U.other W2 ne_u_b1
            replace A_b1 : own_A Z h2 b1 k1 .int (own_ctn mask) (fun x_ => .int (([(e 4)] : List Int32).getD x_ 0)) := A_b1.snocI (L := []) (i := 0) (by have q0 := own_ctE hm; have q38 := own_bz hm (i := 0) (by decide) hc38; have q54 := own_bz hm (i := 1) (by decide) hc54; have q70 := own_bz hm (i := 2) (by decide) hc70; have q87 := own_bz hm (i := 3) (by decide) hc87; have q104 := own_bo hm (i := 4) (by decide) hc104; omega) rfl W2
            refine own_st T2 (mkF m_ 114 #[.val (.int mask), .val (.ref u), .val (.int (own_ct mask)), .val (.ref b1), .val (.int (0 : Int32))] []) st2 ?_
            refine own_st T2 (mkF m_ 118 #[.val (.int mask), .val (.ref u), .val (.int (own_ct mask)), .val (.ref b1), .val (.int (1 : Int32))] [(.ref b1)]) (fun t_ k_ => ?_) ?_
            · refine XS.iinc X2.here hx rfl (hb hby dmethod_3_code_114) rfl (l' := #[.val (.int mask), .val (.ref u), .val (.int (own_ct mask)), .val (.ref b1), .val (.int (1 : Int32))]) rfl ?_
              show Steps p_.tables e_ below (T2.setTop (mkF m_ 117 #[.val (.int mask), .val (.ref u), .val (.int (own_ct mask)), .val (.ref b1), .val (.int (1 : Int32))] [])) t_
              refine XS.aloadN X2.here hx rfl (hb hby dmethod_3_code_117) rfl rfl ?_
              show Steps p_.tables e_ below (T2.setTop (mkF m_ 118 #[.val (.int mask), .val (.ref u), .val (.int (own_ct mask)), .val (.ref b1), .val (.int (1 : Int32))] [(.ref b1)])) t_
              exact k_
            refine own_retA X2 hx hlk hret rfl rfl (hb hby dmethod_3_code_118) (by decide) (by decide) ?_
            rw [e2]
            have hsel : own_sel mask e = [(e 4)] := by simp only [own_sel, if_pos hc38, if_pos hc54, if_pos hc70, if_pos hc87, if_neg hc104]; rfl
            have hlen : own_ctn mask = 1 := by have q0 := own_ctE hm; have q38 := own_bz hm (i := 0) (by decide) hc38; have q54 := own_bz hm (i := 1) (by decide) hc54; have q70 := own_bz hm (i := 2) (by decide) hc70; have q87 := own_bz hm (i := 3) (by decide) hc87; have q104 := own_bo hm (i := 4) (by decide) hc104; omega
            refine ⟨b1, k1, rfl, g_b1, sz_b1, N2, KP, ?_⟩
            rw [hsel]; rw [hlen] at A_b1; exact A_b1
        · refine own_st T1 (mkF m_ 90 #[.val (.int mask), .val (.ref u), .val (.int (own_ct mask)), .val (.ref b1), .val (.int (0 : Int32))] []) (fun t_ k_ => XS.ifNo X1.here hx rfl (hb hby dmethod_3_code_87) rfl ((if0 _ _).trans (feq hc87).1) k_) ?_
          refine own_st T1 (mkF m_ 96 #[.val (.int mask), .val (.ref u), .val (.int (own_ct mask)), .val (.ref b1), .val (.int (0 : Int32))] [(.int (e 3)), (.int (0 : Int32)), (.ref b1)]) (fun t_ k_ => ?_) ?_
          · refine XS.aloadN X1.here hx rfl (hb hby dmethod_3_code_90) rfl rfl ?_
            show Steps p_.tables e_ below (T1.setTop (mkF m_ 91 #[.val (.int mask), .val (.ref u), .val (.int (own_ct mask)), .val (.ref b1), .val (.int (0 : Int32))] [(.ref b1)])) t_
            refine XS.iload X1.here hx rfl (hb hby dmethod_3_code_91) rfl ?_
            show Steps p_.tables e_ below (T1.setTop (mkF m_ 93 #[.val (.int mask), .val (.ref u), .val (.int (own_ct mask)), .val (.ref b1), .val (.int (0 : Int32))] [(.int (0 : Int32)), (.ref b1)])) t_
            refine XS.aloadN X1.here hx rfl (hb hby dmethod_3_code_93) rfl rfl ?_
            show Steps p_.tables e_ below (T1.setTop (mkF m_ 94 #[.val (.int mask), .val (.ref u), .val (.int (own_ct mask)), .val (.ref b1), .val (.int (0 : Int32))] [(.ref u), (.int (0 : Int32)), (.ref b1)])) t_
            refine XS.iconst X1.here hx rfl (hb hby dmethod_3_code_94) ?_
            show Steps p_.tables e_ below (T1.setTop (mkF m_ 95 #[.val (.int mask), .val (.ref u), .val (.int (own_ct mask)), .val (.ref b1), .val (.int (0 : Int32))] [(.int (3 : Int32)), (.ref u), (.int (0 : Int32)), (.ref b1)])) t_
            refine own_ldI X1 hx hZ e1 U 3 (by decide) (by decide) (hb hby dmethod_3_code_95) _ ?_
            show Steps p_.tables e_ below (T1.setTop (mkF m_ 96 #[.val (.int mask), .val (.ref u), .val (.int (own_ct mask)), .val (.ref b1), .val (.int (0 : Int32))] [(.int (e 3)), (.int (0 : Int32)), (.ref b1)])) t_
            exact k_
          obtain ⟨T3, h3, X3, e3, W3, st3⟩ := own_stI X1 hx hZ e1 A_b1 0 (by decide) (by have q0 := own_ctE hm; have q38 := own_bz hm (i := 0) (by decide) hc38; have q54 := own_bz hm (i := 1) (by decide) hc54; have q70 := own_bz hm (i := 2) (by decide) hc70; have q87 := own_bo hm (i := 3) (by decide) hc87; omega) (j := (0 : Int32)) (x := (e 3)) (Ls := #[.val (.int mask), .val (.ref u), .val (.int (own_ct mask)), .val (.ref b1), .val (.int (0 : Int32))]) (rest := []) (hb hby dmethod_3_code_96)
          have N3 := Fr.snoc X3 N0 g_b1
          replace Z0 : n0 ≤ h3.size := W3.size ▸ Z0
          replace KP := KP.wr W3 (Or.inr sz_b1)
          replace U := U.other W3 ne_u_b1
          replace A_b1 : own_A Z h3 b1 k1 .int (own_ctn mask) (fun x_ => .int (([(e 3)] : List Int32).getD x_ 0)) := A_b1.snocI (L := []) (i := 0) (by have q0 := own_ctE hm; have q38 := own_bz hm (i := 0) (by decide) hc38; have q54 := own_bz hm (i := 1) (by decide) hc54; have q70 := own_bz hm (i := 2) (by decide) hc70; have q87 := own_bo hm (i := 3) (by decide) hc87; omega) rfl W3
          refine own_st T3 (mkF m_ 97 #[.val (.int mask), .val (.ref u), .val (.int (own_ct mask)), .val (.ref b1), .val (.int (0 : Int32))] []) st3 ?_
          refine own_st T3 (mkF m_ 104 #[.val (.int mask), .val (.ref u), .val (.int (own_ct mask)), .val (.ref b1), .val (.int (1 : Int32))] [(.int (mask &&& (16 : Int32)))]) (fun t_ k_ => ?_) ?_
          · refine XS.iinc X3.here hx rfl (hb hby dmethod_3_code_97) rfl (l' := #[.val (.int mask), .val (.ref u), .val (.int (own_ct mask)), .val (.ref b1), .val (.int (1 : Int32))]) rfl ?_
            show Steps p_.tables e_ below (T3.setTop (mkF m_ 100 #[.val (.int mask), .val (.ref u), .val (.int (own_ct mask)), .val (.ref b1), .val (.int (1 : Int32))] [])) t_
            refine XS.iloadN X3.here hx rfl (hb hby dmethod_3_code_100) rfl ?_
            show Steps p_.tables e_ below (T3.setTop (mkF m_ 101 #[.val (.int mask), .val (.ref u), .val (.int (own_ct mask)), .val (.ref b1), .val (.int (1 : Int32))] [(.int mask)])) t_
            refine XS.bipush X3.here hx rfl (hb hby dmethod_3_code_101) ?_
            show Steps p_.tables e_ below (T3.setTop (mkF m_ 103 #[.val (.int mask), .val (.ref u), .val (.int (own_ct mask)), .val (.ref b1), .val (.int (1 : Int32))] [(.int (16 : Int32)), (.int mask)])) t_
            refine XS.iand X3.here hx rfl (hb hby dmethod_3_code_103) rfl ?_
            show Steps p_.tables e_ below (T3.setTop (mkF m_ 104 #[.val (.int mask), .val (.ref u), .val (.int (own_ct mask)), .val (.ref b1), .val (.int (1 : Int32))] [(.int (mask &&& (16 : Int32)))])) t_
            exact k_
          by_cases hc104 : (mask &&& (16 : Int32)) = (0 : Int32)
          · refine own_st T3 (mkF m_ 117 #[.val (.int mask), .val (.ref u), .val (.int (own_ct mask)), .val (.ref b1), .val (.int (1 : Int32))] []) (fun t_ k_ => XS.ifYes X3.here hx rfl (pc0 := 104) (pc' := 117) rfl (hb hby dmethod_3_code_104) rfl ((if0 _ _).trans (teq hc104).1) (by decide) (by decide) k_) ?_
            refine own_st T3 (mkF m_ 118 #[.val (.int mask), .val (.ref u), .val (.int (own_ct mask)), .val (.ref b1), .val (.int (1 : Int32))] [(.ref b1)]) (fun t_ k_ => ?_) ?_
            · refine XS.aloadN X3.here hx rfl (hb hby dmethod_3_code_117) rfl rfl ?_
              show Steps p_.tables e_ below (T3.setTop (mkF m_ 118 #[.val (.int mask), .val (.ref u), .val (.int (own_ct mask)), .val (.ref b1), .val (.int (1 : Int32))] [(.ref b1)])) t_
              exact k_
            refine own_retA X3 hx hlk hret rfl rfl (hb hby dmethod_3_code_118) (by decide) (by decide) ?_
            rw [e3]
            have hsel : own_sel mask e = [(e 3)] := by simp only [own_sel, if_pos hc38, if_pos hc54, if_pos hc70, if_neg hc87, if_pos hc104]; rfl
            have hlen : own_ctn mask = 1 := by have q0 := own_ctE hm; have q38 := own_bz hm (i := 0) (by decide) hc38; have q54 := own_bz hm (i := 1) (by decide) hc54; have q70 := own_bz hm (i := 2) (by decide) hc70; have q87 := own_bo hm (i := 3) (by decide) hc87; have q104 := own_bz hm (i := 4) (by decide) hc104; omega
            refine ⟨b1, k1, rfl, g_b1, sz_b1, N3, KP, ?_⟩
            rw [hsel]; rw [hlen] at A_b1; exact A_b1
          · refine own_st T3 (mkF m_ 107 #[.val (.int mask), .val (.ref u), .val (.int (own_ct mask)), .val (.ref b1), .val (.int (1 : Int32))] []) (fun t_ k_ => XS.ifNo X3.here hx rfl (hb hby dmethod_3_code_104) rfl ((if0 _ _).trans (feq hc104).1) k_) ?_
            refine own_st T3 (mkF m_ 113 #[.val (.int mask), .val (.ref u), .val (.int (own_ct mask)), .val (.ref b1), .val (.int (1 : Int32))] [(.int (e 4)), (.int (1 : Int32)), (.ref b1)]) (fun t_ k_ => ?_) ?_
            · refine XS.aloadN X3.here hx rfl (hb hby dmethod_3_code_107) rfl rfl ?_
              show Steps p_.tables e_ below (T3.setTop (mkF m_ 108 #[.val (.int mask), .val (.ref u), .val (.int (own_ct mask)), .val (.ref b1), .val (.int (1 : Int32))] [(.ref b1)])) t_
              refine XS.iload X3.here hx rfl (hb hby dmethod_3_code_108) rfl ?_
              show Steps p_.tables e_ below (T3.setTop (mkF m_ 110 #[.val (.int mask), .val (.ref u), .val (.int (own_ct mask)), .val (.ref b1), .val (.int (1 : Int32))] [(.int (1 : Int32)), (.ref b1)])) t_
              refine XS.aloadN X3.here hx rfl (hb hby dmethod_3_code_110) rfl rfl ?_
              show Steps p_.tables e_ below (T3.setTop (mkF m_ 111 #[.val (.int mask), .val (.ref u), .val (.int (own_ct mask)), .val (.ref b1), .val (.int (1 : Int32))] [(.ref u), (.int (1 : Int32)), (.ref b1)])) t_
              refine XS.iconst X3.here hx rfl (hb hby dmethod_3_code_111) ?_
              show Steps p_.tables e_ below (T3.setTop (mkF m_ 112 #[.val (.int mask), .val (.ref u), .val (.int (own_ct mask)), .val (.ref b1), .val (.int (1 : Int32))] [(.int (4 : Int32)), (.ref u), (.int (1 : Int32)), (.ref b1)])) t_
              refine own_ldI X3 hx hZ e3 U 4 (by decide) (by decide) (hb hby dmethod_3_code_112) _ ?_
              show Steps p_.tables e_ below (T3.setTop (mkF m_ 113 #[.val (.int mask), .val (.ref u), .val (.int (own_ct mask)), .val (.ref b1), .val (.int (1 : Int32))] [(.int (e 4)), (.int (1 : Int32)), (.ref b1)])) t_
              exact k_
            obtain ⟨T4, h4, X4, e4, W4, st4⟩ := own_stI X3 hx hZ e3 A_b1 1 (by decide) (by have q0 := own_ctE hm; have q38 := own_bz hm (i := 0) (by decide) hc38; have q54 := own_bz hm (i := 1) (by decide) hc54; have q70 := own_bz hm (i := 2) (by decide) hc70; have q87 := own_bo hm (i := 3) (by decide) hc87; have q104 := own_bo hm (i := 4) (by decide) hc104; omega) (j := (1 : Int32)) (x := (e 4)) (Ls := #[.val (.int mask), .val (.ref u), .val (.int (own_ct mask)), .val (.ref b1), .val (.int (1 : Int32))]) (rest := []) (hb hby dmethod_3_code_113)
            have N4 := Fr.snoc X4 N3 g_b1
            replace Z0 : n0 ≤ h4.size := W4.size ▸ Z0
            replace KP := KP.wr W4 (Or.inr sz_b1)
            replace U := U.other W4 ne_u_b1
            replace A_b1 : own_A Z h4 b1 k1 .int (own_ctn mask) (fun x_ => .int (([(e 3), (e 4)] : List Int32).getD x_ 0)) := A_b1.snocI (L := [(e 3)]) (i := 1) (by have q0 := own_ctE hm; have q38 := own_bz hm (i := 0) (by decide) hc38; have q54 := own_bz hm (i := 1) (by decide) hc54; have q70 := own_bz hm (i := 2) (by decide) hc70; have q87 := own_bo hm (i := 3) (by decide) hc87; have q104 := own_bo hm (i := 4) (by decide) hc104; omega) rfl W4
            refine own_st T4 (mkF m_ 114 #[.val (.int mask), .val (.ref u), .val (.int (own_ct mask)), .val (.ref b1), .val (.int (1 : Int32))] []) st4 ?_
            refine own_st T4 (mkF m_ 118 #[.val (.int mask), .val (.ref u), .val (.int (own_ct mask)), .val (.ref b1), .val (.int (2 : Int32))] [(.ref b1)]) (fun t_ k_ => ?_) ?_
            · refine XS.iinc X4.here hx rfl (hb hby dmethod_3_code_114) rfl (l' := #[.val (.int mask), .val (.ref u), .val (.int (own_ct mask)), .val (.ref b1), .val (.int (2 : Int32))]) rfl ?_
              show Steps p_.tables e_ below (T4.setTop (mkF m_ 117 #[.val (.int mask), .val (.ref u), .val (.int (own_ct mask)), .val (.ref b1), .val (.int (2 : Int32))] [])) t_
              refine XS.aloadN X4.here hx rfl (hb hby dmethod_3_code_117) rfl rfl ?_
              show Steps p_.tables e_ below (T4.setTop (mkF m_ 118 #[.val (.int mask), .val (.ref u), .val (.int (own_ct mask)), .val (.ref b1), .val (.int (2 : Int32))] [(.ref b1)])) t_
              exact k_
            refine own_retA X4 hx hlk hret rfl rfl (hb hby dmethod_3_code_118) (by decide) (by decide) ?_
            rw [e4]
            have hsel : own_sel mask e = [(e 3), (e 4)] := by simp only [own_sel, if_pos hc38, if_pos hc54, if_pos hc70, if_neg hc87, if_neg hc104]; rfl
            have hlen : own_ctn mask = 2 := by have q0 := own_ctE hm; have q38 := own_bz hm (i := 0) (by decide) hc38; have q54 := own_bz hm (i := 1) (by decide) hc54; have q70 := own_bz hm (i := 2) (by decide) hc70; have q87 := own_bo hm (i := 3) (by decide) hc87; have q104 := own_bo hm (i := 4) (by decide) hc104; omega
            refine ⟨b1, k1, rfl, g_b1, sz_b1, N4, KP, ?_⟩
            rw [hsel]; rw [hlen] at A_b1; exact A_b1
      · refine own_st T1 (mkF m_ 73 #[.val (.int mask), .val (.ref u), .val (.int (own_ct mask)), .val (.ref b1), .val (.int (0 : Int32))] []) (fun t_ k_ => XS.ifNo X1.here hx rfl (hb hby dmethod_3_code_70) rfl ((if0 _ _).trans (feq hc70).1) k_) ?_
        refine own_st T1 (mkF m_ 79 #[.val (.int mask), .val (.ref u), .val (.int (own_ct mask)), .val (.ref b1), .val (.int (0 : Int32))] [(.int (e 2)), (.int (0 : Int32)), (.ref b1)]) (fun t_ k_ => ?_) ?_
        · refine XS.aloadN X1.here hx rfl (hb hby dmethod_3_code_73) rfl rfl ?_
          show Steps p_.tables e_ below (T1.setTop (mkF m_ 74 #[.val (.int mask), .val (.ref u), .val (.int (own_ct mask)), .val (.ref b1), .val (.int (0 : Int32))] [(.ref b1)])) t_
          refine XS.iload X1.here hx rfl (hb hby dmethod_3_code_74) rfl ?_
          show Steps p_.tables e_ below (T1.setTop (mkF m_ 76 #[.val (.int mask), .val (.ref u), .val (.int (own_ct mask)), .val (.ref b1), .val (.int (0 : Int32))] [(.int (0 : Int32)), (.ref b1)])) t_
          refine XS.aloadN X1.here hx rfl (hb hby dmethod_3_code_76) rfl rfl ?_
          show Steps p_.tables e_ below (T1.setTop (mkF m_ 77 #[.val (.int mask), .val (.ref u), .val (.int (own_ct mask)), .val (.ref b1), .val (.int (0 : Int32))] [(.ref u), (.int (0 : Int32)), (.ref b1)])) t_
          refine XS.iconst X1.here hx rfl (hb hby dmethod_3_code_77) ?_
          show Steps p_.tables e_ below (T1.setTop (mkF m_ 78 #[.val (.int mask), .val (.ref u), .val (.int (own_ct mask)), .val (.ref b1), .val (.int (0 : Int32))] [(.int (2 : Int32)), (.ref u), (.int (0 : Int32)), (.ref b1)])) t_
          refine own_ldI X1 hx hZ e1 U 2 (by decide) (by decide) (hb hby dmethod_3_code_78) _ ?_
          show Steps p_.tables e_ below (T1.setTop (mkF m_ 79 #[.val (.int mask), .val (.ref u), .val (.int (own_ct mask)), .val (.ref b1), .val (.int (0 : Int32))] [(.int (e 2)), (.int (0 : Int32)), (.ref b1)])) t_
          exact k_
        obtain ⟨T5, h5, X5, e5, W5, st5⟩ := own_stI X1 hx hZ e1 A_b1 0 (by decide) (by have q0 := own_ctE hm; have q38 := own_bz hm (i := 0) (by decide) hc38; have q54 := own_bz hm (i := 1) (by decide) hc54; have q70 := own_bo hm (i := 2) (by decide) hc70; omega) (j := (0 : Int32)) (x := (e 2)) (Ls := #[.val (.int mask), .val (.ref u), .val (.int (own_ct mask)), .val (.ref b1), .val (.int (0 : Int32))]) (rest := []) (hb hby dmethod_3_code_79)
        have N5 := Fr.snoc X5 N0 g_b1
        replace Z0 : n0 ≤ h5.size := W5.size ▸ Z0
        replace KP := KP.wr W5 (Or.inr sz_b1)
        replace U := U.other W5 ne_u_b1
        replace A_b1 : own_A Z h5 b1 k1 .int (own_ctn mask) (fun x_ => .int (([(e 2)] : List Int32).getD x_ 0)) := A_b1.snocI (L := []) (i := 0) (by have q0 := own_ctE hm; have q38 := own_bz hm (i := 0) (by decide) hc38; have q54 := own_bz hm (i := 1) (by decide) hc54; have q70 := own_bo hm (i := 2) (by decide) hc70; omega) rfl W5
        refine own_st T5 (mkF m_ 80 #[.val (.int mask), .val (.ref u), .val (.int (own_ct mask)), .val (.ref b1), .val (.int (0 : Int32))] []) st5 ?_
        refine own_st T5 (mkF m_ 87 #[.val (.int mask), .val (.ref u), .val (.int (own_ct mask)), .val (.ref b1), .val (.int (1 : Int32))] [(.int (mask &&& (8 : Int32)))]) (fun t_ k_ => ?_) ?_
        · refine XS.iinc X5.here hx rfl (hb hby dmethod_3_code_80) rfl (l' := #[.val (.int mask), .val (.ref u), .val (.int (own_ct mask)), .val (.ref b1), .val (.int (1 : Int32))]) rfl ?_
          show Steps p_.tables e_ below (T5.setTop (mkF m_ 83 #[.val (.int mask), .val (.ref u), .val (.int (own_ct mask)), .val (.ref b1), .val (.int (1 : Int32))] [])) t_
          refine XS.iloadN X5.here hx rfl (hb hby dmethod_3_code_83) rfl ?_
          show Steps p_.tables e_ below (T5.setTop (mkF m_ 84 #[.val (.int mask), .val (.ref u), .val (.int (own_ct mask)), .val (.ref b1), .val (.int (1 : Int32))] [(.int mask)])) t_
          refine XS.bipush X5.here hx rfl (hb hby dmethod_3_code_84) ?_
          show Steps p_.tables e_ below (T5.setTop (mkF m_ 86 #[.val (.int mask), .val (.ref u), .val (.int (own_ct mask)), .val (.ref b1), .val (.int (1 : Int32))] [(.int (8 : Int32)), (.int mask)])) t_
          refine XS.iand X5.here hx rfl (hb hby dmethod_3_code_86) rfl ?_
          show Steps p_.tables e_ below (T5.setTop (mkF m_ 87 #[.val (.int mask), .val (.ref u), .val (.int (own_ct mask)), .val (.ref b1), .val (.int (1 : Int32))] [(.int (mask &&& (8 : Int32)))])) t_
          exact k_
        by_cases hc87 : (mask &&& (8 : Int32)) = (0 : Int32)
        · refine own_st T5 (mkF m_ 100 #[.val (.int mask), .val (.ref u), .val (.int (own_ct mask)), .val (.ref b1), .val (.int (1 : Int32))] []) (fun t_ k_ => XS.ifYes X5.here hx rfl (pc0 := 87) (pc' := 100) rfl (hb hby dmethod_3_code_87) rfl ((if0 _ _).trans (teq hc87).1) (by decide) (by decide) k_) ?_
          refine own_st T5 (mkF m_ 104 #[.val (.int mask), .val (.ref u), .val (.int (own_ct mask)), .val (.ref b1), .val (.int (1 : Int32))] [(.int (mask &&& (16 : Int32)))]) (fun t_ k_ => ?_) ?_
          · refine XS.iloadN X5.here hx rfl (hb hby dmethod_3_code_100) rfl ?_
            show Steps p_.tables e_ below (T5.setTop (mkF m_ 101 #[.val (.int mask), .val (.ref u), .val (.int (own_ct mask)), .val (.ref b1), .val (.int (1 : Int32))] [(.int mask)])) t_
            refine XS.bipush X5.here hx rfl (hb hby dmethod_3_code_101) ?_
            show Steps p_.tables e_ below (T5.setTop (mkF m_ 103 #[.val (.int mask), .val (.ref u), .val (.int (own_ct mask)), .val (.ref b1), .val (.int (1 : Int32))] [(.int (16 : Int32)), (.int mask)])) t_
            refine XS.iand X5.here hx rfl (hb hby dmethod_3_code_103) rfl ?_
            show Steps p_.tables e_ below (T5.setTop (mkF m_ 104 #[.val (.int mask), .val (.ref u), .val (.int (own_ct mask)), .val (.ref b1), .val (.int (1 : Int32))] [(.int (mask &&& (16 : Int32)))])) t_
            exact k_
          by_cases hc104 : (mask &&& (16 : Int32)) = (0 : Int32)
          · refine own_st T5 (mkF m_ 117 #[.val (.int mask), .val (.ref u), .val (.int (own_ct mask)), .val (.ref b1), .val (.int (1 : Int32))] []) (fun t_ k_ => XS.ifYes X5.here hx rfl (pc0 := 104) (pc' := 117) rfl (hb hby dmethod_3_code_104) rfl ((if0 _ _).trans (teq hc104).1) (by decide) (by decide) k_) ?_
            refine own_st T5 (mkF m_ 118 #[.val (.int mask), .val (.ref u), .val (.int (own_ct mask)), .val (.ref b1), .val (.int (1 : Int32))] [(.ref b1)]) (fun t_ k_ => ?_) ?_
            · refine XS.aloadN X5.here hx rfl (hb hby dmethod_3_code_117) rfl rfl ?_
              show Steps p_.tables e_ below (T5.setTop (mkF m_ 118 #[.val (.int mask), .val (.ref u), .val (.int (own_ct mask)), .val (.ref b1), .val (.int (1 : Int32))] [(.ref b1)])) t_
              exact k_
            refine own_retA X5 hx hlk hret rfl rfl (hb hby dmethod_3_code_118) (by decide) (by decide) ?_
            rw [e5]
            have hsel : own_sel mask e = [(e 2)] := by simp only [own_sel, if_pos hc38, if_pos hc54, if_neg hc70, if_pos hc87, if_pos hc104]; rfl
            have hlen : own_ctn mask = 1 := by have q0 := own_ctE hm; have q38 := own_bz hm (i := 0) (by decide) hc38; have q54 := own_bz hm (i := 1) (by decide) hc54; have q70 := own_bo hm (i := 2) (by decide) hc70; have q87 := own_bz hm (i := 3) (by decide) hc87; have q104 := own_bz hm (i := 4) (by decide) hc104; omega
            refine ⟨b1, k1, rfl, g_b1, sz_b1, N5, KP, ?_⟩
            rw [hsel]; rw [hlen] at A_b1; exact A_b1
          · refine own_st T5 (mkF m_ 107 #[.val (.int mask), .val (.ref u), .val (.int (own_ct mask)), .val (.ref b1), .val (.int (1 : Int32))] []) (fun t_ k_ => XS.ifNo X5.here hx rfl (hb hby dmethod_3_code_104) rfl ((if0 _ _).trans (feq hc104).1) k_) ?_
            refine own_st T5 (mkF m_ 113 #[.val (.int mask), .val (.ref u), .val (.int (own_ct mask)), .val (.ref b1), .val (.int (1 : Int32))] [(.int (e 4)), (.int (1 : Int32)), (.ref b1)]) (fun t_ k_ => ?_) ?_
            · refine XS.aloadN X5.here hx rfl (hb hby dmethod_3_code_107) rfl rfl ?_
              show Steps p_.tables e_ below (T5.setTop (mkF m_ 108 #[.val (.int mask), .val (.ref u), .val (.int (own_ct mask)), .val (.ref b1), .val (.int (1 : Int32))] [(.ref b1)])) t_
              refine XS.iload X5.here hx rfl (hb hby dmethod_3_code_108) rfl ?_
              show Steps p_.tables e_ below (T5.setTop (mkF m_ 110 #[.val (.int mask), .val (.ref u), .val (.int (own_ct mask)), .val (.ref b1), .val (.int (1 : Int32))] [(.int (1 : Int32)), (.ref b1)])) t_
              refine XS.aloadN X5.here hx rfl (hb hby dmethod_3_code_110) rfl rfl ?_
              show Steps p_.tables e_ below (T5.setTop (mkF m_ 111 #[.val (.int mask), .val (.ref u), .val (.int (own_ct mask)), .val (.ref b1), .val (.int (1 : Int32))] [(.ref u), (.int (1 : Int32)), (.ref b1)])) t_
              refine XS.iconst X5.here hx rfl (hb hby dmethod_3_code_111) ?_
              show Steps p_.tables e_ below (T5.setTop (mkF m_ 112 #[.val (.int mask), .val (.ref u), .val (.int (own_ct mask)), .val (.ref b1), .val (.int (1 : Int32))] [(.int (4 : Int32)), (.ref u), (.int (1 : Int32)), (.ref b1)])) t_
              refine own_ldI X5 hx hZ e5 U 4 (by decide) (by decide) (hb hby dmethod_3_code_112) _ ?_
              show Steps p_.tables e_ below (T5.setTop (mkF m_ 113 #[.val (.int mask), .val (.ref u), .val (.int (own_ct mask)), .val (.ref b1), .val (.int (1 : Int32))] [(.int (e 4)), (.int (1 : Int32)), (.ref b1)])) t_
              exact k_
            obtain ⟨T6, h6, X6, e6, W6, st6⟩ := own_stI X5 hx hZ e5 A_b1 1 (by decide) (by have q0 := own_ctE hm; have q38 := own_bz hm (i := 0) (by decide) hc38; have q54 := own_bz hm (i := 1) (by decide) hc54; have q70 := own_bo hm (i := 2) (by decide) hc70; have q87 := own_bz hm (i := 3) (by decide) hc87; have q104 := own_bo hm (i := 4) (by decide) hc104; omega) (j := (1 : Int32)) (x := (e 4)) (Ls := #[.val (.int mask), .val (.ref u), .val (.int (own_ct mask)), .val (.ref b1), .val (.int (1 : Int32))]) (rest := []) (hb hby dmethod_3_code_113)
            have N6 := Fr.snoc X6 N5 g_b1
            replace Z0 : n0 ≤ h6.size := W6.size ▸ Z0
            replace KP := KP.wr W6 (Or.inr sz_b1)
            replace U := U.other W6 ne_u_b1
            replace A_b1 : own_A Z h6 b1 k1 .int (own_ctn mask) (fun x_ => .int (([(e 2), (e 4)] : List Int32).getD x_ 0)) := A_b1.snocI (L := [(e 2)]) (i := 1) (by have q0 := own_ctE hm; have q38 := own_bz hm (i := 0) (by decide) hc38; have q54 := own_bz hm (i := 1) (by decide) hc54; have q70 := own_bo hm (i := 2) (by decide) hc70; have q87 := own_bz hm (i := 3) (by decide) hc87; have q104 := own_bo hm (i := 4) (by decide) hc104; omega) rfl W6
            refine own_st T6 (mkF m_ 114 #[.val (.int mask), .val (.ref u), .val (.int (own_ct mask)), .val (.ref b1), .val (.int (1 : Int32))] []) st6 ?_
            refine own_st T6 (mkF m_ 118 #[.val (.int mask), .val (.ref u), .val (.int (own_ct mask)), .val (.ref b1), .val (.int (2 : Int32))] [(.ref b1)]) (fun t_ k_ => ?_) ?_
            · refine XS.iinc X6.here hx rfl (hb hby dmethod_3_code_114) rfl (l' := #[.val (.int mask), .val (.ref u), .val (.int (own_ct mask)), .val (.ref b1), .val (.int (2 : Int32))]) rfl ?_
              show Steps p_.tables e_ below (T6.setTop (mkF m_ 117 #[.val (.int mask), .val (.ref u), .val (.int (own_ct mask)), .val (.ref b1), .val (.int (2 : Int32))] [])) t_
              refine XS.aloadN X6.here hx rfl (hb hby dmethod_3_code_117) rfl rfl ?_
              show Steps p_.tables e_ below (T6.setTop (mkF m_ 118 #[.val (.int mask), .val (.ref u), .val (.int (own_ct mask)), .val (.ref b1), .val (.int (2 : Int32))] [(.ref b1)])) t_
              exact k_
            refine own_retA X6 hx hlk hret rfl rfl (hb hby dmethod_3_code_118) (by decide) (by decide) ?_
            rw [e6]
            have hsel : own_sel mask e = [(e 2), (e 4)] := by simp only [own_sel, if_pos hc38, if_pos hc54, if_neg hc70, if_pos hc87, if_neg hc104]; rfl
            have hlen : own_ctn mask = 2 := by have q0 := own_ctE hm; have q38 := own_bz hm (i := 0) (by decide) hc38; have q54 := own_bz hm (i := 1) (by decide) hc54; have q70 := own_bo hm (i := 2) (by decide) hc70; have q87 := own_bz hm (i := 3) (by decide) hc87; have q104 := own_bo hm (i := 4) (by decide) hc104; omega
            refine ⟨b1, k1, rfl, g_b1, sz_b1, N6, KP, ?_⟩
            rw [hsel]; rw [hlen] at A_b1; exact A_b1
        · refine own_st T5 (mkF m_ 90 #[.val (.int mask), .val (.ref u), .val (.int (own_ct mask)), .val (.ref b1), .val (.int (1 : Int32))] []) (fun t_ k_ => XS.ifNo X5.here hx rfl (hb hby dmethod_3_code_87) rfl ((if0 _ _).trans (feq hc87).1) k_) ?_
          refine own_st T5 (mkF m_ 96 #[.val (.int mask), .val (.ref u), .val (.int (own_ct mask)), .val (.ref b1), .val (.int (1 : Int32))] [(.int (e 3)), (.int (1 : Int32)), (.ref b1)]) (fun t_ k_ => ?_) ?_
          · refine XS.aloadN X5.here hx rfl (hb hby dmethod_3_code_90) rfl rfl ?_
            show Steps p_.tables e_ below (T5.setTop (mkF m_ 91 #[.val (.int mask), .val (.ref u), .val (.int (own_ct mask)), .val (.ref b1), .val (.int (1 : Int32))] [(.ref b1)])) t_
            refine XS.iload X5.here hx rfl (hb hby dmethod_3_code_91) rfl ?_
            show Steps p_.tables e_ below (T5.setTop (mkF m_ 93 #[.val (.int mask), .val (.ref u), .val (.int (own_ct mask)), .val (.ref b1), .val (.int (1 : Int32))] [(.int (1 : Int32)), (.ref b1)])) t_
            refine XS.aloadN X5.here hx rfl (hb hby dmethod_3_code_93) rfl rfl ?_
            show Steps p_.tables e_ below (T5.setTop (mkF m_ 94 #[.val (.int mask), .val (.ref u), .val (.int (own_ct mask)), .val (.ref b1), .val (.int (1 : Int32))] [(.ref u), (.int (1 : Int32)), (.ref b1)])) t_
            refine XS.iconst X5.here hx rfl (hb hby dmethod_3_code_94) ?_
            show Steps p_.tables e_ below (T5.setTop (mkF m_ 95 #[.val (.int mask), .val (.ref u), .val (.int (own_ct mask)), .val (.ref b1), .val (.int (1 : Int32))] [(.int (3 : Int32)), (.ref u), (.int (1 : Int32)), (.ref b1)])) t_
            refine own_ldI X5 hx hZ e5 U 3 (by decide) (by decide) (hb hby dmethod_3_code_95) _ ?_
            show Steps p_.tables e_ below (T5.setTop (mkF m_ 96 #[.val (.int mask), .val (.ref u), .val (.int (own_ct mask)), .val (.ref b1), .val (.int (1 : Int32))] [(.int (e 3)), (.int (1 : Int32)), (.ref b1)])) t_
            exact k_
          obtain ⟨T7, h7, X7, e7, W7, st7⟩ := own_stI X5 hx hZ e5 A_b1 1 (by decide) (by have q0 := own_ctE hm; have q38 := own_bz hm (i := 0) (by decide) hc38; have q54 := own_bz hm (i := 1) (by decide) hc54; have q70 := own_bo hm (i := 2) (by decide) hc70; have q87 := own_bo hm (i := 3) (by decide) hc87; omega) (j := (1 : Int32)) (x := (e 3)) (Ls := #[.val (.int mask), .val (.ref u), .val (.int (own_ct mask)), .val (.ref b1), .val (.int (1 : Int32))]) (rest := []) (hb hby dmethod_3_code_96)
          have N7 := Fr.snoc X7 N5 g_b1
          replace Z0 : n0 ≤ h7.size := W7.size ▸ Z0
          replace KP := KP.wr W7 (Or.inr sz_b1)
          replace U := U.other W7 ne_u_b1
          replace A_b1 : own_A Z h7 b1 k1 .int (own_ctn mask) (fun x_ => .int (([(e 2), (e 3)] : List Int32).getD x_ 0)) := A_b1.snocI (L := [(e 2)]) (i := 1) (by have q0 := own_ctE hm; have q38 := own_bz hm (i := 0) (by decide) hc38; have q54 := own_bz hm (i := 1) (by decide) hc54; have q70 := own_bo hm (i := 2) (by decide) hc70; have q87 := own_bo hm (i := 3) (by decide) hc87; omega) rfl W7
          refine own_st T7 (mkF m_ 97 #[.val (.int mask), .val (.ref u), .val (.int (own_ct mask)), .val (.ref b1), .val (.int (1 : Int32))] []) st7 ?_
          refine own_st T7 (mkF m_ 104 #[.val (.int mask), .val (.ref u), .val (.int (own_ct mask)), .val (.ref b1), .val (.int (2 : Int32))] [(.int (mask &&& (16 : Int32)))]) (fun t_ k_ => ?_) ?_
          · refine XS.iinc X7.here hx rfl (hb hby dmethod_3_code_97) rfl (l' := #[.val (.int mask), .val (.ref u), .val (.int (own_ct mask)), .val (.ref b1), .val (.int (2 : Int32))]) rfl ?_
            show Steps p_.tables e_ below (T7.setTop (mkF m_ 100 #[.val (.int mask), .val (.ref u), .val (.int (own_ct mask)), .val (.ref b1), .val (.int (2 : Int32))] [])) t_
            refine XS.iloadN X7.here hx rfl (hb hby dmethod_3_code_100) rfl ?_
            show Steps p_.tables e_ below (T7.setTop (mkF m_ 101 #[.val (.int mask), .val (.ref u), .val (.int (own_ct mask)), .val (.ref b1), .val (.int (2 : Int32))] [(.int mask)])) t_
            refine XS.bipush X7.here hx rfl (hb hby dmethod_3_code_101) ?_
            show Steps p_.tables e_ below (T7.setTop (mkF m_ 103 #[.val (.int mask), .val (.ref u), .val (.int (own_ct mask)), .val (.ref b1), .val (.int (2 : Int32))] [(.int (16 : Int32)), (.int mask)])) t_
            refine XS.iand X7.here hx rfl (hb hby dmethod_3_code_103) rfl ?_
            show Steps p_.tables e_ below (T7.setTop (mkF m_ 104 #[.val (.int mask), .val (.ref u), .val (.int (own_ct mask)), .val (.ref b1), .val (.int (2 : Int32))] [(.int (mask &&& (16 : Int32)))])) t_
            exact k_
          by_cases hc104 : (mask &&& (16 : Int32)) = (0 : Int32)
          · refine own_st T7 (mkF m_ 117 #[.val (.int mask), .val (.ref u), .val (.int (own_ct mask)), .val (.ref b1), .val (.int (2 : Int32))] []) (fun t_ k_ => XS.ifYes X7.here hx rfl (pc0 := 104) (pc' := 117) rfl (hb hby dmethod_3_code_104) rfl ((if0 _ _).trans (teq hc104).1) (by decide) (by decide) k_) ?_
            refine own_st T7 (mkF m_ 118 #[.val (.int mask), .val (.ref u), .val (.int (own_ct mask)), .val (.ref b1), .val (.int (2 : Int32))] [(.ref b1)]) (fun t_ k_ => ?_) ?_
            · refine XS.aloadN X7.here hx rfl (hb hby dmethod_3_code_117) rfl rfl ?_
              show Steps p_.tables e_ below (T7.setTop (mkF m_ 118 #[.val (.int mask), .val (.ref u), .val (.int (own_ct mask)), .val (.ref b1), .val (.int (2 : Int32))] [(.ref b1)])) t_
              exact k_
            refine own_retA X7 hx hlk hret rfl rfl (hb hby dmethod_3_code_118) (by decide) (by decide) ?_
            rw [e7]
            have hsel : own_sel mask e = [(e 2), (e 3)] := by simp only [own_sel, if_pos hc38, if_pos hc54, if_neg hc70, if_neg hc87, if_pos hc104]; rfl
            have hlen : own_ctn mask = 2 := by have q0 := own_ctE hm; have q38 := own_bz hm (i := 0) (by decide) hc38; have q54 := own_bz hm (i := 1) (by decide) hc54; have q70 := own_bo hm (i := 2) (by decide) hc70; have q87 := own_bo hm (i := 3) (by decide) hc87; have q104 := own_bz hm (i := 4) (by decide) hc104; omega
            refine ⟨b1, k1, rfl, g_b1, sz_b1, N7, KP, ?_⟩
            rw [hsel]; rw [hlen] at A_b1; exact A_b1
          · refine own_st T7 (mkF m_ 107 #[.val (.int mask), .val (.ref u), .val (.int (own_ct mask)), .val (.ref b1), .val (.int (2 : Int32))] []) (fun t_ k_ => XS.ifNo X7.here hx rfl (hb hby dmethod_3_code_104) rfl ((if0 _ _).trans (feq hc104).1) k_) ?_
            refine own_st T7 (mkF m_ 113 #[.val (.int mask), .val (.ref u), .val (.int (own_ct mask)), .val (.ref b1), .val (.int (2 : Int32))] [(.int (e 4)), (.int (2 : Int32)), (.ref b1)]) (fun t_ k_ => ?_) ?_
            · refine XS.aloadN X7.here hx rfl (hb hby dmethod_3_code_107) rfl rfl ?_
              show Steps p_.tables e_ below (T7.setTop (mkF m_ 108 #[.val (.int mask), .val (.ref u), .val (.int (own_ct mask)), .val (.ref b1), .val (.int (2 : Int32))] [(.ref b1)])) t_
              refine XS.iload X7.here hx rfl (hb hby dmethod_3_code_108) rfl ?_
              show Steps p_.tables e_ below (T7.setTop (mkF m_ 110 #[.val (.int mask), .val (.ref u), .val (.int (own_ct mask)), .val (.ref b1), .val (.int (2 : Int32))] [(.int (2 : Int32)), (.ref b1)])) t_
              refine XS.aloadN X7.here hx rfl (hb hby dmethod_3_code_110) rfl rfl ?_
              show Steps p_.tables e_ below (T7.setTop (mkF m_ 111 #[.val (.int mask), .val (.ref u), .val (.int (own_ct mask)), .val (.ref b1), .val (.int (2 : Int32))] [(.ref u), (.int (2 : Int32)), (.ref b1)])) t_
              refine XS.iconst X7.here hx rfl (hb hby dmethod_3_code_111) ?_
              show Steps p_.tables e_ below (T7.setTop (mkF m_ 112 #[.val (.int mask), .val (.ref u), .val (.int (own_ct mask)), .val (.ref b1), .val (.int (2 : Int32))] [(.int (4 : Int32)), (.ref u), (.int (2 : Int32)), (.ref b1)])) t_
              refine own_ldI X7 hx hZ e7 U 4 (by decide) (by decide) (hb hby dmethod_3_code_112) _ ?_
              show Steps p_.tables e_ below (T7.setTop (mkF m_ 113 #[.val (.int mask), .val (.ref u), .val (.int (own_ct mask)), .val (.ref b1), .val (.int (2 : Int32))] [(.int (e 4)), (.int (2 : Int32)), (.ref b1)])) t_
              exact k_
            obtain ⟨T8, h8, X8, e8, W8, st8⟩ := own_stI X7 hx hZ e7 A_b1 2 (by decide) (by have q0 := own_ctE hm; have q38 := own_bz hm (i := 0) (by decide) hc38; have q54 := own_bz hm (i := 1) (by decide) hc54; have q70 := own_bo hm (i := 2) (by decide) hc70; have q87 := own_bo hm (i := 3) (by decide) hc87; have q104 := own_bo hm (i := 4) (by decide) hc104; omega) (j := (2 : Int32)) (x := (e 4)) (Ls := #[.val (.int mask), .val (.ref u), .val (.int (own_ct mask)), .val (.ref b1), .val (.int (2 : Int32))]) (rest := []) (hb hby dmethod_3_code_113)
            have N8 := Fr.snoc X8 N7 g_b1
            replace Z0 : n0 ≤ h8.size := W8.size ▸ Z0
            replace KP := KP.wr W8 (Or.inr sz_b1)
            replace U := U.other W8 ne_u_b1
            replace A_b1 : own_A Z h8 b1 k1 .int (own_ctn mask) (fun x_ => .int (([(e 2), (e 3), (e 4)] : List Int32).getD x_ 0)) := A_b1.snocI (L := [(e 2), (e 3)]) (i := 2) (by have q0 := own_ctE hm; have q38 := own_bz hm (i := 0) (by decide) hc38; have q54 := own_bz hm (i := 1) (by decide) hc54; have q70 := own_bo hm (i := 2) (by decide) hc70; have q87 := own_bo hm (i := 3) (by decide) hc87; have q104 := own_bo hm (i := 4) (by decide) hc104; omega) rfl W8
            refine own_st T8 (mkF m_ 114 #[.val (.int mask), .val (.ref u), .val (.int (own_ct mask)), .val (.ref b1), .val (.int (2 : Int32))] []) st8 ?_
            refine own_st T8 (mkF m_ 118 #[.val (.int mask), .val (.ref u), .val (.int (own_ct mask)), .val (.ref b1), .val (.int (3 : Int32))] [(.ref b1)]) (fun t_ k_ => ?_) ?_
            · refine XS.iinc X8.here hx rfl (hb hby dmethod_3_code_114) rfl (l' := #[.val (.int mask), .val (.ref u), .val (.int (own_ct mask)), .val (.ref b1), .val (.int (3 : Int32))]) rfl ?_
              show Steps p_.tables e_ below (T8.setTop (mkF m_ 117 #[.val (.int mask), .val (.ref u), .val (.int (own_ct mask)), .val (.ref b1), .val (.int (3 : Int32))] [])) t_
              refine XS.aloadN X8.here hx rfl (hb hby dmethod_3_code_117) rfl rfl ?_
              show Steps p_.tables e_ below (T8.setTop (mkF m_ 118 #[.val (.int mask), .val (.ref u), .val (.int (own_ct mask)), .val (.ref b1), .val (.int (3 : Int32))] [(.ref b1)])) t_
              exact k_
            refine own_retA X8 hx hlk hret rfl rfl (hb hby dmethod_3_code_118) (by decide) (by decide) ?_
            rw [e8]
            have hsel : own_sel mask e = [(e 2), (e 3), (e 4)] := by simp only [own_sel, if_pos hc38, if_pos hc54, if_neg hc70, if_neg hc87, if_neg hc104]; rfl
            have hlen : own_ctn mask = 3 := by have q0 := own_ctE hm; have q38 := own_bz hm (i := 0) (by decide) hc38; have q54 := own_bz hm (i := 1) (by decide) hc54; have q70 := own_bo hm (i := 2) (by decide) hc70; have q87 := own_bo hm (i := 3) (by decide) hc87; have q104 := own_bo hm (i := 4) (by decide) hc104; omega
            refine ⟨b1, k1, rfl, g_b1, sz_b1, N8, KP, ?_⟩
            rw [hsel]; rw [hlen] at A_b1; exact A_b1
    · refine own_st T1 (mkF m_ 57 #[.val (.int mask), .val (.ref u), .val (.int (own_ct mask)), .val (.ref b1), .val (.int (0 : Int32))] []) (fun t_ k_ => XS.ifNo X1.here hx rfl (hb hby dmethod_3_code_54) rfl ((if0 _ _).trans (feq hc54).1) k_) ?_
      refine own_st T1 (mkF m_ 63 #[.val (.int mask), .val (.ref u), .val (.int (own_ct mask)), .val (.ref b1), .val (.int (0 : Int32))] [(.int (e 1)), (.int (0 : Int32)), (.ref b1)]) (fun t_ k_ => ?_) ?_
      · refine XS.aloadN X1.here hx rfl (hb hby dmethod_3_code_57) rfl rfl ?_
        show Steps p_.tables e_ below (T1.setTop (mkF m_ 58 #[.val (.int mask), .val (.ref u), .val (.int (own_ct mask)), .val (.ref b1), .val (.int (0 : Int32))] [(.ref b1)])) t_
        refine XS.iload X1.here hx rfl (hb hby dmethod_3_code_58) rfl ?_
        show Steps p_.tables e_ below (T1.setTop (mkF m_ 60 #[.val (.int mask), .val (.ref u), .val (.int (own_ct mask)), .val (.ref b1), .val (.int (0 : Int32))] [(.int (0 : Int32)), (.ref b1)])) t_
        refine XS.aloadN X1.here hx rfl (hb hby dmethod_3_code_60) rfl rfl ?_
        show Steps p_.tables e_ below (T1.setTop (mkF m_ 61 #[.val (.int mask), .val (.ref u), .val (.int (own_ct mask)), .val (.ref b1), .val (.int (0 : Int32))] [(.ref u), (.int (0 : Int32)), (.ref b1)])) t_
        refine XS.iconst X1.here hx rfl (hb hby dmethod_3_code_61) ?_
        show Steps p_.tables e_ below (T1.setTop (mkF m_ 62 #[.val (.int mask), .val (.ref u), .val (.int (own_ct mask)), .val (.ref b1), .val (.int (0 : Int32))] [(.int (1 : Int32)), (.ref u), (.int (0 : Int32)), (.ref b1)])) t_
        refine own_ldI X1 hx hZ e1 U 1 (by decide) (by decide) (hb hby dmethod_3_code_62) _ ?_
        show Steps p_.tables e_ below (T1.setTop (mkF m_ 63 #[.val (.int mask), .val (.ref u), .val (.int (own_ct mask)), .val (.ref b1), .val (.int (0 : Int32))] [(.int (e 1)), (.int (0 : Int32)), (.ref b1)])) t_
        exact k_
      obtain ⟨T9, h9, X9, e9, W9, st9⟩ := own_stI X1 hx hZ e1 A_b1 0 (by decide) (by have q0 := own_ctE hm; have q38 := own_bz hm (i := 0) (by decide) hc38; have q54 := own_bo hm (i := 1) (by decide) hc54; omega) (j := (0 : Int32)) (x := (e 1)) (Ls := #[.val (.int mask), .val (.ref u), .val (.int (own_ct mask)), .val (.ref b1), .val (.int (0 : Int32))]) (rest := []) (hb hby dmethod_3_code_63)
      have N9 := Fr.snoc X9 N0 g_b1
      replace Z0 : n0 ≤ h9.size := W9.size ▸ Z0
      replace KP := KP.wr W9 (Or.inr sz_b1)
      replace U := U.other W9 ne_u_b1
      replace A_b1 : own_A Z h9 b1 k1 .int (own_ctn mask) (fun x_ => .int (([(e 1)] : List Int32).getD x_ 0)) := A_b1.snocI (L := []) (i := 0) (by have q0 := own_ctE hm; have q38 := own_bz hm (i := 0) (by decide) hc38; have q54 := own_bo hm (i := 1) (by decide) hc54; omega) rfl W9
      refine own_st T9 (mkF m_ 64 #[.val (.int mask), .val (.ref u), .val (.int (own_ct mask)), .val (.ref b1), .val (.int (0 : Int32))] []) st9 ?_
      refine own_st T9 (mkF m_ 70 #[.val (.int mask), .val (.ref u), .val (.int (own_ct mask)), .val (.ref b1), .val (.int (1 : Int32))] [(.int (mask &&& (4 : Int32)))]) (fun t_ k_ => ?_) ?_
      · refine XS.iinc X9.here hx rfl (hb hby dmethod_3_code_64) rfl (l' := #[.val (.int mask), .val (.ref u), .val (.int (own_ct mask)), .val (.ref b1), .val (.int (1 : Int32))]) rfl ?_
        show Steps p_.tables e_ below (T9.setTop (mkF m_ 67 #[.val (.int mask), .val (.ref u), .val (.int (own_ct mask)), .val (.ref b1), .val (.int (1 : Int32))] [])) t_
        refine XS.iloadN X9.here hx rfl (hb hby dmethod_3_code_67) rfl ?_
        show Steps p_.tables e_ below (T9.setTop (mkF m_ 68 #[.val (.int mask), .val (.ref u), .val (.int (own_ct mask)), .val (.ref b1), .val (.int (1 : Int32))] [(.int mask)])) t_
        refine XS.iconst X9.here hx rfl (hb hby dmethod_3_code_68) ?_
        show Steps p_.tables e_ below (T9.setTop (mkF m_ 69 #[.val (.int mask), .val (.ref u), .val (.int (own_ct mask)), .val (.ref b1), .val (.int (1 : Int32))] [(.int (4 : Int32)), (.int mask)])) t_
        refine XS.iand X9.here hx rfl (hb hby dmethod_3_code_69) rfl ?_
        show Steps p_.tables e_ below (T9.setTop (mkF m_ 70 #[.val (.int mask), .val (.ref u), .val (.int (own_ct mask)), .val (.ref b1), .val (.int (1 : Int32))] [(.int (mask &&& (4 : Int32)))])) t_
        exact k_
      by_cases hc70 : (mask &&& (4 : Int32)) = (0 : Int32)
      · refine own_st T9 (mkF m_ 83 #[.val (.int mask), .val (.ref u), .val (.int (own_ct mask)), .val (.ref b1), .val (.int (1 : Int32))] []) (fun t_ k_ => XS.ifYes X9.here hx rfl (pc0 := 70) (pc' := 83) rfl (hb hby dmethod_3_code_70) rfl ((if0 _ _).trans (teq hc70).1) (by decide) (by decide) k_) ?_
        refine own_st T9 (mkF m_ 87 #[.val (.int mask), .val (.ref u), .val (.int (own_ct mask)), .val (.ref b1), .val (.int (1 : Int32))] [(.int (mask &&& (8 : Int32)))]) (fun t_ k_ => ?_) ?_
        · refine XS.iloadN X9.here hx rfl (hb hby dmethod_3_code_83) rfl ?_
          show Steps p_.tables e_ below (T9.setTop (mkF m_ 84 #[.val (.int mask), .val (.ref u), .val (.int (own_ct mask)), .val (.ref b1), .val (.int (1 : Int32))] [(.int mask)])) t_
          refine XS.bipush X9.here hx rfl (hb hby dmethod_3_code_84) ?_
          show Steps p_.tables e_ below (T9.setTop (mkF m_ 86 #[.val (.int mask), .val (.ref u), .val (.int (own_ct mask)), .val (.ref b1), .val (.int (1 : Int32))] [(.int (8 : Int32)), (.int mask)])) t_
          refine XS.iand X9.here hx rfl (hb hby dmethod_3_code_86) rfl ?_
          show Steps p_.tables e_ below (T9.setTop (mkF m_ 87 #[.val (.int mask), .val (.ref u), .val (.int (own_ct mask)), .val (.ref b1), .val (.int (1 : Int32))] [(.int (mask &&& (8 : Int32)))])) t_
          exact k_
        by_cases hc87 : (mask &&& (8 : Int32)) = (0 : Int32)
        · refine own_st T9 (mkF m_ 100 #[.val (.int mask), .val (.ref u), .val (.int (own_ct mask)), .val (.ref b1), .val (.int (1 : Int32))] []) (fun t_ k_ => XS.ifYes X9.here hx rfl (pc0 := 87) (pc' := 100) rfl (hb hby dmethod_3_code_87) rfl ((if0 _ _).trans (teq hc87).1) (by decide) (by decide) k_) ?_
          refine own_st T9 (mkF m_ 104 #[.val (.int mask), .val (.ref u), .val (.int (own_ct mask)), .val (.ref b1), .val (.int (1 : Int32))] [(.int (mask &&& (16 : Int32)))]) (fun t_ k_ => ?_) ?_
          · refine XS.iloadN X9.here hx rfl (hb hby dmethod_3_code_100) rfl ?_
            show Steps p_.tables e_ below (T9.setTop (mkF m_ 101 #[.val (.int mask), .val (.ref u), .val (.int (own_ct mask)), .val (.ref b1), .val (.int (1 : Int32))] [(.int mask)])) t_
            refine XS.bipush X9.here hx rfl (hb hby dmethod_3_code_101) ?_
            show Steps p_.tables e_ below (T9.setTop (mkF m_ 103 #[.val (.int mask), .val (.ref u), .val (.int (own_ct mask)), .val (.ref b1), .val (.int (1 : Int32))] [(.int (16 : Int32)), (.int mask)])) t_
            refine XS.iand X9.here hx rfl (hb hby dmethod_3_code_103) rfl ?_
            show Steps p_.tables e_ below (T9.setTop (mkF m_ 104 #[.val (.int mask), .val (.ref u), .val (.int (own_ct mask)), .val (.ref b1), .val (.int (1 : Int32))] [(.int (mask &&& (16 : Int32)))])) t_
            exact k_
          by_cases hc104 : (mask &&& (16 : Int32)) = (0 : Int32)
          · refine own_st T9 (mkF m_ 117 #[.val (.int mask), .val (.ref u), .val (.int (own_ct mask)), .val (.ref b1), .val (.int (1 : Int32))] []) (fun t_ k_ => XS.ifYes X9.here hx rfl (pc0 := 104) (pc' := 117) rfl (hb hby dmethod_3_code_104) rfl ((if0 _ _).trans (teq hc104).1) (by decide) (by decide) k_) ?_
            refine own_st T9 (mkF m_ 118 #[.val (.int mask), .val (.ref u), .val (.int (own_ct mask)), .val (.ref b1), .val (.int (1 : Int32))] [(.ref b1)]) (fun t_ k_ => ?_) ?_
            · refine XS.aloadN X9.here hx rfl (hb hby dmethod_3_code_117) rfl rfl ?_
              show Steps p_.tables e_ below (T9.setTop (mkF m_ 118 #[.val (.int mask), .val (.ref u), .val (.int (own_ct mask)), .val (.ref b1), .val (.int (1 : Int32))] [(.ref b1)])) t_
              exact k_
            refine own_retA X9 hx hlk hret rfl rfl (hb hby dmethod_3_code_118) (by decide) (by decide) ?_
            rw [e9]
            have hsel : own_sel mask e = [(e 1)] := by simp only [own_sel, if_pos hc38, if_neg hc54, if_pos hc70, if_pos hc87, if_pos hc104]; rfl
            have hlen : own_ctn mask = 1 := by have q0 := own_ctE hm; have q38 := own_bz hm (i := 0) (by decide) hc38; have q54 := own_bo hm (i := 1) (by decide) hc54; have q70 := own_bz hm (i := 2) (by decide) hc70; have q87 := own_bz hm (i := 3) (by decide) hc87; have q104 := own_bz hm (i := 4) (by decide) hc104; omega
            refine ⟨b1, k1, rfl, g_b1, sz_b1, N9, KP, ?_⟩
            rw [hsel]; rw [hlen] at A_b1; exact A_b1
          · refine own_st T9 (mkF m_ 107 #[.val (.int mask), .val (.ref u), .val (.int (own_ct mask)), .val (.ref b1), .val (.int (1 : Int32))] []) (fun t_ k_ => XS.ifNo X9.here hx rfl (hb hby dmethod_3_code_104) rfl ((if0 _ _).trans (feq hc104).1) k_) ?_
            refine own_st T9 (mkF m_ 113 #[.val (.int mask), .val (.ref u), .val (.int (own_ct mask)), .val (.ref b1), .val (.int (1 : Int32))] [(.int (e 4)), (.int (1 : Int32)), (.ref b1)]) (fun t_ k_ => ?_) ?_
            · refine XS.aloadN X9.here hx rfl (hb hby dmethod_3_code_107) rfl rfl ?_
              show Steps p_.tables e_ below (T9.setTop (mkF m_ 108 #[.val (.int mask), .val (.ref u), .val (.int (own_ct mask)), .val (.ref b1), .val (.int (1 : Int32))] [(.ref b1)])) t_
              refine XS.iload X9.here hx rfl (hb hby dmethod_3_code_108) rfl ?_
              show Steps p_.tables e_ below (T9.setTop (mkF m_ 110 #[.val (.int mask), .val (.ref u), .val (.int (own_ct mask)), .val (.ref b1), .val (.int (1 : Int32))] [(.int (1 : Int32)), (.ref b1)])) t_
              refine XS.aloadN X9.here hx rfl (hb hby dmethod_3_code_110) rfl rfl ?_
              show Steps p_.tables e_ below (T9.setTop (mkF m_ 111 #[.val (.int mask), .val (.ref u), .val (.int (own_ct mask)), .val (.ref b1), .val (.int (1 : Int32))] [(.ref u), (.int (1 : Int32)), (.ref b1)])) t_
              refine XS.iconst X9.here hx rfl (hb hby dmethod_3_code_111) ?_
              show Steps p_.tables e_ below (T9.setTop (mkF m_ 112 #[.val (.int mask), .val (.ref u), .val (.int (own_ct mask)), .val (.ref b1), .val (.int (1 : Int32))] [(.int (4 : Int32)), (.ref u), (.int (1 : Int32)), (.ref b1)])) t_
              refine own_ldI X9 hx hZ e9 U 4 (by decide) (by decide) (hb hby dmethod_3_code_112) _ ?_
              show Steps p_.tables e_ below (T9.setTop (mkF m_ 113 #[.val (.int mask), .val (.ref u), .val (.int (own_ct mask)), .val (.ref b1), .val (.int (1 : Int32))] [(.int (e 4)), (.int (1 : Int32)), (.ref b1)])) t_
              exact k_
            obtain ⟨T10, h10, X10, e10, W10, st10⟩ := own_stI X9 hx hZ e9 A_b1 1 (by decide) (by have q0 := own_ctE hm; have q38 := own_bz hm (i := 0) (by decide) hc38; have q54 := own_bo hm (i := 1) (by decide) hc54; have q70 := own_bz hm (i := 2) (by decide) hc70; have q87 := own_bz hm (i := 3) (by decide) hc87; have q104 := own_bo hm (i := 4) (by decide) hc104; omega) (j := (1 : Int32)) (x := (e 4)) (Ls := #[.val (.int mask), .val (.ref u), .val (.int (own_ct mask)), .val (.ref b1), .val (.int (1 : Int32))]) (rest := []) (hb hby dmethod_3_code_113)
            have N10 := Fr.snoc X10 N9 g_b1
            replace Z0 : n0 ≤ h10.size := W10.size ▸ Z0
            replace KP := KP.wr W10 (Or.inr sz_b1)
            replace U := U.other W10 ne_u_b1
            replace A_b1 : own_A Z h10 b1 k1 .int (own_ctn mask) (fun x_ => .int (([(e 1), (e 4)] : List Int32).getD x_ 0)) := A_b1.snocI (L := [(e 1)]) (i := 1) (by have q0 := own_ctE hm; have q38 := own_bz hm (i := 0) (by decide) hc38; have q54 := own_bo hm (i := 1) (by decide) hc54; have q70 := own_bz hm (i := 2) (by decide) hc70; have q87 := own_bz hm (i := 3) (by decide) hc87; have q104 := own_bo hm (i := 4) (by decide) hc104; omega) rfl W10
            refine own_st T10 (mkF m_ 114 #[.val (.int mask), .val (.ref u), .val (.int (own_ct mask)), .val (.ref b1), .val (.int (1 : Int32))] []) st10 ?_
            refine own_st T10 (mkF m_ 118 #[.val (.int mask), .val (.ref u), .val (.int (own_ct mask)), .val (.ref b1), .val (.int (2 : Int32))] [(.ref b1)]) (fun t_ k_ => ?_) ?_
            · refine XS.iinc X10.here hx rfl (hb hby dmethod_3_code_114) rfl (l' := #[.val (.int mask), .val (.ref u), .val (.int (own_ct mask)), .val (.ref b1), .val (.int (2 : Int32))]) rfl ?_
              show Steps p_.tables e_ below (T10.setTop (mkF m_ 117 #[.val (.int mask), .val (.ref u), .val (.int (own_ct mask)), .val (.ref b1), .val (.int (2 : Int32))] [])) t_
              refine XS.aloadN X10.here hx rfl (hb hby dmethod_3_code_117) rfl rfl ?_
              show Steps p_.tables e_ below (T10.setTop (mkF m_ 118 #[.val (.int mask), .val (.ref u), .val (.int (own_ct mask)), .val (.ref b1), .val (.int (2 : Int32))] [(.ref b1)])) t_
              exact k_
            refine own_retA X10 hx hlk hret rfl rfl (hb hby dmethod_3_code_118) (by decide) (by decide) ?_
            rw [e10]
            have hsel : own_sel mask e = [(e 1), (e 4)] := by simp only [own_sel, if_pos hc38, if_neg hc54, if_pos hc70, if_pos hc87, if_neg hc104]; rfl
            have hlen : own_ctn mask = 2 := by have q0 := own_ctE hm; have q38 := own_bz hm (i := 0) (by decide) hc38; have q54 := own_bo hm (i := 1) (by decide) hc54; have q70 := own_bz hm (i := 2) (by decide) hc70; have q87 := own_bz hm (i := 3) (by decide) hc87; have q104 := own_bo hm (i := 4) (by decide) hc104; omega
            refine ⟨b1, k1, rfl, g_b1, sz_b1, N10, KP, ?_⟩
            rw [hsel]; rw [hlen] at A_b1; exact A_b1
        · refine own_st T9 (mkF m_ 90 #[.val (.int mask), .val (.ref u), .val (.int (own_ct mask)), .val (.ref b1), .val (.int (1 : Int32))] []) (fun t_ k_ => XS.ifNo X9.here hx rfl (hb hby dmethod_3_code_87) rfl ((if0 _ _).trans (feq hc87).1) k_) ?_
          refine own_st T9 (mkF m_ 96 #[.val (.int mask), .val (.ref u), .val (.int (own_ct mask)), .val (.ref b1), .val (.int (1 : Int32))] [(.int (e 3)), (.int (1 : Int32)), (.ref b1)]) (fun t_ k_ => ?_) ?_
          · refine XS.aloadN X9.here hx rfl (hb hby dmethod_3_code_90) rfl rfl ?_
            show Steps p_.tables e_ below (T9.setTop (mkF m_ 91 #[.val (.int mask), .val (.ref u), .val (.int (own_ct mask)), .val (.ref b1), .val (.int (1 : Int32))] [(.ref b1)])) t_
            refine XS.iload X9.here hx rfl (hb hby dmethod_3_code_91) rfl ?_
            show Steps p_.tables e_ below (T9.setTop (mkF m_ 93 #[.val (.int mask), .val (.ref u), .val (.int (own_ct mask)), .val (.ref b1), .val (.int (1 : Int32))] [(.int (1 : Int32)), (.ref b1)])) t_
            refine XS.aloadN X9.here hx rfl (hb hby dmethod_3_code_93) rfl rfl ?_
            show Steps p_.tables e_ below (T9.setTop (mkF m_ 94 #[.val (.int mask), .val (.ref u), .val (.int (own_ct mask)), .val (.ref b1), .val (.int (1 : Int32))] [(.ref u), (.int (1 : Int32)), (.ref b1)])) t_
            refine XS.iconst X9.here hx rfl (hb hby dmethod_3_code_94) ?_
            show Steps p_.tables e_ below (T9.setTop (mkF m_ 95 #[.val (.int mask), .val (.ref u), .val (.int (own_ct mask)), .val (.ref b1), .val (.int (1 : Int32))] [(.int (3 : Int32)), (.ref u), (.int (1 : Int32)), (.ref b1)])) t_
            refine own_ldI X9 hx hZ e9 U 3 (by decide) (by decide) (hb hby dmethod_3_code_95) _ ?_
            show Steps p_.tables e_ below (T9.setTop (mkF m_ 96 #[.val (.int mask), .val (.ref u), .val (.int (own_ct mask)), .val (.ref b1), .val (.int (1 : Int32))] [(.int (e 3)), (.int (1 : Int32)), (.ref b1)])) t_
            exact k_
          obtain ⟨T11, h11, X11, e11, W11, st11⟩ := own_stI X9 hx hZ e9 A_b1 1 (by decide) (by have q0 := own_ctE hm; have q38 := own_bz hm (i := 0) (by decide) hc38; have q54 := own_bo hm (i := 1) (by decide) hc54; have q70 := own_bz hm (i := 2) (by decide) hc70; have q87 := own_bo hm (i := 3) (by decide) hc87; omega) (j := (1 : Int32)) (x := (e 3)) (Ls := #[.val (.int mask), .val (.ref u), .val (.int (own_ct mask)), .val (.ref b1), .val (.int (1 : Int32))]) (rest := []) (hb hby dmethod_3_code_96)
          have N11 := Fr.snoc X11 N9 g_b1
          replace Z0 : n0 ≤ h11.size := W11.size ▸ Z0
          replace KP := KP.wr W11 (Or.inr sz_b1)
          replace U := U.other W11 ne_u_b1
          replace A_b1 : own_A Z h11 b1 k1 .int (own_ctn mask) (fun x_ => .int (([(e 1), (e 3)] : List Int32).getD x_ 0)) := A_b1.snocI (L := [(e 1)]) (i := 1) (by have q0 := own_ctE hm; have q38 := own_bz hm (i := 0) (by decide) hc38; have q54 := own_bo hm (i := 1) (by decide) hc54; have q70 := own_bz hm (i := 2) (by decide) hc70; have q87 := own_bo hm (i := 3) (by decide) hc87; omega) rfl W11
          refine own_st T11 (mkF m_ 97 #[.val (.int mask), .val (.ref u), .val (.int (own_ct mask)), .val (.ref b1), .val (.int (1 : Int32))] []) st11 ?_
          refine own_st T11 (mkF m_ 104 #[.val (.int mask), .val (.ref u), .val (.int (own_ct mask)), .val (.ref b1), .val (.int (2 : Int32))] [(.int (mask &&& (16 : Int32)))]) (fun t_ k_ => ?_) ?_
          · refine XS.iinc X11.here hx rfl (hb hby dmethod_3_code_97) rfl (l' := #[.val (.int mask), .val (.ref u), .val (.int (own_ct mask)), .val (.ref b1), .val (.int (2 : Int32))]) rfl ?_
            show Steps p_.tables e_ below (T11.setTop (mkF m_ 100 #[.val (.int mask), .val (.ref u), .val (.int (own_ct mask)), .val (.ref b1), .val (.int (2 : Int32))] [])) t_
            refine XS.iloadN X11.here hx rfl (hb hby dmethod_3_code_100) rfl ?_
            show Steps p_.tables e_ below (T11.setTop (mkF m_ 101 #[.val (.int mask), .val (.ref u), .val (.int (own_ct mask)), .val (.ref b1), .val (.int (2 : Int32))] [(.int mask)])) t_
            refine XS.bipush X11.here hx rfl (hb hby dmethod_3_code_101) ?_
            show Steps p_.tables e_ below (T11.setTop (mkF m_ 103 #[.val (.int mask), .val (.ref u), .val (.int (own_ct mask)), .val (.ref b1), .val (.int (2 : Int32))] [(.int (16 : Int32)), (.int mask)])) t_
            refine XS.iand X11.here hx rfl (hb hby dmethod_3_code_103) rfl ?_
            show Steps p_.tables e_ below (T11.setTop (mkF m_ 104 #[.val (.int mask), .val (.ref u), .val (.int (own_ct mask)), .val (.ref b1), .val (.int (2 : Int32))] [(.int (mask &&& (16 : Int32)))])) t_
            exact k_
          by_cases hc104 : (mask &&& (16 : Int32)) = (0 : Int32)
          · refine own_st T11 (mkF m_ 117 #[.val (.int mask), .val (.ref u), .val (.int (own_ct mask)), .val (.ref b1), .val (.int (2 : Int32))] []) (fun t_ k_ => XS.ifYes X11.here hx rfl (pc0 := 104) (pc' := 117) rfl (hb hby dmethod_3_code_104) rfl ((if0 _ _).trans (teq hc104).1) (by decide) (by decide) k_) ?_
            refine own_st T11 (mkF m_ 118 #[.val (.int mask), .val (.ref u), .val (.int (own_ct mask)), .val (.ref b1), .val (.int (2 : Int32))] [(.ref b1)]) (fun t_ k_ => ?_) ?_
            · refine XS.aloadN X11.here hx rfl (hb hby dmethod_3_code_117) rfl rfl ?_
              show Steps p_.tables e_ below (T11.setTop (mkF m_ 118 #[.val (.int mask), .val (.ref u), .val (.int (own_ct mask)), .val (.ref b1), .val (.int (2 : Int32))] [(.ref b1)])) t_
              exact k_
            refine own_retA X11 hx hlk hret rfl rfl (hb hby dmethod_3_code_118) (by decide) (by decide) ?_
            rw [e11]
            have hsel : own_sel mask e = [(e 1), (e 3)] := by simp only [own_sel, if_pos hc38, if_neg hc54, if_pos hc70, if_neg hc87, if_pos hc104]; rfl
            have hlen : own_ctn mask = 2 := by have q0 := own_ctE hm; have q38 := own_bz hm (i := 0) (by decide) hc38; have q54 := own_bo hm (i := 1) (by decide) hc54; have q70 := own_bz hm (i := 2) (by decide) hc70; have q87 := own_bo hm (i := 3) (by decide) hc87; have q104 := own_bz hm (i := 4) (by decide) hc104; omega
            refine ⟨b1, k1, rfl, g_b1, sz_b1, N11, KP, ?_⟩
            rw [hsel]; rw [hlen] at A_b1; exact A_b1
          · refine own_st T11 (mkF m_ 107 #[.val (.int mask), .val (.ref u), .val (.int (own_ct mask)), .val (.ref b1), .val (.int (2 : Int32))] []) (fun t_ k_ => XS.ifNo X11.here hx rfl (hb hby dmethod_3_code_104) rfl ((if0 _ _).trans (feq hc104).1) k_) ?_
            refine own_st T11 (mkF m_ 113 #[.val (.int mask), .val (.ref u), .val (.int (own_ct mask)), .val (.ref b1), .val (.int (2 : Int32))] [(.int (e 4)), (.int (2 : Int32)), (.ref b1)]) (fun t_ k_ => ?_) ?_
            · refine XS.aloadN X11.here hx rfl (hb hby dmethod_3_code_107) rfl rfl ?_
              show Steps p_.tables e_ below (T11.setTop (mkF m_ 108 #[.val (.int mask), .val (.ref u), .val (.int (own_ct mask)), .val (.ref b1), .val (.int (2 : Int32))] [(.ref b1)])) t_
              refine XS.iload X11.here hx rfl (hb hby dmethod_3_code_108) rfl ?_
              show Steps p_.tables e_ below (T11.setTop (mkF m_ 110 #[.val (.int mask), .val (.ref u), .val (.int (own_ct mask)), .val (.ref b1), .val (.int (2 : Int32))] [(.int (2 : Int32)), (.ref b1)])) t_
              refine XS.aloadN X11.here hx rfl (hb hby dmethod_3_code_110) rfl rfl ?_
              show Steps p_.tables e_ below (T11.setTop (mkF m_ 111 #[.val (.int mask), .val (.ref u), .val (.int (own_ct mask)), .val (.ref b1), .val (.int (2 : Int32))] [(.ref u), (.int (2 : Int32)), (.ref b1)])) t_
              refine XS.iconst X11.here hx rfl (hb hby dmethod_3_code_111) ?_
              show Steps p_.tables e_ below (T11.setTop (mkF m_ 112 #[.val (.int mask), .val (.ref u), .val (.int (own_ct mask)), .val (.ref b1), .val (.int (2 : Int32))] [(.int (4 : Int32)), (.ref u), (.int (2 : Int32)), (.ref b1)])) t_
              refine own_ldI X11 hx hZ e11 U 4 (by decide) (by decide) (hb hby dmethod_3_code_112) _ ?_
              show Steps p_.tables e_ below (T11.setTop (mkF m_ 113 #[.val (.int mask), .val (.ref u), .val (.int (own_ct mask)), .val (.ref b1), .val (.int (2 : Int32))] [(.int (e 4)), (.int (2 : Int32)), (.ref b1)])) t_
              exact k_
            obtain ⟨T12, h12, X12, e12, W12, st12⟩ := own_stI X11 hx hZ e11 A_b1 2 (by decide) (by have q0 := own_ctE hm; have q38 := own_bz hm (i := 0) (by decide) hc38; have q54 := own_bo hm (i := 1) (by decide) hc54; have q70 := own_bz hm (i := 2) (by decide) hc70; have q87 := own_bo hm (i := 3) (by decide) hc87; have q104 := own_bo hm (i := 4) (by decide) hc104; omega) (j := (2 : Int32)) (x := (e 4)) (Ls := #[.val (.int mask), .val (.ref u), .val (.int (own_ct mask)), .val (.ref b1), .val (.int (2 : Int32))]) (rest := []) (hb hby dmethod_3_code_113)
            have N12 := Fr.snoc X12 N11 g_b1
            replace Z0 : n0 ≤ h12.size := W12.size ▸ Z0
            replace KP := KP.wr W12 (Or.inr sz_b1)
            replace U := U.other W12 ne_u_b1
            replace A_b1 : own_A Z h12 b1 k1 .int (own_ctn mask) (fun x_ => .int (([(e 1), (e 3), (e 4)] : List Int32).getD x_ 0)) := A_b1.snocI (L := [(e 1), (e 3)]) (i := 2) (by have q0 := own_ctE hm; have q38 := own_bz hm (i := 0) (by decide) hc38; have q54 := own_bo hm (i := 1) (by decide) hc54; have q70 := own_bz hm (i := 2) (by decide) hc70; have q87 := own_bo hm (i := 3) (by decide) hc87; have q104 := own_bo hm (i := 4) (by decide) hc104; omega) rfl W12
            refine own_st T12 (mkF m_ 114 #[.val (.int mask), .val (.ref u), .val (.int (own_ct mask)), .val (.ref b1), .val (.int (2 : Int32))] []) st12 ?_
            refine own_st T12 (mkF m_ 118 #[.val (.int mask), .val (.ref u), .val (.int (own_ct mask)), .val (.ref b1), .val (.int (3 : Int32))] [(.ref b1)]) (fun t_ k_ => ?_) ?_
            · refine XS.iinc X12.here hx rfl (hb hby dmethod_3_code_114) rfl (l' := #[.val (.int mask), .val (.ref u), .val (.int (own_ct mask)), .val (.ref b1), .val (.int (3 : Int32))]) rfl ?_
              show Steps p_.tables e_ below (T12.setTop (mkF m_ 117 #[.val (.int mask), .val (.ref u), .val (.int (own_ct mask)), .val (.ref b1), .val (.int (3 : Int32))] [])) t_
              refine XS.aloadN X12.here hx rfl (hb hby dmethod_3_code_117) rfl rfl ?_
              show Steps p_.tables e_ below (T12.setTop (mkF m_ 118 #[.val (.int mask), .val (.ref u), .val (.int (own_ct mask)), .val (.ref b1), .val (.int (3 : Int32))] [(.ref b1)])) t_
              exact k_
            refine own_retA X12 hx hlk hret rfl rfl (hb hby dmethod_3_code_118) (by decide) (by decide) ?_
            rw [e12]
            have hsel : own_sel mask e = [(e 1), (e 3), (e 4)] := by simp only [own_sel, if_pos hc38, if_neg hc54, if_pos hc70, if_neg hc87, if_neg hc104]; rfl
            have hlen : own_ctn mask = 3 := by have q0 := own_ctE hm; have q38 := own_bz hm (i := 0) (by decide) hc38; have q54 := own_bo hm (i := 1) (by decide) hc54; have q70 := own_bz hm (i := 2) (by decide) hc70; have q87 := own_bo hm (i := 3) (by decide) hc87; have q104 := own_bo hm (i := 4) (by decide) hc104; omega
            refine ⟨b1, k1, rfl, g_b1, sz_b1, N12, KP, ?_⟩
            rw [hsel]; rw [hlen] at A_b1; exact A_b1
      · refine own_st T9 (mkF m_ 73 #[.val (.int mask), .val (.ref u), .val (.int (own_ct mask)), .val (.ref b1), .val (.int (1 : Int32))] []) (fun t_ k_ => XS.ifNo X9.here hx rfl (hb hby dmethod_3_code_70) rfl ((if0 _ _).trans (feq hc70).1) k_) ?_
        refine own_st T9 (mkF m_ 79 #[.val (.int mask), .val (.ref u), .val (.int (own_ct mask)), .val (.ref b1), .val (.int (1 : Int32))] [(.int (e 2)), (.int (1 : Int32)), (.ref b1)]) (fun t_ k_ => ?_) ?_
        · refine XS.aloadN X9.here hx rfl (hb hby dmethod_3_code_73) rfl rfl ?_
          show Steps p_.tables e_ below (T9.setTop (mkF m_ 74 #[.val (.int mask), .val (.ref u), .val (.int (own_ct mask)), .val (.ref b1), .val (.int (1 : Int32))] [(.ref b1)])) t_
          refine XS.iload X9.here hx rfl (hb hby dmethod_3_code_74) rfl ?_
          show Steps p_.tables e_ below (T9.setTop (mkF m_ 76 #[.val (.int mask), .val (.ref u), .val (.int (own_ct mask)), .val (.ref b1), .val (.int (1 : Int32))] [(.int (1 : Int32)), (.ref b1)])) t_
          refine XS.aloadN X9.here hx rfl (hb hby dmethod_3_code_76) rfl rfl ?_
          show Steps p_.tables e_ below (T9.setTop (mkF m_ 77 #[.val (.int mask), .val (.ref u), .val (.int (own_ct mask)), .val (.ref b1), .val (.int (1 : Int32))] [(.ref u), (.int (1 : Int32)), (.ref b1)])) t_
          refine XS.iconst X9.here hx rfl (hb hby dmethod_3_code_77) ?_
          show Steps p_.tables e_ below (T9.setTop (mkF m_ 78 #[.val (.int mask), .val (.ref u), .val (.int (own_ct mask)), .val (.ref b1), .val (.int (1 : Int32))] [(.int (2 : Int32)), (.ref u), (.int (1 : Int32)), (.ref b1)])) t_
          refine own_ldI X9 hx hZ e9 U 2 (by decide) (by decide) (hb hby dmethod_3_code_78) _ ?_
          show Steps p_.tables e_ below (T9.setTop (mkF m_ 79 #[.val (.int mask), .val (.ref u), .val (.int (own_ct mask)), .val (.ref b1), .val (.int (1 : Int32))] [(.int (e 2)), (.int (1 : Int32)), (.ref b1)])) t_
          exact k_
        obtain ⟨T13, h13, X13, e13, W13, st13⟩ := own_stI X9 hx hZ e9 A_b1 1 (by decide) (by have q0 := own_ctE hm; have q38 := own_bz hm (i := 0) (by decide) hc38; have q54 := own_bo hm (i := 1) (by decide) hc54; have q70 := own_bo hm (i := 2) (by decide) hc70; omega) (j := (1 : Int32)) (x := (e 2)) (Ls := #[.val (.int mask), .val (.ref u), .val (.int (own_ct mask)), .val (.ref b1), .val (.int (1 : Int32))]) (rest := []) (hb hby dmethod_3_code_79)
        have N13 := Fr.snoc X13 N9 g_b1
        replace Z0 : n0 ≤ h13.size := W13.size ▸ Z0
        replace KP := KP.wr W13 (Or.inr sz_b1)
        replace U := U.other W13 ne_u_b1
        replace A_b1 : own_A Z h13 b1 k1 .int (own_ctn mask) (fun x_ => .int (([(e 1), (e 2)] : List Int32).getD x_ 0)) := A_b1.snocI (L := [(e 1)]) (i := 1) (by have q0 := own_ctE hm; have q38 := own_bz hm (i := 0) (by decide) hc38; have q54 := own_bo hm (i := 1) (by decide) hc54; have q70 := own_bo hm (i := 2) (by decide) hc70; omega) rfl W13
        refine own_st T13 (mkF m_ 80 #[.val (.int mask), .val (.ref u), .val (.int (own_ct mask)), .val (.ref b1), .val (.int (1 : Int32))] []) st13 ?_
        refine own_st T13 (mkF m_ 87 #[.val (.int mask), .val (.ref u), .val (.int (own_ct mask)), .val (.ref b1), .val (.int (2 : Int32))] [(.int (mask &&& (8 : Int32)))]) (fun t_ k_ => ?_) ?_
        · refine XS.iinc X13.here hx rfl (hb hby dmethod_3_code_80) rfl (l' := #[.val (.int mask), .val (.ref u), .val (.int (own_ct mask)), .val (.ref b1), .val (.int (2 : Int32))]) rfl ?_
          show Steps p_.tables e_ below (T13.setTop (mkF m_ 83 #[.val (.int mask), .val (.ref u), .val (.int (own_ct mask)), .val (.ref b1), .val (.int (2 : Int32))] [])) t_
          refine XS.iloadN X13.here hx rfl (hb hby dmethod_3_code_83) rfl ?_
          show Steps p_.tables e_ below (T13.setTop (mkF m_ 84 #[.val (.int mask), .val (.ref u), .val (.int (own_ct mask)), .val (.ref b1), .val (.int (2 : Int32))] [(.int mask)])) t_
          refine XS.bipush X13.here hx rfl (hb hby dmethod_3_code_84) ?_
          show Steps p_.tables e_ below (T13.setTop (mkF m_ 86 #[.val (.int mask), .val (.ref u), .val (.int (own_ct mask)), .val (.ref b1), .val (.int (2 : Int32))] [(.int (8 : Int32)), (.int mask)])) t_
          refine XS.iand X13.here hx rfl (hb hby dmethod_3_code_86) rfl ?_
          show Steps p_.tables e_ below (T13.setTop (mkF m_ 87 #[.val (.int mask), .val (.ref u), .val (.int (own_ct mask)), .val (.ref b1), .val (.int (2 : Int32))] [(.int (mask &&& (8 : Int32)))])) t_
          exact k_
        by_cases hc87 : (mask &&& (8 : Int32)) = (0 : Int32)
        · refine own_st T13 (mkF m_ 100 #[.val (.int mask), .val (.ref u), .val (.int (own_ct mask)), .val (.ref b1), .val (.int (2 : Int32))] []) (fun t_ k_ => XS.ifYes X13.here hx rfl (pc0 := 87) (pc' := 100) rfl (hb hby dmethod_3_code_87) rfl ((if0 _ _).trans (teq hc87).1) (by decide) (by decide) k_) ?_
          refine own_st T13 (mkF m_ 104 #[.val (.int mask), .val (.ref u), .val (.int (own_ct mask)), .val (.ref b1), .val (.int (2 : Int32))] [(.int (mask &&& (16 : Int32)))]) (fun t_ k_ => ?_) ?_
          · refine XS.iloadN X13.here hx rfl (hb hby dmethod_3_code_100) rfl ?_
            show Steps p_.tables e_ below (T13.setTop (mkF m_ 101 #[.val (.int mask), .val (.ref u), .val (.int (own_ct mask)), .val (.ref b1), .val (.int (2 : Int32))] [(.int mask)])) t_
            refine XS.bipush X13.here hx rfl (hb hby dmethod_3_code_101) ?_
            show Steps p_.tables e_ below (T13.setTop (mkF m_ 103 #[.val (.int mask), .val (.ref u), .val (.int (own_ct mask)), .val (.ref b1), .val (.int (2 : Int32))] [(.int (16 : Int32)), (.int mask)])) t_
            refine XS.iand X13.here hx rfl (hb hby dmethod_3_code_103) rfl ?_
            show Steps p_.tables e_ below (T13.setTop (mkF m_ 104 #[.val (.int mask), .val (.ref u), .val (.int (own_ct mask)), .val (.ref b1), .val (.int (2 : Int32))] [(.int (mask &&& (16 : Int32)))])) t_
            exact k_
          by_cases hc104 : (mask &&& (16 : Int32)) = (0 : Int32)
          · refine own_st T13 (mkF m_ 117 #[.val (.int mask), .val (.ref u), .val (.int (own_ct mask)), .val (.ref b1), .val (.int (2 : Int32))] []) (fun t_ k_ => XS.ifYes X13.here hx rfl (pc0 := 104) (pc' := 117) rfl (hb hby dmethod_3_code_104) rfl ((if0 _ _).trans (teq hc104).1) (by decide) (by decide) k_) ?_
            refine own_st T13 (mkF m_ 118 #[.val (.int mask), .val (.ref u), .val (.int (own_ct mask)), .val (.ref b1), .val (.int (2 : Int32))] [(.ref b1)]) (fun t_ k_ => ?_) ?_
            · refine XS.aloadN X13.here hx rfl (hb hby dmethod_3_code_117) rfl rfl ?_
              show Steps p_.tables e_ below (T13.setTop (mkF m_ 118 #[.val (.int mask), .val (.ref u), .val (.int (own_ct mask)), .val (.ref b1), .val (.int (2 : Int32))] [(.ref b1)])) t_
              exact k_
            refine own_retA X13 hx hlk hret rfl rfl (hb hby dmethod_3_code_118) (by decide) (by decide) ?_
            rw [e13]
            have hsel : own_sel mask e = [(e 1), (e 2)] := by simp only [own_sel, if_pos hc38, if_neg hc54, if_neg hc70, if_pos hc87, if_pos hc104]; rfl
            have hlen : own_ctn mask = 2 := by have q0 := own_ctE hm; have q38 := own_bz hm (i := 0) (by decide) hc38; have q54 := own_bo hm (i := 1) (by decide) hc54; have q70 := own_bo hm (i := 2) (by decide) hc70; have q87 := own_bz hm (i := 3) (by decide) hc87; have q104 := own_bz hm (i := 4) (by decide) hc104; omega
            refine ⟨b1, k1, rfl, g_b1, sz_b1, N13, KP, ?_⟩
            rw [hsel]; rw [hlen] at A_b1; exact A_b1
          · refine own_st T13 (mkF m_ 107 #[.val (.int mask), .val (.ref u), .val (.int (own_ct mask)), .val (.ref b1), .val (.int (2 : Int32))] []) (fun t_ k_ => XS.ifNo X13.here hx rfl (hb hby dmethod_3_code_104) rfl ((if0 _ _).trans (feq hc104).1) k_) ?_
            refine own_st T13 (mkF m_ 113 #[.val (.int mask), .val (.ref u), .val (.int (own_ct mask)), .val (.ref b1), .val (.int (2 : Int32))] [(.int (e 4)), (.int (2 : Int32)), (.ref b1)]) (fun t_ k_ => ?_) ?_
            · refine XS.aloadN X13.here hx rfl (hb hby dmethod_3_code_107) rfl rfl ?_
              show Steps p_.tables e_ below (T13.setTop (mkF m_ 108 #[.val (.int mask), .val (.ref u), .val (.int (own_ct mask)), .val (.ref b1), .val (.int (2 : Int32))] [(.ref b1)])) t_
              refine XS.iload X13.here hx rfl (hb hby dmethod_3_code_108) rfl ?_
              show Steps p_.tables e_ below (T13.setTop (mkF m_ 110 #[.val (.int mask), .val (.ref u), .val (.int (own_ct mask)), .val (.ref b1), .val (.int (2 : Int32))] [(.int (2 : Int32)), (.ref b1)])) t_
              refine XS.aloadN X13.here hx rfl (hb hby dmethod_3_code_110) rfl rfl ?_
              show Steps p_.tables e_ below (T13.setTop (mkF m_ 111 #[.val (.int mask), .val (.ref u), .val (.int (own_ct mask)), .val (.ref b1), .val (.int (2 : Int32))] [(.ref u), (.int (2 : Int32)), (.ref b1)])) t_
              refine XS.iconst X13.here hx rfl (hb hby dmethod_3_code_111) ?_
              show Steps p_.tables e_ below (T13.setTop (mkF m_ 112 #[.val (.int mask), .val (.ref u), .val (.int (own_ct mask)), .val (.ref b1), .val (.int (2 : Int32))] [(.int (4 : Int32)), (.ref u), (.int (2 : Int32)), (.ref b1)])) t_
              refine own_ldI X13 hx hZ e13 U 4 (by decide) (by decide) (hb hby dmethod_3_code_112) _ ?_
              show Steps p_.tables e_ below (T13.setTop (mkF m_ 113 #[.val (.int mask), .val (.ref u), .val (.int (own_ct mask)), .val (.ref b1), .val (.int (2 : Int32))] [(.int (e 4)), (.int (2 : Int32)), (.ref b1)])) t_
              exact k_
            obtain ⟨T14, h14, X14, e14, W14, st14⟩ := own_stI X13 hx hZ e13 A_b1 2 (by decide) (by have q0 := own_ctE hm; have q38 := own_bz hm (i := 0) (by decide) hc38; have q54 := own_bo hm (i := 1) (by decide) hc54; have q70 := own_bo hm (i := 2) (by decide) hc70; have q87 := own_bz hm (i := 3) (by decide) hc87; have q104 := own_bo hm (i := 4) (by decide) hc104; omega) (j := (2 : Int32)) (x := (e 4)) (Ls := #[.val (.int mask), .val (.ref u), .val (.int (own_ct mask)), .val (.ref b1), .val (.int (2 : Int32))]) (rest := []) (hb hby dmethod_3_code_113)
            have N14 := Fr.snoc X14 N13 g_b1
            replace Z0 : n0 ≤ h14.size := W14.size ▸ Z0
            replace KP := KP.wr W14 (Or.inr sz_b1)
            replace U := U.other W14 ne_u_b1
            replace A_b1 : own_A Z h14 b1 k1 .int (own_ctn mask) (fun x_ => .int (([(e 1), (e 2), (e 4)] : List Int32).getD x_ 0)) := A_b1.snocI (L := [(e 1), (e 2)]) (i := 2) (by have q0 := own_ctE hm; have q38 := own_bz hm (i := 0) (by decide) hc38; have q54 := own_bo hm (i := 1) (by decide) hc54; have q70 := own_bo hm (i := 2) (by decide) hc70; have q87 := own_bz hm (i := 3) (by decide) hc87; have q104 := own_bo hm (i := 4) (by decide) hc104; omega) rfl W14
            refine own_st T14 (mkF m_ 114 #[.val (.int mask), .val (.ref u), .val (.int (own_ct mask)), .val (.ref b1), .val (.int (2 : Int32))] []) st14 ?_
            refine own_st T14 (mkF m_ 118 #[.val (.int mask), .val (.ref u), .val (.int (own_ct mask)), .val (.ref b1), .val (.int (3 : Int32))] [(.ref b1)]) (fun t_ k_ => ?_) ?_
            · refine XS.iinc X14.here hx rfl (hb hby dmethod_3_code_114) rfl (l' := #[.val (.int mask), .val (.ref u), .val (.int (own_ct mask)), .val (.ref b1), .val (.int (3 : Int32))]) rfl ?_
              show Steps p_.tables e_ below (T14.setTop (mkF m_ 117 #[.val (.int mask), .val (.ref u), .val (.int (own_ct mask)), .val (.ref b1), .val (.int (3 : Int32))] [])) t_
              refine XS.aloadN X14.here hx rfl (hb hby dmethod_3_code_117) rfl rfl ?_
              show Steps p_.tables e_ below (T14.setTop (mkF m_ 118 #[.val (.int mask), .val (.ref u), .val (.int (own_ct mask)), .val (.ref b1), .val (.int (3 : Int32))] [(.ref b1)])) t_
              exact k_
            refine own_retA X14 hx hlk hret rfl rfl (hb hby dmethod_3_code_118) (by decide) (by decide) ?_
            rw [e14]
            have hsel : own_sel mask e = [(e 1), (e 2), (e 4)] := by simp only [own_sel, if_pos hc38, if_neg hc54, if_neg hc70, if_pos hc87, if_neg hc104]; rfl
            have hlen : own_ctn mask = 3 := by have q0 := own_ctE hm; have q38 := own_bz hm (i := 0) (by decide) hc38; have q54 := own_bo hm (i := 1) (by decide) hc54; have q70 := own_bo hm (i := 2) (by decide) hc70; have q87 := own_bz hm (i := 3) (by decide) hc87; have q104 := own_bo hm (i := 4) (by decide) hc104; omega
            refine ⟨b1, k1, rfl, g_b1, sz_b1, N14, KP, ?_⟩
            rw [hsel]; rw [hlen] at A_b1; exact A_b1
        · refine own_st T13 (mkF m_ 90 #[.val (.int mask), .val (.ref u), .val (.int (own_ct mask)), .val (.ref b1), .val (.int (2 : Int32))] []) (fun t_ k_ => XS.ifNo X13.here hx rfl (hb hby dmethod_3_code_87) rfl ((if0 _ _).trans (feq hc87).1) k_) ?_
          refine own_st T13 (mkF m_ 96 #[.val (.int mask), .val (.ref u), .val (.int (own_ct mask)), .val (.ref b1), .val (.int (2 : Int32))] [(.int (e 3)), (.int (2 : Int32)), (.ref b1)]) (fun t_ k_ => ?_) ?_
          · refine XS.aloadN X13.here hx rfl (hb hby dmethod_3_code_90) rfl rfl ?_
            show Steps p_.tables e_ below (T13.setTop (mkF m_ 91 #[.val (.int mask), .val (.ref u), .val (.int (own_ct mask)), .val (.ref b1), .val (.int (2 : Int32))] [(.ref b1)])) t_
            refine XS.iload X13.here hx rfl (hb hby dmethod_3_code_91) rfl ?_
            show Steps p_.tables e_ below (T13.setTop (mkF m_ 93 #[.val (.int mask), .val (.ref u), .val (.int (own_ct mask)), .val (.ref b1), .val (.int (2 : Int32))] [(.int (2 : Int32)), (.ref b1)])) t_
            refine XS.aloadN X13.here hx rfl (hb hby dmethod_3_code_93) rfl rfl ?_
            show Steps p_.tables e_ below (T13.setTop (mkF m_ 94 #[.val (.int mask), .val (.ref u), .val (.int (own_ct mask)), .val (.ref b1), .val (.int (2 : Int32))] [(.ref u), (.int (2 : Int32)), (.ref b1)])) t_
            refine XS.iconst X13.here hx rfl (hb hby dmethod_3_code_94) ?_
            show Steps p_.tables e_ below (T13.setTop (mkF m_ 95 #[.val (.int mask), .val (.ref u), .val (.int (own_ct mask)), .val (.ref b1), .val (.int (2 : Int32))] [(.int (3 : Int32)), (.ref u), (.int (2 : Int32)), (.ref b1)])) t_
            refine own_ldI X13 hx hZ e13 U 3 (by decide) (by decide) (hb hby dmethod_3_code_95) _ ?_
            show Steps p_.tables e_ below (T13.setTop (mkF m_ 96 #[.val (.int mask), .val (.ref u), .val (.int (own_ct mask)), .val (.ref b1), .val (.int (2 : Int32))] [(.int (e 3)), (.int (2 : Int32)), (.ref b1)])) t_
            exact k_
          obtain ⟨T15, h15, X15, e15, W15, st15⟩ := own_stI X13 hx hZ e13 A_b1 2 (by decide) (by have q0 := own_ctE hm; have q38 := own_bz hm (i := 0) (by decide) hc38; have q54 := own_bo hm (i := 1) (by decide) hc54; have q70 := own_bo hm (i := 2) (by decide) hc70; have q87 := own_bo hm (i := 3) (by decide) hc87; omega) (j := (2 : Int32)) (x := (e 3)) (Ls := #[.val (.int mask), .val (.ref u), .val (.int (own_ct mask)), .val (.ref b1), .val (.int (2 : Int32))]) (rest := []) (hb hby dmethod_3_code_96)
          have N15 := Fr.snoc X15 N13 g_b1
          replace Z0 : n0 ≤ h15.size := W15.size ▸ Z0
          replace KP := KP.wr W15 (Or.inr sz_b1)
          replace U := U.other W15 ne_u_b1
          replace A_b1 : own_A Z h15 b1 k1 .int (own_ctn mask) (fun x_ => .int (([(e 1), (e 2), (e 3)] : List Int32).getD x_ 0)) := A_b1.snocI (L := [(e 1), (e 2)]) (i := 2) (by have q0 := own_ctE hm; have q38 := own_bz hm (i := 0) (by decide) hc38; have q54 := own_bo hm (i := 1) (by decide) hc54; have q70 := own_bo hm (i := 2) (by decide) hc70; have q87 := own_bo hm (i := 3) (by decide) hc87; omega) rfl W15
          refine own_st T15 (mkF m_ 97 #[.val (.int mask), .val (.ref u), .val (.int (own_ct mask)), .val (.ref b1), .val (.int (2 : Int32))] []) st15 ?_
          refine own_st T15 (mkF m_ 104 #[.val (.int mask), .val (.ref u), .val (.int (own_ct mask)), .val (.ref b1), .val (.int (3 : Int32))] [(.int (mask &&& (16 : Int32)))]) (fun t_ k_ => ?_) ?_
          · refine XS.iinc X15.here hx rfl (hb hby dmethod_3_code_97) rfl (l' := #[.val (.int mask), .val (.ref u), .val (.int (own_ct mask)), .val (.ref b1), .val (.int (3 : Int32))]) rfl ?_
            show Steps p_.tables e_ below (T15.setTop (mkF m_ 100 #[.val (.int mask), .val (.ref u), .val (.int (own_ct mask)), .val (.ref b1), .val (.int (3 : Int32))] [])) t_
            refine XS.iloadN X15.here hx rfl (hb hby dmethod_3_code_100) rfl ?_
            show Steps p_.tables e_ below (T15.setTop (mkF m_ 101 #[.val (.int mask), .val (.ref u), .val (.int (own_ct mask)), .val (.ref b1), .val (.int (3 : Int32))] [(.int mask)])) t_
            refine XS.bipush X15.here hx rfl (hb hby dmethod_3_code_101) ?_
            show Steps p_.tables e_ below (T15.setTop (mkF m_ 103 #[.val (.int mask), .val (.ref u), .val (.int (own_ct mask)), .val (.ref b1), .val (.int (3 : Int32))] [(.int (16 : Int32)), (.int mask)])) t_
            refine XS.iand X15.here hx rfl (hb hby dmethod_3_code_103) rfl ?_
            show Steps p_.tables e_ below (T15.setTop (mkF m_ 104 #[.val (.int mask), .val (.ref u), .val (.int (own_ct mask)), .val (.ref b1), .val (.int (3 : Int32))] [(.int (mask &&& (16 : Int32)))])) t_
            exact k_
          by_cases hc104 : (mask &&& (16 : Int32)) = (0 : Int32)
          · refine own_st T15 (mkF m_ 117 #[.val (.int mask), .val (.ref u), .val (.int (own_ct mask)), .val (.ref b1), .val (.int (3 : Int32))] []) (fun t_ k_ => XS.ifYes X15.here hx rfl (pc0 := 104) (pc' := 117) rfl (hb hby dmethod_3_code_104) rfl ((if0 _ _).trans (teq hc104).1) (by decide) (by decide) k_) ?_
            refine own_st T15 (mkF m_ 118 #[.val (.int mask), .val (.ref u), .val (.int (own_ct mask)), .val (.ref b1), .val (.int (3 : Int32))] [(.ref b1)]) (fun t_ k_ => ?_) ?_
            · refine XS.aloadN X15.here hx rfl (hb hby dmethod_3_code_117) rfl rfl ?_
              show Steps p_.tables e_ below (T15.setTop (mkF m_ 118 #[.val (.int mask), .val (.ref u), .val (.int (own_ct mask)), .val (.ref b1), .val (.int (3 : Int32))] [(.ref b1)])) t_
              exact k_
            refine own_retA X15 hx hlk hret rfl rfl (hb hby dmethod_3_code_118) (by decide) (by decide) ?_
            rw [e15]
            have hsel : own_sel mask e = [(e 1), (e 2), (e 3)] := by simp only [own_sel, if_pos hc38, if_neg hc54, if_neg hc70, if_neg hc87, if_pos hc104]; rfl
            have hlen : own_ctn mask = 3 := by have q0 := own_ctE hm; have q38 := own_bz hm (i := 0) (by decide) hc38; have q54 := own_bo hm (i := 1) (by decide) hc54; have q70 := own_bo hm (i := 2) (by decide) hc70; have q87 := own_bo hm (i := 3) (by decide) hc87; have q104 := own_bz hm (i := 4) (by decide) hc104; omega
            refine ⟨b1, k1, rfl, g_b1, sz_b1, N15, KP, ?_⟩
            rw [hsel]; rw [hlen] at A_b1; exact A_b1
          · refine own_st T15 (mkF m_ 107 #[.val (.int mask), .val (.ref u), .val (.int (own_ct mask)), .val (.ref b1), .val (.int (3 : Int32))] []) (fun t_ k_ => XS.ifNo X15.here hx rfl (hb hby dmethod_3_code_104) rfl ((if0 _ _).trans (feq hc104).1) k_) ?_
            refine own_st T15 (mkF m_ 113 #[.val (.int mask), .val (.ref u), .val (.int (own_ct mask)), .val (.ref b1), .val (.int (3 : Int32))] [(.int (e 4)), (.int (3 : Int32)), (.ref b1)]) (fun t_ k_ => ?_) ?_
            · refine XS.aloadN X15.here hx rfl (hb hby dmethod_3_code_107) rfl rfl ?_
              show Steps p_.tables e_ below (T15.setTop (mkF m_ 108 #[.val (.int mask), .val (.ref u), .val (.int (own_ct mask)), .val (.ref b1), .val (.int (3 : Int32))] [(.ref b1)])) t_
              refine XS.iload X15.here hx rfl (hb hby dmethod_3_code_108) rfl ?_
              show Steps p_.tables e_ below (T15.setTop (mkF m_ 110 #[.val (.int mask), .val (.ref u), .val (.int (own_ct mask)), .val (.ref b1), .val (.int (3 : Int32))] [(.int (3 : Int32)), (.ref b1)])) t_
              refine XS.aloadN X15.here hx rfl (hb hby dmethod_3_code_110) rfl rfl ?_
              show Steps p_.tables e_ below (T15.setTop (mkF m_ 111 #[.val (.int mask), .val (.ref u), .val (.int (own_ct mask)), .val (.ref b1), .val (.int (3 : Int32))] [(.ref u), (.int (3 : Int32)), (.ref b1)])) t_
              refine XS.iconst X15.here hx rfl (hb hby dmethod_3_code_111) ?_
              show Steps p_.tables e_ below (T15.setTop (mkF m_ 112 #[.val (.int mask), .val (.ref u), .val (.int (own_ct mask)), .val (.ref b1), .val (.int (3 : Int32))] [(.int (4 : Int32)), (.ref u), (.int (3 : Int32)), (.ref b1)])) t_
              refine own_ldI X15 hx hZ e15 U 4 (by decide) (by decide) (hb hby dmethod_3_code_112) _ ?_
              show Steps p_.tables e_ below (T15.setTop (mkF m_ 113 #[.val (.int mask), .val (.ref u), .val (.int (own_ct mask)), .val (.ref b1), .val (.int (3 : Int32))] [(.int (e 4)), (.int (3 : Int32)), (.ref b1)])) t_
              exact k_
            obtain ⟨T16, h16, X16, e16, W16, st16⟩ := own_stI X15 hx hZ e15 A_b1 3 (by decide) (by have q0 := own_ctE hm; have q38 := own_bz hm (i := 0) (by decide) hc38; have q54 := own_bo hm (i := 1) (by decide) hc54; have q70 := own_bo hm (i := 2) (by decide) hc70; have q87 := own_bo hm (i := 3) (by decide) hc87; have q104 := own_bo hm (i := 4) (by decide) hc104; omega) (j := (3 : Int32)) (x := (e 4)) (Ls := #[.val (.int mask), .val (.ref u), .val (.int (own_ct mask)), .val (.ref b1), .val (.int (3 : Int32))]) (rest := []) (hb hby dmethod_3_code_113)
            have N16 := Fr.snoc X16 N15 g_b1
            replace Z0 : n0 ≤ h16.size := W16.size ▸ Z0
            replace KP := KP.wr W16 (Or.inr sz_b1)
            replace U := U.other W16 ne_u_b1
            replace A_b1 : own_A Z h16 b1 k1 .int (own_ctn mask) (fun x_ => .int (([(e 1), (e 2), (e 3), (e 4)] : List Int32).getD x_ 0)) := A_b1.snocI (L := [(e 1), (e 2), (e 3)]) (i := 3) (by have q0 := own_ctE hm; have q38 := own_bz hm (i := 0) (by decide) hc38; have q54 := own_bo hm (i := 1) (by decide) hc54; have q70 := own_bo hm (i := 2) (by decide) hc70; have q87 := own_bo hm (i := 3) (by decide) hc87; have q104 := own_bo hm (i := 4) (by decide) hc104; omega) rfl W16
            refine own_st T16 (mkF m_ 114 #[.val (.int mask), .val (.ref u), .val (.int (own_ct mask)), .val (.ref b1), .val (.int (3 : Int32))] []) st16 ?_
            refine own_st T16 (mkF m_ 118 #[.val (.int mask), .val (.ref u), .val (.int (own_ct mask)), .val (.ref b1), .val (.int (4 : Int32))] [(.ref b1)]) (fun t_ k_ => ?_) ?_
            · refine XS.iinc X16.here hx rfl (hb hby dmethod_3_code_114) rfl (l' := #[.val (.int mask), .val (.ref u), .val (.int (own_ct mask)), .val (.ref b1), .val (.int (4 : Int32))]) rfl ?_
              show Steps p_.tables e_ below (T16.setTop (mkF m_ 117 #[.val (.int mask), .val (.ref u), .val (.int (own_ct mask)), .val (.ref b1), .val (.int (4 : Int32))] [])) t_
              refine XS.aloadN X16.here hx rfl (hb hby dmethod_3_code_117) rfl rfl ?_
              show Steps p_.tables e_ below (T16.setTop (mkF m_ 118 #[.val (.int mask), .val (.ref u), .val (.int (own_ct mask)), .val (.ref b1), .val (.int (4 : Int32))] [(.ref b1)])) t_
              exact k_
            refine own_retA X16 hx hlk hret rfl rfl (hb hby dmethod_3_code_118) (by decide) (by decide) ?_
            rw [e16]
            have hsel : own_sel mask e = [(e 1), (e 2), (e 3), (e 4)] := by simp only [own_sel, if_pos hc38, if_neg hc54, if_neg hc70, if_neg hc87, if_neg hc104]; rfl
            have hlen : own_ctn mask = 4 := by have q0 := own_ctE hm; have q38 := own_bz hm (i := 0) (by decide) hc38; have q54 := own_bo hm (i := 1) (by decide) hc54; have q70 := own_bo hm (i := 2) (by decide) hc70; have q87 := own_bo hm (i := 3) (by decide) hc87; have q104 := own_bo hm (i := 4) (by decide) hc104; omega
            refine ⟨b1, k1, rfl, g_b1, sz_b1, N16, KP, ?_⟩
            rw [hsel]; rw [hlen] at A_b1; exact A_b1
  · refine own_st T1 (mkF m_ 41 #[.val (.int mask), .val (.ref u), .val (.int (own_ct mask)), .val (.ref b1), .val (.int (0 : Int32))] []) (fun t_ k_ => XS.ifNo X1.here hx rfl (hb hby dmethod_3_code_38) rfl ((if0 _ _).trans (feq hc38).1) k_) ?_
    refine own_st T1 (mkF m_ 47 #[.val (.int mask), .val (.ref u), .val (.int (own_ct mask)), .val (.ref b1), .val (.int (0 : Int32))] [(.int (e 0)), (.int (0 : Int32)), (.ref b1)]) (fun t_ k_ => ?_) ?_
    · refine XS.aloadN X1.here hx rfl (hb hby dmethod_3_code_41) rfl rfl ?_
      show Steps p_.tables e_ below (T1.setTop (mkF m_ 42 #[.val (.int mask), .val (.ref u), .val (.int (own_ct mask)), .val (.ref b1), .val (.int (0 : Int32))] [(.ref b1)])) t_
      refine XS.iload X1.here hx rfl (hb hby dmethod_3_code_42) rfl ?_
      show Steps p_.tables e_ below (T1.setTop (mkF m_ 44 #[.val (.int mask), .val (.ref u), .val (.int (own_ct mask)), .val (.ref b1), .val (.int (0 : Int32))] [(.int (0 : Int32)), (.ref b1)])) t_
      refine XS.aloadN X1.here hx rfl (hb hby dmethod_3_code_44) rfl rfl ?_
      show Steps p_.tables e_ below (T1.setTop (mkF m_ 45 #[.val (.int mask), .val (.ref u), .val (.int (own_ct mask)), .val (.ref b1), .val (.int (0 : Int32))] [(.ref u), (.int (0 : Int32)), (.ref b1)])) t_
      refine XS.iconst X1.here hx rfl (hb hby dmethod_3_code_45) ?_
      show Steps p_.tables e_ below (T1.setTop (mkF m_ 46 #[.val (.int mask), .val (.ref u), .val (.int (own_ct mask)), .val (.ref b1), .val (.int (0 : Int32))] [(.int (0 : Int32)), (.ref u), (.int (0 : Int32)), (.ref b1)])) t_
      refine own_ldI X1 hx hZ e1 U 0 (by decide) (by decide) (hb hby dmethod_3_code_46) _ ?_
      show Steps p_.tables e_ below (T1.setTop (mkF m_ 47 #[.val (.int mask), .val (.ref u), .val (.int (own_ct mask)), .val (.ref b1), .val (.int (0 : Int32))] [(.int (e 0)), (.int (0 : Int32)), (.ref b1)])) t_
      exact k_
    obtain ⟨T17, h17, X17, e17, W17, st17⟩ := own_stI X1 hx hZ e1 A_b1 0 (by decide) (by have q0 := own_ctE hm; have q38 := own_bo hm (i := 0) (by decide) hc38; omega) (j := (0 : Int32)) (x := (e 0)) (Ls := #[.val (.int mask), .val (.ref u), .val (.int (own_ct mask)), .val (.ref b1), .val (.int (0 : Int32))]) (rest := []) (hb hby dmethod_3_code_47)
    have N17 := Fr.snoc X17 N0 g_b1
    replace Z0 : n0 ≤ h17.size := W17.size ▸ Z0
    replace KP := KP.wr W17 (Or.inr sz_b1)
    replace U := U.other W17 ne_u_b1
    replace A_b1 : own_A Z h17 b1 k1 .int (own_ctn mask) (fun x_ => .int (([(e 0)] : List Int32).getD x_ 0)) := A_b1.snocI (L := []) (i := 0) (by have q0 := own_ctE hm; have q38 := own_bo hm (i := 0) (by decide) hc38; omega) rfl W17
    refine own_st T17 (mkF m_ 48 #[.val (.int mask), .val (.ref u), .val (.int (own_ct mask)), .val (.ref b1), .val (.int (0 : Int32))] []) st17 ?_
    refine own_st T17 (mkF m_ 54 #[.val (.int mask), .val (.ref u), .val (.int (own_ct mask)), .val (.ref b1), .val (.int (1 : Int32))] [(.int (mask &&& (2 : Int32)))]) (fun t_ k_ => ?_) ?_
    · refine XS.iinc X17.here hx rfl (hb hby dmethod_3_code_48) rfl (l' := #[.val (.int mask), .val (.ref u), .val (.int (own_ct mask)), .val (.ref b1), .val (.int (1 : Int32))]) rfl ?_
      show Steps p_.tables e_ below (T17.setTop (mkF m_ 51 #[.val (.int mask), .val (.ref u), .val (.int (own_ct mask)), .val (.ref b1), .val (.int (1 : Int32))] [])) t_
      refine XS.iloadN X17.here hx rfl (hb hby dmethod_3_code_51) rfl ?_
      show Steps p_.tables e_ below (T17.setTop (mkF m_ 52 #[.val (.int mask), .val (.ref u), .val (.int (own_ct mask)), .val (.ref b1), .val (.int (1 : Int32))] [(.int mask)])) t_
      refine XS.iconst X17.here hx rfl (hb hby dmethod_3_code_52) ?_
      show Steps p_.tables e_ below (T17.setTop (mkF m_ 53 #[.val (.int mask), .val (.ref u), .val (.int (own_ct mask)), .val (.ref b1), .val (.int (1 : Int32))] [(.int (2 : Int32)), (.int mask)])) t_
      refine XS.iand X17.here hx rfl (hb hby dmethod_3_code_53) rfl ?_
      show Steps p_.tables e_ below (T17.setTop (mkF m_ 54 #[.val (.int mask), .val (.ref u), .val (.int (own_ct mask)), .val (.ref b1), .val (.int (1 : Int32))] [(.int (mask &&& (2 : Int32)))])) t_
      exact k_
    by_cases hc54 : (mask &&& (2 : Int32)) = (0 : Int32)
    · refine own_st T17 (mkF m_ 67 #[.val (.int mask), .val (.ref u), .val (.int (own_ct mask)), .val (.ref b1), .val (.int (1 : Int32))] []) (fun t_ k_ => XS.ifYes X17.here hx rfl (pc0 := 54) (pc' := 67) rfl (hb hby dmethod_3_code_54) rfl ((if0 _ _).trans (teq hc54).1) (by decide) (by decide) k_) ?_
      refine own_st T17 (mkF m_ 70 #[.val (.int mask), .val (.ref u), .val (.int (own_ct mask)), .val (.ref b1), .val (.int (1 : Int32))] [(.int (mask &&& (4 : Int32)))]) (fun t_ k_ => ?_) ?_
      · refine XS.iloadN X17.here hx rfl (hb hby dmethod_3_code_67) rfl ?_
        show Steps p_.tables e_ below (T17.setTop (mkF m_ 68 #[.val (.int mask), .val (.ref u), .val (.int (own_ct mask)), .val (.ref b1), .val (.int (1 : Int32))] [(.int mask)])) t_
        refine XS.iconst X17.here hx rfl (hb hby dmethod_3_code_68) ?_
        show Steps p_.tables e_ below (T17.setTop (mkF m_ 69 #[.val (.int mask), .val (.ref u), .val (.int (own_ct mask)), .val (.ref b1), .val (.int (1 : Int32))] [(.int (4 : Int32)), (.int mask)])) t_
        refine XS.iand X17.here hx rfl (hb hby dmethod_3_code_69) rfl ?_
        show Steps p_.tables e_ below (T17.setTop (mkF m_ 70 #[.val (.int mask), .val (.ref u), .val (.int (own_ct mask)), .val (.ref b1), .val (.int (1 : Int32))] [(.int (mask &&& (4 : Int32)))])) t_
        exact k_
      by_cases hc70 : (mask &&& (4 : Int32)) = (0 : Int32)
      · refine own_st T17 (mkF m_ 83 #[.val (.int mask), .val (.ref u), .val (.int (own_ct mask)), .val (.ref b1), .val (.int (1 : Int32))] []) (fun t_ k_ => XS.ifYes X17.here hx rfl (pc0 := 70) (pc' := 83) rfl (hb hby dmethod_3_code_70) rfl ((if0 _ _).trans (teq hc70).1) (by decide) (by decide) k_) ?_
        refine own_st T17 (mkF m_ 87 #[.val (.int mask), .val (.ref u), .val (.int (own_ct mask)), .val (.ref b1), .val (.int (1 : Int32))] [(.int (mask &&& (8 : Int32)))]) (fun t_ k_ => ?_) ?_
        · refine XS.iloadN X17.here hx rfl (hb hby dmethod_3_code_83) rfl ?_
          show Steps p_.tables e_ below (T17.setTop (mkF m_ 84 #[.val (.int mask), .val (.ref u), .val (.int (own_ct mask)), .val (.ref b1), .val (.int (1 : Int32))] [(.int mask)])) t_
          refine XS.bipush X17.here hx rfl (hb hby dmethod_3_code_84) ?_
          show Steps p_.tables e_ below (T17.setTop (mkF m_ 86 #[.val (.int mask), .val (.ref u), .val (.int (own_ct mask)), .val (.ref b1), .val (.int (1 : Int32))] [(.int (8 : Int32)), (.int mask)])) t_
          refine XS.iand X17.here hx rfl (hb hby dmethod_3_code_86) rfl ?_
          show Steps p_.tables e_ below (T17.setTop (mkF m_ 87 #[.val (.int mask), .val (.ref u), .val (.int (own_ct mask)), .val (.ref b1), .val (.int (1 : Int32))] [(.int (mask &&& (8 : Int32)))])) t_
          exact k_
        by_cases hc87 : (mask &&& (8 : Int32)) = (0 : Int32)
        · refine own_st T17 (mkF m_ 100 #[.val (.int mask), .val (.ref u), .val (.int (own_ct mask)), .val (.ref b1), .val (.int (1 : Int32))] []) (fun t_ k_ => XS.ifYes X17.here hx rfl (pc0 := 87) (pc' := 100) rfl (hb hby dmethod_3_code_87) rfl ((if0 _ _).trans (teq hc87).1) (by decide) (by decide) k_) ?_
          refine own_st T17 (mkF m_ 104 #[.val (.int mask), .val (.ref u), .val (.int (own_ct mask)), .val (.ref b1), .val (.int (1 : Int32))] [(.int (mask &&& (16 : Int32)))]) (fun t_ k_ => ?_) ?_
          · refine XS.iloadN X17.here hx rfl (hb hby dmethod_3_code_100) rfl ?_
            show Steps p_.tables e_ below (T17.setTop (mkF m_ 101 #[.val (.int mask), .val (.ref u), .val (.int (own_ct mask)), .val (.ref b1), .val (.int (1 : Int32))] [(.int mask)])) t_
            refine XS.bipush X17.here hx rfl (hb hby dmethod_3_code_101) ?_
            show Steps p_.tables e_ below (T17.setTop (mkF m_ 103 #[.val (.int mask), .val (.ref u), .val (.int (own_ct mask)), .val (.ref b1), .val (.int (1 : Int32))] [(.int (16 : Int32)), (.int mask)])) t_
            refine XS.iand X17.here hx rfl (hb hby dmethod_3_code_103) rfl ?_
            show Steps p_.tables e_ below (T17.setTop (mkF m_ 104 #[.val (.int mask), .val (.ref u), .val (.int (own_ct mask)), .val (.ref b1), .val (.int (1 : Int32))] [(.int (mask &&& (16 : Int32)))])) t_
            exact k_
          by_cases hc104 : (mask &&& (16 : Int32)) = (0 : Int32)
          · refine own_st T17 (mkF m_ 117 #[.val (.int mask), .val (.ref u), .val (.int (own_ct mask)), .val (.ref b1), .val (.int (1 : Int32))] []) (fun t_ k_ => XS.ifYes X17.here hx rfl (pc0 := 104) (pc' := 117) rfl (hb hby dmethod_3_code_104) rfl ((if0 _ _).trans (teq hc104).1) (by decide) (by decide) k_) ?_
            refine own_st T17 (mkF m_ 118 #[.val (.int mask), .val (.ref u), .val (.int (own_ct mask)), .val (.ref b1), .val (.int (1 : Int32))] [(.ref b1)]) (fun t_ k_ => ?_) ?_
            · refine XS.aloadN X17.here hx rfl (hb hby dmethod_3_code_117) rfl rfl ?_
              show Steps p_.tables e_ below (T17.setTop (mkF m_ 118 #[.val (.int mask), .val (.ref u), .val (.int (own_ct mask)), .val (.ref b1), .val (.int (1 : Int32))] [(.ref b1)])) t_
              exact k_
            refine own_retA X17 hx hlk hret rfl rfl (hb hby dmethod_3_code_118) (by decide) (by decide) ?_
            rw [e17]
            have hsel : own_sel mask e = [(e 0)] := by simp only [own_sel, if_neg hc38, if_pos hc54, if_pos hc70, if_pos hc87, if_pos hc104]; rfl
            have hlen : own_ctn mask = 1 := by have q0 := own_ctE hm; have q38 := own_bo hm (i := 0) (by decide) hc38; have q54 := own_bz hm (i := 1) (by decide) hc54; have q70 := own_bz hm (i := 2) (by decide) hc70; have q87 := own_bz hm (i := 3) (by decide) hc87; have q104 := own_bz hm (i := 4) (by decide) hc104; omega
            refine ⟨b1, k1, rfl, g_b1, sz_b1, N17, KP, ?_⟩
            rw [hsel]; rw [hlen] at A_b1; exact A_b1
          · refine own_st T17 (mkF m_ 107 #[.val (.int mask), .val (.ref u), .val (.int (own_ct mask)), .val (.ref b1), .val (.int (1 : Int32))] []) (fun t_ k_ => XS.ifNo X17.here hx rfl (hb hby dmethod_3_code_104) rfl ((if0 _ _).trans (feq hc104).1) k_) ?_
            refine own_st T17 (mkF m_ 113 #[.val (.int mask), .val (.ref u), .val (.int (own_ct mask)), .val (.ref b1), .val (.int (1 : Int32))] [(.int (e 4)), (.int (1 : Int32)), (.ref b1)]) (fun t_ k_ => ?_) ?_
            · refine XS.aloadN X17.here hx rfl (hb hby dmethod_3_code_107) rfl rfl ?_
              show Steps p_.tables e_ below (T17.setTop (mkF m_ 108 #[.val (.int mask), .val (.ref u), .val (.int (own_ct mask)), .val (.ref b1), .val (.int (1 : Int32))] [(.ref b1)])) t_
              refine XS.iload X17.here hx rfl (hb hby dmethod_3_code_108) rfl ?_
              show Steps p_.tables e_ below (T17.setTop (mkF m_ 110 #[.val (.int mask), .val (.ref u), .val (.int (own_ct mask)), .val (.ref b1), .val (.int (1 : Int32))] [(.int (1 : Int32)), (.ref b1)])) t_
              refine XS.aloadN X17.here hx rfl (hb hby dmethod_3_code_110) rfl rfl ?_
              show Steps p_.tables e_ below (T17.setTop (mkF m_ 111 #[.val (.int mask), .val (.ref u), .val (.int (own_ct mask)), .val (.ref b1), .val (.int (1 : Int32))] [(.ref u), (.int (1 : Int32)), (.ref b1)])) t_
              refine XS.iconst X17.here hx rfl (hb hby dmethod_3_code_111) ?_
              show Steps p_.tables e_ below (T17.setTop (mkF m_ 112 #[.val (.int mask), .val (.ref u), .val (.int (own_ct mask)), .val (.ref b1), .val (.int (1 : Int32))] [(.int (4 : Int32)), (.ref u), (.int (1 : Int32)), (.ref b1)])) t_
              refine own_ldI X17 hx hZ e17 U 4 (by decide) (by decide) (hb hby dmethod_3_code_112) _ ?_
              show Steps p_.tables e_ below (T17.setTop (mkF m_ 113 #[.val (.int mask), .val (.ref u), .val (.int (own_ct mask)), .val (.ref b1), .val (.int (1 : Int32))] [(.int (e 4)), (.int (1 : Int32)), (.ref b1)])) t_
              exact k_
            obtain ⟨T18, h18, X18, e18, W18, st18⟩ := own_stI X17 hx hZ e17 A_b1 1 (by decide) (by have q0 := own_ctE hm; have q38 := own_bo hm (i := 0) (by decide) hc38; have q54 := own_bz hm (i := 1) (by decide) hc54; have q70 := own_bz hm (i := 2) (by decide) hc70; have q87 := own_bz hm (i := 3) (by decide) hc87; have q104 := own_bo hm (i := 4) (by decide) hc104; omega) (j := (1 : Int32)) (x := (e 4)) (Ls := #[.val (.int mask), .val (.ref u), .val (.int (own_ct mask)), .val (.ref b1), .val (.int (1 : Int32))]) (rest := []) (hb hby dmethod_3_code_113)
            have N18 := Fr.snoc X18 N17 g_b1
            replace Z0 : n0 ≤ h18.size := W18.size ▸ Z0
            replace KP := KP.wr W18 (Or.inr sz_b1)
            replace U := U.other W18 ne_u_b1
            replace A_b1 : own_A Z h18 b1 k1 .int (own_ctn mask) (fun x_ => .int (([(e 0), (e 4)] : List Int32).getD x_ 0)) := A_b1.snocI (L := [(e 0)]) (i := 1) (by have q0 := own_ctE hm; have q38 := own_bo hm (i := 0) (by decide) hc38; have q54 := own_bz hm (i := 1) (by decide) hc54; have q70 := own_bz hm (i := 2) (by decide) hc70; have q87 := own_bz hm (i := 3) (by decide) hc87; have q104 := own_bo hm (i := 4) (by decide) hc104; omega) rfl W18
            refine own_st T18 (mkF m_ 114 #[.val (.int mask), .val (.ref u), .val (.int (own_ct mask)), .val (.ref b1), .val (.int (1 : Int32))] []) st18 ?_
            refine own_st T18 (mkF m_ 118 #[.val (.int mask), .val (.ref u), .val (.int (own_ct mask)), .val (.ref b1), .val (.int (2 : Int32))] [(.ref b1)]) (fun t_ k_ => ?_) ?_
            · refine XS.iinc X18.here hx rfl (hb hby dmethod_3_code_114) rfl (l' := #[.val (.int mask), .val (.ref u), .val (.int (own_ct mask)), .val (.ref b1), .val (.int (2 : Int32))]) rfl ?_
              show Steps p_.tables e_ below (T18.setTop (mkF m_ 117 #[.val (.int mask), .val (.ref u), .val (.int (own_ct mask)), .val (.ref b1), .val (.int (2 : Int32))] [])) t_
              refine XS.aloadN X18.here hx rfl (hb hby dmethod_3_code_117) rfl rfl ?_
              show Steps p_.tables e_ below (T18.setTop (mkF m_ 118 #[.val (.int mask), .val (.ref u), .val (.int (own_ct mask)), .val (.ref b1), .val (.int (2 : Int32))] [(.ref b1)])) t_
              exact k_
            refine own_retA X18 hx hlk hret rfl rfl (hb hby dmethod_3_code_118) (by decide) (by decide) ?_
            rw [e18]
            have hsel : own_sel mask e = [(e 0), (e 4)] := by simp only [own_sel, if_neg hc38, if_pos hc54, if_pos hc70, if_pos hc87, if_neg hc104]; rfl
            have hlen : own_ctn mask = 2 := by have q0 := own_ctE hm; have q38 := own_bo hm (i := 0) (by decide) hc38; have q54 := own_bz hm (i := 1) (by decide) hc54; have q70 := own_bz hm (i := 2) (by decide) hc70; have q87 := own_bz hm (i := 3) (by decide) hc87; have q104 := own_bo hm (i := 4) (by decide) hc104; omega
            refine ⟨b1, k1, rfl, g_b1, sz_b1, N18, KP, ?_⟩
            rw [hsel]; rw [hlen] at A_b1; exact A_b1
        · refine own_st T17 (mkF m_ 90 #[.val (.int mask), .val (.ref u), .val (.int (own_ct mask)), .val (.ref b1), .val (.int (1 : Int32))] []) (fun t_ k_ => XS.ifNo X17.here hx rfl (hb hby dmethod_3_code_87) rfl ((if0 _ _).trans (feq hc87).1) k_) ?_
          refine own_st T17 (mkF m_ 96 #[.val (.int mask), .val (.ref u), .val (.int (own_ct mask)), .val (.ref b1), .val (.int (1 : Int32))] [(.int (e 3)), (.int (1 : Int32)), (.ref b1)]) (fun t_ k_ => ?_) ?_
          · refine XS.aloadN X17.here hx rfl (hb hby dmethod_3_code_90) rfl rfl ?_
            show Steps p_.tables e_ below (T17.setTop (mkF m_ 91 #[.val (.int mask), .val (.ref u), .val (.int (own_ct mask)), .val (.ref b1), .val (.int (1 : Int32))] [(.ref b1)])) t_
            refine XS.iload X17.here hx rfl (hb hby dmethod_3_code_91) rfl ?_
            show Steps p_.tables e_ below (T17.setTop (mkF m_ 93 #[.val (.int mask), .val (.ref u), .val (.int (own_ct mask)), .val (.ref b1), .val (.int (1 : Int32))] [(.int (1 : Int32)), (.ref b1)])) t_
            refine XS.aloadN X17.here hx rfl (hb hby dmethod_3_code_93) rfl rfl ?_
            show Steps p_.tables e_ below (T17.setTop (mkF m_ 94 #[.val (.int mask), .val (.ref u), .val (.int (own_ct mask)), .val (.ref b1), .val (.int (1 : Int32))] [(.ref u), (.int (1 : Int32)), (.ref b1)])) t_
            refine XS.iconst X17.here hx rfl (hb hby dmethod_3_code_94) ?_
            show Steps p_.tables e_ below (T17.setTop (mkF m_ 95 #[.val (.int mask), .val (.ref u), .val (.int (own_ct mask)), .val (.ref b1), .val (.int (1 : Int32))] [(.int (3 : Int32)), (.ref u), (.int (1 : Int32)), (.ref b1)])) t_
            refine own_ldI X17 hx hZ e17 U 3 (by decide) (by decide) (hb hby dmethod_3_code_95) _ ?_
            show Steps p_.tables e_ below (T17.setTop (mkF m_ 96 #[.val (.int mask), .val (.ref u), .val (.int (own_ct mask)), .val (.ref b1), .val (.int (1 : Int32))] [(.int (e 3)), (.int (1 : Int32)), (.ref b1)])) t_
            exact k_
          obtain ⟨T19, h19, X19, e19, W19, st19⟩ := own_stI X17 hx hZ e17 A_b1 1 (by decide) (by have q0 := own_ctE hm; have q38 := own_bo hm (i := 0) (by decide) hc38; have q54 := own_bz hm (i := 1) (by decide) hc54; have q70 := own_bz hm (i := 2) (by decide) hc70; have q87 := own_bo hm (i := 3) (by decide) hc87; omega) (j := (1 : Int32)) (x := (e 3)) (Ls := #[.val (.int mask), .val (.ref u), .val (.int (own_ct mask)), .val (.ref b1), .val (.int (1 : Int32))]) (rest := []) (hb hby dmethod_3_code_96)
          have N19 := Fr.snoc X19 N17 g_b1
          replace Z0 : n0 ≤ h19.size := W19.size ▸ Z0
          replace KP := KP.wr W19 (Or.inr sz_b1)
          replace U := U.other W19 ne_u_b1
          replace A_b1 : own_A Z h19 b1 k1 .int (own_ctn mask) (fun x_ => .int (([(e 0), (e 3)] : List Int32).getD x_ 0)) := A_b1.snocI (L := [(e 0)]) (i := 1) (by have q0 := own_ctE hm; have q38 := own_bo hm (i := 0) (by decide) hc38; have q54 := own_bz hm (i := 1) (by decide) hc54; have q70 := own_bz hm (i := 2) (by decide) hc70; have q87 := own_bo hm (i := 3) (by decide) hc87; omega) rfl W19
          refine own_st T19 (mkF m_ 97 #[.val (.int mask), .val (.ref u), .val (.int (own_ct mask)), .val (.ref b1), .val (.int (1 : Int32))] []) st19 ?_
          refine own_st T19 (mkF m_ 104 #[.val (.int mask), .val (.ref u), .val (.int (own_ct mask)), .val (.ref b1), .val (.int (2 : Int32))] [(.int (mask &&& (16 : Int32)))]) (fun t_ k_ => ?_) ?_
          · refine XS.iinc X19.here hx rfl (hb hby dmethod_3_code_97) rfl (l' := #[.val (.int mask), .val (.ref u), .val (.int (own_ct mask)), .val (.ref b1), .val (.int (2 : Int32))]) rfl ?_
            show Steps p_.tables e_ below (T19.setTop (mkF m_ 100 #[.val (.int mask), .val (.ref u), .val (.int (own_ct mask)), .val (.ref b1), .val (.int (2 : Int32))] [])) t_
            refine XS.iloadN X19.here hx rfl (hb hby dmethod_3_code_100) rfl ?_
            show Steps p_.tables e_ below (T19.setTop (mkF m_ 101 #[.val (.int mask), .val (.ref u), .val (.int (own_ct mask)), .val (.ref b1), .val (.int (2 : Int32))] [(.int mask)])) t_
            refine XS.bipush X19.here hx rfl (hb hby dmethod_3_code_101) ?_
            show Steps p_.tables e_ below (T19.setTop (mkF m_ 103 #[.val (.int mask), .val (.ref u), .val (.int (own_ct mask)), .val (.ref b1), .val (.int (2 : Int32))] [(.int (16 : Int32)), (.int mask)])) t_
            refine XS.iand X19.here hx rfl (hb hby dmethod_3_code_103) rfl ?_
            show Steps p_.tables e_ below (T19.setTop (mkF m_ 104 #[.val (.int mask), .val (.ref u), .val (.int (own_ct mask)), .val (.ref b1), .val (.int (2 : Int32))] [(.int (mask &&& (16 : Int32)))])) t_
            exact k_
          by_cases hc104 : (mask &&& (16 : Int32)) = (0 : Int32)
          · refine own_st T19 (mkF m_ 117 #[.val (.int mask), .val (.ref u), .val (.int (own_ct mask)), .val (.ref b1), .val (.int (2 : Int32))] []) (fun t_ k_ => XS.ifYes X19.here hx rfl (pc0 := 104) (pc' := 117) rfl (hb hby dmethod_3_code_104) rfl ((if0 _ _).trans (teq hc104).1) (by decide) (by decide) k_) ?_
            refine own_st T19 (mkF m_ 118 #[.val (.int mask), .val (.ref u), .val (.int (own_ct mask)), .val (.ref b1), .val (.int (2 : Int32))] [(.ref b1)]) (fun t_ k_ => ?_) ?_
            · refine XS.aloadN X19.here hx rfl (hb hby dmethod_3_code_117) rfl rfl ?_
              show Steps p_.tables e_ below (T19.setTop (mkF m_ 118 #[.val (.int mask), .val (.ref u), .val (.int (own_ct mask)), .val (.ref b1), .val (.int (2 : Int32))] [(.ref b1)])) t_
              exact k_
            refine own_retA X19 hx hlk hret rfl rfl (hb hby dmethod_3_code_118) (by decide) (by decide) ?_
            rw [e19]
            have hsel : own_sel mask e = [(e 0), (e 3)] := by simp only [own_sel, if_neg hc38, if_pos hc54, if_pos hc70, if_neg hc87, if_pos hc104]; rfl
            have hlen : own_ctn mask = 2 := by have q0 := own_ctE hm; have q38 := own_bo hm (i := 0) (by decide) hc38; have q54 := own_bz hm (i := 1) (by decide) hc54; have q70 := own_bz hm (i := 2) (by decide) hc70; have q87 := own_bo hm (i := 3) (by decide) hc87; have q104 := own_bz hm (i := 4) (by decide) hc104; omega
            refine ⟨b1, k1, rfl, g_b1, sz_b1, N19, KP, ?_⟩
            rw [hsel]; rw [hlen] at A_b1; exact A_b1
          · refine own_st T19 (mkF m_ 107 #[.val (.int mask), .val (.ref u), .val (.int (own_ct mask)), .val (.ref b1), .val (.int (2 : Int32))] []) (fun t_ k_ => XS.ifNo X19.here hx rfl (hb hby dmethod_3_code_104) rfl ((if0 _ _).trans (feq hc104).1) k_) ?_
            refine own_st T19 (mkF m_ 113 #[.val (.int mask), .val (.ref u), .val (.int (own_ct mask)), .val (.ref b1), .val (.int (2 : Int32))] [(.int (e 4)), (.int (2 : Int32)), (.ref b1)]) (fun t_ k_ => ?_) ?_
            · refine XS.aloadN X19.here hx rfl (hb hby dmethod_3_code_107) rfl rfl ?_
              show Steps p_.tables e_ below (T19.setTop (mkF m_ 108 #[.val (.int mask), .val (.ref u), .val (.int (own_ct mask)), .val (.ref b1), .val (.int (2 : Int32))] [(.ref b1)])) t_
              refine XS.iload X19.here hx rfl (hb hby dmethod_3_code_108) rfl ?_
              show Steps p_.tables e_ below (T19.setTop (mkF m_ 110 #[.val (.int mask), .val (.ref u), .val (.int (own_ct mask)), .val (.ref b1), .val (.int (2 : Int32))] [(.int (2 : Int32)), (.ref b1)])) t_
              refine XS.aloadN X19.here hx rfl (hb hby dmethod_3_code_110) rfl rfl ?_
              show Steps p_.tables e_ below (T19.setTop (mkF m_ 111 #[.val (.int mask), .val (.ref u), .val (.int (own_ct mask)), .val (.ref b1), .val (.int (2 : Int32))] [(.ref u), (.int (2 : Int32)), (.ref b1)])) t_
              refine XS.iconst X19.here hx rfl (hb hby dmethod_3_code_111) ?_
              show Steps p_.tables e_ below (T19.setTop (mkF m_ 112 #[.val (.int mask), .val (.ref u), .val (.int (own_ct mask)), .val (.ref b1), .val (.int (2 : Int32))] [(.int (4 : Int32)), (.ref u), (.int (2 : Int32)), (.ref b1)])) t_
              refine own_ldI X19 hx hZ e19 U 4 (by decide) (by decide) (hb hby dmethod_3_code_112) _ ?_
              show Steps p_.tables e_ below (T19.setTop (mkF m_ 113 #[.val (.int mask), .val (.ref u), .val (.int (own_ct mask)), .val (.ref b1), .val (.int (2 : Int32))] [(.int (e 4)), (.int (2 : Int32)), (.ref b1)])) t_
              exact k_
            obtain ⟨T20, h20, X20, e20, W20, st20⟩ := own_stI X19 hx hZ e19 A_b1 2 (by decide) (by have q0 := own_ctE hm; have q38 := own_bo hm (i := 0) (by decide) hc38; have q54 := own_bz hm (i := 1) (by decide) hc54; have q70 := own_bz hm (i := 2) (by decide) hc70; have q87 := own_bo hm (i := 3) (by decide) hc87; have q104 := own_bo hm (i := 4) (by decide) hc104; omega) (j := (2 : Int32)) (x := (e 4)) (Ls := #[.val (.int mask), .val (.ref u), .val (.int (own_ct mask)), .val (.ref b1), .val (.int (2 : Int32))]) (rest := []) (hb hby dmethod_3_code_113)
            have N20 := Fr.snoc X20 N19 g_b1
            replace Z0 : n0 ≤ h20.size := W20.size ▸ Z0
            replace KP := KP.wr W20 (Or.inr sz_b1)
            replace U := U.other W20 ne_u_b1
            replace A_b1 : own_A Z h20 b1 k1 .int (own_ctn mask) (fun x_ => .int (([(e 0), (e 3), (e 4)] : List Int32).getD x_ 0)) := A_b1.snocI (L := [(e 0), (e 3)]) (i := 2) (by have q0 := own_ctE hm; have q38 := own_bo hm (i := 0) (by decide) hc38; have q54 := own_bz hm (i := 1) (by decide) hc54; have q70 := own_bz hm (i := 2) (by decide) hc70; have q87 := own_bo hm (i := 3) (by decide) hc87; have q104 := own_bo hm (i := 4) (by decide) hc104; omega) rfl W20
            refine own_st T20 (mkF m_ 114 #[.val (.int mask), .val (.ref u), .val (.int (own_ct mask)), .val (.ref b1), .val (.int (2 : Int32))] []) st20 ?_
            refine own_st T20 (mkF m_ 118 #[.val (.int mask), .val (.ref u), .val (.int (own_ct mask)), .val (.ref b1), .val (.int (3 : Int32))] [(.ref b1)]) (fun t_ k_ => ?_) ?_
            · refine XS.iinc X20.here hx rfl (hb hby dmethod_3_code_114) rfl (l' := #[.val (.int mask), .val (.ref u), .val (.int (own_ct mask)), .val (.ref b1), .val (.int (3 : Int32))]) rfl ?_
              show Steps p_.tables e_ below (T20.setTop (mkF m_ 117 #[.val (.int mask), .val (.ref u), .val (.int (own_ct mask)), .val (.ref b1), .val (.int (3 : Int32))] [])) t_
              refine XS.aloadN X20.here hx rfl (hb hby dmethod_3_code_117) rfl rfl ?_
              show Steps p_.tables e_ below (T20.setTop (mkF m_ 118 #[.val (.int mask), .val (.ref u), .val (.int (own_ct mask)), .val (.ref b1), .val (.int (3 : Int32))] [(.ref b1)])) t_
              exact k_
            refine own_retA X20 hx hlk hret rfl rfl (hb hby dmethod_3_code_118) (by decide) (by decide) ?_
            rw [e20]
            have hsel : own_sel mask e = [(e 0), (e 3), (e 4)] := by simp only [own_sel, if_neg hc38, if_pos hc54, if_pos hc70, if_neg hc87, if_neg hc104]; rfl
            have hlen : own_ctn mask = 3 := by have q0 := own_ctE hm; have q38 := own_bo hm (i := 0) (by decide) hc38; have q54 := own_bz hm (i := 1) (by decide) hc54; have q70 := own_bz hm (i := 2) (by decide) hc70; have q87 := own_bo hm (i := 3) (by decide) hc87; have q104 := own_bo hm (i := 4) (by decide) hc104; omega
            refine ⟨b1, k1, rfl, g_b1, sz_b1, N20, KP, ?_⟩
            rw [hsel]; rw [hlen] at A_b1; exact A_b1
      · refine own_st T17 (mkF m_ 73 #[.val (.int mask), .val (.ref u), .val (.int (own_ct mask)), .val (.ref b1), .val (.int (1 : Int32))] []) (fun t_ k_ => XS.ifNo X17.here hx rfl (hb hby dmethod_3_code_70) rfl ((if0 _ _).trans (feq hc70).1) k_) ?_
        refine own_st T17 (mkF m_ 79 #[.val (.int mask), .val (.ref u), .val (.int (own_ct mask)), .val (.ref b1), .val (.int (1 : Int32))] [(.int (e 2)), (.int (1 : Int32)), (.ref b1)]) (fun t_ k_ => ?_) ?_
        · refine XS.aloadN X17.here hx rfl (hb hby dmethod_3_code_73) rfl rfl ?_
          show Steps p_.tables e_ below (T17.setTop (mkF m_ 74 #[.val (.int mask), .val (.ref u), .val (.int (own_ct mask)), .val (.ref b1), .val (.int (1 : Int32))] [(.ref b1)])) t_
          refine XS.iload X17.here hx rfl (hb hby dmethod_3_code_74) rfl ?_
          show Steps p_.tables e_ below (T17.setTop (mkF m_ 76 #[.val (.int mask), .val (.ref u), .val (.int (own_ct mask)), .val (.ref b1), .val (.int (1 : Int32))] [(.int (1 : Int32)), (.ref b1)])) t_
          refine XS.aloadN X17.here hx rfl (hb hby dmethod_3_code_76) rfl rfl ?_
          show Steps p_.tables e_ below (T17.setTop (mkF m_ 77 #[.val (.int mask), .val (.ref u), .val (.int (own_ct mask)), .val (.ref b1), .val (.int (1 : Int32))] [(.ref u), (.int (1 : Int32)), (.ref b1)])) t_
          refine XS.iconst X17.here hx rfl (hb hby dmethod_3_code_77) ?_
          show Steps p_.tables e_ below (T17.setTop (mkF m_ 78 #[.val (.int mask), .val (.ref u), .val (.int (own_ct mask)), .val (.ref b1), .val (.int (1 : Int32))] [(.int (2 : Int32)), (.ref u), (.int (1 : Int32)), (.ref b1)])) t_
          refine own_ldI X17 hx hZ e17 U 2 (by decide) (by decide) (hb hby dmethod_3_code_78) _ ?_
          show Steps p_.tables e_ below (T17.setTop (mkF m_ 79 #[.val (.int mask), .val (.ref u), .val (.int (own_ct mask)), .val (.ref b1), .val (.int (1 : Int32))] [(.int (e 2)), (.int (1 : Int32)), (.ref b1)])) t_
          exact k_
        obtain ⟨T21, h21, X21, e21, W21, st21⟩ := own_stI X17 hx hZ e17 A_b1 1 (by decide) (by have q0 := own_ctE hm; have q38 := own_bo hm (i := 0) (by decide) hc38; have q54 := own_bz hm (i := 1) (by decide) hc54; have q70 := own_bo hm (i := 2) (by decide) hc70; omega) (j := (1 : Int32)) (x := (e 2)) (Ls := #[.val (.int mask), .val (.ref u), .val (.int (own_ct mask)), .val (.ref b1), .val (.int (1 : Int32))]) (rest := []) (hb hby dmethod_3_code_79)
        have N21 := Fr.snoc X21 N17 g_b1
        replace Z0 : n0 ≤ h21.size := W21.size ▸ Z0
        replace KP := KP.wr W21 (Or.inr sz_b1)
        replace U := U.other W21 ne_u_b1
        replace A_b1 : own_A Z h21 b1 k1 .int (own_ctn mask) (fun x_ => .int (([(e 0), (e 2)] : List Int32).getD x_ 0)) := A_b1.snocI (L := [(e 0)]) (i := 1) (by have q0 := own_ctE hm; have q38 := own_bo hm (i := 0) (by decide) hc38; have q54 := own_bz hm (i := 1) (by decide) hc54; have q70 := own_bo hm (i := 2) (by decide) hc70; omega) rfl W21
        refine own_st T21 (mkF m_ 80 #[.val (.int mask), .val (.ref u), .val (.int (own_ct mask)), .val (.ref b1), .val (.int (1 : Int32))] []) st21 ?_
        refine own_st T21 (mkF m_ 87 #[.val (.int mask), .val (.ref u), .val (.int (own_ct mask)), .val (.ref b1), .val (.int (2 : Int32))] [(.int (mask &&& (8 : Int32)))]) (fun t_ k_ => ?_) ?_
        · refine XS.iinc X21.here hx rfl (hb hby dmethod_3_code_80) rfl (l' := #[.val (.int mask), .val (.ref u), .val (.int (own_ct mask)), .val (.ref b1), .val (.int (2 : Int32))]) rfl ?_
          show Steps p_.tables e_ below (T21.setTop (mkF m_ 83 #[.val (.int mask), .val (.ref u), .val (.int (own_ct mask)), .val (.ref b1), .val (.int (2 : Int32))] [])) t_
          refine XS.iloadN X21.here hx rfl (hb hby dmethod_3_code_83) rfl ?_
          show Steps p_.tables e_ below (T21.setTop (mkF m_ 84 #[.val (.int mask), .val (.ref u), .val (.int (own_ct mask)), .val (.ref b1), .val (.int (2 : Int32))] [(.int mask)])) t_
          refine XS.bipush X21.here hx rfl (hb hby dmethod_3_code_84) ?_
          show Steps p_.tables e_ below (T21.setTop (mkF m_ 86 #[.val (.int mask), .val (.ref u), .val (.int (own_ct mask)), .val (.ref b1), .val (.int (2 : Int32))] [(.int (8 : Int32)), (.int mask)])) t_
          refine XS.iand X21.here hx rfl (hb hby dmethod_3_code_86) rfl ?_
          show Steps p_.tables e_ below (T21.setTop (mkF m_ 87 #[.val (.int mask), .val (.ref u), .val (.int (own_ct mask)), .val (.ref b1), .val (.int (2 : Int32))] [(.int (mask &&& (8 : Int32)))])) t_
          exact k_
        by_cases hc87 : (mask &&& (8 : Int32)) = (0 : Int32)
        · refine own_st T21 (mkF m_ 100 #[.val (.int mask), .val (.ref u), .val (.int (own_ct mask)), .val (.ref b1), .val (.int (2 : Int32))] []) (fun t_ k_ => XS.ifYes X21.here hx rfl (pc0 := 87) (pc' := 100) rfl (hb hby dmethod_3_code_87) rfl ((if0 _ _).trans (teq hc87).1) (by decide) (by decide) k_) ?_
          refine own_st T21 (mkF m_ 104 #[.val (.int mask), .val (.ref u), .val (.int (own_ct mask)), .val (.ref b1), .val (.int (2 : Int32))] [(.int (mask &&& (16 : Int32)))]) (fun t_ k_ => ?_) ?_
          · refine XS.iloadN X21.here hx rfl (hb hby dmethod_3_code_100) rfl ?_
            show Steps p_.tables e_ below (T21.setTop (mkF m_ 101 #[.val (.int mask), .val (.ref u), .val (.int (own_ct mask)), .val (.ref b1), .val (.int (2 : Int32))] [(.int mask)])) t_
            refine XS.bipush X21.here hx rfl (hb hby dmethod_3_code_101) ?_
            show Steps p_.tables e_ below (T21.setTop (mkF m_ 103 #[.val (.int mask), .val (.ref u), .val (.int (own_ct mask)), .val (.ref b1), .val (.int (2 : Int32))] [(.int (16 : Int32)), (.int mask)])) t_
            refine XS.iand X21.here hx rfl (hb hby dmethod_3_code_103) rfl ?_
            show Steps p_.tables e_ below (T21.setTop (mkF m_ 104 #[.val (.int mask), .val (.ref u), .val (.int (own_ct mask)), .val (.ref b1), .val (.int (2 : Int32))] [(.int (mask &&& (16 : Int32)))])) t_
            exact k_
          by_cases hc104 : (mask &&& (16 : Int32)) = (0 : Int32)
          · refine own_st T21 (mkF m_ 117 #[.val (.int mask), .val (.ref u), .val (.int (own_ct mask)), .val (.ref b1), .val (.int (2 : Int32))] []) (fun t_ k_ => XS.ifYes X21.here hx rfl (pc0 := 104) (pc' := 117) rfl (hb hby dmethod_3_code_104) rfl ((if0 _ _).trans (teq hc104).1) (by decide) (by decide) k_) ?_
            refine own_st T21 (mkF m_ 118 #[.val (.int mask), .val (.ref u), .val (.int (own_ct mask)), .val (.ref b1), .val (.int (2 : Int32))] [(.ref b1)]) (fun t_ k_ => ?_) ?_
            · refine XS.aloadN X21.here hx rfl (hb hby dmethod_3_code_117) rfl rfl ?_
              show Steps p_.tables e_ below (T21.setTop (mkF m_ 118 #[.val (.int mask), .val (.ref u), .val (.int (own_ct mask)), .val (.ref b1), .val (.int (2 : Int32))] [(.ref b1)])) t_
              exact k_
            refine own_retA X21 hx hlk hret rfl rfl (hb hby dmethod_3_code_118) (by decide) (by decide) ?_
            rw [e21]
            have hsel : own_sel mask e = [(e 0), (e 2)] := by simp only [own_sel, if_neg hc38, if_pos hc54, if_neg hc70, if_pos hc87, if_pos hc104]; rfl
            have hlen : own_ctn mask = 2 := by have q0 := own_ctE hm; have q38 := own_bo hm (i := 0) (by decide) hc38; have q54 := own_bz hm (i := 1) (by decide) hc54; have q70 := own_bo hm (i := 2) (by decide) hc70; have q87 := own_bz hm (i := 3) (by decide) hc87; have q104 := own_bz hm (i := 4) (by decide) hc104; omega
            refine ⟨b1, k1, rfl, g_b1, sz_b1, N21, KP, ?_⟩
            rw [hsel]; rw [hlen] at A_b1; exact A_b1
          · refine own_st T21 (mkF m_ 107 #[.val (.int mask), .val (.ref u), .val (.int (own_ct mask)), .val (.ref b1), .val (.int (2 : Int32))] []) (fun t_ k_ => XS.ifNo X21.here hx rfl (hb hby dmethod_3_code_104) rfl ((if0 _ _).trans (feq hc104).1) k_) ?_
            refine own_st T21 (mkF m_ 113 #[.val (.int mask), .val (.ref u), .val (.int (own_ct mask)), .val (.ref b1), .val (.int (2 : Int32))] [(.int (e 4)), (.int (2 : Int32)), (.ref b1)]) (fun t_ k_ => ?_) ?_
            · refine XS.aloadN X21.here hx rfl (hb hby dmethod_3_code_107) rfl rfl ?_
              show Steps p_.tables e_ below (T21.setTop (mkF m_ 108 #[.val (.int mask), .val (.ref u), .val (.int (own_ct mask)), .val (.ref b1), .val (.int (2 : Int32))] [(.ref b1)])) t_
              refine XS.iload X21.here hx rfl (hb hby dmethod_3_code_108) rfl ?_
              show Steps p_.tables e_ below (T21.setTop (mkF m_ 110 #[.val (.int mask), .val (.ref u), .val (.int (own_ct mask)), .val (.ref b1), .val (.int (2 : Int32))] [(.int (2 : Int32)), (.ref b1)])) t_
              refine XS.aloadN X21.here hx rfl (hb hby dmethod_3_code_110) rfl rfl ?_
              show Steps p_.tables e_ below (T21.setTop (mkF m_ 111 #[.val (.int mask), .val (.ref u), .val (.int (own_ct mask)), .val (.ref b1), .val (.int (2 : Int32))] [(.ref u), (.int (2 : Int32)), (.ref b1)])) t_
              refine XS.iconst X21.here hx rfl (hb hby dmethod_3_code_111) ?_
              show Steps p_.tables e_ below (T21.setTop (mkF m_ 112 #[.val (.int mask), .val (.ref u), .val (.int (own_ct mask)), .val (.ref b1), .val (.int (2 : Int32))] [(.int (4 : Int32)), (.ref u), (.int (2 : Int32)), (.ref b1)])) t_
              refine own_ldI X21 hx hZ e21 U 4 (by decide) (by decide) (hb hby dmethod_3_code_112) _ ?_
              show Steps p_.tables e_ below (T21.setTop (mkF m_ 113 #[.val (.int mask), .val (.ref u), .val (.int (own_ct mask)), .val (.ref b1), .val (.int (2 : Int32))] [(.int (e 4)), (.int (2 : Int32)), (.ref b1)])) t_
              exact k_
            obtain ⟨T22, h22, X22, e22, W22, st22⟩ := own_stI X21 hx hZ e21 A_b1 2 (by decide) (by have q0 := own_ctE hm; have q38 := own_bo hm (i := 0) (by decide) hc38; have q54 := own_bz hm (i := 1) (by decide) hc54; have q70 := own_bo hm (i := 2) (by decide) hc70; have q87 := own_bz hm (i := 3) (by decide) hc87; have q104 := own_bo hm (i := 4) (by decide) hc104; omega) (j := (2 : Int32)) (x := (e 4)) (Ls := #[.val (.int mask), .val (.ref u), .val (.int (own_ct mask)), .val (.ref b1), .val (.int (2 : Int32))]) (rest := []) (hb hby dmethod_3_code_113)
            have N22 := Fr.snoc X22 N21 g_b1
            replace Z0 : n0 ≤ h22.size := W22.size ▸ Z0
            replace KP := KP.wr W22 (Or.inr sz_b1)
            replace U := U.other W22 ne_u_b1
            replace A_b1 : own_A Z h22 b1 k1 .int (own_ctn mask) (fun x_ => .int (([(e 0), (e 2), (e 4)] : List Int32).getD x_ 0)) := A_b1.snocI (L := [(e 0), (e 2)]) (i := 2) (by have q0 := own_ctE hm; have q38 := own_bo hm (i := 0) (by decide) hc38; have q54 := own_bz hm (i := 1) (by decide) hc54; have q70 := own_bo hm (i := 2) (by decide) hc70; have q87 := own_bz hm (i := 3) (by decide) hc87; have q104 := own_bo hm (i := 4) (by decide) hc104; omega) rfl W22
            refine own_st T22 (mkF m_ 114 #[.val (.int mask), .val (.ref u), .val (.int (own_ct mask)), .val (.ref b1), .val (.int (2 : Int32))] []) st22 ?_
            refine own_st T22 (mkF m_ 118 #[.val (.int mask), .val (.ref u), .val (.int (own_ct mask)), .val (.ref b1), .val (.int (3 : Int32))] [(.ref b1)]) (fun t_ k_ => ?_) ?_
            · refine XS.iinc X22.here hx rfl (hb hby dmethod_3_code_114) rfl (l' := #[.val (.int mask), .val (.ref u), .val (.int (own_ct mask)), .val (.ref b1), .val (.int (3 : Int32))]) rfl ?_
              show Steps p_.tables e_ below (T22.setTop (mkF m_ 117 #[.val (.int mask), .val (.ref u), .val (.int (own_ct mask)), .val (.ref b1), .val (.int (3 : Int32))] [])) t_
              refine XS.aloadN X22.here hx rfl (hb hby dmethod_3_code_117) rfl rfl ?_
              show Steps p_.tables e_ below (T22.setTop (mkF m_ 118 #[.val (.int mask), .val (.ref u), .val (.int (own_ct mask)), .val (.ref b1), .val (.int (3 : Int32))] [(.ref b1)])) t_
              exact k_
            refine own_retA X22 hx hlk hret rfl rfl (hb hby dmethod_3_code_118) (by decide) (by decide) ?_
            rw [e22]
            have hsel : own_sel mask e = [(e 0), (e 2), (e 4)] := by simp only [own_sel, if_neg hc38, if_pos hc54, if_neg hc70, if_pos hc87, if_neg hc104]; rfl
            have hlen : own_ctn mask = 3 := by have q0 := own_ctE hm; have q38 := own_bo hm (i := 0) (by decide) hc38; have q54 := own_bz hm (i := 1) (by decide) hc54; have q70 := own_bo hm (i := 2) (by decide) hc70; have q87 := own_bz hm (i := 3) (by decide) hc87; have q104 := own_bo hm (i := 4) (by decide) hc104; omega
            refine ⟨b1, k1, rfl, g_b1, sz_b1, N22, KP, ?_⟩
            rw [hsel]; rw [hlen] at A_b1; exact A_b1
        · refine own_st T21 (mkF m_ 90 #[.val (.int mask), .val (.ref u), .val (.int (own_ct mask)), .val (.ref b1), .val (.int (2 : Int32))] []) (fun t_ k_ => XS.ifNo X21.here hx rfl (hb hby dmethod_3_code_87) rfl ((if0 _ _).trans (feq hc87).1) k_) ?_
          refine own_st T21 (mkF m_ 96 #[.val (.int mask), .val (.ref u), .val (.int (own_ct mask)), .val (.ref b1), .val (.int (2 : Int32))] [(.int (e 3)), (.int (2 : Int32)), (.ref b1)]) (fun t_ k_ => ?_) ?_
          · refine XS.aloadN X21.here hx rfl (hb hby dmethod_3_code_90) rfl rfl ?_
            show Steps p_.tables e_ below (T21.setTop (mkF m_ 91 #[.val (.int mask), .val (.ref u), .val (.int (own_ct mask)), .val (.ref b1), .val (.int (2 : Int32))] [(.ref b1)])) t_
            refine XS.iload X21.here hx rfl (hb hby dmethod_3_code_91) rfl ?_
            show Steps p_.tables e_ below (T21.setTop (mkF m_ 93 #[.val (.int mask), .val (.ref u), .val (.int (own_ct mask)), .val (.ref b1), .val (.int (2 : Int32))] [(.int (2 : Int32)), (.ref b1)])) t_
            refine XS.aloadN X21.here hx rfl (hb hby dmethod_3_code_93) rfl rfl ?_
            show Steps p_.tables e_ below (T21.setTop (mkF m_ 94 #[.val (.int mask), .val (.ref u), .val (.int (own_ct mask)), .val (.ref b1), .val (.int (2 : Int32))] [(.ref u), (.int (2 : Int32)), (.ref b1)])) t_
            refine XS.iconst X21.here hx rfl (hb hby dmethod_3_code_94) ?_
            show Steps p_.tables e_ below (T21.setTop (mkF m_ 95 #[.val (.int mask), .val (.ref u), .val (.int (own_ct mask)), .val (.ref b1), .val (.int (2 : Int32))] [(.int (3 : Int32)), (.ref u), (.int (2 : Int32)), (.ref b1)])) t_
            refine own_ldI X21 hx hZ e21 U 3 (by decide) (by decide) (hb hby dmethod_3_code_95) _ ?_
            show Steps p_.tables e_ below (T21.setTop (mkF m_ 96 #[.val (.int mask), .val (.ref u), .val (.int (own_ct mask)), .val (.ref b1), .val (.int (2 : Int32))] [(.int (e 3)), (.int (2 : Int32)), (.ref b1)])) t_
            exact k_
          obtain ⟨T23, h23, X23, e23, W23, st23⟩ := own_stI X21 hx hZ e21 A_b1 2 (by decide) (by have q0 := own_ctE hm; have q38 := own_bo hm (i := 0) (by decide) hc38; have q54 := own_bz hm (i := 1) (by decide) hc54; have q70 := own_bo hm (i := 2) (by decide) hc70; have q87 := own_bo hm (i := 3) (by decide) hc87; omega) (j := (2 : Int32)) (x := (e 3)) (Ls := #[.val (.int mask), .val (.ref u), .val (.int (own_ct mask)), .val (.ref b1), .val (.int (2 : Int32))]) (rest := []) (hb hby dmethod_3_code_96)
          have N23 := Fr.snoc X23 N21 g_b1
          replace Z0 : n0 ≤ h23.size := W23.size ▸ Z0
          replace KP := KP.wr W23 (Or.inr sz_b1)
          replace U := U.other W23 ne_u_b1
          replace A_b1 : own_A Z h23 b1 k1 .int (own_ctn mask) (fun x_ => .int (([(e 0), (e 2), (e 3)] : List Int32).getD x_ 0)) := A_b1.snocI (L := [(e 0), (e 2)]) (i := 2) (by have q0 := own_ctE hm; have q38 := own_bo hm (i := 0) (by decide) hc38; have q54 := own_bz hm (i := 1) (by decide) hc54; have q70 := own_bo hm (i := 2) (by decide) hc70; have q87 := own_bo hm (i := 3) (by decide) hc87; omega) rfl W23
          refine own_st T23 (mkF m_ 97 #[.val (.int mask), .val (.ref u), .val (.int (own_ct mask)), .val (.ref b1), .val (.int (2 : Int32))] []) st23 ?_
          refine own_st T23 (mkF m_ 104 #[.val (.int mask), .val (.ref u), .val (.int (own_ct mask)), .val (.ref b1), .val (.int (3 : Int32))] [(.int (mask &&& (16 : Int32)))]) (fun t_ k_ => ?_) ?_
          · refine XS.iinc X23.here hx rfl (hb hby dmethod_3_code_97) rfl (l' := #[.val (.int mask), .val (.ref u), .val (.int (own_ct mask)), .val (.ref b1), .val (.int (3 : Int32))]) rfl ?_
            show Steps p_.tables e_ below (T23.setTop (mkF m_ 100 #[.val (.int mask), .val (.ref u), .val (.int (own_ct mask)), .val (.ref b1), .val (.int (3 : Int32))] [])) t_
            refine XS.iloadN X23.here hx rfl (hb hby dmethod_3_code_100) rfl ?_
            show Steps p_.tables e_ below (T23.setTop (mkF m_ 101 #[.val (.int mask), .val (.ref u), .val (.int (own_ct mask)), .val (.ref b1), .val (.int (3 : Int32))] [(.int mask)])) t_
            refine XS.bipush X23.here hx rfl (hb hby dmethod_3_code_101) ?_
            show Steps p_.tables e_ below (T23.setTop (mkF m_ 103 #[.val (.int mask), .val (.ref u), .val (.int (own_ct mask)), .val (.ref b1), .val (.int (3 : Int32))] [(.int (16 : Int32)), (.int mask)])) t_
            refine XS.iand X23.here hx rfl (hb hby dmethod_3_code_103) rfl ?_
            show Steps p_.tables e_ below (T23.setTop (mkF m_ 104 #[.val (.int mask), .val (.ref u), .val (.int (own_ct mask)), .val (.ref b1), .val (.int (3 : Int32))] [(.int (mask &&& (16 : Int32)))])) t_
            exact k_
          by_cases hc104 : (mask &&& (16 : Int32)) = (0 : Int32)
          · refine own_st T23 (mkF m_ 117 #[.val (.int mask), .val (.ref u), .val (.int (own_ct mask)), .val (.ref b1), .val (.int (3 : Int32))] []) (fun t_ k_ => XS.ifYes X23.here hx rfl (pc0 := 104) (pc' := 117) rfl (hb hby dmethod_3_code_104) rfl ((if0 _ _).trans (teq hc104).1) (by decide) (by decide) k_) ?_
            refine own_st T23 (mkF m_ 118 #[.val (.int mask), .val (.ref u), .val (.int (own_ct mask)), .val (.ref b1), .val (.int (3 : Int32))] [(.ref b1)]) (fun t_ k_ => ?_) ?_
            · refine XS.aloadN X23.here hx rfl (hb hby dmethod_3_code_117) rfl rfl ?_
              show Steps p_.tables e_ below (T23.setTop (mkF m_ 118 #[.val (.int mask), .val (.ref u), .val (.int (own_ct mask)), .val (.ref b1), .val (.int (3 : Int32))] [(.ref b1)])) t_
              exact k_
            refine own_retA X23 hx hlk hret rfl rfl (hb hby dmethod_3_code_118) (by decide) (by decide) ?_
            rw [e23]
            have hsel : own_sel mask e = [(e 0), (e 2), (e 3)] := by simp only [own_sel, if_neg hc38, if_pos hc54, if_neg hc70, if_neg hc87, if_pos hc104]; rfl
            have hlen : own_ctn mask = 3 := by have q0 := own_ctE hm; have q38 := own_bo hm (i := 0) (by decide) hc38; have q54 := own_bz hm (i := 1) (by decide) hc54; have q70 := own_bo hm (i := 2) (by decide) hc70; have q87 := own_bo hm (i := 3) (by decide) hc87; have q104 := own_bz hm (i := 4) (by decide) hc104; omega
            refine ⟨b1, k1, rfl, g_b1, sz_b1, N23, KP, ?_⟩
            rw [hsel]; rw [hlen] at A_b1; exact A_b1
          · refine own_st T23 (mkF m_ 107 #[.val (.int mask), .val (.ref u), .val (.int (own_ct mask)), .val (.ref b1), .val (.int (3 : Int32))] []) (fun t_ k_ => XS.ifNo X23.here hx rfl (hb hby dmethod_3_code_104) rfl ((if0 _ _).trans (feq hc104).1) k_) ?_
            refine own_st T23 (mkF m_ 113 #[.val (.int mask), .val (.ref u), .val (.int (own_ct mask)), .val (.ref b1), .val (.int (3 : Int32))] [(.int (e 4)), (.int (3 : Int32)), (.ref b1)]) (fun t_ k_ => ?_) ?_
            · refine XS.aloadN X23.here hx rfl (hb hby dmethod_3_code_107) rfl rfl ?_
              show Steps p_.tables e_ below (T23.setTop (mkF m_ 108 #[.val (.int mask), .val (.ref u), .val (.int (own_ct mask)), .val (.ref b1), .val (.int (3 : Int32))] [(.ref b1)])) t_
              refine XS.iload X23.here hx rfl (hb hby dmethod_3_code_108) rfl ?_
              show Steps p_.tables e_ below (T23.setTop (mkF m_ 110 #[.val (.int mask), .val (.ref u), .val (.int (own_ct mask)), .val (.ref b1), .val (.int (3 : Int32))] [(.int (3 : Int32)), (.ref b1)])) t_
              refine XS.aloadN X23.here hx rfl (hb hby dmethod_3_code_110) rfl rfl ?_
              show Steps p_.tables e_ below (T23.setTop (mkF m_ 111 #[.val (.int mask), .val (.ref u), .val (.int (own_ct mask)), .val (.ref b1), .val (.int (3 : Int32))] [(.ref u), (.int (3 : Int32)), (.ref b1)])) t_
              refine XS.iconst X23.here hx rfl (hb hby dmethod_3_code_111) ?_
              show Steps p_.tables e_ below (T23.setTop (mkF m_ 112 #[.val (.int mask), .val (.ref u), .val (.int (own_ct mask)), .val (.ref b1), .val (.int (3 : Int32))] [(.int (4 : Int32)), (.ref u), (.int (3 : Int32)), (.ref b1)])) t_
              refine own_ldI X23 hx hZ e23 U 4 (by decide) (by decide) (hb hby dmethod_3_code_112) _ ?_
              show Steps p_.tables e_ below (T23.setTop (mkF m_ 113 #[.val (.int mask), .val (.ref u), .val (.int (own_ct mask)), .val (.ref b1), .val (.int (3 : Int32))] [(.int (e 4)), (.int (3 : Int32)), (.ref b1)])) t_
              exact k_
            obtain ⟨T24, h24, X24, e24, W24, st24⟩ := own_stI X23 hx hZ e23 A_b1 3 (by decide) (by have q0 := own_ctE hm; have q38 := own_bo hm (i := 0) (by decide) hc38; have q54 := own_bz hm (i := 1) (by decide) hc54; have q70 := own_bo hm (i := 2) (by decide) hc70; have q87 := own_bo hm (i := 3) (by decide) hc87; have q104 := own_bo hm (i := 4) (by decide) hc104; omega) (j := (3 : Int32)) (x := (e 4)) (Ls := #[.val (.int mask), .val (.ref u), .val (.int (own_ct mask)), .val (.ref b1), .val (.int (3 : Int32))]) (rest := []) (hb hby dmethod_3_code_113)
            have N24 := Fr.snoc X24 N23 g_b1
            replace Z0 : n0 ≤ h24.size := W24.size ▸ Z0
            replace KP := KP.wr W24 (Or.inr sz_b1)
            replace U := U.other W24 ne_u_b1
            replace A_b1 : own_A Z h24 b1 k1 .int (own_ctn mask) (fun x_ => .int (([(e 0), (e 2), (e 3), (e 4)] : List Int32).getD x_ 0)) := A_b1.snocI (L := [(e 0), (e 2), (e 3)]) (i := 3) (by have q0 := own_ctE hm; have q38 := own_bo hm (i := 0) (by decide) hc38; have q54 := own_bz hm (i := 1) (by decide) hc54; have q70 := own_bo hm (i := 2) (by decide) hc70; have q87 := own_bo hm (i := 3) (by decide) hc87; have q104 := own_bo hm (i := 4) (by decide) hc104; omega) rfl W24
            refine own_st T24 (mkF m_ 114 #[.val (.int mask), .val (.ref u), .val (.int (own_ct mask)), .val (.ref b1), .val (.int (3 : Int32))] []) st24 ?_
            refine own_st T24 (mkF m_ 118 #[.val (.int mask), .val (.ref u), .val (.int (own_ct mask)), .val (.ref b1), .val (.int (4 : Int32))] [(.ref b1)]) (fun t_ k_ => ?_) ?_
            · refine XS.iinc X24.here hx rfl (hb hby dmethod_3_code_114) rfl (l' := #[.val (.int mask), .val (.ref u), .val (.int (own_ct mask)), .val (.ref b1), .val (.int (4 : Int32))]) rfl ?_
              show Steps p_.tables e_ below (T24.setTop (mkF m_ 117 #[.val (.int mask), .val (.ref u), .val (.int (own_ct mask)), .val (.ref b1), .val (.int (4 : Int32))] [])) t_
              refine XS.aloadN X24.here hx rfl (hb hby dmethod_3_code_117) rfl rfl ?_
              show Steps p_.tables e_ below (T24.setTop (mkF m_ 118 #[.val (.int mask), .val (.ref u), .val (.int (own_ct mask)), .val (.ref b1), .val (.int (4 : Int32))] [(.ref b1)])) t_
              exact k_
            refine own_retA X24 hx hlk hret rfl rfl (hb hby dmethod_3_code_118) (by decide) (by decide) ?_
            rw [e24]
            have hsel : own_sel mask e = [(e 0), (e 2), (e 3), (e 4)] := by simp only [own_sel, if_neg hc38, if_pos hc54, if_neg hc70, if_neg hc87, if_neg hc104]; rfl
            have hlen : own_ctn mask = 4 := by have q0 := own_ctE hm; have q38 := own_bo hm (i := 0) (by decide) hc38; have q54 := own_bz hm (i := 1) (by decide) hc54; have q70 := own_bo hm (i := 2) (by decide) hc70; have q87 := own_bo hm (i := 3) (by decide) hc87; have q104 := own_bo hm (i := 4) (by decide) hc104; omega
            refine ⟨b1, k1, rfl, g_b1, sz_b1, N24, KP, ?_⟩
            rw [hsel]; rw [hlen] at A_b1; exact A_b1
    · refine own_st T17 (mkF m_ 57 #[.val (.int mask), .val (.ref u), .val (.int (own_ct mask)), .val (.ref b1), .val (.int (1 : Int32))] []) (fun t_ k_ => XS.ifNo X17.here hx rfl (hb hby dmethod_3_code_54) rfl ((if0 _ _).trans (feq hc54).1) k_) ?_
      refine own_st T17 (mkF m_ 63 #[.val (.int mask), .val (.ref u), .val (.int (own_ct mask)), .val (.ref b1), .val (.int (1 : Int32))] [(.int (e 1)), (.int (1 : Int32)), (.ref b1)]) (fun t_ k_ => ?_) ?_
      · refine XS.aloadN X17.here hx rfl (hb hby dmethod_3_code_57) rfl rfl ?_
        show Steps p_.tables e_ below (T17.setTop (mkF m_ 58 #[.val (.int mask), .val (.ref u), .val (.int (own_ct mask)), .val (.ref b1), .val (.int (1 : Int32))] [(.ref b1)])) t_
        refine XS.iload X17.here hx rfl (hb hby dmethod_3_code_58) rfl ?_
        show Steps p_.tables e_ below (T17.setTop (mkF m_ 60 #[.val (.int mask), .val (.ref u), .val (.int (own_ct mask)), .val (.ref b1), .val (.int (1 : Int32))] [(.int (1 : Int32)), (.ref b1)])) t_
        refine XS.aloadN X17.here hx rfl (hb hby dmethod_3_code_60) rfl rfl ?_
        show Steps p_.tables e_ below (T17.setTop (mkF m_ 61 #[.val (.int mask), .val (.ref u), .val (.int (own_ct mask)), .val (.ref b1), .val (.int (1 : Int32))] [(.ref u), (.int (1 : Int32)), (.ref b1)])) t_
        refine XS.iconst X17.here hx rfl (hb hby dmethod_3_code_61) ?_
        show Steps p_.tables e_ below (T17.setTop (mkF m_ 62 #[.val (.int mask), .val (.ref u), .val (.int (own_ct mask)), .val (.ref b1), .val (.int (1 : Int32))] [(.int (1 : Int32)), (.ref u), (.int (1 : Int32)), (.ref b1)])) t_
        refine own_ldI X17 hx hZ e17 U 1 (by decide) (by decide) (hb hby dmethod_3_code_62) _ ?_
        show Steps p_.tables e_ below (T17.setTop (mkF m_ 63 #[.val (.int mask), .val (.ref u), .val (.int (own_ct mask)), .val (.ref b1), .val (.int (1 : Int32))] [(.int (e 1)), (.int (1 : Int32)), (.ref b1)])) t_
        exact k_
      obtain ⟨T25, h25, X25, e25, W25, st25⟩ := own_stI X17 hx hZ e17 A_b1 1 (by decide) (by have q0 := own_ctE hm; have q38 := own_bo hm (i := 0) (by decide) hc38; have q54 := own_bo hm (i := 1) (by decide) hc54; omega) (j := (1 : Int32)) (x := (e 1)) (Ls := #[.val (.int mask), .val (.ref u), .val (.int (own_ct mask)), .val (.ref b1), .val (.int (1 : Int32))]) (rest := []) (hb hby dmethod_3_code_63)
      have N25 := Fr.snoc X25 N17 g_b1
      replace Z0 : n0 ≤ h25.size := W25.size ▸ Z0
      replace KP := KP.wr W25 (Or.inr sz_b1)
      replace U := U.other W25 ne_u_b1
      replace A_b1 : own_A Z h25 b1 k1 .int (own_ctn mask) (fun x_ => .int (([(e 0), (e 1)] : List Int32).getD x_ 0)) := A_b1.snocI (L := [(e 0)]) (i := 1) (by have q0 := own_ctE hm; have q38 := own_bo hm (i := 0) (by decide) hc38; have q54 := own_bo hm (i := 1) (by decide) hc54; omega) rfl W25
      refine own_st T25 (mkF m_ 64 #[.val (.int mask), .val (.ref u), .val (.int (own_ct mask)), .val (.ref b1), .val (.int (1 : Int32))] []) st25 ?_
      refine own_st T25 (mkF m_ 70 #[.val (.int mask), .val (.ref u), .val (.int (own_ct mask)), .val (.ref b1), .val (.int (2 : Int32))] [(.int (mask &&& (4 : Int32)))]) (fun t_ k_ => ?_) ?_
      · refine XS.iinc X25.here hx rfl (hb hby dmethod_3_code_64) rfl (l' := #[.val (.int mask), .val (.ref u), .val (.int (own_ct mask)), .val (.ref b1), .val (.int (2 : Int32))]) rfl ?_
        show Steps p_.tables e_ below (T25.setTop (mkF m_ 67 #[.val (.int mask), .val (.ref u), .val (.int (own_ct mask)), .val (.ref b1), .val (.int (2 : Int32))] [])) t_
        refine XS.iloadN X25.here hx rfl (hb hby dmethod_3_code_67) rfl ?_
        show Steps p_.tables e_ below (T25.setTop (mkF m_ 68 #[.val (.int mask), .val (.ref u), .val (.int (own_ct mask)), .val (.ref b1), .val (.int (2 : Int32))] [(.int mask)])) t_
        refine XS.iconst X25.here hx rfl (hb hby dmethod_3_code_68) ?_
        show Steps p_.tables e_ below (T25.setTop (mkF m_ 69 #[.val (.int mask), .val (.ref u), .val (.int (own_ct mask)), .val (.ref b1), .val (.int (2 : Int32))] [(.int (4 : Int32)), (.int mask)])) t_
        refine XS.iand X25.here hx rfl (hb hby dmethod_3_code_69) rfl ?_
        show Steps p_.tables e_ below (T25.setTop (mkF m_ 70 #[.val (.int mask), .val (.ref u), .val (.int (own_ct mask)), .val (.ref b1), .val (.int (2 : Int32))] [(.int (mask &&& (4 : Int32)))])) t_
        exact k_
      by_cases hc70 : (mask &&& (4 : Int32)) = (0 : Int32)
      · refine own_st T25 (mkF m_ 83 #[.val (.int mask), .val (.ref u), .val (.int (own_ct mask)), .val (.ref b1), .val (.int (2 : Int32))] []) (fun t_ k_ => XS.ifYes X25.here hx rfl (pc0 := 70) (pc' := 83) rfl (hb hby dmethod_3_code_70) rfl ((if0 _ _).trans (teq hc70).1) (by decide) (by decide) k_) ?_
        refine own_st T25 (mkF m_ 87 #[.val (.int mask), .val (.ref u), .val (.int (own_ct mask)), .val (.ref b1), .val (.int (2 : Int32))] [(.int (mask &&& (8 : Int32)))]) (fun t_ k_ => ?_) ?_
        · refine XS.iloadN X25.here hx rfl (hb hby dmethod_3_code_83) rfl ?_
          show Steps p_.tables e_ below (T25.setTop (mkF m_ 84 #[.val (.int mask), .val (.ref u), .val (.int (own_ct mask)), .val (.ref b1), .val (.int (2 : Int32))] [(.int mask)])) t_
          refine XS.bipush X25.here hx rfl (hb hby dmethod_3_code_84) ?_
          show Steps p_.tables e_ below (T25.setTop (mkF m_ 86 #[.val (.int mask), .val (.ref u), .val (.int (own_ct mask)), .val (.ref b1), .val (.int (2 : Int32))] [(.int (8 : Int32)), (.int mask)])) t_
          refine XS.iand X25.here hx rfl (hb hby dmethod_3_code_86) rfl ?_
          show Steps p_.tables e_ below (T25.setTop (mkF m_ 87 #[.val (.int mask), .val (.ref u), .val (.int (own_ct mask)), .val (.ref b1), .val (.int (2 : Int32))] [(.int (mask &&& (8 : Int32)))])) t_
          exact k_
        by_cases hc87 : (mask &&& (8 : Int32)) = (0 : Int32)
        · refine own_st T25 (mkF m_ 100 #[.val (.int mask), .val (.ref u), .val (.int (own_ct mask)), .val (.ref b1), .val (.int (2 : Int32))] []) (fun t_ k_ => XS.ifYes X25.here hx rfl (pc0 := 87) (pc' := 100) rfl (hb hby dmethod_3_code_87) rfl ((if0 _ _).trans (teq hc87).1) (by decide) (by decide) k_) ?_
          refine own_st T25 (mkF m_ 104 #[.val (.int mask), .val (.ref u), .val (.int (own_ct mask)), .val (.ref b1), .val (.int (2 : Int32))] [(.int (mask &&& (16 : Int32)))]) (fun t_ k_ => ?_) ?_
          · refine XS.iloadN X25.here hx rfl (hb hby dmethod_3_code_100) rfl ?_
            show Steps p_.tables e_ below (T25.setTop (mkF m_ 101 #[.val (.int mask), .val (.ref u), .val (.int (own_ct mask)), .val (.ref b1), .val (.int (2 : Int32))] [(.int mask)])) t_
            refine XS.bipush X25.here hx rfl (hb hby dmethod_3_code_101) ?_
            show Steps p_.tables e_ below (T25.setTop (mkF m_ 103 #[.val (.int mask), .val (.ref u), .val (.int (own_ct mask)), .val (.ref b1), .val (.int (2 : Int32))] [(.int (16 : Int32)), (.int mask)])) t_
            refine XS.iand X25.here hx rfl (hb hby dmethod_3_code_103) rfl ?_
            show Steps p_.tables e_ below (T25.setTop (mkF m_ 104 #[.val (.int mask), .val (.ref u), .val (.int (own_ct mask)), .val (.ref b1), .val (.int (2 : Int32))] [(.int (mask &&& (16 : Int32)))])) t_
            exact k_
          by_cases hc104 : (mask &&& (16 : Int32)) = (0 : Int32)
          · refine own_st T25 (mkF m_ 117 #[.val (.int mask), .val (.ref u), .val (.int (own_ct mask)), .val (.ref b1), .val (.int (2 : Int32))] []) (fun t_ k_ => XS.ifYes X25.here hx rfl (pc0 := 104) (pc' := 117) rfl (hb hby dmethod_3_code_104) rfl ((if0 _ _).trans (teq hc104).1) (by decide) (by decide) k_) ?_
            refine own_st T25 (mkF m_ 118 #[.val (.int mask), .val (.ref u), .val (.int (own_ct mask)), .val (.ref b1), .val (.int (2 : Int32))] [(.ref b1)]) (fun t_ k_ => ?_) ?_
            · refine XS.aloadN X25.here hx rfl (hb hby dmethod_3_code_117) rfl rfl ?_
              show Steps p_.tables e_ below (T25.setTop (mkF m_ 118 #[.val (.int mask), .val (.ref u), .val (.int (own_ct mask)), .val (.ref b1), .val (.int (2 : Int32))] [(.ref b1)])) t_
              exact k_
            refine own_retA X25 hx hlk hret rfl rfl (hb hby dmethod_3_code_118) (by decide) (by decide) ?_
            rw [e25]
            have hsel : own_sel mask e = [(e 0), (e 1)] := by simp only [own_sel, if_neg hc38, if_neg hc54, if_pos hc70, if_pos hc87, if_pos hc104]; rfl
            have hlen : own_ctn mask = 2 := by have q0 := own_ctE hm; have q38 := own_bo hm (i := 0) (by decide) hc38; have q54 := own_bo hm (i := 1) (by decide) hc54; have q70 := own_bz hm (i := 2) (by decide) hc70; have q87 := own_bz hm (i := 3) (by decide) hc87; have q104 := own_bz hm (i := 4) (by decide) hc104; omega
            refine ⟨b1, k1, rfl, g_b1, sz_b1, N25, KP, ?_⟩
            rw [hsel]; rw [hlen] at A_b1; exact A_b1
          · refine own_st T25 (mkF m_ 107 #[.val (.int mask), .val (.ref u), .val (.int (own_ct mask)), .val (.ref b1), .val (.int (2 : Int32))] []) (fun t_ k_ => XS.ifNo X25.here hx rfl (hb hby dmethod_3_code_104) rfl ((if0 _ _).trans (feq hc104).1) k_) ?_
            refine own_st T25 (mkF m_ 113 #[.val (.int mask), .val (.ref u), .val (.int (own_ct mask)), .val (.ref b1), .val (.int (2 : Int32))] [(.int (e 4)), (.int (2 : Int32)), (.ref b1)]) (fun t_ k_ => ?_) ?_
            · refine XS.aloadN X25.here hx rfl (hb hby dmethod_3_code_107) rfl rfl ?_
              show Steps p_.tables e_ below (T25.setTop (mkF m_ 108 #[.val (.int mask), .val (.ref u), .val (.int (own_ct mask)), .val (.ref b1), .val (.int (2 : Int32))] [(.ref b1)])) t_
              refine XS.iload X25.here hx rfl (hb hby dmethod_3_code_108) rfl ?_
              show Steps p_.tables e_ below (T25.setTop (mkF m_ 110 #[.val (.int mask), .val (.ref u), .val (.int (own_ct mask)), .val (.ref b1), .val (.int (2 : Int32))] [(.int (2 : Int32)), (.ref b1)])) t_
              refine XS.aloadN X25.here hx rfl (hb hby dmethod_3_code_110) rfl rfl ?_
              show Steps p_.tables e_ below (T25.setTop (mkF m_ 111 #[.val (.int mask), .val (.ref u), .val (.int (own_ct mask)), .val (.ref b1), .val (.int (2 : Int32))] [(.ref u), (.int (2 : Int32)), (.ref b1)])) t_
              refine XS.iconst X25.here hx rfl (hb hby dmethod_3_code_111) ?_
              show Steps p_.tables e_ below (T25.setTop (mkF m_ 112 #[.val (.int mask), .val (.ref u), .val (.int (own_ct mask)), .val (.ref b1), .val (.int (2 : Int32))] [(.int (4 : Int32)), (.ref u), (.int (2 : Int32)), (.ref b1)])) t_
              refine own_ldI X25 hx hZ e25 U 4 (by decide) (by decide) (hb hby dmethod_3_code_112) _ ?_
              show Steps p_.tables e_ below (T25.setTop (mkF m_ 113 #[.val (.int mask), .val (.ref u), .val (.int (own_ct mask)), .val (.ref b1), .val (.int (2 : Int32))] [(.int (e 4)), (.int (2 : Int32)), (.ref b1)])) t_
              exact k_
            obtain ⟨T26, h26, X26, e26, W26, st26⟩ := own_stI X25 hx hZ e25 A_b1 2 (by decide) (by have q0 := own_ctE hm; have q38 := own_bo hm (i := 0) (by decide) hc38; have q54 := own_bo hm (i := 1) (by decide) hc54; have q70 := own_bz hm (i := 2) (by decide) hc70; have q87 := own_bz hm (i := 3) (by decide) hc87; have q104 := own_bo hm (i := 4) (by decide) hc104; omega) (j := (2 : Int32)) (x := (e 4)) (Ls := #[.val (.int mask), .val (.ref u), .val (.int (own_ct mask)), .val (.ref b1), .val (.int (2 : Int32))]) (rest := []) (hb hby dmethod_3_code_113)
            have N26 := Fr.snoc X26 N25 g_b1
            replace Z0 : n0 ≤ h26.size := W26.size ▸ Z0
            replace KP := KP.wr W26 (Or.inr sz_b1)
            replace U := U.other W26 ne_u_b1
            replace A_b1 : own_A Z h26 b1 k1 .int (own_ctn mask) (fun x_ => .int (([(e 0), (e 1), (e 4)] : List Int32).getD x_ 0)) := A_b1.snocI (L := [(e 0), (e 1)]) (i := 2) (by have q0 := own_ctE hm; have q38 := own_bo hm (i := 0) (by decide) hc38; have q54 := own_bo hm (i := 1) (by decide) hc54; have q70 := own_bz hm (i := 2) (by decide) hc70; have q87 := own_bz hm (i := 3) (by decide) hc87; have q104 := own_bo hm (i := 4) (by decide) hc104; omega) rfl W26
            refine own_st T26 (mkF m_ 114 #[.val (.int mask), .val (.ref u), .val (.int (own_ct mask)), .val (.ref b1), .val (.int (2 : Int32))] []) st26 ?_
            refine own_st T26 (mkF m_ 118 #[.val (.int mask), .val (.ref u), .val (.int (own_ct mask)), .val (.ref b1), .val (.int (3 : Int32))] [(.ref b1)]) (fun t_ k_ => ?_) ?_
            · refine XS.iinc X26.here hx rfl (hb hby dmethod_3_code_114) rfl (l' := #[.val (.int mask), .val (.ref u), .val (.int (own_ct mask)), .val (.ref b1), .val (.int (3 : Int32))]) rfl ?_
              show Steps p_.tables e_ below (T26.setTop (mkF m_ 117 #[.val (.int mask), .val (.ref u), .val (.int (own_ct mask)), .val (.ref b1), .val (.int (3 : Int32))] [])) t_
              refine XS.aloadN X26.here hx rfl (hb hby dmethod_3_code_117) rfl rfl ?_
              show Steps p_.tables e_ below (T26.setTop (mkF m_ 118 #[.val (.int mask), .val (.ref u), .val (.int (own_ct mask)), .val (.ref b1), .val (.int (3 : Int32))] [(.ref b1)])) t_
              exact k_
            refine own_retA X26 hx hlk hret rfl rfl (hb hby dmethod_3_code_118) (by decide) (by decide) ?_
            rw [e26]
            have hsel : own_sel mask e = [(e 0), (e 1), (e 4)] := by simp only [own_sel, if_neg hc38, if_neg hc54, if_pos hc70, if_pos hc87, if_neg hc104]; rfl
            have hlen : own_ctn mask = 3 := by have q0 := own_ctE hm; have q38 := own_bo hm (i := 0) (by decide) hc38; have q54 := own_bo hm (i := 1) (by decide) hc54; have q70 := own_bz hm (i := 2) (by decide) hc70; have q87 := own_bz hm (i := 3) (by decide) hc87; have q104 := own_bo hm (i := 4) (by decide) hc104; omega
            refine ⟨b1, k1, rfl, g_b1, sz_b1, N26, KP, ?_⟩
            rw [hsel]; rw [hlen] at A_b1; exact A_b1
        · refine own_st T25 (mkF m_ 90 #[.val (.int mask), .val (.ref u), .val (.int (own_ct mask)), .val (.ref b1), .val (.int (2 : Int32))] []) (fun t_ k_ => XS.ifNo X25.here hx rfl (hb hby dmethod_3_code_87) rfl ((if0 _ _).trans (feq hc87).1) k_) ?_
          refine own_st T25 (mkF m_ 96 #[.val (.int mask), .val (.ref u), .val (.int (own_ct mask)), .val (.ref b1), .val (.int (2 : Int32))] [(.int (e 3)), (.int (2 : Int32)), (.ref b1)]) (fun t_ k_ => ?_) ?_
          · refine XS.aloadN X25.here hx rfl (hb hby dmethod_3_code_90) rfl rfl ?_
            show Steps p_.tables e_ below (T25.setTop (mkF m_ 91 #[.val (.int mask), .val (.ref u), .val (.int (own_ct mask)), .val (.ref b1), .val (.int (2 : Int32))] [(.ref b1)])) t_
            refine XS.iload X25.here hx rfl (hb hby dmethod_3_code_91) rfl ?_
            show Steps p_.tables e_ below (T25.setTop (mkF m_ 93 #[.val (.int mask), .val (.ref u), .val (.int (own_ct mask)), .val (.ref b1), .val (.int (2 : Int32))] [(.int (2 : Int32)), (.ref b1)])) t_
            refine XS.aloadN X25.here hx rfl (hb hby dmethod_3_code_93) rfl rfl ?_
            show Steps p_.tables e_ below (T25.setTop (mkF m_ 94 #[.val (.int mask), .val (.ref u), .val (.int (own_ct mask)), .val (.ref b1), .val (.int (2 : Int32))] [(.ref u), (.int (2 : Int32)), (.ref b1)])) t_
            refine XS.iconst X25.here hx rfl (hb hby dmethod_3_code_94) ?_
            show Steps p_.tables e_ below (T25.setTop (mkF m_ 95 #[.val (.int mask), .val (.ref u), .val (.int (own_ct mask)), .val (.ref b1), .val (.int (2 : Int32))] [(.int (3 : Int32)), (.ref u), (.int (2 : Int32)), (.ref b1)])) t_
            refine own_ldI X25 hx hZ e25 U 3 (by decide) (by decide) (hb hby dmethod_3_code_95) _ ?_
            show Steps p_.tables e_ below (T25.setTop (mkF m_ 96 #[.val (.int mask), .val (.ref u), .val (.int (own_ct mask)), .val (.ref b1), .val (.int (2 : Int32))] [(.int (e 3)), (.int (2 : Int32)), (.ref b1)])) t_
            exact k_
          obtain ⟨T27, h27, X27, e27, W27, st27⟩ := own_stI X25 hx hZ e25 A_b1 2 (by decide) (by have q0 := own_ctE hm; have q38 := own_bo hm (i := 0) (by decide) hc38; have q54 := own_bo hm (i := 1) (by decide) hc54; have q70 := own_bz hm (i := 2) (by decide) hc70; have q87 := own_bo hm (i := 3) (by decide) hc87; omega) (j := (2 : Int32)) (x := (e 3)) (Ls := #[.val (.int mask), .val (.ref u), .val (.int (own_ct mask)), .val (.ref b1), .val (.int (2 : Int32))]) (rest := []) (hb hby dmethod_3_code_96)
          have N27 := Fr.snoc X27 N25 g_b1
          replace Z0 : n0 ≤ h27.size := W27.size ▸ Z0
          replace KP := KP.wr W27 (Or.inr sz_b1)
          replace U := U.other W27 ne_u_b1
          replace A_b1 : own_A Z h27 b1 k1 .int (own_ctn mask) (fun x_ => .int (([(e 0), (e 1), (e 3)] : List Int32).getD x_ 0)) := A_b1.snocI (L := [(e 0), (e 1)]) (i := 2) (by have q0 := own_ctE hm; have q38 := own_bo hm (i := 0) (by decide) hc38; have q54 := own_bo hm (i := 1) (by decide) hc54; have q70 := own_bz hm (i := 2) (by decide) hc70; have q87 := own_bo hm (i := 3) (by decide) hc87; omega) rfl W27
          refine own_st T27 (mkF m_ 97 #[.val (.int mask), .val (.ref u), .val (.int (own_ct mask)), .val (.ref b1), .val (.int (2 : Int32))] []) st27 ?_
          refine own_st T27 (mkF m_ 104 #[.val (.int mask), .val (.ref u), .val (.int (own_ct mask)), .val (.ref b1), .val (.int (3 : Int32))] [(.int (mask &&& (16 : Int32)))]) (fun t_ k_ => ?_) ?_
          · refine XS.iinc X27.here hx rfl (hb hby dmethod_3_code_97) rfl (l' := #[.val (.int mask), .val (.ref u), .val (.int (own_ct mask)), .val (.ref b1), .val (.int (3 : Int32))]) rfl ?_
            show Steps p_.tables e_ below (T27.setTop (mkF m_ 100 #[.val (.int mask), .val (.ref u), .val (.int (own_ct mask)), .val (.ref b1), .val (.int (3 : Int32))] [])) t_
            refine XS.iloadN X27.here hx rfl (hb hby dmethod_3_code_100) rfl ?_
            show Steps p_.tables e_ below (T27.setTop (mkF m_ 101 #[.val (.int mask), .val (.ref u), .val (.int (own_ct mask)), .val (.ref b1), .val (.int (3 : Int32))] [(.int mask)])) t_
            refine XS.bipush X27.here hx rfl (hb hby dmethod_3_code_101) ?_
            show Steps p_.tables e_ below (T27.setTop (mkF m_ 103 #[.val (.int mask), .val (.ref u), .val (.int (own_ct mask)), .val (.ref b1), .val (.int (3 : Int32))] [(.int (16 : Int32)), (.int mask)])) t_
            refine XS.iand X27.here hx rfl (hb hby dmethod_3_code_103) rfl ?_
            show Steps p_.tables e_ below (T27.setTop (mkF m_ 104 #[.val (.int mask), .val (.ref u), .val (.int (own_ct mask)), .val (.ref b1), .val (.int (3 : Int32))] [(.int (mask &&& (16 : Int32)))])) t_
            exact k_
          by_cases hc104 : (mask &&& (16 : Int32)) = (0 : Int32)
          · refine own_st T27 (mkF m_ 117 #[.val (.int mask), .val (.ref u), .val (.int (own_ct mask)), .val (.ref b1), .val (.int (3 : Int32))] []) (fun t_ k_ => XS.ifYes X27.here hx rfl (pc0 := 104) (pc' := 117) rfl (hb hby dmethod_3_code_104) rfl ((if0 _ _).trans (teq hc104).1) (by decide) (by decide) k_) ?_
            refine own_st T27 (mkF m_ 118 #[.val (.int mask), .val (.ref u), .val (.int (own_ct mask)), .val (.ref b1), .val (.int (3 : Int32))] [(.ref b1)]) (fun t_ k_ => ?_) ?_
            · refine XS.aloadN X27.here hx rfl (hb hby dmethod_3_code_117) rfl rfl ?_
              show Steps p_.tables e_ below (T27.setTop (mkF m_ 118 #[.val (.int mask), .val (.ref u), .val (.int (own_ct mask)), .val (.ref b1), .val (.int (3 : Int32))] [(.ref b1)])) t_
              exact k_
            refine own_retA X27 hx hlk hret rfl rfl (hb hby dmethod_3_code_118) (by decide) (by decide) ?_
            rw [e27]
            have hsel : own_sel mask e = [(e 0), (e 1), (e 3)] := by simp only [own_sel, if_neg hc38, if_neg hc54, if_pos hc70, if_neg hc87, if_pos hc104]; rfl
            have hlen : own_ctn mask = 3 := by have q0 := own_ctE hm; have q38 := own_bo hm (i := 0) (by decide) hc38; have q54 := own_bo hm (i := 1) (by decide) hc54; have q70 := own_bz hm (i := 2) (by decide) hc70; have q87 := own_bo hm (i := 3) (by decide) hc87; have q104 := own_bz hm (i := 4) (by decide) hc104; omega
            refine ⟨b1, k1, rfl, g_b1, sz_b1, N27, KP, ?_⟩
            rw [hsel]; rw [hlen] at A_b1; exact A_b1
          · refine own_st T27 (mkF m_ 107 #[.val (.int mask), .val (.ref u), .val (.int (own_ct mask)), .val (.ref b1), .val (.int (3 : Int32))] []) (fun t_ k_ => XS.ifNo X27.here hx rfl (hb hby dmethod_3_code_104) rfl ((if0 _ _).trans (feq hc104).1) k_) ?_
            refine own_st T27 (mkF m_ 113 #[.val (.int mask), .val (.ref u), .val (.int (own_ct mask)), .val (.ref b1), .val (.int (3 : Int32))] [(.int (e 4)), (.int (3 : Int32)), (.ref b1)]) (fun t_ k_ => ?_) ?_
            · refine XS.aloadN X27.here hx rfl (hb hby dmethod_3_code_107) rfl rfl ?_
              show Steps p_.tables e_ below (T27.setTop (mkF m_ 108 #[.val (.int mask), .val (.ref u), .val (.int (own_ct mask)), .val (.ref b1), .val (.int (3 : Int32))] [(.ref b1)])) t_
              refine XS.iload X27.here hx rfl (hb hby dmethod_3_code_108) rfl ?_
              show Steps p_.tables e_ below (T27.setTop (mkF m_ 110 #[.val (.int mask), .val (.ref u), .val (.int (own_ct mask)), .val (.ref b1), .val (.int (3 : Int32))] [(.int (3 : Int32)), (.ref b1)])) t_
              refine XS.aloadN X27.here hx rfl (hb hby dmethod_3_code_110) rfl rfl ?_
              show Steps p_.tables e_ below (T27.setTop (mkF m_ 111 #[.val (.int mask), .val (.ref u), .val (.int (own_ct mask)), .val (.ref b1), .val (.int (3 : Int32))] [(.ref u), (.int (3 : Int32)), (.ref b1)])) t_
              refine XS.iconst X27.here hx rfl (hb hby dmethod_3_code_111) ?_
              show Steps p_.tables e_ below (T27.setTop (mkF m_ 112 #[.val (.int mask), .val (.ref u), .val (.int (own_ct mask)), .val (.ref b1), .val (.int (3 : Int32))] [(.int (4 : Int32)), (.ref u), (.int (3 : Int32)), (.ref b1)])) t_
              refine own_ldI X27 hx hZ e27 U 4 (by decide) (by decide) (hb hby dmethod_3_code_112) _ ?_
              show Steps p_.tables e_ below (T27.setTop (mkF m_ 113 #[.val (.int mask), .val (.ref u), .val (.int (own_ct mask)), .val (.ref b1), .val (.int (3 : Int32))] [(.int (e 4)), (.int (3 : Int32)), (.ref b1)])) t_
              exact k_
            obtain ⟨T28, h28, X28, e28, W28, st28⟩ := own_stI X27 hx hZ e27 A_b1 3 (by decide) (by have q0 := own_ctE hm; have q38 := own_bo hm (i := 0) (by decide) hc38; have q54 := own_bo hm (i := 1) (by decide) hc54; have q70 := own_bz hm (i := 2) (by decide) hc70; have q87 := own_bo hm (i := 3) (by decide) hc87; have q104 := own_bo hm (i := 4) (by decide) hc104; omega) (j := (3 : Int32)) (x := (e 4)) (Ls := #[.val (.int mask), .val (.ref u), .val (.int (own_ct mask)), .val (.ref b1), .val (.int (3 : Int32))]) (rest := []) (hb hby dmethod_3_code_113)
            have N28 := Fr.snoc X28 N27 g_b1
            replace Z0 : n0 ≤ h28.size := W28.size ▸ Z0
            replace KP := KP.wr W28 (Or.inr sz_b1)
            replace U := U.other W28 ne_u_b1
            replace A_b1 : own_A Z h28 b1 k1 .int (own_ctn mask) (fun x_ => .int (([(e 0), (e 1), (e 3), (e 4)] : List Int32).getD x_ 0)) := A_b1.snocI (L := [(e 0), (e 1), (e 3)]) (i := 3) (by have q0 := own_ctE hm; have q38 := own_bo hm (i := 0) (by decide) hc38; have q54 := own_bo hm (i := 1) (by decide) hc54; have q70 := own_bz hm (i := 2) (by decide) hc70; have q87 := own_bo hm (i := 3) (by decide) hc87; have q104 := own_bo hm (i := 4) (by decide) hc104; omega) rfl W28
            refine own_st T28 (mkF m_ 114 #[.val (.int mask), .val (.ref u), .val (.int (own_ct mask)), .val (.ref b1), .val (.int (3 : Int32))] []) st28 ?_
            refine own_st T28 (mkF m_ 118 #[.val (.int mask), .val (.ref u), .val (.int (own_ct mask)), .val (.ref b1), .val (.int (4 : Int32))] [(.ref b1)]) (fun t_ k_ => ?_) ?_
            · refine XS.iinc X28.here hx rfl (hb hby dmethod_3_code_114) rfl (l' := #[.val (.int mask), .val (.ref u), .val (.int (own_ct mask)), .val (.ref b1), .val (.int (4 : Int32))]) rfl ?_
              show Steps p_.tables e_ below (T28.setTop (mkF m_ 117 #[.val (.int mask), .val (.ref u), .val (.int (own_ct mask)), .val (.ref b1), .val (.int (4 : Int32))] [])) t_
              refine XS.aloadN X28.here hx rfl (hb hby dmethod_3_code_117) rfl rfl ?_
              show Steps p_.tables e_ below (T28.setTop (mkF m_ 118 #[.val (.int mask), .val (.ref u), .val (.int (own_ct mask)), .val (.ref b1), .val (.int (4 : Int32))] [(.ref b1)])) t_
              exact k_
            refine own_retA X28 hx hlk hret rfl rfl (hb hby dmethod_3_code_118) (by decide) (by decide) ?_
            rw [e28]
            have hsel : own_sel mask e = [(e 0), (e 1), (e 3), (e 4)] := by simp only [own_sel, if_neg hc38, if_neg hc54, if_pos hc70, if_neg hc87, if_neg hc104]; rfl
            have hlen : own_ctn mask = 4 := by have q0 := own_ctE hm; have q38 := own_bo hm (i := 0) (by decide) hc38; have q54 := own_bo hm (i := 1) (by decide) hc54; have q70 := own_bz hm (i := 2) (by decide) hc70; have q87 := own_bo hm (i := 3) (by decide) hc87; have q104 := own_bo hm (i := 4) (by decide) hc104; omega
            refine ⟨b1, k1, rfl, g_b1, sz_b1, N28, KP, ?_⟩
            rw [hsel]; rw [hlen] at A_b1; exact A_b1
      · refine own_st T25 (mkF m_ 73 #[.val (.int mask), .val (.ref u), .val (.int (own_ct mask)), .val (.ref b1), .val (.int (2 : Int32))] []) (fun t_ k_ => XS.ifNo X25.here hx rfl (hb hby dmethod_3_code_70) rfl ((if0 _ _).trans (feq hc70).1) k_) ?_
        refine own_st T25 (mkF m_ 79 #[.val (.int mask), .val (.ref u), .val (.int (own_ct mask)), .val (.ref b1), .val (.int (2 : Int32))] [(.int (e 2)), (.int (2 : Int32)), (.ref b1)]) (fun t_ k_ => ?_) ?_
        · refine XS.aloadN X25.here hx rfl (hb hby dmethod_3_code_73) rfl rfl ?_
          show Steps p_.tables e_ below (T25.setTop (mkF m_ 74 #[.val (.int mask), .val (.ref u), .val (.int (own_ct mask)), .val (.ref b1), .val (.int (2 : Int32))] [(.ref b1)])) t_
          refine XS.iload X25.here hx rfl (hb hby dmethod_3_code_74) rfl ?_
          show Steps p_.tables e_ below (T25.setTop (mkF m_ 76 #[.val (.int mask), .val (.ref u), .val (.int (own_ct mask)), .val (.ref b1), .val (.int (2 : Int32))] [(.int (2 : Int32)), (.ref b1)])) t_
          refine XS.aloadN X25.here hx rfl (hb hby dmethod_3_code_76) rfl rfl ?_
          show Steps p_.tables e_ below (T25.setTop (mkF m_ 77 #[.val (.int mask), .val (.ref u), .val (.int (own_ct mask)), .val (.ref b1), .val (.int (2 : Int32))] [(.ref u), (.int (2 : Int32)), (.ref b1)])) t_
          refine XS.iconst X25.here hx rfl (hb hby dmethod_3_code_77) ?_
          show Steps p_.tables e_ below (T25.setTop (mkF m_ 78 #[.val (.int mask), .val (.ref u), .val (.int (own_ct mask)), .val (.ref b1), .val (.int (2 : Int32))] [(.int (2 : Int32)), (.ref u), (.int (2 : Int32)), (.ref b1)])) t_
          refine own_ldI X25 hx hZ e25 U 2 (by decide) (by decide) (hb hby dmethod_3_code_78) _ ?_
          show Steps p_.tables e_ below (T25.setTop (mkF m_ 79 #[.val (.int mask), .val (.ref u), .val (.int (own_ct mask)), .val (.ref b1), .val (.int (2 : Int32))] [(.int (e 2)), (.int (2 : Int32)), (.ref b1)])) t_
          exact k_
        obtain ⟨T29, h29, X29, e29, W29, st29⟩ := own_stI X25 hx hZ e25 A_b1 2 (by decide) (by have q0 := own_ctE hm; have q38 := own_bo hm (i := 0) (by decide) hc38; have q54 := own_bo hm (i := 1) (by decide) hc54; have q70 := own_bo hm (i := 2) (by decide) hc70; omega) (j := (2 : Int32)) (x := (e 2)) (Ls := #[.val (.int mask), .val (.ref u), .val (.int (own_ct mask)), .val (.ref b1), .val (.int (2 : Int32))]) (rest := []) (hb hby dmethod_3_code_79)
        have N29 := Fr.snoc X29 N25 g_b1
        replace Z0 : n0 ≤ h29.size := W29.size ▸ Z0
        replace KP := KP.wr W29 (Or.inr sz_b1)
        replace U := U.other W29 ne_u_b1
        replace A_b1 : own_A Z h29 b1 k1 .int (own_ctn mask) (fun x_ => .int (([(e 0), (e 1), (e 2)] : List Int32).getD x_ 0)) := A_b1.snocI (L := [(e 0), (e 1)]) (i := 2) (by have q0 := own_ctE hm; have q38 := own_bo hm (i := 0) (by decide) hc38; have q54 := own_bo hm (i := 1) (by decide) hc54; have q70 := own_bo hm (i := 2) (by decide) hc70; omega) rfl W29
        refine own_st T29 (mkF m_ 80 #[.val (.int mask), .val (.ref u), .val (.int (own_ct mask)), .val (.ref b1), .val (.int (2 : Int32))] []) st29 ?_
        refine own_st T29 (mkF m_ 87 #[.val (.int mask), .val (.ref u), .val (.int (own_ct mask)), .val (.ref b1), .val (.int (3 : Int32))] [(.int (mask &&& (8 : Int32)))]) (fun t_ k_ => ?_) ?_
        · refine XS.iinc X29.here hx rfl (hb hby dmethod_3_code_80) rfl (l' := #[.val (.int mask), .val (.ref u), .val (.int (own_ct mask)), .val (.ref b1), .val (.int (3 : Int32))]) rfl ?_
          show Steps p_.tables e_ below (T29.setTop (mkF m_ 83 #[.val (.int mask), .val (.ref u), .val (.int (own_ct mask)), .val (.ref b1), .val (.int (3 : Int32))] [])) t_
          refine XS.iloadN X29.here hx rfl (hb hby dmethod_3_code_83) rfl ?_
          show Steps p_.tables e_ below (T29.setTop (mkF m_ 84 #[.val (.int mask), .val (.ref u), .val (.int (own_ct mask)), .val (.ref b1), .val (.int (3 : Int32))] [(.int mask)])) t_
          refine XS.bipush X29.here hx rfl (hb hby dmethod_3_code_84) ?_
          show Steps p_.tables e_ below (T29.setTop (mkF m_ 86 #[.val (.int mask), .val (.ref u), .val (.int (own_ct mask)), .val (.ref b1), .val (.int (3 : Int32))] [(.int (8 : Int32)), (.int mask)])) t_
          refine XS.iand X29.here hx rfl (hb hby dmethod_3_code_86) rfl ?_
          show Steps p_.tables e_ below (T29.setTop (mkF m_ 87 #[.val (.int mask), .val (.ref u), .val (.int (own_ct mask)), .val (.ref b1), .val (.int (3 : Int32))] [(.int (mask &&& (8 : Int32)))])) t_
          exact k_
        by_cases hc87 : (mask &&& (8 : Int32)) = (0 : Int32)
        · refine own_st T29 (mkF m_ 100 #[.val (.int mask), .val (.ref u), .val (.int (own_ct mask)), .val (.ref b1), .val (.int (3 : Int32))] []) (fun t_ k_ => XS.ifYes X29.here hx rfl (pc0 := 87) (pc' := 100) rfl (hb hby dmethod_3_code_87) rfl ((if0 _ _).trans (teq hc87).1) (by decide) (by decide) k_) ?_
          refine own_st T29 (mkF m_ 104 #[.val (.int mask), .val (.ref u), .val (.int (own_ct mask)), .val (.ref b1), .val (.int (3 : Int32))] [(.int (mask &&& (16 : Int32)))]) (fun t_ k_ => ?_) ?_
          · refine XS.iloadN X29.here hx rfl (hb hby dmethod_3_code_100) rfl ?_
            show Steps p_.tables e_ below (T29.setTop (mkF m_ 101 #[.val (.int mask), .val (.ref u), .val (.int (own_ct mask)), .val (.ref b1), .val (.int (3 : Int32))] [(.int mask)])) t_
            refine XS.bipush X29.here hx rfl (hb hby dmethod_3_code_101) ?_
            show Steps p_.tables e_ below (T29.setTop (mkF m_ 103 #[.val (.int mask), .val (.ref u), .val (.int (own_ct mask)), .val (.ref b1), .val (.int (3 : Int32))] [(.int (16 : Int32)), (.int mask)])) t_
            refine XS.iand X29.here hx rfl (hb hby dmethod_3_code_103) rfl ?_
            show Steps p_.tables e_ below (T29.setTop (mkF m_ 104 #[.val (.int mask), .val (.ref u), .val (.int (own_ct mask)), .val (.ref b1), .val (.int (3 : Int32))] [(.int (mask &&& (16 : Int32)))])) t_
            exact k_
          by_cases hc104 : (mask &&& (16 : Int32)) = (0 : Int32)
          · refine own_st T29 (mkF m_ 117 #[.val (.int mask), .val (.ref u), .val (.int (own_ct mask)), .val (.ref b1), .val (.int (3 : Int32))] []) (fun t_ k_ => XS.ifYes X29.here hx rfl (pc0 := 104) (pc' := 117) rfl (hb hby dmethod_3_code_104) rfl ((if0 _ _).trans (teq hc104).1) (by decide) (by decide) k_) ?_
            refine own_st T29 (mkF m_ 118 #[.val (.int mask), .val (.ref u), .val (.int (own_ct mask)), .val (.ref b1), .val (.int (3 : Int32))] [(.ref b1)]) (fun t_ k_ => ?_) ?_
            · refine XS.aloadN X29.here hx rfl (hb hby dmethod_3_code_117) rfl rfl ?_
              show Steps p_.tables e_ below (T29.setTop (mkF m_ 118 #[.val (.int mask), .val (.ref u), .val (.int (own_ct mask)), .val (.ref b1), .val (.int (3 : Int32))] [(.ref b1)])) t_
              exact k_
            refine own_retA X29 hx hlk hret rfl rfl (hb hby dmethod_3_code_118) (by decide) (by decide) ?_
            rw [e29]
            have hsel : own_sel mask e = [(e 0), (e 1), (e 2)] := by simp only [own_sel, if_neg hc38, if_neg hc54, if_neg hc70, if_pos hc87, if_pos hc104]; rfl
            have hlen : own_ctn mask = 3 := by have q0 := own_ctE hm; have q38 := own_bo hm (i := 0) (by decide) hc38; have q54 := own_bo hm (i := 1) (by decide) hc54; have q70 := own_bo hm (i := 2) (by decide) hc70; have q87 := own_bz hm (i := 3) (by decide) hc87; have q104 := own_bz hm (i := 4) (by decide) hc104; omega
            refine ⟨b1, k1, rfl, g_b1, sz_b1, N29, KP, ?_⟩
            rw [hsel]; rw [hlen] at A_b1; exact A_b1
          · refine own_st T29 (mkF m_ 107 #[.val (.int mask), .val (.ref u), .val (.int (own_ct mask)), .val (.ref b1), .val (.int (3 : Int32))] []) (fun t_ k_ => XS.ifNo X29.here hx rfl (hb hby dmethod_3_code_104) rfl ((if0 _ _).trans (feq hc104).1) k_) ?_
            refine own_st T29 (mkF m_ 113 #[.val (.int mask), .val (.ref u), .val (.int (own_ct mask)), .val (.ref b1), .val (.int (3 : Int32))] [(.int (e 4)), (.int (3 : Int32)), (.ref b1)]) (fun t_ k_ => ?_) ?_
            · refine XS.aloadN X29.here hx rfl (hb hby dmethod_3_code_107) rfl rfl ?_
              show Steps p_.tables e_ below (T29.setTop (mkF m_ 108 #[.val (.int mask), .val (.ref u), .val (.int (own_ct mask)), .val (.ref b1), .val (.int (3 : Int32))] [(.ref b1)])) t_
              refine XS.iload X29.here hx rfl (hb hby dmethod_3_code_108) rfl ?_
              show Steps p_.tables e_ below (T29.setTop (mkF m_ 110 #[.val (.int mask), .val (.ref u), .val (.int (own_ct mask)), .val (.ref b1), .val (.int (3 : Int32))] [(.int (3 : Int32)), (.ref b1)])) t_
              refine XS.aloadN X29.here hx rfl (hb hby dmethod_3_code_110) rfl rfl ?_
              show Steps p_.tables e_ below (T29.setTop (mkF m_ 111 #[.val (.int mask), .val (.ref u), .val (.int (own_ct mask)), .val (.ref b1), .val (.int (3 : Int32))] [(.ref u), (.int (3 : Int32)), (.ref b1)])) t_
              refine XS.iconst X29.here hx rfl (hb hby dmethod_3_code_111) ?_
              show Steps p_.tables e_ below (T29.setTop (mkF m_ 112 #[.val (.int mask), .val (.ref u), .val (.int (own_ct mask)), .val (.ref b1), .val (.int (3 : Int32))] [(.int (4 : Int32)), (.ref u), (.int (3 : Int32)), (.ref b1)])) t_
              refine own_ldI X29 hx hZ e29 U 4 (by decide) (by decide) (hb hby dmethod_3_code_112) _ ?_
              show Steps p_.tables e_ below (T29.setTop (mkF m_ 113 #[.val (.int mask), .val (.ref u), .val (.int (own_ct mask)), .val (.ref b1), .val (.int (3 : Int32))] [(.int (e 4)), (.int (3 : Int32)), (.ref b1)])) t_
              exact k_
            obtain ⟨T30, h30, X30, e30, W30, st30⟩ := own_stI X29 hx hZ e29 A_b1 3 (by decide) (by have q0 := own_ctE hm; have q38 := own_bo hm (i := 0) (by decide) hc38; have q54 := own_bo hm (i := 1) (by decide) hc54; have q70 := own_bo hm (i := 2) (by decide) hc70; have q87 := own_bz hm (i := 3) (by decide) hc87; have q104 := own_bo hm (i := 4) (by decide) hc104; omega) (j := (3 : Int32)) (x := (e 4)) (Ls := #[.val (.int mask), .val (.ref u), .val (.int (own_ct mask)), .val (.ref b1), .val (.int (3 : Int32))]) (rest := []) (hb hby dmethod_3_code_113)
            have N30 := Fr.snoc X30 N29 g_b1
            replace Z0 : n0 ≤ h30.size := W30.size ▸ Z0
            replace KP := KP.wr W30 (Or.inr sz_b1)
            replace U := U.other W30 ne_u_b1
            replace A_b1 : own_A Z h30 b1 k1 .int (own_ctn mask) (fun x_ => .int (([(e 0), (e 1), (e 2), (e 4)] : List Int32).getD x_ 0)) := A_b1.snocI (L := [(e 0), (e 1), (e 2)]) (i := 3) (by have q0 := own_ctE hm; have q38 := own_bo hm (i := 0) (by decide) hc38; have q54 := own_bo hm (i := 1) (by decide) hc54; have q70 := own_bo hm (i := 2) (by decide) hc70; have q87 := own_bz hm (i := 3) (by decide) hc87; have q104 := own_bo hm (i := 4) (by decide) hc104; omega) rfl W30
            refine own_st T30 (mkF m_ 114 #[.val (.int mask), .val (.ref u), .val (.int (own_ct mask)), .val (.ref b1), .val (.int (3 : Int32))] []) st30 ?_
            refine own_st T30 (mkF m_ 118 #[.val (.int mask), .val (.ref u), .val (.int (own_ct mask)), .val (.ref b1), .val (.int (4 : Int32))] [(.ref b1)]) (fun t_ k_ => ?_) ?_
            · refine XS.iinc X30.here hx rfl (hb hby dmethod_3_code_114) rfl (l' := #[.val (.int mask), .val (.ref u), .val (.int (own_ct mask)), .val (.ref b1), .val (.int (4 : Int32))]) rfl ?_
              show Steps p_.tables e_ below (T30.setTop (mkF m_ 117 #[.val (.int mask), .val (.ref u), .val (.int (own_ct mask)), .val (.ref b1), .val (.int (4 : Int32))] [])) t_
              refine XS.aloadN X30.here hx rfl (hb hby dmethod_3_code_117) rfl rfl ?_
              show Steps p_.tables e_ below (T30.setTop (mkF m_ 118 #[.val (.int mask), .val (.ref u), .val (.int (own_ct mask)), .val (.ref b1), .val (.int (4 : Int32))] [(.ref b1)])) t_
              exact k_
            refine own_retA X30 hx hlk hret rfl rfl (hb hby dmethod_3_code_118) (by decide) (by decide) ?_
            rw [e30]
            have hsel : own_sel mask e = [(e 0), (e 1), (e 2), (e 4)] := by simp only [own_sel, if_neg hc38, if_neg hc54, if_neg hc70, if_pos hc87, if_neg hc104]; rfl
            have hlen : own_ctn mask = 4 := by have q0 := own_ctE hm; have q38 := own_bo hm (i := 0) (by decide) hc38; have q54 := own_bo hm (i := 1) (by decide) hc54; have q70 := own_bo hm (i := 2) (by decide) hc70; have q87 := own_bz hm (i := 3) (by decide) hc87; have q104 := own_bo hm (i := 4) (by decide) hc104; omega
            refine ⟨b1, k1, rfl, g_b1, sz_b1, N30, KP, ?_⟩
            rw [hsel]; rw [hlen] at A_b1; exact A_b1
        · refine own_st T29 (mkF m_ 90 #[.val (.int mask), .val (.ref u), .val (.int (own_ct mask)), .val (.ref b1), .val (.int (3 : Int32))] []) (fun t_ k_ => XS.ifNo X29.here hx rfl (hb hby dmethod_3_code_87) rfl ((if0 _ _).trans (feq hc87).1) k_) ?_
          refine own_st T29 (mkF m_ 96 #[.val (.int mask), .val (.ref u), .val (.int (own_ct mask)), .val (.ref b1), .val (.int (3 : Int32))] [(.int (e 3)), (.int (3 : Int32)), (.ref b1)]) (fun t_ k_ => ?_) ?_
          · refine XS.aloadN X29.here hx rfl (hb hby dmethod_3_code_90) rfl rfl ?_
            show Steps p_.tables e_ below (T29.setTop (mkF m_ 91 #[.val (.int mask), .val (.ref u), .val (.int (own_ct mask)), .val (.ref b1), .val (.int (3 : Int32))] [(.ref b1)])) t_
            refine XS.iload X29.here hx rfl (hb hby dmethod_3_code_91) rfl ?_
            show Steps p_.tables e_ below (T29.setTop (mkF m_ 93 #[.val (.int mask), .val (.ref u), .val (.int (own_ct mask)), .val (.ref b1), .val (.int (3 : Int32))] [(.int (3 : Int32)), (.ref b1)])) t_
            refine XS.aloadN X29.here hx rfl (hb hby dmethod_3_code_93) rfl rfl ?_
            show Steps p_.tables e_ below (T29.setTop (mkF m_ 94 #[.val (.int mask), .val (.ref u), .val (.int (own_ct mask)), .val (.ref b1), .val (.int (3 : Int32))] [(.ref u), (.int (3 : Int32)), (.ref b1)])) t_
            refine XS.iconst X29.here hx rfl (hb hby dmethod_3_code_94) ?_
            show Steps p_.tables e_ below (T29.setTop (mkF m_ 95 #[.val (.int mask), .val (.ref u), .val (.int (own_ct mask)), .val (.ref b1), .val (.int (3 : Int32))] [(.int (3 : Int32)), (.ref u), (.int (3 : Int32)), (.ref b1)])) t_
            refine own_ldI X29 hx hZ e29 U 3 (by decide) (by decide) (hb hby dmethod_3_code_95) _ ?_
            show Steps p_.tables e_ below (T29.setTop (mkF m_ 96 #[.val (.int mask), .val (.ref u), .val (.int (own_ct mask)), .val (.ref b1), .val (.int (3 : Int32))] [(.int (e 3)), (.int (3 : Int32)), (.ref b1)])) t_
            exact k_
          obtain ⟨T31, h31, X31, e31, W31, st31⟩ := own_stI X29 hx hZ e29 A_b1 3 (by decide) (by have q0 := own_ctE hm; have q38 := own_bo hm (i := 0) (by decide) hc38; have q54 := own_bo hm (i := 1) (by decide) hc54; have q70 := own_bo hm (i := 2) (by decide) hc70; have q87 := own_bo hm (i := 3) (by decide) hc87; omega) (j := (3 : Int32)) (x := (e 3)) (Ls := #[.val (.int mask), .val (.ref u), .val (.int (own_ct mask)), .val (.ref b1), .val (.int (3 : Int32))]) (rest := []) (hb hby dmethod_3_code_96)
          have N31 := Fr.snoc X31 N29 g_b1
          replace Z0 : n0 ≤ h31.size := W31.size ▸ Z0
          replace KP := KP.wr W31 (Or.inr sz_b1)
          replace U := U.other W31 ne_u_b1
          replace A_b1 : own_A Z h31 b1 k1 .int (own_ctn mask) (fun x_ => .int (([(e 0), (e 1), (e 2), (e 3)] : List Int32).getD x_ 0)) := A_b1.snocI (L := [(e 0), (e 1), (e 2)]) (i := 3) (by have q0 := own_ctE hm; have q38 := own_bo hm (i := 0) (by decide) hc38; have q54 := own_bo hm (i := 1) (by decide) hc54; have q70 := own_bo hm (i := 2) (by decide) hc70; have q87 := own_bo hm (i := 3) (by decide) hc87; omega) rfl W31
          refine own_st T31 (mkF m_ 97 #[.val (.int mask), .val (.ref u), .val (.int (own_ct mask)), .val (.ref b1), .val (.int (3 : Int32))] []) st31 ?_
          refine own_st T31 (mkF m_ 104 #[.val (.int mask), .val (.ref u), .val (.int (own_ct mask)), .val (.ref b1), .val (.int (4 : Int32))] [(.int (mask &&& (16 : Int32)))]) (fun t_ k_ => ?_) ?_
          · refine XS.iinc X31.here hx rfl (hb hby dmethod_3_code_97) rfl (l' := #[.val (.int mask), .val (.ref u), .val (.int (own_ct mask)), .val (.ref b1), .val (.int (4 : Int32))]) rfl ?_
            show Steps p_.tables e_ below (T31.setTop (mkF m_ 100 #[.val (.int mask), .val (.ref u), .val (.int (own_ct mask)), .val (.ref b1), .val (.int (4 : Int32))] [])) t_
            refine XS.iloadN X31.here hx rfl (hb hby dmethod_3_code_100) rfl ?_
            show Steps p_.tables e_ below (T31.setTop (mkF m_ 101 #[.val (.int mask), .val (.ref u), .val (.int (own_ct mask)), .val (.ref b1), .val (.int (4 : Int32))] [(.int mask)])) t_
            refine XS.bipush X31.here hx rfl (hb hby dmethod_3_code_101) ?_
            show Steps p_.tables e_ below (T31.setTop (mkF m_ 103 #[.val (.int mask), .val (.ref u), .val (.int (own_ct mask)), .val (.ref b1), .val (.int (4 : Int32))] [(.int (16 : Int32)), (.int mask)])) t_
            refine XS.iand X31.here hx rfl (hb hby dmethod_3_code_103) rfl ?_
            show Steps p_.tables e_ below (T31.setTop (mkF m_ 104 #[.val (.int mask), .val (.ref u), .val (.int (own_ct mask)), .val (.ref b1), .val (.int (4 : Int32))] [(.int (mask &&& (16 : Int32)))])) t_
            exact k_
          by_cases hc104 : (mask &&& (16 : Int32)) = (0 : Int32)
          · refine own_st T31 (mkF m_ 117 #[.val (.int mask), .val (.ref u), .val (.int (own_ct mask)), .val (.ref b1), .val (.int (4 : Int32))] []) (fun t_ k_ => XS.ifYes X31.here hx rfl (pc0 := 104) (pc' := 117) rfl (hb hby dmethod_3_code_104) rfl ((if0 _ _).trans (teq hc104).1) (by decide) (by decide) k_) ?_
            refine own_st T31 (mkF m_ 118 #[.val (.int mask), .val (.ref u), .val (.int (own_ct mask)), .val (.ref b1), .val (.int (4 : Int32))] [(.ref b1)]) (fun t_ k_ => ?_) ?_
            · refine XS.aloadN X31.here hx rfl (hb hby dmethod_3_code_117) rfl rfl ?_
              show Steps p_.tables e_ below (T31.setTop (mkF m_ 118 #[.val (.int mask), .val (.ref u), .val (.int (own_ct mask)), .val (.ref b1), .val (.int (4 : Int32))] [(.ref b1)])) t_
              exact k_
            refine own_retA X31 hx hlk hret rfl rfl (hb hby dmethod_3_code_118) (by decide) (by decide) ?_
            rw [e31]
            have hsel : own_sel mask e = [(e 0), (e 1), (e 2), (e 3)] := by simp only [own_sel, if_neg hc38, if_neg hc54, if_neg hc70, if_neg hc87, if_pos hc104]; rfl
            have hlen : own_ctn mask = 4 := by have q0 := own_ctE hm; have q38 := own_bo hm (i := 0) (by decide) hc38; have q54 := own_bo hm (i := 1) (by decide) hc54; have q70 := own_bo hm (i := 2) (by decide) hc70; have q87 := own_bo hm (i := 3) (by decide) hc87; have q104 := own_bz hm (i := 4) (by decide) hc104; omega
            refine ⟨b1, k1, rfl, g_b1, sz_b1, N31, KP, ?_⟩
            rw [hsel]; rw [hlen] at A_b1; exact A_b1
          · refine own_st T31 (mkF m_ 107 #[.val (.int mask), .val (.ref u), .val (.int (own_ct mask)), .val (.ref b1), .val (.int (4 : Int32))] []) (fun t_ k_ => XS.ifNo X31.here hx rfl (hb hby dmethod_3_code_104) rfl ((if0 _ _).trans (feq hc104).1) k_) ?_
            refine own_st T31 (mkF m_ 113 #[.val (.int mask), .val (.ref u), .val (.int (own_ct mask)), .val (.ref b1), .val (.int (4 : Int32))] [(.int (e 4)), (.int (4 : Int32)), (.ref b1)]) (fun t_ k_ => ?_) ?_
            · refine XS.aloadN X31.here hx rfl (hb hby dmethod_3_code_107) rfl rfl ?_
              show Steps p_.tables e_ below (T31.setTop (mkF m_ 108 #[.val (.int mask), .val (.ref u), .val (.int (own_ct mask)), .val (.ref b1), .val (.int (4 : Int32))] [(.ref b1)])) t_
              refine XS.iload X31.here hx rfl (hb hby dmethod_3_code_108) rfl ?_
              show Steps p_.tables e_ below (T31.setTop (mkF m_ 110 #[.val (.int mask), .val (.ref u), .val (.int (own_ct mask)), .val (.ref b1), .val (.int (4 : Int32))] [(.int (4 : Int32)), (.ref b1)])) t_
              refine XS.aloadN X31.here hx rfl (hb hby dmethod_3_code_110) rfl rfl ?_
              show Steps p_.tables e_ below (T31.setTop (mkF m_ 111 #[.val (.int mask), .val (.ref u), .val (.int (own_ct mask)), .val (.ref b1), .val (.int (4 : Int32))] [(.ref u), (.int (4 : Int32)), (.ref b1)])) t_
              refine XS.iconst X31.here hx rfl (hb hby dmethod_3_code_111) ?_
              show Steps p_.tables e_ below (T31.setTop (mkF m_ 112 #[.val (.int mask), .val (.ref u), .val (.int (own_ct mask)), .val (.ref b1), .val (.int (4 : Int32))] [(.int (4 : Int32)), (.ref u), (.int (4 : Int32)), (.ref b1)])) t_
              refine own_ldI X31 hx hZ e31 U 4 (by decide) (by decide) (hb hby dmethod_3_code_112) _ ?_
              show Steps p_.tables e_ below (T31.setTop (mkF m_ 113 #[.val (.int mask), .val (.ref u), .val (.int (own_ct mask)), .val (.ref b1), .val (.int (4 : Int32))] [(.int (e 4)), (.int (4 : Int32)), (.ref b1)])) t_
              exact k_
            obtain ⟨T32, h32, X32, e32, W32, st32⟩ := own_stI X31 hx hZ e31 A_b1 4 (by decide) (by have q0 := own_ctE hm; have q38 := own_bo hm (i := 0) (by decide) hc38; have q54 := own_bo hm (i := 1) (by decide) hc54; have q70 := own_bo hm (i := 2) (by decide) hc70; have q87 := own_bo hm (i := 3) (by decide) hc87; have q104 := own_bo hm (i := 4) (by decide) hc104; omega) (j := (4 : Int32)) (x := (e 4)) (Ls := #[.val (.int mask), .val (.ref u), .val (.int (own_ct mask)), .val (.ref b1), .val (.int (4 : Int32))]) (rest := []) (hb hby dmethod_3_code_113)
            have N32 := Fr.snoc X32 N31 g_b1
            replace Z0 : n0 ≤ h32.size := W32.size ▸ Z0
            replace KP := KP.wr W32 (Or.inr sz_b1)
            replace U := U.other W32 ne_u_b1
            replace A_b1 : own_A Z h32 b1 k1 .int (own_ctn mask) (fun x_ => .int (([(e 0), (e 1), (e 2), (e 3), (e 4)] : List Int32).getD x_ 0)) := A_b1.snocI (L := [(e 0), (e 1), (e 2), (e 3)]) (i := 4) (by have q0 := own_ctE hm; have q38 := own_bo hm (i := 0) (by decide) hc38; have q54 := own_bo hm (i := 1) (by decide) hc54; have q70 := own_bo hm (i := 2) (by decide) hc70; have q87 := own_bo hm (i := 3) (by decide) hc87; have q104 := own_bo hm (i := 4) (by decide) hc104; omega) rfl W32
            refine own_st T32 (mkF m_ 114 #[.val (.int mask), .val (.ref u), .val (.int (own_ct mask)), .val (.ref b1), .val (.int (4 : Int32))] []) st32 ?_
            refine own_st T32 (mkF m_ 118 #[.val (.int mask), .val (.ref u), .val (.int (own_ct mask)), .val (.ref b1), .val (.int (5 : Int32))] [(.ref b1)]) (fun t_ k_ => ?_) ?_
            · refine XS.iinc X32.here hx rfl (hb hby dmethod_3_code_114) rfl (l' := #[.val (.int mask), .val (.ref u), .val (.int (own_ct mask)), .val (.ref b1), .val (.int (5 : Int32))]) rfl ?_
              show Steps p_.tables e_ below (T32.setTop (mkF m_ 117 #[.val (.int mask), .val (.ref u), .val (.int (own_ct mask)), .val (.ref b1), .val (.int (5 : Int32))] [])) t_
              refine XS.aloadN X32.here hx rfl (hb hby dmethod_3_code_117) rfl rfl ?_
              show Steps p_.tables e_ below (T32.setTop (mkF m_ 118 #[.val (.int mask), .val (.ref u), .val (.int (own_ct mask)), .val (.ref b1), .val (.int (5 : Int32))] [(.ref b1)])) t_
              exact k_
            refine own_retA X32 hx hlk hret rfl rfl (hb hby dmethod_3_code_118) (by decide) (by decide) ?_
            rw [e32]
            have hsel : own_sel mask e = [(e 0), (e 1), (e 2), (e 3), (e 4)] := by simp only [own_sel, if_neg hc38, if_neg hc54, if_neg hc70, if_neg hc87, if_neg hc104]; rfl
            have hlen : own_ctn mask = 5 := by have q0 := own_ctE hm; have q38 := own_bo hm (i := 0) (by decide) hc38; have q54 := own_bo hm (i := 1) (by decide) hc54; have q70 := own_bo hm (i := 2) (by decide) hc70; have q87 := own_bo hm (i := 3) (by decide) hc87; have q104 := own_bo hm (i := 4) (by decide) hc104; omega
            refine ⟨b1, k1, rfl, g_b1, sz_b1, N32, KP, ?_⟩
            rw [hsel]; rw [hlen] at A_b1; exact A_b1
theorem dprog_50_method_4_code_0 : decode prog_50_method_4_code 0 = .ok (.iconst 0, 1) := by decide +kernel
theorem dprog_50_method_4_code_1 : decode prog_50_method_4_code 1 = .ok (.istore_n 2, 1) := by decide +kernel
theorem dprog_50_method_4_code_2 : decode prog_50_method_4_code 2 = .ok (.aload_n 0, 1) := by decide +kernel
theorem dprog_50_method_4_code_3 : decode prog_50_method_4_code 3 = .ok (.astore_n 3, 1) := by decide +kernel
theorem dprog_50_method_4_code_4 : decode prog_50_method_4_code 4 = .ok (.aload_n 3, 1) := by decide +kernel
theorem dprog_50_method_4_code_5 : decode prog_50_method_4_code 5 = .ok (.arraylength, 1) := by decide +kernel
theorem dprog_50_method_4_code_6 : decode prog_50_method_4_code 6 = .ok (.istore 4, 2) := by decide +kernel
theorem dprog_50_method_4_code_8 : decode prog_50_method_4_code 8 = .ok (.iconst 0, 1) := by decide +kernel
theorem dprog_50_method_4_code_9 : decode prog_50_method_4_code 9 = .ok (.istore 5, 2) := by decide +kernel
theorem dprog_50_method_4_code_11 : decode prog_50_method_4_code 11 = .ok (.iload 5, 2) := by decide +kernel
theorem dprog_50_method_4_code_13 : decode prog_50_method_4_code 13 = .ok (.iload 4, 2) := by decide +kernel
theorem dprog_50_method_4_code_15 : decode prog_50_method_4_code 15 = .ok (.if_icmp .ge 51, 3) := by decide +kernel
theorem dprog_50_method_4_code_66 : decode prog_50_method_4_code 66 = .ok (.iconst 1, 1) := by decide +kernel
theorem dprog_50_method_4_code_67 : decode prog_50_method_4_code 67 = .ok (.ireturn, 1) := by decide +kernel
theorem dprog_50_method_4_code_18 : decode prog_50_method_4_code 18 = .ok (.aload_n 3, 1) := by decide +kernel
theorem dprog_50_method_4_code_19 : decode prog_50_method_4_code 19 = .ok (.iload 5, 2) := by decide +kernel
theorem dprog_50_method_4_code_21 : decode prog_50_method_4_code 21 = .ok (.iaload, 1) := by decide +kernel
theorem dprog_50_method_4_code_22 : decode prog_50_method_4_code 22 = .ok (.istore 6, 2) := by decide +kernel
theorem dprog_50_method_4_code_24 : decode prog_50_method_4_code 24 = .ok (.iload_n 2, 1) := by decide +kernel
theorem dprog_50_method_4_code_25 : decode prog_50_method_4_code 25 = .ok (.aload_n 1, 1) := by decide +kernel
theorem dprog_50_method_4_code_26 : decode prog_50_method_4_code 26 = .ok (.arraylength, 1) := by decide +kernel
theorem dprog_50_method_4_code_27 : decode prog_50_method_4_code 27 = .ok (.if_icmp .ge 17, 3) := by decide +kernel
theorem dprog_50_method_4_code_44 : decode prog_50_method_4_code 44 = .ok (.iload_n 2, 1) := by decide +kernel
theorem dprog_50_method_4_code_45 : decode prog_50_method_4_code 45 = .ok (.aload_n 1, 1) := by decide +kernel
theorem dprog_50_method_4_code_46 : decode prog_50_method_4_code 46 = .ok (.arraylength, 1) := by decide +kernel
theorem dprog_50_method_4_code_47 : decode prog_50_method_4_code 47 = .ok (.if_icmp .eq 11, 3) := by decide +kernel
theorem dprog_50_method_4_code_58 : decode prog_50_method_4_code 58 = .ok (.iconst 0, 1) := by decide +kernel
theorem dprog_50_method_4_code_59 : decode prog_50_method_4_code 59 = .ok (.ireturn, 1) := by decide +kernel
theorem dprog_50_method_4_code_30 : decode prog_50_method_4_code 30 = .ok (.aload_n 1, 1) := by decide +kernel
theorem dprog_50_method_4_code_31 : decode prog_50_method_4_code 31 = .ok (.iload_n 2, 1) := by decide +kernel
theorem dprog_50_method_4_code_32 : decode prog_50_method_4_code 32 = .ok (.iaload, 1) := by decide +kernel
theorem dprog_50_method_4_code_33 : decode prog_50_method_4_code 33 = .ok (.iload 6, 2) := by decide +kernel
theorem dprog_50_method_4_code_35 : decode prog_50_method_4_code 35 = .ok (.if_icmp .ge 9, 3) := by decide +kernel
theorem dprog_50_method_4_code_38 : decode prog_50_method_4_code 38 = .ok (.iinc 2 1, 3) := by decide +kernel
theorem dprog_50_method_4_code_41 : decode prog_50_method_4_code 41 = .ok (.goto (-17), 3) := by decide +kernel
theorem dprog_50_method_4_code_50 : decode prog_50_method_4_code 50 = .ok (.aload_n 1, 1) := by decide +kernel
theorem dprog_50_method_4_code_51 : decode prog_50_method_4_code 51 = .ok (.iload_n 2, 1) := by decide +kernel
theorem dprog_50_method_4_code_52 : decode prog_50_method_4_code 52 = .ok (.iaload, 1) := by decide +kernel
theorem dprog_50_method_4_code_53 : decode prog_50_method_4_code 53 = .ok (.iload 6, 2) := by decide +kernel
theorem dprog_50_method_4_code_55 : decode prog_50_method_4_code 55 = .ok (.if_icmp .eq 5, 3) := by decide +kernel
theorem dprog_50_method_4_code_60 : decode prog_50_method_4_code 60 = .ok (.iinc 5 1, 3) := by decide +kernel
theorem dprog_50_method_4_code_63 : decode prog_50_method_4_code 63 = .ok (.goto (-52), 3) := by decide +kernel
theorem ef_rm3 (m_ : MethodId) (x : Addr) (y : Addr) : entryFrame m_ #[(.ref x), (.ref y)] 7 = mkF m_ 0 #[.val (.ref x), .val (.ref y), .unset, .unset, .unset, .unset, .unset] [] := by first | (simp [entryFrame, mkF, argsToLocals, Value.category]; done) | rfl
theorem own_pn1 : plainName "com/example/refinement_flow_checker/refinementflowchecker/checker/SortedSets" = true := by first | (simp [plainName, overriddenIn]; done) | decide +kernel
set_option maxRecDepth 65536 in
set_option maxHeartbeats 40000000 in
theorem rm3 (l : Launch) (Z : State) (a0 : Array Value) (hw : ∀ d ∈ tables_1, d.before a0 Z = true) (x : Addr) (y : Addr) (k1 k2 : ClassId) (n1 n2 : Nat) (f g : Nat → Int32) (z1 z2 : Int32) (h0 : Heap) (n0 : Nat) (Z0 : n0 ≤ h0.size) (V : own_A Z h0 x k1 .int n1 (fun x => .int (f x))) (W : own_A Z h0 y k2 .int n2 (fun x => .int (g x))) (hz1 : z1.toInt = (n1 : Int)) (hz2 : z2.toInt = (n2 : Int)) (hs1 : n1 < 100) (hs2 : n2 < 100) :
    own_Met l Z (⟨"com/example/refinement_flow_checker/refinementflowchecker/checker/SortedSets", "subset", "([I[I)Z"⟩ : MethodName) prog_50_method_4_code 7 (some .boolean) ({ frames := 0, cells := 0, slots := 0, locals := 0 } : Room) #[(.ref x), (.ref y)] h0 (fun v h L => v = some (.int (own_sb f g n2 0 0 n1)) ∧ Fr n0 L ∧ h = h0) := by
  refine own_body #[.val (.ref x), .val (.ref y), .unset, .unset, .unset, .unset, .unset] (plainFor_of_name own_pn1) (fun m_ => ef_rm3 m_ x y) ?_
  intro p_ e_ s_ m_ below meth c_ s₁ X0 hx hby hml hret hlk hZ hown hnm e0
  have N0 := Fr.nil n0
  show own_Out p_ e_ below s_ _ _ _ s₁ (mkF m_ 0 #[.val (.ref x), .val (.ref y), .unset, .unset, .unset, .unset, .unset] [])
  refine own_st s₁ (mkF m_ 11 #[.val (.ref x), .val (.ref y), .val (.int (0 : Int32)), .val (.ref x), .val (.int z1), .val (.int (0 : Int32)), .unset] []) (fun t_ k_ => ?_) ?_
  · refine XS.iconst X0.here hx rfl (hb hby dprog_50_method_4_code_0) ?_
    show Steps p_.tables e_ below (s₁.setTop (mkF m_ 1 #[.val (.ref x), .val (.ref y), .unset, .unset, .unset, .unset, .unset] [(.int (0 : Int32))])) t_
    refine XS.istoreN X0.here hx rfl (hb hby dprog_50_method_4_code_1) rfl (l' := #[.val (.ref x), .val (.ref y), .val (.int (0 : Int32)), .unset, .unset, .unset, .unset]) rfl ?_
    show Steps p_.tables e_ below (s₁.setTop (mkF m_ 2 #[.val (.ref x), .val (.ref y), .val (.int (0 : Int32)), .unset, .unset, .unset, .unset] [])) t_
    refine XS.aloadN X0.here hx rfl (hb hby dprog_50_method_4_code_2) rfl rfl ?_
    show Steps p_.tables e_ below (s₁.setTop (mkF m_ 3 #[.val (.ref x), .val (.ref y), .val (.int (0 : Int32)), .unset, .unset, .unset, .unset] [(.ref x)])) t_
    refine XS.astoreN X0.here hx rfl (hb hby dprog_50_method_4_code_3) rfl rfl (l' := #[.val (.ref x), .val (.ref y), .val (.int (0 : Int32)), .val (.ref x), .unset, .unset, .unset]) rfl ?_
    show Steps p_.tables e_ below (s₁.setTop (mkF m_ 4 #[.val (.ref x), .val (.ref y), .val (.int (0 : Int32)), .val (.ref x), .unset, .unset, .unset] [])) t_
    refine XS.aloadN X0.here hx rfl (hb hby dprog_50_method_4_code_4) rfl rfl ?_
    show Steps p_.tables e_ below (s₁.setTop (mkF m_ 5 #[.val (.ref x), .val (.ref y), .val (.int (0 : Int32)), .val (.ref x), .unset, .unset, .unset] [(.ref x)])) t_
    refine own_len X0 hx hZ e0 V (hb hby dprog_50_method_4_code_5) z1 hz1 _ ?_
    show Steps p_.tables e_ below (s₁.setTop (mkF m_ 6 #[.val (.ref x), .val (.ref y), .val (.int (0 : Int32)), .val (.ref x), .unset, .unset, .unset] [(.int z1)])) t_
    refine XS.istore X0.here hx rfl (hb hby dprog_50_method_4_code_6) rfl (l' := #[.val (.ref x), .val (.ref y), .val (.int (0 : Int32)), .val (.ref x), .val (.int z1), .unset, .unset]) rfl ?_
    show Steps p_.tables e_ below (s₁.setTop (mkF m_ 8 #[.val (.ref x), .val (.ref y), .val (.int (0 : Int32)), .val (.ref x), .val (.int z1), .unset, .unset] [])) t_
    refine XS.iconst X0.here hx rfl (hb hby dprog_50_method_4_code_8) ?_
    show Steps p_.tables e_ below (s₁.setTop (mkF m_ 9 #[.val (.ref x), .val (.ref y), .val (.int (0 : Int32)), .val (.ref x), .val (.int z1), .unset, .unset] [(.int (0 : Int32))])) t_
    refine XS.istore X0.here hx rfl (hb hby dprog_50_method_4_code_9) rfl (l' := #[.val (.ref x), .val (.ref y), .val (.int (0 : Int32)), .val (.ref x), .val (.int z1), .val (.int (0 : Int32)), .unset]) rfl ?_
    show Steps p_.tables e_ below (s₁.setTop (mkF m_ 11 #[.val (.ref x), .val (.ref y), .val (.int (0 : Int32)), .val (.ref x), .val (.int z1), .val (.int (0 : Int32)), .unset] [])) t_
    exact k_
  have loop : ∀ (kk : Nat) (i j : Int32) (ni nj : Nat) (s6 : Slot), One s6 → ni + kk = n1 → nj ≤ n2 → i.toInt = (ni : Int) → j.toInt = (nj : Int) → own_sb f g n2 ni nj kk = own_sb f g n2 0 0 n1 → own_Out p_ e_ below s_ (fun v h L => v = some (.int (own_sb f g n2 0 0 n1)) ∧ Fr n0 L ∧ h = h0) 0 0 s₁ (mkF m_ 11 #[.val (.ref x), .val (.ref y), .val (.int j), .val (.ref x), .val (.int z1), .val (.int i), s6] []) := by
    intro kk
    induction kk with
    | zero =>
      intro i j ni nj s6 hs6 hk hj2 hi hj hf
      refine own_st s₁ (mkF m_ 67 #[.val (.ref x), .val (.ref y), .val (.int j), .val (.ref x), .val (.int z1), .val (.int i), s6] [(.int (1 : Int32))]) (fun t_ k_ => ?_) ?_
      · refine XS.iload X0.here hx rfl (hb hby dprog_50_method_4_code_11) rfl ?_
        show Steps p_.tables e_ below (s₁.setTop (mkF m_ 13 #[.val (.ref x), .val (.ref y), .val (.int j), .val (.ref x), .val (.int z1), .val (.int i), s6] [(.int i)])) t_
        refine XS.iload X0.here hx rfl (hb hby dprog_50_method_4_code_13) rfl ?_
        show Steps p_.tables e_ below (s₁.setTop (mkF m_ 15 #[.val (.ref x), .val (.ref y), .val (.int j), .val (.ref x), .val (.int z1), .val (.int i), s6] [(.int z1), (.int i)])) t_
        refine XS.icmpYes X0.here hx rfl (pc0 := 15) (pc' := 66) rfl (hb hby dprog_50_method_4_code_15) rfl (flt (own_ge hi hz1 hk : ¬ (i < z1))).2.1 (by decide) (by decide) ?_
        show Steps p_.tables e_ below (s₁.setTop (mkF m_ 66 #[.val (.ref x), .val (.ref y), .val (.int j), .val (.ref x), .val (.int z1), .val (.int i), s6] [])) t_
        refine XS.iconst X0.here hx rfl (hb hby dprog_50_method_4_code_66) ?_
        show Steps p_.tables e_ below (s₁.setTop (mkF m_ 67 #[.val (.ref x), .val (.ref y), .val (.int j), .val (.ref x), .val (.int z1), .val (.int i), s6] [(.int (1 : Int32))])) t_
        exact k_
      refine own_retN X0 hx hlk (t := .boolean) hret (by simp) (hb hby dprog_50_method_4_code_67) (by decide) (by decide) ?_
      rw [e0]
      have hz : nar .boolean (1 : Int32) = (1 : Int32) := rfl
      rw [hz]
      exact ⟨by rw [← hf]; rfl, N0, rfl⟩
    | succ kk ih =>
      intro i j ni nj s6 hs6 hk hj2 hi hj hf
      refine own_st s₁ (mkF m_ 24 #[.val (.ref x), .val (.ref y), .val (.int j), .val (.ref x), .val (.int z1), .val (.int i), .val (.int (f ni))] []) (fun t_ k_ => ?_) ?_
      · refine XS.iload X0.here hx rfl (hb hby dprog_50_method_4_code_11) rfl ?_
        show Steps p_.tables e_ below (s₁.setTop (mkF m_ 13 #[.val (.ref x), .val (.ref y), .val (.int j), .val (.ref x), .val (.int z1), .val (.int i), s6] [(.int i)])) t_
        refine XS.iload X0.here hx rfl (hb hby dprog_50_method_4_code_13) rfl ?_
        show Steps p_.tables e_ below (s₁.setTop (mkF m_ 15 #[.val (.ref x), .val (.ref y), .val (.int j), .val (.ref x), .val (.int z1), .val (.int i), s6] [(.int z1), (.int i)])) t_
        refine XS.icmpNo X0.here hx rfl (hb hby dprog_50_method_4_code_15) rfl (tlt (own_lt hi hz1 hk : i < z1)).2.1 ?_
        show Steps p_.tables e_ below (s₁.setTop (mkF m_ 18 #[.val (.ref x), .val (.ref y), .val (.int j), .val (.ref x), .val (.int z1), .val (.int i), s6] [])) t_
        refine XS.aloadN X0.here hx rfl (hb hby dprog_50_method_4_code_18) rfl rfl ?_
        show Steps p_.tables e_ below (s₁.setTop (mkF m_ 19 #[.val (.ref x), .val (.ref y), .val (.int j), .val (.ref x), .val (.int z1), .val (.int i), s6] [(.ref x)])) t_
        refine XS.iload X0.here hx rfl (hb hby dprog_50_method_4_code_19) rfl ?_
        show Steps p_.tables e_ below (s₁.setTop (mkF m_ 21 #[.val (.ref x), .val (.ref y), .val (.int j), .val (.ref x), .val (.int z1), .val (.int i), s6] [(.int i), (.ref x)])) t_
        refine own_ldI X0 hx hZ e0 V ni hi (by omega) (hb hby dprog_50_method_4_code_21) _ ?_
        show Steps p_.tables e_ below (s₁.setTop (mkF m_ 22 #[.val (.ref x), .val (.ref y), .val (.int j), .val (.ref x), .val (.int z1), .val (.int i), s6] [(.int (f ni))])) t_
        refine XS.istoreS X0.here hx rfl (hb hby dprog_50_method_4_code_22) rfl rfl hs6 ?_
        show Steps p_.tables e_ below (s₁.setTop (mkF m_ 24 #[.val (.ref x), .val (.ref y), .val (.int j), .val (.ref x), .val (.int z1), .val (.int i), .val (.int (f ni))] [])) t_
        exact k_
      have inner : ∀ (kj : Nat) (j' : Int32) (nj' : Nat), nj' + kj = n2 → j'.toInt = (nj' : Int) → own_fi f g n2 ni kk (own_adv g (f ni) nj' kj) = own_sb f g n2 0 0 n1 → own_Out p_ e_ below s_ (fun v h L => v = some (.int (own_sb f g n2 0 0 n1)) ∧ Fr n0 L ∧ h = h0) 0 0 s₁ (mkF m_ 24 #[.val (.ref x), .val (.ref y), .val (.int j'), .val (.ref x), .val (.int z1), .val (.int i), .val (.int (f ni))] []) := by
        intro kj
        induction kj with
        | zero =>
          intro j' nj' hkj hj' hfi
          refine own_st s₁ (mkF m_ 59 #[.val (.ref x), .val (.ref y), .val (.int j'), .val (.ref x), .val (.int z1), .val (.int i), .val (.int (f ni))] [(.int (0 : Int32))]) (fun t_ k_ => ?_) ?_
          · refine XS.iloadN X0.here hx rfl (hb hby dprog_50_method_4_code_24) rfl ?_
            show Steps p_.tables e_ below (s₁.setTop (mkF m_ 25 #[.val (.ref x), .val (.ref y), .val (.int j'), .val (.ref x), .val (.int z1), .val (.int i), .val (.int (f ni))] [(.int j')])) t_
            refine XS.aloadN X0.here hx rfl (hb hby dprog_50_method_4_code_25) rfl rfl ?_
            show Steps p_.tables e_ below (s₁.setTop (mkF m_ 26 #[.val (.ref x), .val (.ref y), .val (.int j'), .val (.ref x), .val (.int z1), .val (.int i), .val (.int (f ni))] [(.ref y), (.int j')])) t_
            refine own_len X0 hx hZ e0 W (hb hby dprog_50_method_4_code_26) z2 hz2 _ ?_
            show Steps p_.tables e_ below (s₁.setTop (mkF m_ 27 #[.val (.ref x), .val (.ref y), .val (.int j'), .val (.ref x), .val (.int z1), .val (.int i), .val (.int (f ni))] [(.int z2), (.int j')])) t_
            refine XS.icmpYes X0.here hx rfl (pc0 := 27) (pc' := 44) rfl (hb hby dprog_50_method_4_code_27) rfl (flt (own_ge hj' hz2 hkj : ¬ (j' < z2))).2.1 (by decide) (by decide) ?_
            show Steps p_.tables e_ below (s₁.setTop (mkF m_ 44 #[.val (.ref x), .val (.ref y), .val (.int j'), .val (.ref x), .val (.int z1), .val (.int i), .val (.int (f ni))] [])) t_
            refine XS.iloadN X0.here hx rfl (hb hby dprog_50_method_4_code_44) rfl ?_
            show Steps p_.tables e_ below (s₁.setTop (mkF m_ 45 #[.val (.ref x), .val (.ref y), .val (.int j'), .val (.ref x), .val (.int z1), .val (.int i), .val (.int (f ni))] [(.int j')])) t_
            refine XS.aloadN X0.here hx rfl (hb hby dprog_50_method_4_code_45) rfl rfl ?_
            show Steps p_.tables e_ below (s₁.setTop (mkF m_ 46 #[.val (.ref x), .val (.ref y), .val (.int j'), .val (.ref x), .val (.int z1), .val (.int i), .val (.int (f ni))] [(.ref y), (.int j')])) t_
            refine own_len X0 hx hZ e0 W (hb hby dprog_50_method_4_code_46) z2 hz2 _ ?_
            show Steps p_.tables e_ below (s₁.setTop (mkF m_ 47 #[.val (.ref x), .val (.ref y), .val (.int j'), .val (.ref x), .val (.int z1), .val (.int i), .val (.int (f ni))] [(.int z2), (.int j')])) t_
            refine XS.icmpYes X0.here hx rfl (pc0 := 47) (pc' := 58) rfl (hb hby dprog_50_method_4_code_47) rfl (teq (own_eq0 hj' hz2 hkj : j' = z2)).1 (by decide) (by decide) ?_
            show Steps p_.tables e_ below (s₁.setTop (mkF m_ 58 #[.val (.ref x), .val (.ref y), .val (.int j'), .val (.ref x), .val (.int z1), .val (.int i), .val (.int (f ni))] [])) t_
            refine XS.iconst X0.here hx rfl (hb hby dprog_50_method_4_code_58) ?_
            show Steps p_.tables e_ below (s₁.setTop (mkF m_ 59 #[.val (.ref x), .val (.ref y), .val (.int j'), .val (.ref x), .val (.int z1), .val (.int i), .val (.int (f ni))] [(.int (0 : Int32))])) t_
            exact k_
          refine own_retN X0 hx hlk (t := .boolean) hret (by simp) (hb hby dprog_50_method_4_code_59) (by decide) (by decide) ?_
          rw [e0]
          have hz : nar .boolean (0 : Int32) = (0 : Int32) := rfl
          rw [hz]
          exact ⟨by rw [← hfi, own_fi0 hkj], N0, rfl⟩
        | succ kj ihj =>
          intro j' nj' hkj hj' hfi
          refine own_st s₁ (mkF m_ 35 #[.val (.ref x), .val (.ref y), .val (.int j'), .val (.ref x), .val (.int z1), .val (.int i), .val (.int (f ni))] [(.int (f ni)), (.int (g nj'))]) (fun t_ k_ => ?_) ?_
          · refine XS.iloadN X0.here hx rfl (hb hby dprog_50_method_4_code_24) rfl ?_
            show Steps p_.tables e_ below (s₁.setTop (mkF m_ 25 #[.val (.ref x), .val (.ref y), .val (.int j'), .val (.ref x), .val (.int z1), .val (.int i), .val (.int (f ni))] [(.int j')])) t_
            refine XS.aloadN X0.here hx rfl (hb hby dprog_50_method_4_code_25) rfl rfl ?_
            show Steps p_.tables e_ below (s₁.setTop (mkF m_ 26 #[.val (.ref x), .val (.ref y), .val (.int j'), .val (.ref x), .val (.int z1), .val (.int i), .val (.int (f ni))] [(.ref y), (.int j')])) t_
            refine own_len X0 hx hZ e0 W (hb hby dprog_50_method_4_code_26) z2 hz2 _ ?_
            show Steps p_.tables e_ below (s₁.setTop (mkF m_ 27 #[.val (.ref x), .val (.ref y), .val (.int j'), .val (.ref x), .val (.int z1), .val (.int i), .val (.int (f ni))] [(.int z2), (.int j')])) t_
            refine XS.icmpNo X0.here hx rfl (hb hby dprog_50_method_4_code_27) rfl (tlt (own_lt hj' hz2 hkj : j' < z2)).2.1 ?_
            show Steps p_.tables e_ below (s₁.setTop (mkF m_ 30 #[.val (.ref x), .val (.ref y), .val (.int j'), .val (.ref x), .val (.int z1), .val (.int i), .val (.int (f ni))] [])) t_
            refine XS.aloadN X0.here hx rfl (hb hby dprog_50_method_4_code_30) rfl rfl ?_
            show Steps p_.tables e_ below (s₁.setTop (mkF m_ 31 #[.val (.ref x), .val (.ref y), .val (.int j'), .val (.ref x), .val (.int z1), .val (.int i), .val (.int (f ni))] [(.ref y)])) t_
            refine XS.iloadN X0.here hx rfl (hb hby dprog_50_method_4_code_31) rfl ?_
            show Steps p_.tables e_ below (s₁.setTop (mkF m_ 32 #[.val (.ref x), .val (.ref y), .val (.int j'), .val (.ref x), .val (.int z1), .val (.int i), .val (.int (f ni))] [(.int j'), (.ref y)])) t_
            refine own_ldI X0 hx hZ e0 W nj' hj' (by omega) (hb hby dprog_50_method_4_code_32) _ ?_
            show Steps p_.tables e_ below (s₁.setTop (mkF m_ 33 #[.val (.ref x), .val (.ref y), .val (.int j'), .val (.ref x), .val (.int z1), .val (.int i), .val (.int (f ni))] [(.int (g nj'))])) t_
            refine XS.iload X0.here hx rfl (hb hby dprog_50_method_4_code_33) rfl ?_
            show Steps p_.tables e_ below (s₁.setTop (mkF m_ 35 #[.val (.ref x), .val (.ref y), .val (.int j'), .val (.ref x), .val (.int z1), .val (.int i), .val (.int (f ni))] [(.int (f ni)), (.int (g nj'))])) t_
            exact k_
          by_cases hc35 : (g nj') < (f ni)
          · refine own_st s₁ (mkF m_ 38 #[.val (.ref x), .val (.ref y), .val (.int j'), .val (.ref x), .val (.int z1), .val (.int i), .val (.int (f ni))] []) (fun t_ k_ => XS.icmpNo X0.here hx rfl (hb hby dprog_50_method_4_code_35) rfl (tlt hc35).2.1 k_) ?_
            refine own_st s₁ (mkF m_ 24 #[.val (.ref x), .val (.ref y), .val (.int (j' + (1 : Int32))), .val (.ref x), .val (.int z1), .val (.int i), .val (.int (f ni))] []) (fun t_ k_ => ?_) ?_
            · refine XS.iinc X0.here hx rfl (hb hby dprog_50_method_4_code_38) rfl (l' := #[.val (.ref x), .val (.ref y), .val (.int (j' + (1 : Int32))), .val (.ref x), .val (.int z1), .val (.int i), .val (.int (f ni))]) rfl ?_
              show Steps p_.tables e_ below (s₁.setTop (mkF m_ 41 #[.val (.ref x), .val (.ref y), .val (.int (j' + (1 : Int32))), .val (.ref x), .val (.int z1), .val (.int i), .val (.int (f ni))] [])) t_
              refine XS.goto X0.here hx rfl (pc0 := 41) (pc' := 24) rfl (hb hby dprog_50_method_4_code_41) (by decide) (by decide) ?_
              show Steps p_.tables e_ below (s₁.setTop (mkF m_ 24 #[.val (.ref x), .val (.ref y), .val (.int (j' + (1 : Int32))), .val (.ref x), .val (.int z1), .val (.int i), .val (.int (f ni))] [])) t_
              exact k_
            exact ihj _ (nj' + 1) (by omega) (own_inc hj' (by omega)) (by rw [← hfi]; simp only [own_adv, if_pos hc35])
          · refine own_st s₁ (mkF m_ 44 #[.val (.ref x), .val (.ref y), .val (.int j'), .val (.ref x), .val (.int z1), .val (.int i), .val (.int (f ni))] []) (fun t_ k_ => XS.icmpYes X0.here hx rfl (pc0 := 35) (pc' := 44) rfl (hb hby dprog_50_method_4_code_35) rfl (flt hc35).2.1 (by decide) (by decide) k_) ?_
            refine own_st s₁ (mkF m_ 55 #[.val (.ref x), .val (.ref y), .val (.int j'), .val (.ref x), .val (.int z1), .val (.int i), .val (.int (f ni))] [(.int (f ni)), (.int (g nj'))]) (fun t_ k_ => ?_) ?_
            · refine XS.iloadN X0.here hx rfl (hb hby dprog_50_method_4_code_44) rfl ?_
              show Steps p_.tables e_ below (s₁.setTop (mkF m_ 45 #[.val (.ref x), .val (.ref y), .val (.int j'), .val (.ref x), .val (.int z1), .val (.int i), .val (.int (f ni))] [(.int j')])) t_
              refine XS.aloadN X0.here hx rfl (hb hby dprog_50_method_4_code_45) rfl rfl ?_
              show Steps p_.tables e_ below (s₁.setTop (mkF m_ 46 #[.val (.ref x), .val (.ref y), .val (.int j'), .val (.ref x), .val (.int z1), .val (.int i), .val (.int (f ni))] [(.ref y), (.int j')])) t_
              refine own_len X0 hx hZ e0 W (hb hby dprog_50_method_4_code_46) z2 hz2 _ ?_
              show Steps p_.tables e_ below (s₁.setTop (mkF m_ 47 #[.val (.ref x), .val (.ref y), .val (.int j'), .val (.ref x), .val (.int z1), .val (.int i), .val (.int (f ni))] [(.int z2), (.int j')])) t_
              refine XS.icmpNo X0.here hx rfl (hb hby dprog_50_method_4_code_47) rfl (feq (own_ne0 hj' hz2 hkj : ¬ (j' = z2))).1 ?_
              show Steps p_.tables e_ below (s₁.setTop (mkF m_ 50 #[.val (.ref x), .val (.ref y), .val (.int j'), .val (.ref x), .val (.int z1), .val (.int i), .val (.int (f ni))] [])) t_
              refine XS.aloadN X0.here hx rfl (hb hby dprog_50_method_4_code_50) rfl rfl ?_
              show Steps p_.tables e_ below (s₁.setTop (mkF m_ 51 #[.val (.ref x), .val (.ref y), .val (.int j'), .val (.ref x), .val (.int z1), .val (.int i), .val (.int (f ni))] [(.ref y)])) t_
              refine XS.iloadN X0.here hx rfl (hb hby dprog_50_method_4_code_51) rfl ?_
              show Steps p_.tables e_ below (s₁.setTop (mkF m_ 52 #[.val (.ref x), .val (.ref y), .val (.int j'), .val (.ref x), .val (.int z1), .val (.int i), .val (.int (f ni))] [(.int j'), (.ref y)])) t_
              refine own_ldI X0 hx hZ e0 W nj' hj' (by omega) (hb hby dprog_50_method_4_code_52) _ ?_
              show Steps p_.tables e_ below (s₁.setTop (mkF m_ 53 #[.val (.ref x), .val (.ref y), .val (.int j'), .val (.ref x), .val (.int z1), .val (.int i), .val (.int (f ni))] [(.int (g nj'))])) t_
              refine XS.iload X0.here hx rfl (hb hby dprog_50_method_4_code_53) rfl ?_
              show Steps p_.tables e_ below (s₁.setTop (mkF m_ 55 #[.val (.ref x), .val (.ref y), .val (.int j'), .val (.ref x), .val (.int z1), .val (.int i), .val (.int (f ni))] [(.int (f ni)), (.int (g nj'))])) t_
              exact k_
            by_cases hc55 : (g nj') = (f ni)
            · refine own_st s₁ (mkF m_ 60 #[.val (.ref x), .val (.ref y), .val (.int j'), .val (.ref x), .val (.int z1), .val (.int i), .val (.int (f ni))] []) (fun t_ k_ => XS.icmpYes X0.here hx rfl (pc0 := 55) (pc' := 60) rfl (hb hby dprog_50_method_4_code_55) rfl (teq hc55).1 (by decide) (by decide) k_) ?_
              refine own_st s₁ (mkF m_ 11 #[.val (.ref x), .val (.ref y), .val (.int j'), .val (.ref x), .val (.int z1), .val (.int (i + (1 : Int32))), .val (.int (f ni))] []) (fun t_ k_ => ?_) ?_
              · refine XS.iinc X0.here hx rfl (hb hby dprog_50_method_4_code_60) rfl (l' := #[.val (.ref x), .val (.ref y), .val (.int j'), .val (.ref x), .val (.int z1), .val (.int (i + (1 : Int32))), .val (.int (f ni))]) rfl ?_
                show Steps p_.tables e_ below (s₁.setTop (mkF m_ 63 #[.val (.ref x), .val (.ref y), .val (.int j'), .val (.ref x), .val (.int z1), .val (.int (i + (1 : Int32))), .val (.int (f ni))] [])) t_
                refine XS.goto X0.here hx rfl (pc0 := 63) (pc' := 11) rfl (hb hby dprog_50_method_4_code_63) (by decide) (by decide) ?_
                show Steps p_.tables e_ below (s₁.setTop (mkF m_ 11 #[.val (.ref x), .val (.ref y), .val (.int j'), .val (.ref x), .val (.int z1), .val (.int (i + (1 : Int32))), .val (.int (f ni))] [])) t_
                exact k_
              exact ih _ _ (ni + 1) nj' _ (One.val rfl) (by omega) (by omega) (own_inc hi (by omega)) hj' (own_go hfi hc35 hc55 (by omega))
            · refine own_st s₁ (mkF m_ 58 #[.val (.ref x), .val (.ref y), .val (.int j'), .val (.ref x), .val (.int z1), .val (.int i), .val (.int (f ni))] []) (fun t_ k_ => XS.icmpNo X0.here hx rfl (hb hby dprog_50_method_4_code_55) rfl (feq hc55).1 k_) ?_
              refine own_st s₁ (mkF m_ 59 #[.val (.ref x), .val (.ref y), .val (.int j'), .val (.ref x), .val (.int z1), .val (.int i), .val (.int (f ni))] [(.int (0 : Int32))]) (fun t_ k_ => ?_) ?_
              · refine XS.iconst X0.here hx rfl (hb hby dprog_50_method_4_code_58) ?_
                show Steps p_.tables e_ below (s₁.setTop (mkF m_ 59 #[.val (.ref x), .val (.ref y), .val (.int j'), .val (.ref x), .val (.int z1), .val (.int i), .val (.int (f ni))] [(.int (0 : Int32))])) t_
                exact k_
              refine own_retN X0 hx hlk (t := .boolean) hret (by simp) (hb hby dprog_50_method_4_code_59) (by decide) (by decide) ?_
              rw [e0]
              have hz : nar .boolean (0 : Int32) = (0 : Int32) := rfl
              rw [hz]
              exact ⟨by rw [← hfi, own_fi1 hc35 hc55], N0, rfl⟩
      exact inner (n2 - nj) j nj (by omega) hj hf
  exact loop n1 0 0 0 0 .unset One.u (by omega) (by omega) rfl rfl rfl
def own_m (m : Int32) : Int32 := (m &&& (31 : Int32))
theorem own_m31 (m : Int32) : 0 ≤ (own_m m).toInt ∧ (own_m m).toInt < 32 := by
  have := c_and m 31 (by decide); have : (31 : Int32).toInt = 31 := rfl; unfold own_m; omega

def own_d1 (q1 : Int64) : Int64 := ((1 : Int64) + (q1 &&& (536870911 : Int64)))
def own_d2 (q1 : Int64) : Int64 := ((1 : Int64) + (((q1.toUInt64 >>> ((29 : Int32) &&& 0x3f).toInt64.toUInt64).toInt64) &&& (536870911 : Int64)))
theorem own_pd0 : parseMethodDescriptor "(JJ)J" = some ⟨[.long, .long], some .long⟩ := by decide +kernel
def own_w0 (a : Int32) (q1 : Int64) (q2 : Int64) : Int64 := (f1 (a.toInt64) ((2147483647 : Int64) - ((((own_d1 q1) + (own_d2 q1)) + (own_d1 q2)) + (own_d2 q2))))
def own_w (a : Int32) (q1 q2 : Int64) (x : Nat) : Int32 := (([((own_w0 a q1 q2).toInt32), (((own_w0 a q1 q2) + (own_d1 q1)).toInt32), ((((own_w0 a q1 q2) + (own_d1 q1)) + (own_d2 q1)).toInt32), (((((own_w0 a q1 q2) + (own_d1 q1)) + (own_d2 q1)) + (own_d1 q2)).toInt32), ((((((own_w0 a q1 q2) + (own_d1 q1)) + (own_d2 q1)) + (own_d1 q2)) + (own_d2 q2)).toInt32)] : List Int32).getD x 0)
theorem own_sellen (mask : Int32) (e : Nat → Int32) : (own_sel mask e).length ≤ 5 := by
  unfold own_sel; simp only [List.length_append]
  repeat' split
  all_goals simp
theorem own_l100 (m a : Int32) (q1 q2 : Int64) : (own_sel (own_m m) (own_w a q1 q2)).length < 100 := by
  have := own_sellen (own_m m) (own_w a q1 q2); omega
theorem own_ol (m a : Int32) (q1 q2 : Int64) : (Int32.ofNat (own_sel (own_m m) (own_w a q1 q2)).length).toInt = ((own_sel (own_m m) (own_w a q1 q2)).length : Int) := by
  have := own_sellen (own_m m) (own_w a q1 q2)
  exact Int32.toInt_ofNat_small (by omega)
theorem own_advS (g : Nat → Int32) (x : Int32) : ∀ (k j : Nat), j ≤ own_adv g x j k ∧ own_adv g x j k ≤ j + k ∧ (∀ q, j ≤ q → q < own_adv g x j k → g q < x) ∧ (own_adv g x j k < j + k → ¬ g (own_adv g x j k) < x)
  | 0, j => ⟨Nat.le_refl _, Nat.le_refl _, fun q h1 h2 => absurd h1 (Nat.not_le.mpr h2), fun h => absurd h (Nat.lt_irrefl _)⟩
  | k + 1, j => by
    by_cases h : g j < x
    · have e : own_adv g x j (k + 1) = own_adv g x (j + 1) k := if_pos h
      obtain ⟨a1, a2, a3, a4⟩ := own_advS g x k (j + 1)
      rw [e]
      refine ⟨by omega, by omega, fun q h1 h2 => ?_, fun hh => a4 (by omega)⟩
      by_cases q0 : q = j
      · subst q0; exact h
      · exact a3 q (by omega) h2
    · have e : own_adv g x j (k + 1) = j := if_neg h
      rw [e]
      exact ⟨Nat.le_refl _, by omega, fun q h1 h2 => absurd h1 (Nat.not_le.mpr h2), fun _ => h⟩
theorem own_sbS (f g : Nat → Int32) (n1 n2 : Nat) (hf : ∀ p q, p < q → q < n1 → (f p).toInt < (f q).toInt) (hg : ∀ p q, p < q → q < n2 → (g p).toInt < (g q).toInt) : ∀ (k i j : Nat), i + k = n1 → j ≤ n2 →
    (own_sb f g n2 i j k = 1 ∧ ∀ p, i ≤ p → p < n1 → ∃ q, j ≤ q ∧ q < n2 ∧ g q = f p) ∨ (own_sb f g n2 i j k = 0 ∧ ¬ ∀ p, i ≤ p → p < n1 → ∃ q, j ≤ q ∧ q < n2 ∧ g q = f p)
  | 0, i, j, hi, hj => Or.inl ⟨rfl, fun p h1 h2 => by omega⟩
  | k + 1, i, j, hi, hj => by
    obtain ⟨a1, a2, a3, a4⟩ := own_advS g (f i) (n2 - j) j
    have e : own_sb f g n2 i j (k + 1) = if own_adv g (f i) j (n2 - j) = n2 then 0 else if g (own_adv g (f i) j (n2 - j)) = f i then own_sb f g n2 (i + 1) (own_adv g (f i) j (n2 - j)) k else 0 := rfl
    generalize own_adv g (f i) j (n2 - j) = J at *
    rw [e]
    by_cases h1 : J = n2
    · rw [if_pos h1]
      refine Or.inr ⟨rfl, fun h => ?_⟩
      obtain ⟨q, q1, q2, q3⟩ := h i (Nat.le_refl _) (by omega)
      have := a3 q q1 (by omega)
      rw [q3, Int32.lt_iff_toInt_lt] at this; omega
    · rw [if_neg h1]
      have h4 := a4 (by omega)
      by_cases h2 : g J = f i
      · rw [if_pos h2]
        rcases own_sbS f g n1 n2 hf hg k (i + 1) J (by omega) (by omega) with ⟨r1, r2⟩ | ⟨r1, r2⟩
        · refine Or.inl ⟨r1, fun p p1 p2 => ?_⟩
          by_cases pi : p = i
          · subst pi; exact ⟨J, a1, by omega, h2⟩
          · obtain ⟨q, q1, q2, q3⟩ := r2 p (by omega) p2
            exact ⟨q, by omega, q2, q3⟩
        · refine Or.inr ⟨r1, fun h => r2 fun p p1 p2 => ?_⟩
          obtain ⟨q, q1, q2, q3⟩ := h p (by omega) p2
          refine ⟨q, ?_, q2, q3⟩
          rcases Nat.lt_or_ge q J with z | z
          · have b1 := a3 q q1 z
            have b2 := hf i p (by omega) p2
            rw [q3, Int32.lt_iff_toInt_lt] at b1; omega
          · exact z
      · rw [if_neg h2]
        refine Or.inr ⟨rfl, fun h => ?_⟩
        obtain ⟨q, q1, q2, q3⟩ := h i (Nat.le_refl _) (by omega)
        rcases Nat.lt_trichotomy q J with z | z | z
        · have b1 := a3 q q1 z
          rw [q3, Int32.lt_iff_toInt_lt] at b1; omega
        · subst z; exact h2 q3
        · have b1 := hg J q z q2
          rw [q3] at b1
          rw [Int32.lt_iff_toInt_lt] at h4; omega
theorem own_memI {P : Prop} [Decidable P] {y z : Int32} : y ∈ (if P then [] else [z]) ↔ (¬ P ∧ y = z) := by split <;> simp [*]
theorem own_mem {mask y : Int32} {e : Nat → Int32} : y ∈ own_sel mask e ↔ ∃ i : Fin 5, ¬ (mask &&& own_pw i.1 = 0) ∧ y = e i.1 := by
  unfold own_sel
  simp only [List.mem_append, own_memI]
  constructor
  · rintro (⟨h1, h2⟩ | ⟨h1, h2⟩ | ⟨h1, h2⟩ | ⟨h1, h2⟩ | ⟨h1, h2⟩)
    · exact ⟨⟨0, by decide⟩, h1, h2⟩
    · exact ⟨⟨1, by decide⟩, h1, h2⟩
    · exact ⟨⟨2, by decide⟩, h1, h2⟩
    · exact ⟨⟨3, by decide⟩, h1, h2⟩
    · exact ⟨⟨4, by decide⟩, h1, h2⟩
  · rintro ⟨⟨i, hi⟩, h1, h2⟩
    have : i = 0 ∨ i = 1 ∨ i = 2 ∨ i = 3 ∨ i = 4 := by omega
    rcases this with rfl | rfl | rfl | rfl | rfl
    · exact Or.inl ⟨h1, h2⟩
    · exact Or.inr (Or.inl ⟨h1, h2⟩)
    · exact Or.inr (Or.inr (Or.inl ⟨h1, h2⟩))
    · exact Or.inr (Or.inr (Or.inr (Or.inl ⟨h1, h2⟩)))
    · exact Or.inr (Or.inr (Or.inr (Or.inr ⟨h1, h2⟩)))
theorem own_subI {P : Prop} [Decidable P] {z : Int32} : List.Sublist (if P then [] else [z]) [z] := by split <;> simp
theorem own_subl (mask : Int32) (e : Nat → Int32) : List.Sublist (own_sel mask e) [e 0, e 1, e 2, e 3, e 4] :=
  List.Sublist.append own_subI (List.Sublist.append own_subI (List.Sublist.append own_subI (List.Sublist.append own_subI own_subI)))
theorem own_gD {L : List Int32} {i : Nat} (h : i < L.length) : L.getD i 0 = L[i] := by simp [List.getD_eq_getElem?_getD, List.getElem?_eq_getElem h]
theorem own_srt {e : Nat → Int32} (he : ∀ i j, i < j → j < 5 → (e i).toInt < (e j).toInt) (mask : Int32) : ∀ p q, p < q → q < (own_sel mask e).length → ((own_sel mask e).getD p 0).toInt < ((own_sel mask e).getD q 0).toInt := by
  have h5 : List.Pairwise (fun x y : Int32 => x.toInt < y.toInt) [e 0, e 1, e 2, e 3, e 4] := by
    simp only [List.pairwise_cons, List.mem_cons, List.not_mem_nil, or_false, List.Pairwise.nil, and_true]
    refine ⟨?_, ?_, ?_, ?_, ?_⟩
    · rintro x (rfl | rfl | rfl | rfl) <;> exact he _ _ (by decide) (by decide)
    · rintro x (rfl | rfl | rfl) <;> exact he _ _ (by decide) (by decide)
    · rintro x (rfl | rfl) <;> exact he _ _ (by decide) (by decide)
    · rintro x rfl; exact he _ _ (by decide) (by decide)
    · intro x hx; exact absurd hx (by simp)
  have h := List.pairwise_iff_getElem.mp (h5.sublist (own_subl mask e))
  intro p q h1 h2
  have h3 : p < (own_sel mask e).length := Nat.lt_trans h1 h2
  rw [own_gD h3, own_gD h2]
  exact h p q h3 h2 h1
theorem own_msk : ∀ l r : Fin 32, ((∀ i : Fin 5, ¬ ((Int32.ofNat l.1) &&& own_pw i.1 = 0) → ¬ ((Int32.ofNat r.1) &&& own_pw i.1 = 0)) ↔ (Int32.ofNat l.1) &&& ((Int32.ofNat r.1) ^^^ (-1 : Int32)) = (0 : Int32)) := by decide +kernel
theorem own_all {e : Nat → Int32} (he : ∀ i j, i < j → j < 5 → (e i).toInt < (e j).toInt) {l r : Int32} (hl : 0 ≤ l.toInt ∧ l.toInt < 32) (hr : 0 ≤ r.toInt ∧ r.toInt < 32) : (∀ y ∈ own_sel l e, y ∈ own_sel r e) ↔ l &&& (r ^^^ (-1 : Int32)) = (0 : Int32) := by
  obtain ⟨l', rfl⟩ := own_ofI hl
  obtain ⟨r', rfl⟩ := own_ofI hr
  rw [← own_msk l' r']
  constructor
  · intro h i hi
    obtain ⟨j, h1, h2⟩ := own_mem.mp (h (e i.1) (own_mem.mpr ⟨i, hi, rfl⟩))
    have : i.1 = j.1 := by
      rcases Nat.lt_trichotomy i.1 j.1 with z | z | z
      · have := he _ _ z j.2; rw [h2] at this; omega
      · exact z
      · have := he _ _ z i.2; rw [h2] at this; omega
    rw [this]; exact h1
  · intro h y hy
    obtain ⟨i, h1, h2⟩ := own_mem.mp hy
    exact own_mem.mpr ⟨i, h i h1, h2⟩
theorem own_d1r (q1 : Int64) : 1 ≤ (own_d1 q1).toInt ∧ (own_d1 q1).toInt ≤ 536870912 := by
  unfold own_d1
  have h := c_maskL q1 536870911 29 (by decide) (by decide)
  have h2 := c_ladd 1 (q1 &&& 536870911)
  have h3 := rng64 (1 + (q1 &&& 536870911))
  have l1 : (1 : Int64).toInt = 1 := rfl
  simp only [show ((2 ^ 29 : Nat) : Int) = 536870912 from rfl] at h
  omega
theorem own_d2r (q1 : Int64) : 1 ≤ (own_d2 q1).toInt ∧ (own_d2 q1).toInt ≤ 536870912 := by
  unfold own_d2
  generalize ((q1.toUInt64 >>> ((29 : Int32) &&& 0x3f).toInt64.toUInt64).toInt64) = w
  have h := c_maskL w 536870911 29 (by decide) (by decide)
  have h2 := c_ladd 1 (w &&& 536870911)
  have h3 := rng64 (1 + (w &&& 536870911))
  have l1 : (1 : Int64).toInt = 1 := rfl
  simp only [show ((2 ^ 29 : Nat) : Int) = 536870912 from rfl] at h
  omega
theorem own_ladd {x y : Int64} (h : -9223372036854775808 ≤ x.toInt + y.toInt ∧ x.toInt + y.toInt < 9223372036854775808) : (x + y).toInt = x.toInt + y.toInt := by
  have := c_ladd x y; have := rng64 (x + y); omega
theorem own_lsub {x y : Int64} (h : -9223372036854775808 ≤ x.toInt - y.toInt ∧ x.toInt - y.toInt < 9223372036854775808) : (x - y).toInt = x.toInt - y.toInt := by
  have := c_lsub x y; have := rng64 (x - y); omega
theorem own_l2i {x : Int64} (h : -2147483648 ≤ x.toInt ∧ x.toInt < 2147483648) : x.toInt32.toInt = x.toInt := by
  have := c_l2i x; have := rng32 x.toInt32; omega
theorem own_lm : (2147483647 : Int64).toInt = 2147483647 := by decide +kernel
theorem own_w0r (a : Int32) (q1 q2 : Int64) : -2147483648 ≤ (own_w0 a q1 q2).toInt ∧ (own_w0 a q1 q2).toInt ≤ 2147483647 - ((own_d1 q1).toInt + (own_d2 q1).toInt + (own_d1 q2).toInt + (own_d2 q2).toInt) := by
  have r1 := own_d1r q1; have r2 := own_d2r q1; have r3 := own_d1r q2; have r4 := own_d2r q2
  unfold own_w0
  generalize own_d1 q1 = x1 at *; generalize own_d2 q1 = x2 at *; generalize own_d1 q2 = x3 at *; generalize own_d2 q2 = x4 at *
  have t1 : (x1 + x2).toInt = x1.toInt + x2.toInt := own_ladd (by omega)
  have t2 : (x1 + x2 + x3).toInt = x1.toInt + x2.toInt + x3.toInt := by rw [own_ladd (by omega), t1]
  have t3 : (x1 + x2 + x3 + x4).toInt = x1.toInt + x2.toInt + x3.toInt + x4.toInt := by rw [own_ladd (by omega), t2]
  have t4 : (2147483647 - (x1 + x2 + x3 + x4)).toInt = 2147483647 - (x1.toInt + x2.toInt + x3.toInt + x4.toInt) := by rw [own_lsub (by rw [own_lm]; omega), t3, own_lm]
  have ha := c_i2l a
  have ha' := rng32 a
  unfold f1
  split
  · rw [t4]; omega
  · rename_i h; rw [Int64.lt_iff_toInt_lt, t4] at h; omega
theorem own_wm (a : Int32) (q1 q2 : Int64) : ∀ i j, i < j → j < 5 → (own_w a q1 q2 i).toInt < (own_w a q1 q2 j).toInt := by
  have r1 := own_d1r q1; have r2 := own_d2r q1; have r3 := own_d1r q2; have r4 := own_d2r q2; have w0 := own_w0r a q1 q2
  have g0 : own_w a q1 q2 0 = (own_w0 a q1 q2).toInt32 := rfl
  have g1 : own_w a q1 q2 1 = (own_w0 a q1 q2 + own_d1 q1).toInt32 := rfl
  have g2 : own_w a q1 q2 2 = (own_w0 a q1 q2 + own_d1 q1 + own_d2 q1).toInt32 := rfl
  have g3 : own_w a q1 q2 3 = (own_w0 a q1 q2 + own_d1 q1 + own_d2 q1 + own_d1 q2).toInt32 := rfl
  have g4 : own_w a q1 q2 4 = (own_w0 a q1 q2 + own_d1 q1 + own_d2 q1 + own_d1 q2 + own_d2 q2).toInt32 := rfl
  generalize own_w a q1 q2 = W at *
  generalize own_w0 a q1 q2 = w at *; generalize own_d1 q1 = x1 at *; generalize own_d2 q1 = x2 at *; generalize own_d1 q2 = x3 at *; generalize own_d2 q2 = x4 at *
  have t1 : (w + x1).toInt = w.toInt + x1.toInt := own_ladd (by omega)
  have t2 : (w + x1 + x2).toInt = w.toInt + x1.toInt + x2.toInt := by rw [own_ladd (by omega), t1]
  have t3 : (w + x1 + x2 + x3).toInt = w.toInt + x1.toInt + x2.toInt + x3.toInt := by rw [own_ladd (by omega), t2]
  have t4 : (w + x1 + x2 + x3 + x4).toInt = w.toInt + x1.toInt + x2.toInt + x3.toInt + x4.toInt := by rw [own_ladd (by omega), t3]
  have e0 : (W 0).toInt = w.toInt := by rw [g0]; exact own_l2i (by omega)
  have e1 : (W 1).toInt = w.toInt + x1.toInt := by rw [g1, own_l2i (by omega), t1]
  have e2 : (W 2).toInt = w.toInt + x1.toInt + x2.toInt := by rw [g2, own_l2i (by omega), t2]
  have e3 : (W 3).toInt = w.toInt + x1.toInt + x2.toInt + x3.toInt := by rw [g3, own_l2i (by omega), t3]
  have e4 : (W 4).toInt = w.toInt + x1.toInt + x2.toInt + x3.toInt + x4.toInt := by rw [g4, own_l2i (by omega), t4]
  clear g0 g1 g2 g3 g4 t1 t2 t3 t4
  intro i j hij hj
  have hi : i = 0 ∨ i = 1 ∨ i = 2 ∨ i = 3 := by omega
  have hj' : j = 1 ∨ j = 2 ∨ j = 3 ∨ j = 4 := by omega
  rcases hi with rfl | rfl | rfl | rfl <;> rcases hj' with rfl | rfl | rfl | rfl <;> omega
theorem own_sbE (a : Int32) (q1 q2 : Int64) (m n : Int32) : own_sb (fun x => ((own_sel (own_m m) (own_w a q1 q2)).getD x 0)) (fun x => ((own_sel (own_m n) (own_w a q1 q2)).getD x 0)) (own_sel (own_m n) (own_w a q1 q2)).length 0 0 (own_sel (own_m m) (own_w a q1 q2)).length = (if own_m m &&& ((own_m n) ^^^ (-1 : Int32)) = (0 : Int32) then (1 : Int32) else 0) := by
  have he := own_wm a q1 q2
  have hall := own_all he (own_m31 m) (own_m31 n)
  have key : (∀ p, 0 ≤ p → p < (own_sel (own_m m) (own_w a q1 q2)).length → ∃ q, 0 ≤ q ∧ q < (own_sel (own_m n) (own_w a q1 q2)).length ∧ (own_sel (own_m n) (own_w a q1 q2)).getD q 0 = (own_sel (own_m m) (own_w a q1 q2)).getD p 0) ↔ (∀ y ∈ own_sel (own_m m) (own_w a q1 q2), y ∈ own_sel (own_m n) (own_w a q1 q2)) := by
    constructor
    · intro h y hy
      obtain ⟨p, hp, rfl⟩ := List.mem_iff_getElem.mp hy
      obtain ⟨q, -, q2, q3⟩ := h p (Nat.zero_le _) hp
      rw [own_gD q2, own_gD hp] at q3
      rw [← q3]; exact List.getElem_mem q2
    · intro h p _ hp
      obtain ⟨q, hq, e⟩ := List.mem_iff_getElem.mp (h _ (List.getElem_mem hp))
      exact ⟨q, Nat.zero_le _, hq, by rw [own_gD hq, own_gD hp]; exact e⟩
  rcases own_sbS _ _ (own_sel (own_m m) (own_w a q1 q2)).length (own_sel (own_m n) (own_w a q1 q2)).length (own_srt he (own_m m)) (own_srt he (own_m n)) _ 0 0 (Nat.zero_add _) (Nat.zero_le _) with ⟨r1, r2⟩ | ⟨r1, r2⟩
  · rw [r1, if_pos (hall.mp (key.mp r2))]
  · rw [r1, if_neg (fun q => r2 (key.mpr (hall.mpr q)))]

theorem own_pd1 : parseMethodDescriptor "(I[I)[I" = some ⟨[.int, (.array .int)], some (.array .int)⟩ := by decide +kernel
theorem own_pd2 : parseMethodDescriptor "([I[I)Z" = some ⟨[(.array .int), (.array .int)], some .boolean⟩ := by decide +kernel
theorem ef_rm0 (m_ : MethodId) (a : Int32) (q1 : Int64) (q2 : Int64) (m : Int32) (n : Int32) : entryFrame m_ #[(.int a), (.long q1), (.long q2), (.int m), (.int n)] maxLocals = mkF m_ 0 #[.val (.int a), .val (.long q1), .second, .val (.long q2), .second, .val (.int m), .val (.int n), .unset, .unset, .unset, .unset, .unset, .unset, .unset, .unset, .unset, .unset, .unset, .unset, .unset, .unset, .unset, .unset, .unset, .unset, .unset, .unset, .unset, .unset, .unset, .unset, .unset, .unset] [] := by first | (simp [entryFrame, mkF, argsToLocals, Value.category, maxLocals]; done) | rfl
set_option maxRecDepth 65536 in
set_option maxHeartbeats 40000000 in
theorem rm0 (l : Launch) (Z : State) (a0 : Array Value) (hw : ∀ d ∈ tables_1, d.before a0 Z = true) (a : Int32) (q1 : Int64) (q2 : Int64) (m : Int32) (n : Int32) (h0 : Heap) (n0 : Nat) (Z0 : n0 ≤ h0.size)  :
    own_Met l Z x code maxLocals ret room_1 #[(.int a), (.long q1), (.long q2), (.int m), (.int n)] h0 (fun v h L => v = some (.int 1) ∧ Fr n0 L) := by
  refine own_body #[.val (.int a), .val (.long q1), .second, .val (.long q2), .second, .val (.int m), .val (.int n), .unset, .unset, .unset, .unset, .unset, .unset, .unset, .unset, .unset, .unset, .unset, .unset, .unset, .unset, .unset, .unset, .unset, .unset, .unset, .unset, .unset, .unset, .unset, .unset, .unset, .unset] (plainFor_of_name own_pn0) (fun m_ => ef_rm0 m_ a q1 q2 m n) ?_
  intro p_ e_ s_ m_ below meth c_ s₁ X0 hx hby hml hret hlk hZ hown hnm e0
  have N0 := Fr.nil n0
  show own_Out p_ e_ below s_ _ _ _ s₁ (mkF m_ 0 #[.val (.int a), .val (.long q1), .second, .val (.long q2), .second, .val (.int m), .val (.int n), .unset, .unset, .unset, .unset, .unset, .unset, .unset, .unset, .unset, .unset, .unset, .unset, .unset, .unset, .unset, .unset, .unset, .unset, .unset, .unset, .unset, .unset, .unset, .unset, .unset, .unset] [])
  refine own_st s₁ (mkF m_ 63 #[.val (.int a), .val (.long q1), .second, .val (.long q2), .second, .val (.int m), .val (.int n), .val (.long (own_d1 q1)), .second, .val (.long (own_d2 q1)), .second, .val (.long (own_d1 q2)), .second, .val (.long (own_d2 q2)), .second, .val (.long ((((own_d1 q1) + (own_d2 q1)) + (own_d1 q2)) + (own_d2 q2))), .second, .unset, .unset, .unset, .unset, .unset, .unset, .unset, .unset, .unset, .unset, .unset, .unset, .unset, .unset, .unset, .unset] [(.long ((2147483647 : Int64) - ((((own_d1 q1) + (own_d2 q1)) + (own_d1 q2)) + (own_d2 q2)))), (.long (a.toInt64))]) (fun t_ k_ => ?_) ?_
  · refine XS.lconst X0.here hx rfl (hb hby at_0) ?_
    show Steps p_.tables e_ below (s₁.setTop (mkF m_ 1 #[.val (.int a), .val (.long q1), .second, .val (.long q2), .second, .val (.int m), .val (.int n), .unset, .unset, .unset, .unset, .unset, .unset, .unset, .unset, .unset, .unset, .unset, .unset, .unset, .unset, .unset, .unset, .unset, .unset, .unset, .unset, .unset, .unset, .unset, .unset, .unset, .unset] [(.long (1 : Int64))])) t_
    refine XS.lloadN X0.here hx rfl (hb hby at_1) rfl ?_
    show Steps p_.tables e_ below (s₁.setTop (mkF m_ 2 #[.val (.int a), .val (.long q1), .second, .val (.long q2), .second, .val (.int m), .val (.int n), .unset, .unset, .unset, .unset, .unset, .unset, .unset, .unset, .unset, .unset, .unset, .unset, .unset, .unset, .unset, .unset, .unset, .unset, .unset, .unset, .unset, .unset, .unset, .unset, .unset, .unset] [(.long q1), (.long (1 : Int64))])) t_
    refine X0.ldc2Long hx hown (mvT hZ (hw _ (List.mem_of_getElem? (i := 0) rfl))) (g := (mkF m_ 2 #[.val (.int a), .val (.long q1), .second, .val (.long q2), .second, .val (.int m), .val (.int n), .unset, .unset, .unset, .unset, .unset, .unset, .unset, .unset, .unset, .unset, .unset, .unset, .unset, .unset, .unset, .unset, .unset, .unset, .unset, .unset, .unset, .unset, .unset, .unset, .unset, .unset] [(.long q1), (.long (1 : Int64))])) rfl (hb hby at_2) _ ?_
    show Steps p_.tables e_ below (s₁.setTop (mkF m_ 5 #[.val (.int a), .val (.long q1), .second, .val (.long q2), .second, .val (.int m), .val (.int n), .unset, .unset, .unset, .unset, .unset, .unset, .unset, .unset, .unset, .unset, .unset, .unset, .unset, .unset, .unset, .unset, .unset, .unset, .unset, .unset, .unset, .unset, .unset, .unset, .unset, .unset] [(.long (536870911 : Int64)), (.long q1), (.long (1 : Int64))])) t_
    refine XS.land X0.here hx rfl (hb hby at_5) rfl ?_
    show Steps p_.tables e_ below (s₁.setTop (mkF m_ 6 #[.val (.int a), .val (.long q1), .second, .val (.long q2), .second, .val (.int m), .val (.int n), .unset, .unset, .unset, .unset, .unset, .unset, .unset, .unset, .unset, .unset, .unset, .unset, .unset, .unset, .unset, .unset, .unset, .unset, .unset, .unset, .unset, .unset, .unset, .unset, .unset, .unset] [(.long (q1 &&& (536870911 : Int64))), (.long (1 : Int64))])) t_
    refine XS.ladd X0.here hx rfl (hb hby at_6) rfl ?_
    show Steps p_.tables e_ below (s₁.setTop (mkF m_ 7 #[.val (.int a), .val (.long q1), .second, .val (.long q2), .second, .val (.int m), .val (.int n), .unset, .unset, .unset, .unset, .unset, .unset, .unset, .unset, .unset, .unset, .unset, .unset, .unset, .unset, .unset, .unset, .unset, .unset, .unset, .unset, .unset, .unset, .unset, .unset, .unset, .unset] [(.long (own_d1 q1))])) t_
    refine XS.lstore X0.here hx rfl (hb hby at_7) rfl (l' := #[.val (.int a), .val (.long q1), .second, .val (.long q2), .second, .val (.int m), .val (.int n), .val (.long (own_d1 q1)), .second, .unset, .unset, .unset, .unset, .unset, .unset, .unset, .unset, .unset, .unset, .unset, .unset, .unset, .unset, .unset, .unset, .unset, .unset, .unset, .unset, .unset, .unset, .unset, .unset]) rfl ?_
    show Steps p_.tables e_ below (s₁.setTop (mkF m_ 9 #[.val (.int a), .val (.long q1), .second, .val (.long q2), .second, .val (.int m), .val (.int n), .val (.long (own_d1 q1)), .second, .unset, .unset, .unset, .unset, .unset, .unset, .unset, .unset, .unset, .unset, .unset, .unset, .unset, .unset, .unset, .unset, .unset, .unset, .unset, .unset, .unset, .unset, .unset, .unset] [])) t_
    refine XS.lconst X0.here hx rfl (hb hby at_9) ?_
    show Steps p_.tables e_ below (s₁.setTop (mkF m_ 10 #[.val (.int a), .val (.long q1), .second, .val (.long q2), .second, .val (.int m), .val (.int n), .val (.long (own_d1 q1)), .second, .unset, .unset, .unset, .unset, .unset, .unset, .unset, .unset, .unset, .unset, .unset, .unset, .unset, .unset, .unset, .unset, .unset, .unset, .unset, .unset, .unset, .unset, .unset, .unset] [(.long (1 : Int64))])) t_
    refine XS.lloadN X0.here hx rfl (hb hby at_10) rfl ?_
    show Steps p_.tables e_ below (s₁.setTop (mkF m_ 11 #[.val (.int a), .val (.long q1), .second, .val (.long q2), .second, .val (.int m), .val (.int n), .val (.long (own_d1 q1)), .second, .unset, .unset, .unset, .unset, .unset, .unset, .unset, .unset, .unset, .unset, .unset, .unset, .unset, .unset, .unset, .unset, .unset, .unset, .unset, .unset, .unset, .unset, .unset, .unset] [(.long q1), (.long (1 : Int64))])) t_
    refine XS.bipush X0.here hx rfl (hb hby at_11) ?_
    show Steps p_.tables e_ below (s₁.setTop (mkF m_ 13 #[.val (.int a), .val (.long q1), .second, .val (.long q2), .second, .val (.int m), .val (.int n), .val (.long (own_d1 q1)), .second, .unset, .unset, .unset, .unset, .unset, .unset, .unset, .unset, .unset, .unset, .unset, .unset, .unset, .unset, .unset, .unset, .unset, .unset, .unset, .unset, .unset, .unset, .unset, .unset] [(.int (29 : Int32)), (.long q1), (.long (1 : Int64))])) t_
    refine XS.lushr X0.here hx rfl (hb hby at_13) rfl ?_
    show Steps p_.tables e_ below (s₁.setTop (mkF m_ 14 #[.val (.int a), .val (.long q1), .second, .val (.long q2), .second, .val (.int m), .val (.int n), .val (.long (own_d1 q1)), .second, .unset, .unset, .unset, .unset, .unset, .unset, .unset, .unset, .unset, .unset, .unset, .unset, .unset, .unset, .unset, .unset, .unset, .unset, .unset, .unset, .unset, .unset, .unset, .unset] [(.long ((q1.toUInt64 >>> ((29 : Int32) &&& 0x3f).toInt64.toUInt64).toInt64)), (.long (1 : Int64))])) t_
    refine X0.ldc2Long hx hown (mvT hZ (hw _ (List.mem_of_getElem? (i := 0) rfl))) (g := (mkF m_ 14 #[.val (.int a), .val (.long q1), .second, .val (.long q2), .second, .val (.int m), .val (.int n), .val (.long (own_d1 q1)), .second, .unset, .unset, .unset, .unset, .unset, .unset, .unset, .unset, .unset, .unset, .unset, .unset, .unset, .unset, .unset, .unset, .unset, .unset, .unset, .unset, .unset, .unset, .unset, .unset] [(.long ((q1.toUInt64 >>> ((29 : Int32) &&& 0x3f).toInt64.toUInt64).toInt64)), (.long (1 : Int64))])) rfl (hb hby at_14) _ ?_
    show Steps p_.tables e_ below (s₁.setTop (mkF m_ 17 #[.val (.int a), .val (.long q1), .second, .val (.long q2), .second, .val (.int m), .val (.int n), .val (.long (own_d1 q1)), .second, .unset, .unset, .unset, .unset, .unset, .unset, .unset, .unset, .unset, .unset, .unset, .unset, .unset, .unset, .unset, .unset, .unset, .unset, .unset, .unset, .unset, .unset, .unset, .unset] [(.long (536870911 : Int64)), (.long ((q1.toUInt64 >>> ((29 : Int32) &&& 0x3f).toInt64.toUInt64).toInt64)), (.long (1 : Int64))])) t_
    refine XS.land X0.here hx rfl (hb hby at_17) rfl ?_
    show Steps p_.tables e_ below (s₁.setTop (mkF m_ 18 #[.val (.int a), .val (.long q1), .second, .val (.long q2), .second, .val (.int m), .val (.int n), .val (.long (own_d1 q1)), .second, .unset, .unset, .unset, .unset, .unset, .unset, .unset, .unset, .unset, .unset, .unset, .unset, .unset, .unset, .unset, .unset, .unset, .unset, .unset, .unset, .unset, .unset, .unset, .unset] [(.long (((q1.toUInt64 >>> ((29 : Int32) &&& 0x3f).toInt64.toUInt64).toInt64) &&& (536870911 : Int64))), (.long (1 : Int64))])) t_
    refine XS.ladd X0.here hx rfl (hb hby at_18) rfl ?_
    show Steps p_.tables e_ below (s₁.setTop (mkF m_ 19 #[.val (.int a), .val (.long q1), .second, .val (.long q2), .second, .val (.int m), .val (.int n), .val (.long (own_d1 q1)), .second, .unset, .unset, .unset, .unset, .unset, .unset, .unset, .unset, .unset, .unset, .unset, .unset, .unset, .unset, .unset, .unset, .unset, .unset, .unset, .unset, .unset, .unset, .unset, .unset] [(.long (own_d2 q1))])) t_
    refine XS.lstore X0.here hx rfl (hb hby at_19) rfl (l' := #[.val (.int a), .val (.long q1), .second, .val (.long q2), .second, .val (.int m), .val (.int n), .val (.long (own_d1 q1)), .second, .val (.long (own_d2 q1)), .second, .unset, .unset, .unset, .unset, .unset, .unset, .unset, .unset, .unset, .unset, .unset, .unset, .unset, .unset, .unset, .unset, .unset, .unset, .unset, .unset, .unset, .unset]) rfl ?_
    show Steps p_.tables e_ below (s₁.setTop (mkF m_ 21 #[.val (.int a), .val (.long q1), .second, .val (.long q2), .second, .val (.int m), .val (.int n), .val (.long (own_d1 q1)), .second, .val (.long (own_d2 q1)), .second, .unset, .unset, .unset, .unset, .unset, .unset, .unset, .unset, .unset, .unset, .unset, .unset, .unset, .unset, .unset, .unset, .unset, .unset, .unset, .unset, .unset, .unset] [])) t_
    refine XS.lconst X0.here hx rfl (hb hby at_21) ?_
    show Steps p_.tables e_ below (s₁.setTop (mkF m_ 22 #[.val (.int a), .val (.long q1), .second, .val (.long q2), .second, .val (.int m), .val (.int n), .val (.long (own_d1 q1)), .second, .val (.long (own_d2 q1)), .second, .unset, .unset, .unset, .unset, .unset, .unset, .unset, .unset, .unset, .unset, .unset, .unset, .unset, .unset, .unset, .unset, .unset, .unset, .unset, .unset, .unset, .unset] [(.long (1 : Int64))])) t_
    refine XS.lloadN X0.here hx rfl (hb hby at_22) rfl ?_
    show Steps p_.tables e_ below (s₁.setTop (mkF m_ 23 #[.val (.int a), .val (.long q1), .second, .val (.long q2), .second, .val (.int m), .val (.int n), .val (.long (own_d1 q1)), .second, .val (.long (own_d2 q1)), .second, .unset, .unset, .unset, .unset, .unset, .unset, .unset, .unset, .unset, .unset, .unset, .unset, .unset, .unset, .unset, .unset, .unset, .unset, .unset, .unset, .unset, .unset] [(.long q2), (.long (1 : Int64))])) t_
    refine X0.ldc2Long hx hown (mvT hZ (hw _ (List.mem_of_getElem? (i := 0) rfl))) (g := (mkF m_ 23 #[.val (.int a), .val (.long q1), .second, .val (.long q2), .second, .val (.int m), .val (.int n), .val (.long (own_d1 q1)), .second, .val (.long (own_d2 q1)), .second, .unset, .unset, .unset, .unset, .unset, .unset, .unset, .unset, .unset, .unset, .unset, .unset, .unset, .unset, .unset, .unset, .unset, .unset, .unset, .unset, .unset, .unset] [(.long q2), (.long (1 : Int64))])) rfl (hb hby at_23) _ ?_
    show Steps p_.tables e_ below (s₁.setTop (mkF m_ 26 #[.val (.int a), .val (.long q1), .second, .val (.long q2), .second, .val (.int m), .val (.int n), .val (.long (own_d1 q1)), .second, .val (.long (own_d2 q1)), .second, .unset, .unset, .unset, .unset, .unset, .unset, .unset, .unset, .unset, .unset, .unset, .unset, .unset, .unset, .unset, .unset, .unset, .unset, .unset, .unset, .unset, .unset] [(.long (536870911 : Int64)), (.long q2), (.long (1 : Int64))])) t_
    refine XS.land X0.here hx rfl (hb hby at_26) rfl ?_
    show Steps p_.tables e_ below (s₁.setTop (mkF m_ 27 #[.val (.int a), .val (.long q1), .second, .val (.long q2), .second, .val (.int m), .val (.int n), .val (.long (own_d1 q1)), .second, .val (.long (own_d2 q1)), .second, .unset, .unset, .unset, .unset, .unset, .unset, .unset, .unset, .unset, .unset, .unset, .unset, .unset, .unset, .unset, .unset, .unset, .unset, .unset, .unset, .unset, .unset] [(.long (q2 &&& (536870911 : Int64))), (.long (1 : Int64))])) t_
    refine XS.ladd X0.here hx rfl (hb hby at_27) rfl ?_
    show Steps p_.tables e_ below (s₁.setTop (mkF m_ 28 #[.val (.int a), .val (.long q1), .second, .val (.long q2), .second, .val (.int m), .val (.int n), .val (.long (own_d1 q1)), .second, .val (.long (own_d2 q1)), .second, .unset, .unset, .unset, .unset, .unset, .unset, .unset, .unset, .unset, .unset, .unset, .unset, .unset, .unset, .unset, .unset, .unset, .unset, .unset, .unset, .unset, .unset] [(.long (own_d1 q2))])) t_
    refine XS.lstore X0.here hx rfl (hb hby at_28) rfl (l' := #[.val (.int a), .val (.long q1), .second, .val (.long q2), .second, .val (.int m), .val (.int n), .val (.long (own_d1 q1)), .second, .val (.long (own_d2 q1)), .second, .val (.long (own_d1 q2)), .second, .unset, .unset, .unset, .unset, .unset, .unset, .unset, .unset, .unset, .unset, .unset, .unset, .unset, .unset, .unset, .unset, .unset, .unset, .unset, .unset]) rfl ?_
    show Steps p_.tables e_ below (s₁.setTop (mkF m_ 30 #[.val (.int a), .val (.long q1), .second, .val (.long q2), .second, .val (.int m), .val (.int n), .val (.long (own_d1 q1)), .second, .val (.long (own_d2 q1)), .second, .val (.long (own_d1 q2)), .second, .unset, .unset, .unset, .unset, .unset, .unset, .unset, .unset, .unset, .unset, .unset, .unset, .unset, .unset, .unset, .unset, .unset, .unset, .unset, .unset] [])) t_
    refine XS.lconst X0.here hx rfl (hb hby at_30) ?_
    show Steps p_.tables e_ below (s₁.setTop (mkF m_ 31 #[.val (.int a), .val (.long q1), .second, .val (.long q2), .second, .val (.int m), .val (.int n), .val (.long (own_d1 q1)), .second, .val (.long (own_d2 q1)), .second, .val (.long (own_d1 q2)), .second, .unset, .unset, .unset, .unset, .unset, .unset, .unset, .unset, .unset, .unset, .unset, .unset, .unset, .unset, .unset, .unset, .unset, .unset, .unset, .unset] [(.long (1 : Int64))])) t_
    refine XS.lloadN X0.here hx rfl (hb hby at_31) rfl ?_
    show Steps p_.tables e_ below (s₁.setTop (mkF m_ 32 #[.val (.int a), .val (.long q1), .second, .val (.long q2), .second, .val (.int m), .val (.int n), .val (.long (own_d1 q1)), .second, .val (.long (own_d2 q1)), .second, .val (.long (own_d1 q2)), .second, .unset, .unset, .unset, .unset, .unset, .unset, .unset, .unset, .unset, .unset, .unset, .unset, .unset, .unset, .unset, .unset, .unset, .unset, .unset, .unset] [(.long q2), (.long (1 : Int64))])) t_
    refine XS.bipush X0.here hx rfl (hb hby at_32) ?_
    show Steps p_.tables e_ below (s₁.setTop (mkF m_ 34 #[.val (.int a), .val (.long q1), .second, .val (.long q2), .second, .val (.int m), .val (.int n), .val (.long (own_d1 q1)), .second, .val (.long (own_d2 q1)), .second, .val (.long (own_d1 q2)), .second, .unset, .unset, .unset, .unset, .unset, .unset, .unset, .unset, .unset, .unset, .unset, .unset, .unset, .unset, .unset, .unset, .unset, .unset, .unset, .unset] [(.int (29 : Int32)), (.long q2), (.long (1 : Int64))])) t_
    refine XS.lushr X0.here hx rfl (hb hby at_34) rfl ?_
    show Steps p_.tables e_ below (s₁.setTop (mkF m_ 35 #[.val (.int a), .val (.long q1), .second, .val (.long q2), .second, .val (.int m), .val (.int n), .val (.long (own_d1 q1)), .second, .val (.long (own_d2 q1)), .second, .val (.long (own_d1 q2)), .second, .unset, .unset, .unset, .unset, .unset, .unset, .unset, .unset, .unset, .unset, .unset, .unset, .unset, .unset, .unset, .unset, .unset, .unset, .unset, .unset] [(.long ((q2.toUInt64 >>> ((29 : Int32) &&& 0x3f).toInt64.toUInt64).toInt64)), (.long (1 : Int64))])) t_
    refine X0.ldc2Long hx hown (mvT hZ (hw _ (List.mem_of_getElem? (i := 0) rfl))) (g := (mkF m_ 35 #[.val (.int a), .val (.long q1), .second, .val (.long q2), .second, .val (.int m), .val (.int n), .val (.long (own_d1 q1)), .second, .val (.long (own_d2 q1)), .second, .val (.long (own_d1 q2)), .second, .unset, .unset, .unset, .unset, .unset, .unset, .unset, .unset, .unset, .unset, .unset, .unset, .unset, .unset, .unset, .unset, .unset, .unset, .unset, .unset] [(.long ((q2.toUInt64 >>> ((29 : Int32) &&& 0x3f).toInt64.toUInt64).toInt64)), (.long (1 : Int64))])) rfl (hb hby at_35) _ ?_
    show Steps p_.tables e_ below (s₁.setTop (mkF m_ 38 #[.val (.int a), .val (.long q1), .second, .val (.long q2), .second, .val (.int m), .val (.int n), .val (.long (own_d1 q1)), .second, .val (.long (own_d2 q1)), .second, .val (.long (own_d1 q2)), .second, .unset, .unset, .unset, .unset, .unset, .unset, .unset, .unset, .unset, .unset, .unset, .unset, .unset, .unset, .unset, .unset, .unset, .unset, .unset, .unset] [(.long (536870911 : Int64)), (.long ((q2.toUInt64 >>> ((29 : Int32) &&& 0x3f).toInt64.toUInt64).toInt64)), (.long (1 : Int64))])) t_
    refine XS.land X0.here hx rfl (hb hby at_38) rfl ?_
    show Steps p_.tables e_ below (s₁.setTop (mkF m_ 39 #[.val (.int a), .val (.long q1), .second, .val (.long q2), .second, .val (.int m), .val (.int n), .val (.long (own_d1 q1)), .second, .val (.long (own_d2 q1)), .second, .val (.long (own_d1 q2)), .second, .unset, .unset, .unset, .unset, .unset, .unset, .unset, .unset, .unset, .unset, .unset, .unset, .unset, .unset, .unset, .unset, .unset, .unset, .unset, .unset] [(.long (((q2.toUInt64 >>> ((29 : Int32) &&& 0x3f).toInt64.toUInt64).toInt64) &&& (536870911 : Int64))), (.long (1 : Int64))])) t_
    refine XS.ladd X0.here hx rfl (hb hby at_39) rfl ?_
    show Steps p_.tables e_ below (s₁.setTop (mkF m_ 40 #[.val (.int a), .val (.long q1), .second, .val (.long q2), .second, .val (.int m), .val (.int n), .val (.long (own_d1 q1)), .second, .val (.long (own_d2 q1)), .second, .val (.long (own_d1 q2)), .second, .unset, .unset, .unset, .unset, .unset, .unset, .unset, .unset, .unset, .unset, .unset, .unset, .unset, .unset, .unset, .unset, .unset, .unset, .unset, .unset] [(.long (own_d2 q2))])) t_
    refine XS.lstore X0.here hx rfl (hb hby at_40) rfl (l' := #[.val (.int a), .val (.long q1), .second, .val (.long q2), .second, .val (.int m), .val (.int n), .val (.long (own_d1 q1)), .second, .val (.long (own_d2 q1)), .second, .val (.long (own_d1 q2)), .second, .val (.long (own_d2 q2)), .second, .unset, .unset, .unset, .unset, .unset, .unset, .unset, .unset, .unset, .unset, .unset, .unset, .unset, .unset, .unset, .unset, .unset, .unset]) rfl ?_
    show Steps p_.tables e_ below (s₁.setTop (mkF m_ 42 #[.val (.int a), .val (.long q1), .second, .val (.long q2), .second, .val (.int m), .val (.int n), .val (.long (own_d1 q1)), .second, .val (.long (own_d2 q1)), .second, .val (.long (own_d1 q2)), .second, .val (.long (own_d2 q2)), .second, .unset, .unset, .unset, .unset, .unset, .unset, .unset, .unset, .unset, .unset, .unset, .unset, .unset, .unset, .unset, .unset, .unset, .unset] [])) t_
    refine XS.lload X0.here hx rfl (hb hby at_42) rfl ?_
    show Steps p_.tables e_ below (s₁.setTop (mkF m_ 44 #[.val (.int a), .val (.long q1), .second, .val (.long q2), .second, .val (.int m), .val (.int n), .val (.long (own_d1 q1)), .second, .val (.long (own_d2 q1)), .second, .val (.long (own_d1 q2)), .second, .val (.long (own_d2 q2)), .second, .unset, .unset, .unset, .unset, .unset, .unset, .unset, .unset, .unset, .unset, .unset, .unset, .unset, .unset, .unset, .unset, .unset, .unset] [(.long (own_d1 q1))])) t_
    refine XS.lload X0.here hx rfl (hb hby at_44) rfl ?_
    show Steps p_.tables e_ below (s₁.setTop (mkF m_ 46 #[.val (.int a), .val (.long q1), .second, .val (.long q2), .second, .val (.int m), .val (.int n), .val (.long (own_d1 q1)), .second, .val (.long (own_d2 q1)), .second, .val (.long (own_d1 q2)), .second, .val (.long (own_d2 q2)), .second, .unset, .unset, .unset, .unset, .unset, .unset, .unset, .unset, .unset, .unset, .unset, .unset, .unset, .unset, .unset, .unset, .unset, .unset] [(.long (own_d2 q1)), (.long (own_d1 q1))])) t_
    refine XS.ladd X0.here hx rfl (hb hby at_46) rfl ?_
    show Steps p_.tables e_ below (s₁.setTop (mkF m_ 47 #[.val (.int a), .val (.long q1), .second, .val (.long q2), .second, .val (.int m), .val (.int n), .val (.long (own_d1 q1)), .second, .val (.long (own_d2 q1)), .second, .val (.long (own_d1 q2)), .second, .val (.long (own_d2 q2)), .second, .unset, .unset, .unset, .unset, .unset, .unset, .unset, .unset, .unset, .unset, .unset, .unset, .unset, .unset, .unset, .unset, .unset, .unset] [(.long ((own_d1 q1) + (own_d2 q1)))])) t_
    refine XS.lload X0.here hx rfl (hb hby at_47) rfl ?_
    show Steps p_.tables e_ below (s₁.setTop (mkF m_ 49 #[.val (.int a), .val (.long q1), .second, .val (.long q2), .second, .val (.int m), .val (.int n), .val (.long (own_d1 q1)), .second, .val (.long (own_d2 q1)), .second, .val (.long (own_d1 q2)), .second, .val (.long (own_d2 q2)), .second, .unset, .unset, .unset, .unset, .unset, .unset, .unset, .unset, .unset, .unset, .unset, .unset, .unset, .unset, .unset, .unset, .unset, .unset] [(.long (own_d1 q2)), (.long ((own_d1 q1) + (own_d2 q1)))])) t_
    refine XS.ladd X0.here hx rfl (hb hby at_49) rfl ?_
    show Steps p_.tables e_ below (s₁.setTop (mkF m_ 50 #[.val (.int a), .val (.long q1), .second, .val (.long q2), .second, .val (.int m), .val (.int n), .val (.long (own_d1 q1)), .second, .val (.long (own_d2 q1)), .second, .val (.long (own_d1 q2)), .second, .val (.long (own_d2 q2)), .second, .unset, .unset, .unset, .unset, .unset, .unset, .unset, .unset, .unset, .unset, .unset, .unset, .unset, .unset, .unset, .unset, .unset, .unset] [(.long (((own_d1 q1) + (own_d2 q1)) + (own_d1 q2)))])) t_
    refine XS.lload X0.here hx rfl (hb hby at_50) rfl ?_
    show Steps p_.tables e_ below (s₁.setTop (mkF m_ 52 #[.val (.int a), .val (.long q1), .second, .val (.long q2), .second, .val (.int m), .val (.int n), .val (.long (own_d1 q1)), .second, .val (.long (own_d2 q1)), .second, .val (.long (own_d1 q2)), .second, .val (.long (own_d2 q2)), .second, .unset, .unset, .unset, .unset, .unset, .unset, .unset, .unset, .unset, .unset, .unset, .unset, .unset, .unset, .unset, .unset, .unset, .unset] [(.long (own_d2 q2)), (.long (((own_d1 q1) + (own_d2 q1)) + (own_d1 q2)))])) t_
    refine XS.ladd X0.here hx rfl (hb hby at_52) rfl ?_
    show Steps p_.tables e_ below (s₁.setTop (mkF m_ 53 #[.val (.int a), .val (.long q1), .second, .val (.long q2), .second, .val (.int m), .val (.int n), .val (.long (own_d1 q1)), .second, .val (.long (own_d2 q1)), .second, .val (.long (own_d1 q2)), .second, .val (.long (own_d2 q2)), .second, .unset, .unset, .unset, .unset, .unset, .unset, .unset, .unset, .unset, .unset, .unset, .unset, .unset, .unset, .unset, .unset, .unset, .unset] [(.long ((((own_d1 q1) + (own_d2 q1)) + (own_d1 q2)) + (own_d2 q2)))])) t_
    refine XS.lstore X0.here hx rfl (hb hby at_53) rfl (l' := #[.val (.int a), .val (.long q1), .second, .val (.long q2), .second, .val (.int m), .val (.int n), .val (.long (own_d1 q1)), .second, .val (.long (own_d2 q1)), .second, .val (.long (own_d1 q2)), .second, .val (.long (own_d2 q2)), .second, .val (.long ((((own_d1 q1) + (own_d2 q1)) + (own_d1 q2)) + (own_d2 q2))), .second, .unset, .unset, .unset, .unset, .unset, .unset, .unset, .unset, .unset, .unset, .unset, .unset, .unset, .unset, .unset, .unset]) rfl ?_
    show Steps p_.tables e_ below (s₁.setTop (mkF m_ 55 #[.val (.int a), .val (.long q1), .second, .val (.long q2), .second, .val (.int m), .val (.int n), .val (.long (own_d1 q1)), .second, .val (.long (own_d2 q1)), .second, .val (.long (own_d1 q2)), .second, .val (.long (own_d2 q2)), .second, .val (.long ((((own_d1 q1) + (own_d2 q1)) + (own_d1 q2)) + (own_d2 q2))), .second, .unset, .unset, .unset, .unset, .unset, .unset, .unset, .unset, .unset, .unset, .unset, .unset, .unset, .unset, .unset, .unset] [])) t_
    refine XS.iloadN X0.here hx rfl (hb hby at_55) rfl ?_
    show Steps p_.tables e_ below (s₁.setTop (mkF m_ 56 #[.val (.int a), .val (.long q1), .second, .val (.long q2), .second, .val (.int m), .val (.int n), .val (.long (own_d1 q1)), .second, .val (.long (own_d2 q1)), .second, .val (.long (own_d1 q2)), .second, .val (.long (own_d2 q2)), .second, .val (.long ((((own_d1 q1) + (own_d2 q1)) + (own_d1 q2)) + (own_d2 q2))), .second, .unset, .unset, .unset, .unset, .unset, .unset, .unset, .unset, .unset, .unset, .unset, .unset, .unset, .unset, .unset, .unset] [(.int a)])) t_
    refine XS.i2l X0.here hx rfl (hb hby at_56) rfl ?_
    show Steps p_.tables e_ below (s₁.setTop (mkF m_ 57 #[.val (.int a), .val (.long q1), .second, .val (.long q2), .second, .val (.int m), .val (.int n), .val (.long (own_d1 q1)), .second, .val (.long (own_d2 q1)), .second, .val (.long (own_d1 q2)), .second, .val (.long (own_d2 q2)), .second, .val (.long ((((own_d1 q1) + (own_d2 q1)) + (own_d1 q2)) + (own_d2 q2))), .second, .unset, .unset, .unset, .unset, .unset, .unset, .unset, .unset, .unset, .unset, .unset, .unset, .unset, .unset, .unset, .unset] [(.long (a.toInt64))])) t_
    refine X0.ldc2Long hx hown (mvT hZ (hw _ (List.mem_of_getElem? (i := 1) rfl))) (g := (mkF m_ 57 #[.val (.int a), .val (.long q1), .second, .val (.long q2), .second, .val (.int m), .val (.int n), .val (.long (own_d1 q1)), .second, .val (.long (own_d2 q1)), .second, .val (.long (own_d1 q2)), .second, .val (.long (own_d2 q2)), .second, .val (.long ((((own_d1 q1) + (own_d2 q1)) + (own_d1 q2)) + (own_d2 q2))), .second, .unset, .unset, .unset, .unset, .unset, .unset, .unset, .unset, .unset, .unset, .unset, .unset, .unset, .unset, .unset, .unset] [(.long (a.toInt64))])) rfl (hb hby at_57) _ ?_
    show Steps p_.tables e_ below (s₁.setTop (mkF m_ 60 #[.val (.int a), .val (.long q1), .second, .val (.long q2), .second, .val (.int m), .val (.int n), .val (.long (own_d1 q1)), .second, .val (.long (own_d2 q1)), .second, .val (.long (own_d1 q2)), .second, .val (.long (own_d2 q2)), .second, .val (.long ((((own_d1 q1) + (own_d2 q1)) + (own_d1 q2)) + (own_d2 q2))), .second, .unset, .unset, .unset, .unset, .unset, .unset, .unset, .unset, .unset, .unset, .unset, .unset, .unset, .unset, .unset, .unset] [(.long (2147483647 : Int64)), (.long (a.toInt64))])) t_
    refine XS.lload X0.here hx rfl (hb hby at_60) rfl ?_
    show Steps p_.tables e_ below (s₁.setTop (mkF m_ 62 #[.val (.int a), .val (.long q1), .second, .val (.long q2), .second, .val (.int m), .val (.int n), .val (.long (own_d1 q1)), .second, .val (.long (own_d2 q1)), .second, .val (.long (own_d1 q2)), .second, .val (.long (own_d2 q2)), .second, .val (.long ((((own_d1 q1) + (own_d2 q1)) + (own_d1 q2)) + (own_d2 q2))), .second, .unset, .unset, .unset, .unset, .unset, .unset, .unset, .unset, .unset, .unset, .unset, .unset, .unset, .unset, .unset, .unset] [(.long ((((own_d1 q1) + (own_d2 q1)) + (own_d1 q2)) + (own_d2 q2))), (.long (2147483647 : Int64)), (.long (a.toInt64))])) t_
    refine XS.lsub X0.here hx rfl (hb hby at_62) rfl ?_
    show Steps p_.tables e_ below (s₁.setTop (mkF m_ 63 #[.val (.int a), .val (.long q1), .second, .val (.long q2), .second, .val (.int m), .val (.int n), .val (.long (own_d1 q1)), .second, .val (.long (own_d2 q1)), .second, .val (.long (own_d1 q2)), .second, .val (.long (own_d2 q2)), .second, .val (.long ((((own_d1 q1) + (own_d2 q1)) + (own_d1 q2)) + (own_d2 q2))), .second, .unset, .unset, .unset, .unset, .unset, .unset, .unset, .unset, .unset, .unset, .unset, .unset, .unset, .unset, .unset, .unset] [(.long ((2147483647 : Int64) - ((((own_d1 q1) + (own_d2 q1)) + (own_d1 q2)) + (own_d2 q2)))), (.long (a.toInt64))])) t_
    exact k_
  refine own_callS X0 hx hZ hown (hw _ (List.mem_of_getElem? (i := 2) rfl)) (hw _ (List.mem_of_getElem? (i := 3) rfl)) (hw _ (List.mem_of_getElem? (i := 4) rfl)) (hw _ (List.mem_of_getElem? (i := 5) rfl)) (by decide) [(.long (a.toInt64)), (.long ((2147483647 : Int64) - ((((own_d1 q1) + (own_d2 q1)) + (own_d1 q2)) + (own_d2 q2))))] [] (rm1 l Z a0 hw (a.toInt64) ((2147483647 : Int64) - ((((own_d1 q1) + (own_d2 q1)) + (own_d1 q2)) + (own_d2 q2))) h0 n0 Z0) 0 (by decide) (by decide) e0 (by rw [hml]; rfl) (lenOf own_pd0 rfl) rfl (Nat.le_of_eq rfl) (hb hby at_63) (by decide) (by decide) ?_
  intro v1 T1 L1 X1 q1
  obtain ⟨rfl, N1q, e1⟩ := q1
  have N1 := Fr.app N0 N1q
  show own_Out p_ e_ below s_ _ _ _ T1 (mkF m_ 66 #[.val (.int a), .val (.long q1), .second, .val (.long q2), .second, .val (.int m), .val (.int n), .val (.long (own_d1 q1)), .second, .val (.long (own_d2 q1)), .second, .val (.long (own_d1 q2)), .second, .val (.long (own_d2 q2)), .second, .val (.long ((((own_d1 q1) + (own_d2 q1)) + (own_d1 q2)) + (own_d2 q2))), .second, .unset, .unset, .unset, .unset, .unset, .unset, .unset, .unset, .unset, .unset, .unset, .unset, .unset, .unset, .unset, .unset] [(.long (own_w0 a q1 q2))])
  refine own_st T1 (mkF m_ 97 #[.val (.int a), .val (.long q1), .second, .val (.long q2), .second, .val (.int m), .val (.int n), .val (.long (own_d1 q1)), .second, .val (.long (own_d2 q1)), .second, .val (.long (own_d1 q2)), .second, .val (.long (own_d2 q2)), .second, .val (.long ((((own_d1 q1) + (own_d2 q1)) + (own_d1 q2)) + (own_d2 q2))), .second, .val (.long (own_w0 a q1 q2)), .second, .val (.long ((own_w0 a q1 q2) + (own_d1 q1))), .second, .val (.long (((own_w0 a q1 q2) + (own_d1 q1)) + (own_d2 q1))), .second, .val (.long ((((own_w0 a q1 q2) + (own_d1 q1)) + (own_d2 q1)) + (own_d1 q2))), .second, .val (.long (((((own_w0 a q1 q2) + (own_d1 q1)) + (own_d2 q1)) + (own_d1 q2)) + (own_d2 q2))), .second, .unset, .unset, .unset, .unset, .unset, .unset] [(.int (5 : Int32))]) (fun t_ k_ => ?_) ?_
  · refine XS.lstore X1.here hx rfl (hb hby at_66) rfl (l' := #[.val (.int a), .val (.long q1), .second, .val (.long q2), .second, .val (.int m), .val (.int n), .val (.long (own_d1 q1)), .second, .val (.long (own_d2 q1)), .second, .val (.long (own_d1 q2)), .second, .val (.long (own_d2 q2)), .second, .val (.long ((((own_d1 q1) + (own_d2 q1)) + (own_d1 q2)) + (own_d2 q2))), .second, .val (.long (own_w0 a q1 q2)), .second, .unset, .unset, .unset, .unset, .unset, .unset, .unset, .unset, .unset, .unset, .unset, .unset, .unset, .unset]) rfl ?_
    show Steps p_.tables e_ below (T1.setTop (mkF m_ 68 #[.val (.int a), .val (.long q1), .second, .val (.long q2), .second, .val (.int m), .val (.int n), .val (.long (own_d1 q1)), .second, .val (.long (own_d2 q1)), .second, .val (.long (own_d1 q2)), .second, .val (.long (own_d2 q2)), .second, .val (.long ((((own_d1 q1) + (own_d2 q1)) + (own_d1 q2)) + (own_d2 q2))), .second, .val (.long (own_w0 a q1 q2)), .second, .unset, .unset, .unset, .unset, .unset, .unset, .unset, .unset, .unset, .unset, .unset, .unset, .unset, .unset] [])) t_
    refine XS.lload X1.here hx rfl (hb hby at_68) rfl ?_
    show Steps p_.tables e_ below (T1.setTop (mkF m_ 70 #[.val (.int a), .val (.long q1), .second, .val (.long q2), .second, .val (.int m), .val (.int n), .val (.long (own_d1 q1)), .second, .val (.long (own_d2 q1)), .second, .val (.long (own_d1 q2)), .second, .val (.long (own_d2 q2)), .second, .val (.long ((((own_d1 q1) + (own_d2 q1)) + (own_d1 q2)) + (own_d2 q2))), .second, .val (.long (own_w0 a q1 q2)), .second, .unset, .unset, .unset, .unset, .unset, .unset, .unset, .unset, .unset, .unset, .unset, .unset, .unset, .unset] [(.long (own_w0 a q1 q2))])) t_
    refine XS.lload X1.here hx rfl (hb hby at_70) rfl ?_
    show Steps p_.tables e_ below (T1.setTop (mkF m_ 72 #[.val (.int a), .val (.long q1), .second, .val (.long q2), .second, .val (.int m), .val (.int n), .val (.long (own_d1 q1)), .second, .val (.long (own_d2 q1)), .second, .val (.long (own_d1 q2)), .second, .val (.long (own_d2 q2)), .second, .val (.long ((((own_d1 q1) + (own_d2 q1)) + (own_d1 q2)) + (own_d2 q2))), .second, .val (.long (own_w0 a q1 q2)), .second, .unset, .unset, .unset, .unset, .unset, .unset, .unset, .unset, .unset, .unset, .unset, .unset, .unset, .unset] [(.long (own_d1 q1)), (.long (own_w0 a q1 q2))])) t_
    refine XS.ladd X1.here hx rfl (hb hby at_72) rfl ?_
    show Steps p_.tables e_ below (T1.setTop (mkF m_ 73 #[.val (.int a), .val (.long q1), .second, .val (.long q2), .second, .val (.int m), .val (.int n), .val (.long (own_d1 q1)), .second, .val (.long (own_d2 q1)), .second, .val (.long (own_d1 q2)), .second, .val (.long (own_d2 q2)), .second, .val (.long ((((own_d1 q1) + (own_d2 q1)) + (own_d1 q2)) + (own_d2 q2))), .second, .val (.long (own_w0 a q1 q2)), .second, .unset, .unset, .unset, .unset, .unset, .unset, .unset, .unset, .unset, .unset, .unset, .unset, .unset, .unset] [(.long ((own_w0 a q1 q2) + (own_d1 q1)))])) t_
    refine XS.lstore X1.here hx rfl (hb hby at_73) rfl (l' := #[.val (.int a), .val (.long q1), .second, .val (.long q2), .second, .val (.int m), .val (.int n), .val (.long (own_d1 q1)), .second, .val (.long (own_d2 q1)), .second, .val (.long (own_d1 q2)), .second, .val (.long (own_d2 q2)), .second, .val (.long ((((own_d1 q1) + (own_d2 q1)) + (own_d1 q2)) + (own_d2 q2))), .second, .val (.long (own_w0 a q1 q2)), .second, .val (.long ((own_w0 a q1 q2) + (own_d1 q1))), .second, .unset, .unset, .unset, .unset, .unset, .unset, .unset, .unset, .unset, .unset, .unset, .unset]) rfl ?_
    show Steps p_.tables e_ below (T1.setTop (mkF m_ 75 #[.val (.int a), .val (.long q1), .second, .val (.long q2), .second, .val (.int m), .val (.int n), .val (.long (own_d1 q1)), .second, .val (.long (own_d2 q1)), .second, .val (.long (own_d1 q2)), .second, .val (.long (own_d2 q2)), .second, .val (.long ((((own_d1 q1) + (own_d2 q1)) + (own_d1 q2)) + (own_d2 q2))), .second, .val (.long (own_w0 a q1 q2)), .second, .val (.long ((own_w0 a q1 q2) + (own_d1 q1))), .second, .unset, .unset, .unset, .unset, .unset, .unset, .unset, .unset, .unset, .unset, .unset, .unset] [])) t_
    refine XS.lload X1.here hx rfl (hb hby at_75) rfl ?_
    show Steps p_.tables e_ below (T1.setTop (mkF m_ 77 #[.val (.int a), .val (.long q1), .second, .val (.long q2), .second, .val (.int m), .val (.int n), .val (.long (own_d1 q1)), .second, .val (.long (own_d2 q1)), .second, .val (.long (own_d1 q2)), .second, .val (.long (own_d2 q2)), .second, .val (.long ((((own_d1 q1) + (own_d2 q1)) + (own_d1 q2)) + (own_d2 q2))), .second, .val (.long (own_w0 a q1 q2)), .second, .val (.long ((own_w0 a q1 q2) + (own_d1 q1))), .second, .unset, .unset, .unset, .unset, .unset, .unset, .unset, .unset, .unset, .unset, .unset, .unset] [(.long ((own_w0 a q1 q2) + (own_d1 q1)))])) t_
    refine XS.lload X1.here hx rfl (hb hby at_77) rfl ?_
    show Steps p_.tables e_ below (T1.setTop (mkF m_ 79 #[.val (.int a), .val (.long q1), .second, .val (.long q2), .second, .val (.int m), .val (.int n), .val (.long (own_d1 q1)), .second, .val (.long (own_d2 q1)), .second, .val (.long (own_d1 q2)), .second, .val (.long (own_d2 q2)), .second, .val (.long ((((own_d1 q1) + (own_d2 q1)) + (own_d1 q2)) + (own_d2 q2))), .second, .val (.long (own_w0 a q1 q2)), .second, .val (.long ((own_w0 a q1 q2) + (own_d1 q1))), .second, .unset, .unset, .unset, .unset, .unset, .unset, .unset, .unset, .unset, .unset, .unset, .unset] [(.long (own_d2 q1)), (.long ((own_w0 a q1 q2) + (own_d1 q1)))])) t_
    refine XS.ladd X1.here hx rfl (hb hby at_79) rfl ?_
    show Steps p_.tables e_ below (T1.setTop (mkF m_ 80 #[.val (.int a), .val (.long q1), .second, .val (.long q2), .second, .val (.int m), .val (.int n), .val (.long (own_d1 q1)), .second, .val (.long (own_d2 q1)), .second, .val (.long (own_d1 q2)), .second, .val (.long (own_d2 q2)), .second, .val (.long ((((own_d1 q1) + (own_d2 q1)) + (own_d1 q2)) + (own_d2 q2))), .second, .val (.long (own_w0 a q1 q2)), .second, .val (.long ((own_w0 a q1 q2) + (own_d1 q1))), .second, .unset, .unset, .unset, .unset, .unset, .unset, .unset, .unset, .unset, .unset, .unset, .unset] [(.long (((own_w0 a q1 q2) + (own_d1 q1)) + (own_d2 q1)))])) t_
    refine XS.lstore X1.here hx rfl (hb hby at_80) rfl (l' := #[.val (.int a), .val (.long q1), .second, .val (.long q2), .second, .val (.int m), .val (.int n), .val (.long (own_d1 q1)), .second, .val (.long (own_d2 q1)), .second, .val (.long (own_d1 q2)), .second, .val (.long (own_d2 q2)), .second, .val (.long ((((own_d1 q1) + (own_d2 q1)) + (own_d1 q2)) + (own_d2 q2))), .second, .val (.long (own_w0 a q1 q2)), .second, .val (.long ((own_w0 a q1 q2) + (own_d1 q1))), .second, .val (.long (((own_w0 a q1 q2) + (own_d1 q1)) + (own_d2 q1))), .second, .unset, .unset, .unset, .unset, .unset, .unset, .unset, .unset, .unset, .unset]) rfl ?_
    show Steps p_.tables e_ below (T1.setTop (mkF m_ 82 #[.val (.int a), .val (.long q1), .second, .val (.long q2), .second, .val (.int m), .val (.int n), .val (.long (own_d1 q1)), .second, .val (.long (own_d2 q1)), .second, .val (.long (own_d1 q2)), .second, .val (.long (own_d2 q2)), .second, .val (.long ((((own_d1 q1) + (own_d2 q1)) + (own_d1 q2)) + (own_d2 q2))), .second, .val (.long (own_w0 a q1 q2)), .second, .val (.long ((own_w0 a q1 q2) + (own_d1 q1))), .second, .val (.long (((own_w0 a q1 q2) + (own_d1 q1)) + (own_d2 q1))), .second, .unset, .unset, .unset, .unset, .unset, .unset, .unset, .unset, .unset, .unset] [])) t_
    refine XS.lload X1.here hx rfl (hb hby at_82) rfl ?_
    show Steps p_.tables e_ below (T1.setTop (mkF m_ 84 #[.val (.int a), .val (.long q1), .second, .val (.long q2), .second, .val (.int m), .val (.int n), .val (.long (own_d1 q1)), .second, .val (.long (own_d2 q1)), .second, .val (.long (own_d1 q2)), .second, .val (.long (own_d2 q2)), .second, .val (.long ((((own_d1 q1) + (own_d2 q1)) + (own_d1 q2)) + (own_d2 q2))), .second, .val (.long (own_w0 a q1 q2)), .second, .val (.long ((own_w0 a q1 q2) + (own_d1 q1))), .second, .val (.long (((own_w0 a q1 q2) + (own_d1 q1)) + (own_d2 q1))), .second, .unset, .unset, .unset, .unset, .unset, .unset, .unset, .unset, .unset, .unset] [(.long (((own_w0 a q1 q2) + (own_d1 q1)) + (own_d2 q1)))])) t_
    refine XS.lload X1.here hx rfl (hb hby at_84) rfl ?_
    show Steps p_.tables e_ below (T1.setTop (mkF m_ 86 #[.val (.int a), .val (.long q1), .second, .val (.long q2), .second, .val (.int m), .val (.int n), .val (.long (own_d1 q1)), .second, .val (.long (own_d2 q1)), .second, .val (.long (own_d1 q2)), .second, .val (.long (own_d2 q2)), .second, .val (.long ((((own_d1 q1) + (own_d2 q1)) + (own_d1 q2)) + (own_d2 q2))), .second, .val (.long (own_w0 a q1 q2)), .second, .val (.long ((own_w0 a q1 q2) + (own_d1 q1))), .second, .val (.long (((own_w0 a q1 q2) + (own_d1 q1)) + (own_d2 q1))), .second, .unset, .unset, .unset, .unset, .unset, .unset, .unset, .unset, .unset, .unset] [(.long (own_d1 q2)), (.long (((own_w0 a q1 q2) + (own_d1 q1)) + (own_d2 q1)))])) t_
    refine XS.ladd X1.here hx rfl (hb hby at_86) rfl ?_
    show Steps p_.tables e_ below (T1.setTop (mkF m_ 87 #[.val (.int a), .val (.long q1), .second, .val (.long q2), .second, .val (.int m), .val (.int n), .val (.long (own_d1 q1)), .second, .val (.long (own_d2 q1)), .second, .val (.long (own_d1 q2)), .second, .val (.long (own_d2 q2)), .second, .val (.long ((((own_d1 q1) + (own_d2 q1)) + (own_d1 q2)) + (own_d2 q2))), .second, .val (.long (own_w0 a q1 q2)), .second, .val (.long ((own_w0 a q1 q2) + (own_d1 q1))), .second, .val (.long (((own_w0 a q1 q2) + (own_d1 q1)) + (own_d2 q1))), .second, .unset, .unset, .unset, .unset, .unset, .unset, .unset, .unset, .unset, .unset] [(.long ((((own_w0 a q1 q2) + (own_d1 q1)) + (own_d2 q1)) + (own_d1 q2)))])) t_
    refine XS.lstore X1.here hx rfl (hb hby at_87) rfl (l' := #[.val (.int a), .val (.long q1), .second, .val (.long q2), .second, .val (.int m), .val (.int n), .val (.long (own_d1 q1)), .second, .val (.long (own_d2 q1)), .second, .val (.long (own_d1 q2)), .second, .val (.long (own_d2 q2)), .second, .val (.long ((((own_d1 q1) + (own_d2 q1)) + (own_d1 q2)) + (own_d2 q2))), .second, .val (.long (own_w0 a q1 q2)), .second, .val (.long ((own_w0 a q1 q2) + (own_d1 q1))), .second, .val (.long (((own_w0 a q1 q2) + (own_d1 q1)) + (own_d2 q1))), .second, .val (.long ((((own_w0 a q1 q2) + (own_d1 q1)) + (own_d2 q1)) + (own_d1 q2))), .second, .unset, .unset, .unset, .unset, .unset, .unset, .unset, .unset]) rfl ?_
    show Steps p_.tables e_ below (T1.setTop (mkF m_ 89 #[.val (.int a), .val (.long q1), .second, .val (.long q2), .second, .val (.int m), .val (.int n), .val (.long (own_d1 q1)), .second, .val (.long (own_d2 q1)), .second, .val (.long (own_d1 q2)), .second, .val (.long (own_d2 q2)), .second, .val (.long ((((own_d1 q1) + (own_d2 q1)) + (own_d1 q2)) + (own_d2 q2))), .second, .val (.long (own_w0 a q1 q2)), .second, .val (.long ((own_w0 a q1 q2) + (own_d1 q1))), .second, .val (.long (((own_w0 a q1 q2) + (own_d1 q1)) + (own_d2 q1))), .second, .val (.long ((((own_w0 a q1 q2) + (own_d1 q1)) + (own_d2 q1)) + (own_d1 q2))), .second, .unset, .unset, .unset, .unset, .unset, .unset, .unset, .unset] [])) t_
    refine XS.lload X1.here hx rfl (hb hby at_89) rfl ?_
    show Steps p_.tables e_ below (T1.setTop (mkF m_ 91 #[.val (.int a), .val (.long q1), .second, .val (.long q2), .second, .val (.int m), .val (.int n), .val (.long (own_d1 q1)), .second, .val (.long (own_d2 q1)), .second, .val (.long (own_d1 q2)), .second, .val (.long (own_d2 q2)), .second, .val (.long ((((own_d1 q1) + (own_d2 q1)) + (own_d1 q2)) + (own_d2 q2))), .second, .val (.long (own_w0 a q1 q2)), .second, .val (.long ((own_w0 a q1 q2) + (own_d1 q1))), .second, .val (.long (((own_w0 a q1 q2) + (own_d1 q1)) + (own_d2 q1))), .second, .val (.long ((((own_w0 a q1 q2) + (own_d1 q1)) + (own_d2 q1)) + (own_d1 q2))), .second, .unset, .unset, .unset, .unset, .unset, .unset, .unset, .unset] [(.long ((((own_w0 a q1 q2) + (own_d1 q1)) + (own_d2 q1)) + (own_d1 q2)))])) t_
    refine XS.lload X1.here hx rfl (hb hby at_91) rfl ?_
    show Steps p_.tables e_ below (T1.setTop (mkF m_ 93 #[.val (.int a), .val (.long q1), .second, .val (.long q2), .second, .val (.int m), .val (.int n), .val (.long (own_d1 q1)), .second, .val (.long (own_d2 q1)), .second, .val (.long (own_d1 q2)), .second, .val (.long (own_d2 q2)), .second, .val (.long ((((own_d1 q1) + (own_d2 q1)) + (own_d1 q2)) + (own_d2 q2))), .second, .val (.long (own_w0 a q1 q2)), .second, .val (.long ((own_w0 a q1 q2) + (own_d1 q1))), .second, .val (.long (((own_w0 a q1 q2) + (own_d1 q1)) + (own_d2 q1))), .second, .val (.long ((((own_w0 a q1 q2) + (own_d1 q1)) + (own_d2 q1)) + (own_d1 q2))), .second, .unset, .unset, .unset, .unset, .unset, .unset, .unset, .unset] [(.long (own_d2 q2)), (.long ((((own_w0 a q1 q2) + (own_d1 q1)) + (own_d2 q1)) + (own_d1 q2)))])) t_
    refine XS.ladd X1.here hx rfl (hb hby at_93) rfl ?_
    show Steps p_.tables e_ below (T1.setTop (mkF m_ 94 #[.val (.int a), .val (.long q1), .second, .val (.long q2), .second, .val (.int m), .val (.int n), .val (.long (own_d1 q1)), .second, .val (.long (own_d2 q1)), .second, .val (.long (own_d1 q2)), .second, .val (.long (own_d2 q2)), .second, .val (.long ((((own_d1 q1) + (own_d2 q1)) + (own_d1 q2)) + (own_d2 q2))), .second, .val (.long (own_w0 a q1 q2)), .second, .val (.long ((own_w0 a q1 q2) + (own_d1 q1))), .second, .val (.long (((own_w0 a q1 q2) + (own_d1 q1)) + (own_d2 q1))), .second, .val (.long ((((own_w0 a q1 q2) + (own_d1 q1)) + (own_d2 q1)) + (own_d1 q2))), .second, .unset, .unset, .unset, .unset, .unset, .unset, .unset, .unset] [(.long (((((own_w0 a q1 q2) + (own_d1 q1)) + (own_d2 q1)) + (own_d1 q2)) + (own_d2 q2)))])) t_
    refine XS.lstore X1.here hx rfl (hb hby at_94) rfl (l' := #[.val (.int a), .val (.long q1), .second, .val (.long q2), .second, .val (.int m), .val (.int n), .val (.long (own_d1 q1)), .second, .val (.long (own_d2 q1)), .second, .val (.long (own_d1 q2)), .second, .val (.long (own_d2 q2)), .second, .val (.long ((((own_d1 q1) + (own_d2 q1)) + (own_d1 q2)) + (own_d2 q2))), .second, .val (.long (own_w0 a q1 q2)), .second, .val (.long ((own_w0 a q1 q2) + (own_d1 q1))), .second, .val (.long (((own_w0 a q1 q2) + (own_d1 q1)) + (own_d2 q1))), .second, .val (.long ((((own_w0 a q1 q2) + (own_d1 q1)) + (own_d2 q1)) + (own_d1 q2))), .second, .val (.long (((((own_w0 a q1 q2) + (own_d1 q1)) + (own_d2 q1)) + (own_d1 q2)) + (own_d2 q2))), .second, .unset, .unset, .unset, .unset, .unset, .unset]) rfl ?_
    show Steps p_.tables e_ below (T1.setTop (mkF m_ 96 #[.val (.int a), .val (.long q1), .second, .val (.long q2), .second, .val (.int m), .val (.int n), .val (.long (own_d1 q1)), .second, .val (.long (own_d2 q1)), .second, .val (.long (own_d1 q2)), .second, .val (.long (own_d2 q2)), .second, .val (.long ((((own_d1 q1) + (own_d2 q1)) + (own_d1 q2)) + (own_d2 q2))), .second, .val (.long (own_w0 a q1 q2)), .second, .val (.long ((own_w0 a q1 q2) + (own_d1 q1))), .second, .val (.long (((own_w0 a q1 q2) + (own_d1 q1)) + (own_d2 q1))), .second, .val (.long ((((own_w0 a q1 q2) + (own_d1 q1)) + (own_d2 q1)) + (own_d1 q2))), .second, .val (.long (((((own_w0 a q1 q2) + (own_d1 q1)) + (own_d2 q1)) + (own_d1 q2)) + (own_d2 q2))), .second, .unset, .unset, .unset, .unset, .unset, .unset] [])) t_
    refine XS.iconst X1.here hx rfl (hb hby at_96) ?_
    show Steps p_.tables e_ below (T1.setTop (mkF m_ 97 #[.val (.int a), .val (.long q1), .second, .val (.long q2), .second, .val (.int m), .val (.int n), .val (.long (own_d1 q1)), .second, .val (.long (own_d2 q1)), .second, .val (.long (own_d1 q2)), .second, .val (.long (own_d2 q2)), .second, .val (.long ((((own_d1 q1) + (own_d2 q1)) + (own_d1 q2)) + (own_d2 q2))), .second, .val (.long (own_w0 a q1 q2)), .second, .val (.long ((own_w0 a q1 q2) + (own_d1 q1))), .second, .val (.long (((own_w0 a q1 q2) + (own_d1 q1)) + (own_d2 q1))), .second, .val (.long ((((own_w0 a q1 q2) + (own_d1 q1)) + (own_d2 q1)) + (own_d1 q2))), .second, .val (.long (((((own_w0 a q1 q2) + (own_d1 q1)) + (own_d2 q1)) + (own_d1 q2)) + (own_d2 q2))), .second, .unset, .unset, .unset, .unset, .unset, .unset] [(.int (5 : Int32))])) t_
    exact k_
  obtain ⟨T2, h2, k2, X2, e2, E2, A2, st2⟩ := newP X1 hx hZ (hw _ (List.mem_of_getElem? (i := 6) rfl)) e1 (g := (mkF m_ 97 #[.val (.int a), .val (.long q1), .second, .val (.long q2), .second, .val (.int m), .val (.int n), .val (.long (own_d1 q1)), .second, .val (.long (own_d2 q1)), .second, .val (.long (own_d1 q2)), .second, .val (.long (own_d2 q2)), .second, .val (.long ((((own_d1 q1) + (own_d2 q1)) + (own_d1 q2)) + (own_d2 q2))), .second, .val (.long (own_w0 a q1 q2)), .second, .val (.long ((own_w0 a q1 q2) + (own_d1 q1))), .second, .val (.long (((own_w0 a q1 q2) + (own_d1 q1)) + (own_d2 q1))), .second, .val (.long ((((own_w0 a q1 q2) + (own_d1 q1)) + (own_d2 q1)) + (own_d1 q2))), .second, .val (.long (((((own_w0 a q1 q2) + (own_d1 q1)) + (own_d2 q1)) + (own_d1 q2)) + (own_d2 q2))), .second, .unset, .unset, .unset, .unset, .unset, .unset] [(.int (5 : Int32))])) rfl (hb hby at_97) rfl (by decide) (cap := 5) (by decide) (by decide) (by decide) (by decide)
  obtain ⟨b2, g2⟩ : ∃ z, z = h0.size := ⟨_, rfl⟩
  rw [← g2] at A2 st2
  have g_b2 : n0 ≤ b2 := g2 ▸ Z0
  replace Z0 : n0 ≤ h2.size := Nat.le_trans Z0 E2.1
  have A_b2 : own_A Z h2 b2 k2 .int 5 (fun x_ => .int (([(0 : Int32), (0 : Int32), (0 : Int32), (0 : Int32), (0 : Int32)] : List Int32).getD x_ 0)) := own_A.newLI A2 (by decide) 5 (by decide) rfl
  refine own_st T2 (mkF m_ 99 #[.val (.int a), .val (.long q1), .second, .val (.long q2), .second, .val (.int m), .val (.int n), .val (.long (own_d1 q1)), .second, .val (.long (own_d2 q1)), .second, .val (.long (own_d1 q2)), .second, .val (.long (own_d2 q2)), .second, .val (.long ((((own_d1 q1) + (own_d2 q1)) + (own_d1 q2)) + (own_d2 q2))), .second, .val (.long (own_w0 a q1 q2)), .second, .val (.long ((own_w0 a q1 q2) + (own_d1 q1))), .second, .val (.long (((own_w0 a q1 q2) + (own_d1 q1)) + (own_d2 q1))), .second, .val (.long ((((own_w0 a q1 q2) + (own_d1 q1)) + (own_d2 q1)) + (own_d1 q2))), .second, .val (.long (((((own_w0 a q1 q2) + (own_d1 q1)) + (own_d2 q1)) + (own_d1 q2)) + (own_d2 q2))), .second, .unset, .unset, .unset, .unset, .unset, .unset] [(.ref b2)]) st2 ?_
  refine own_st T2 (mkF m_ 104 #[.val (.int a), .val (.long q1), .second, .val (.long q2), .second, .val (.int m), .val (.int n), .val (.long (own_d1 q1)), .second, .val (.long (own_d2 q1)), .second, .val (.long (own_d1 q2)), .second, .val (.long (own_d2 q2)), .second, .val (.long ((((own_d1 q1) + (own_d2 q1)) + (own_d1 q2)) + (own_d2 q2))), .second, .val (.long (own_w0 a q1 q2)), .second, .val (.long ((own_w0 a q1 q2) + (own_d1 q1))), .second, .val (.long (((own_w0 a q1 q2) + (own_d1 q1)) + (own_d2 q1))), .second, .val (.long ((((own_w0 a q1 q2) + (own_d1 q1)) + (own_d2 q1)) + (own_d1 q2))), .second, .val (.long (((((own_w0 a q1 q2) + (own_d1 q1)) + (own_d2 q1)) + (own_d1 q2)) + (own_d2 q2))), .second, .unset, .unset, .unset, .unset, .unset, .unset] [(.int ((own_w0 a q1 q2).toInt32)), (.int (0 : Int32)), (.ref b2), (.ref b2)]) (fun t_ k_ => ?_) ?_
  · refine XS.dup X2.here hx rfl (hb hby at_99) rfl rfl ?_
    show Steps p_.tables e_ below (T2.setTop (mkF m_ 100 #[.val (.int a), .val (.long q1), .second, .val (.long q2), .second, .val (.int m), .val (.int n), .val (.long (own_d1 q1)), .second, .val (.long (own_d2 q1)), .second, .val (.long (own_d1 q2)), .second, .val (.long (own_d2 q2)), .second, .val (.long ((((own_d1 q1) + (own_d2 q1)) + (own_d1 q2)) + (own_d2 q2))), .second, .val (.long (own_w0 a q1 q2)), .second, .val (.long ((own_w0 a q1 q2) + (own_d1 q1))), .second, .val (.long (((own_w0 a q1 q2) + (own_d1 q1)) + (own_d2 q1))), .second, .val (.long ((((own_w0 a q1 q2) + (own_d1 q1)) + (own_d2 q1)) + (own_d1 q2))), .second, .val (.long (((((own_w0 a q1 q2) + (own_d1 q1)) + (own_d2 q1)) + (own_d1 q2)) + (own_d2 q2))), .second, .unset, .unset, .unset, .unset, .unset, .unset] [(.ref b2), (.ref b2)])) t_
    refine XS.iconst X2.here hx rfl (hb hby at_100) ?_
    show Steps p_.tables e_ below (T2.setTop (mkF m_ 101 #[.val (.int a), .val (.long q1), .second, .val (.long q2), .second, .val (.int m), .val (.int n), .val (.long (own_d1 q1)), .second, .val (.long (own_d2 q1)), .second, .val (.long (own_d1 q2)), .second, .val (.long (own_d2 q2)), .second, .val (.long ((((own_d1 q1) + (own_d2 q1)) + (own_d1 q2)) + (own_d2 q2))), .second, .val (.long (own_w0 a q1 q2)), .second, .val (.long ((own_w0 a q1 q2) + (own_d1 q1))), .second, .val (.long (((own_w0 a q1 q2) + (own_d1 q1)) + (own_d2 q1))), .second, .val (.long ((((own_w0 a q1 q2) + (own_d1 q1)) + (own_d2 q1)) + (own_d1 q2))), .second, .val (.long (((((own_w0 a q1 q2) + (own_d1 q1)) + (own_d2 q1)) + (own_d1 q2)) + (own_d2 q2))), .second, .unset, .unset, .unset, .unset, .unset, .unset] [(.int (0 : Int32)), (.ref b2), (.ref b2)])) t_
    refine XS.lload X2.here hx rfl (hb hby at_101) rfl ?_
    show Steps p_.tables e_ below (T2.setTop (mkF m_ 103 #[.val (.int a), .val (.long q1), .second, .val (.long q2), .second, .val (.int m), .val (.int n), .val (.long (own_d1 q1)), .second, .val (.long (own_d2 q1)), .second, .val (.long (own_d1 q2)), .second, .val (.long (own_d2 q2)), .second, .val (.long ((((own_d1 q1) + (own_d2 q1)) + (own_d1 q2)) + (own_d2 q2))), .second, .val (.long (own_w0 a q1 q2)), .second, .val (.long ((own_w0 a q1 q2) + (own_d1 q1))), .second, .val (.long (((own_w0 a q1 q2) + (own_d1 q1)) + (own_d2 q1))), .second, .val (.long ((((own_w0 a q1 q2) + (own_d1 q1)) + (own_d2 q1)) + (own_d1 q2))), .second, .val (.long (((((own_w0 a q1 q2) + (own_d1 q1)) + (own_d2 q1)) + (own_d1 q2)) + (own_d2 q2))), .second, .unset, .unset, .unset, .unset, .unset, .unset] [(.long (own_w0 a q1 q2)), (.int (0 : Int32)), (.ref b2), (.ref b2)])) t_
    refine XS.l2i X2.here hx rfl (hb hby at_103) rfl ?_
    show Steps p_.tables e_ below (T2.setTop (mkF m_ 104 #[.val (.int a), .val (.long q1), .second, .val (.long q2), .second, .val (.int m), .val (.int n), .val (.long (own_d1 q1)), .second, .val (.long (own_d2 q1)), .second, .val (.long (own_d1 q2)), .second, .val (.long (own_d2 q2)), .second, .val (.long ((((own_d1 q1) + (own_d2 q1)) + (own_d1 q2)) + (own_d2 q2))), .second, .val (.long (own_w0 a q1 q2)), .second, .val (.long ((own_w0 a q1 q2) + (own_d1 q1))), .second, .val (.long (((own_w0 a q1 q2) + (own_d1 q1)) + (own_d2 q1))), .second, .val (.long ((((own_w0 a q1 q2) + (own_d1 q1)) + (own_d2 q1)) + (own_d1 q2))), .second, .val (.long (((((own_w0 a q1 q2) + (own_d1 q1)) + (own_d2 q1)) + (own_d1 q2)) + (own_d2 q2))), .second, .unset, .unset, .unset, .unset, .unset, .unset] [(.int ((own_w0 a q1 q2).toInt32)), (.int (0 : Int32)), (.ref b2), (.ref b2)])) t_
    exact k_
  obtain ⟨T3, h3, X3, e3, W3, st3⟩ := own_stI X2 hx hZ e2 A_b2 0 (by decide) (by decide) (j := (0 : Int32)) (x := ((own_w0 a q1 q2).toInt32)) (Ls := #[.val (.int a), .val (.long q1), .second, .val (.long q2), .second, .val (.int m), .val (.int n), .val (.long (own_d1 q1)), .second, .val (.long (own_d2 q1)), .second, .val (.long (own_d1 q2)), .second, .val (.long (own_d2 q2)), .second, .val (.long ((((own_d1 q1) + (own_d2 q1)) + (own_d1 q2)) + (own_d2 q2))), .second, .val (.long (own_w0 a q1 q2)), .second, .val (.long ((own_w0 a q1 q2) + (own_d1 q1))), .second, .val (.long (((own_w0 a q1 q2) + (own_d1 q1)) + (own_d2 q1))), .second, .val (.long ((((own_w0 a q1 q2) + (own_d1 q1)) + (own_d2 q1)) + (own_d1 q2))), .second, .val (.long (((((own_w0 a q1 q2) + (own_d1 q1)) + (own_d2 q1)) + (own_d1 q2)) + (own_d2 q2))), .second, .unset, .unset, .unset, .unset, .unset, .unset]) (rest := [(.ref b2)]) (hb hby at_104)
  have N3 := Fr.snoc X3 N1 g_b2
  replace Z0 : n0 ≤ h3.size := W3.size ▸ Z0
  replace A_b2 : own_A Z h3 b2 k2 .int 5 (fun x_ => .int (([((own_w0 a q1 q2).toInt32), (0 : Int32), (0 : Int32), (0 : Int32), (0 : Int32)] : List Int32).getD x_ 0)) := A_b2.setLI (by decide) (Nat.le_of_ble_eq_true rfl) W3
  refine own_st T3 (mkF m_ 105 #[.val (.int a), .val (.long q1), .second, .val (.long q2), .second, .val (.int m), .val (.int n), .val (.long (own_d1 q1)), .second, .val (.long (own_d2 q1)), .second, .val (.long (own_d1 q2)), .second, .val (.long (own_d2 q2)), .second, .val (.long ((((own_d1 q1) + (own_d2 q1)) + (own_d1 q2)) + (own_d2 q2))), .second, .val (.long (own_w0 a q1 q2)), .second, .val (.long ((own_w0 a q1 q2) + (own_d1 q1))), .second, .val (.long (((own_w0 a q1 q2) + (own_d1 q1)) + (own_d2 q1))), .second, .val (.long ((((own_w0 a q1 q2) + (own_d1 q1)) + (own_d2 q1)) + (own_d1 q2))), .second, .val (.long (((((own_w0 a q1 q2) + (own_d1 q1)) + (own_d2 q1)) + (own_d1 q2)) + (own_d2 q2))), .second, .unset, .unset, .unset, .unset, .unset, .unset] [(.ref b2)]) st3 ?_
  refine own_st T3 (mkF m_ 110 #[.val (.int a), .val (.long q1), .second, .val (.long q2), .second, .val (.int m), .val (.int n), .val (.long (own_d1 q1)), .second, .val (.long (own_d2 q1)), .second, .val (.long (own_d1 q2)), .second, .val (.long (own_d2 q2)), .second, .val (.long ((((own_d1 q1) + (own_d2 q1)) + (own_d1 q2)) + (own_d2 q2))), .second, .val (.long (own_w0 a q1 q2)), .second, .val (.long ((own_w0 a q1 q2) + (own_d1 q1))), .second, .val (.long (((own_w0 a q1 q2) + (own_d1 q1)) + (own_d2 q1))), .second, .val (.long ((((own_w0 a q1 q2) + (own_d1 q1)) + (own_d2 q1)) + (own_d1 q2))), .second, .val (.long (((((own_w0 a q1 q2) + (own_d1 q1)) + (own_d2 q1)) + (own_d1 q2)) + (own_d2 q2))), .second, .unset, .unset, .unset, .unset, .unset, .unset] [(.int (((own_w0 a q1 q2) + (own_d1 q1)).toInt32)), (.int (1 : Int32)), (.ref b2), (.ref b2)]) (fun t_ k_ => ?_) ?_
  · refine XS.dup X3.here hx rfl (hb hby at_105) rfl rfl ?_
    show Steps p_.tables e_ below (T3.setTop (mkF m_ 106 #[.val (.int a), .val (.long q1), .second, .val (.long q2), .second, .val (.int m), .val (.int n), .val (.long (own_d1 q1)), .second, .val (.long (own_d2 q1)), .second, .val (.long (own_d1 q2)), .second, .val (.long (own_d2 q2)), .second, .val (.long ((((own_d1 q1) + (own_d2 q1)) + (own_d1 q2)) + (own_d2 q2))), .second, .val (.long (own_w0 a q1 q2)), .second, .val (.long ((own_w0 a q1 q2) + (own_d1 q1))), .second, .val (.long (((own_w0 a q1 q2) + (own_d1 q1)) + (own_d2 q1))), .second, .val (.long ((((own_w0 a q1 q2) + (own_d1 q1)) + (own_d2 q1)) + (own_d1 q2))), .second, .val (.long (((((own_w0 a q1 q2) + (own_d1 q1)) + (own_d2 q1)) + (own_d1 q2)) + (own_d2 q2))), .second, .unset, .unset, .unset, .unset, .unset, .unset] [(.ref b2), (.ref b2)])) t_
    refine XS.iconst X3.here hx rfl (hb hby at_106) ?_
    show Steps p_.tables e_ below (T3.setTop (mkF m_ 107 #[.val (.int a), .val (.long q1), .second, .val (.long q2), .second, .val (.int m), .val (.int n), .val (.long (own_d1 q1)), .second, .val (.long (own_d2 q1)), .second, .val (.long (own_d1 q2)), .second, .val (.long (own_d2 q2)), .second, .val (.long ((((own_d1 q1) + (own_d2 q1)) + (own_d1 q2)) + (own_d2 q2))), .second, .val (.long (own_w0 a q1 q2)), .second, .val (.long ((own_w0 a q1 q2) + (own_d1 q1))), .second, .val (.long (((own_w0 a q1 q2) + (own_d1 q1)) + (own_d2 q1))), .second, .val (.long ((((own_w0 a q1 q2) + (own_d1 q1)) + (own_d2 q1)) + (own_d1 q2))), .second, .val (.long (((((own_w0 a q1 q2) + (own_d1 q1)) + (own_d2 q1)) + (own_d1 q2)) + (own_d2 q2))), .second, .unset, .unset, .unset, .unset, .unset, .unset] [(.int (1 : Int32)), (.ref b2), (.ref b2)])) t_
    refine XS.lload X3.here hx rfl (hb hby at_107) rfl ?_
    show Steps p_.tables e_ below (T3.setTop (mkF m_ 109 #[.val (.int a), .val (.long q1), .second, .val (.long q2), .second, .val (.int m), .val (.int n), .val (.long (own_d1 q1)), .second, .val (.long (own_d2 q1)), .second, .val (.long (own_d1 q2)), .second, .val (.long (own_d2 q2)), .second, .val (.long ((((own_d1 q1) + (own_d2 q1)) + (own_d1 q2)) + (own_d2 q2))), .second, .val (.long (own_w0 a q1 q2)), .second, .val (.long ((own_w0 a q1 q2) + (own_d1 q1))), .second, .val (.long (((own_w0 a q1 q2) + (own_d1 q1)) + (own_d2 q1))), .second, .val (.long ((((own_w0 a q1 q2) + (own_d1 q1)) + (own_d2 q1)) + (own_d1 q2))), .second, .val (.long (((((own_w0 a q1 q2) + (own_d1 q1)) + (own_d2 q1)) + (own_d1 q2)) + (own_d2 q2))), .second, .unset, .unset, .unset, .unset, .unset, .unset] [(.long ((own_w0 a q1 q2) + (own_d1 q1))), (.int (1 : Int32)), (.ref b2), (.ref b2)])) t_
    refine XS.l2i X3.here hx rfl (hb hby at_109) rfl ?_
    show Steps p_.tables e_ below (T3.setTop (mkF m_ 110 #[.val (.int a), .val (.long q1), .second, .val (.long q2), .second, .val (.int m), .val (.int n), .val (.long (own_d1 q1)), .second, .val (.long (own_d2 q1)), .second, .val (.long (own_d1 q2)), .second, .val (.long (own_d2 q2)), .second, .val (.long ((((own_d1 q1) + (own_d2 q1)) + (own_d1 q2)) + (own_d2 q2))), .second, .val (.long (own_w0 a q1 q2)), .second, .val (.long ((own_w0 a q1 q2) + (own_d1 q1))), .second, .val (.long (((own_w0 a q1 q2) + (own_d1 q1)) + (own_d2 q1))), .second, .val (.long ((((own_w0 a q1 q2) + (own_d1 q1)) + (own_d2 q1)) + (own_d1 q2))), .second, .val (.long (((((own_w0 a q1 q2) + (own_d1 q1)) + (own_d2 q1)) + (own_d1 q2)) + (own_d2 q2))), .second, .unset, .unset, .unset, .unset, .unset, .unset] [(.int (((own_w0 a q1 q2) + (own_d1 q1)).toInt32)), (.int (1 : Int32)), (.ref b2), (.ref b2)])) t_
    exact k_
  obtain ⟨T4, h4, X4, e4, W4, st4⟩ := own_stI X3 hx hZ e3 A_b2 1 (by decide) (by decide) (j := (1 : Int32)) (x := (((own_w0 a q1 q2) + (own_d1 q1)).toInt32)) (Ls := #[.val (.int a), .val (.long q1), .second, .val (.long q2), .second, .val (.int m), .val (.int n), .val (.long (own_d1 q1)), .second, .val (.long (own_d2 q1)), .second, .val (.long (own_d1 q2)), .second, .val (.long (own_d2 q2)), .second, .val (.long ((((own_d1 q1) + (own_d2 q1)) + (own_d1 q2)) + (own_d2 q2))), .second, .val (.long (own_w0 a q1 q2)), .second, .val (.long ((own_w0 a q1 q2) + (own_d1 q1))), .second, .val (.long (((own_w0 a q1 q2) + (own_d1 q1)) + (own_d2 q1))), .second, .val (.long ((((own_w0 a q1 q2) + (own_d1 q1)) + (own_d2 q1)) + (own_d1 q2))), .second, .val (.long (((((own_w0 a q1 q2) + (own_d1 q1)) + (own_d2 q1)) + (own_d1 q2)) + (own_d2 q2))), .second, .unset, .unset, .unset, .unset, .unset, .unset]) (rest := [(.ref b2)]) (hb hby at_110)
  have N4 := Fr.snoc X4 N3 g_b2
  replace Z0 : n0 ≤ h4.size := W4.size ▸ Z0
  replace A_b2 : own_A Z h4 b2 k2 .int 5 (fun x_ => .int (([((own_w0 a q1 q2).toInt32), (((own_w0 a q1 q2) + (own_d1 q1)).toInt32), (0 : Int32), (0 : Int32), (0 : Int32)] : List Int32).getD x_ 0)) := A_b2.setLI (by decide) (Nat.le_of_ble_eq_true rfl) W4
  refine own_st T4 (mkF m_ 111 #[.val (.int a), .val (.long q1), .second, .val (.long q2), .second, .val (.int m), .val (.int n), .val (.long (own_d1 q1)), .second, .val (.long (own_d2 q1)), .second, .val (.long (own_d1 q2)), .second, .val (.long (own_d2 q2)), .second, .val (.long ((((own_d1 q1) + (own_d2 q1)) + (own_d1 q2)) + (own_d2 q2))), .second, .val (.long (own_w0 a q1 q2)), .second, .val (.long ((own_w0 a q1 q2) + (own_d1 q1))), .second, .val (.long (((own_w0 a q1 q2) + (own_d1 q1)) + (own_d2 q1))), .second, .val (.long ((((own_w0 a q1 q2) + (own_d1 q1)) + (own_d2 q1)) + (own_d1 q2))), .second, .val (.long (((((own_w0 a q1 q2) + (own_d1 q1)) + (own_d2 q1)) + (own_d1 q2)) + (own_d2 q2))), .second, .unset, .unset, .unset, .unset, .unset, .unset] [(.ref b2)]) st4 ?_
  refine own_st T4 (mkF m_ 116 #[.val (.int a), .val (.long q1), .second, .val (.long q2), .second, .val (.int m), .val (.int n), .val (.long (own_d1 q1)), .second, .val (.long (own_d2 q1)), .second, .val (.long (own_d1 q2)), .second, .val (.long (own_d2 q2)), .second, .val (.long ((((own_d1 q1) + (own_d2 q1)) + (own_d1 q2)) + (own_d2 q2))), .second, .val (.long (own_w0 a q1 q2)), .second, .val (.long ((own_w0 a q1 q2) + (own_d1 q1))), .second, .val (.long (((own_w0 a q1 q2) + (own_d1 q1)) + (own_d2 q1))), .second, .val (.long ((((own_w0 a q1 q2) + (own_d1 q1)) + (own_d2 q1)) + (own_d1 q2))), .second, .val (.long (((((own_w0 a q1 q2) + (own_d1 q1)) + (own_d2 q1)) + (own_d1 q2)) + (own_d2 q2))), .second, .unset, .unset, .unset, .unset, .unset, .unset] [(.int ((((own_w0 a q1 q2) + (own_d1 q1)) + (own_d2 q1)).toInt32)), (.int (2 : Int32)), (.ref b2), (.ref b2)]) (fun t_ k_ => ?_) ?_
  · refine XS.dup X4.here hx rfl (hb hby at_111) rfl rfl ?_
    show Steps p_.tables e_ below (T4.setTop (mkF m_ 112 #[.val (.int a), .val (.long q1), .second, .val (.long q2), .second, .val (.int m), .val (.int n), .val (.long (own_d1 q1)), .second, .val (.long (own_d2 q1)), .second, .val (.long (own_d1 q2)), .second, .val (.long (own_d2 q2)), .second, .val (.long ((((own_d1 q1) + (own_d2 q1)) + (own_d1 q2)) + (own_d2 q2))), .second, .val (.long (own_w0 a q1 q2)), .second, .val (.long ((own_w0 a q1 q2) + (own_d1 q1))), .second, .val (.long (((own_w0 a q1 q2) + (own_d1 q1)) + (own_d2 q1))), .second, .val (.long ((((own_w0 a q1 q2) + (own_d1 q1)) + (own_d2 q1)) + (own_d1 q2))), .second, .val (.long (((((own_w0 a q1 q2) + (own_d1 q1)) + (own_d2 q1)) + (own_d1 q2)) + (own_d2 q2))), .second, .unset, .unset, .unset, .unset, .unset, .unset] [(.ref b2), (.ref b2)])) t_
    refine XS.iconst X4.here hx rfl (hb hby at_112) ?_
    show Steps p_.tables e_ below (T4.setTop (mkF m_ 113 #[.val (.int a), .val (.long q1), .second, .val (.long q2), .second, .val (.int m), .val (.int n), .val (.long (own_d1 q1)), .second, .val (.long (own_d2 q1)), .second, .val (.long (own_d1 q2)), .second, .val (.long (own_d2 q2)), .second, .val (.long ((((own_d1 q1) + (own_d2 q1)) + (own_d1 q2)) + (own_d2 q2))), .second, .val (.long (own_w0 a q1 q2)), .second, .val (.long ((own_w0 a q1 q2) + (own_d1 q1))), .second, .val (.long (((own_w0 a q1 q2) + (own_d1 q1)) + (own_d2 q1))), .second, .val (.long ((((own_w0 a q1 q2) + (own_d1 q1)) + (own_d2 q1)) + (own_d1 q2))), .second, .val (.long (((((own_w0 a q1 q2) + (own_d1 q1)) + (own_d2 q1)) + (own_d1 q2)) + (own_d2 q2))), .second, .unset, .unset, .unset, .unset, .unset, .unset] [(.int (2 : Int32)), (.ref b2), (.ref b2)])) t_
    refine XS.lload X4.here hx rfl (hb hby at_113) rfl ?_
    show Steps p_.tables e_ below (T4.setTop (mkF m_ 115 #[.val (.int a), .val (.long q1), .second, .val (.long q2), .second, .val (.int m), .val (.int n), .val (.long (own_d1 q1)), .second, .val (.long (own_d2 q1)), .second, .val (.long (own_d1 q2)), .second, .val (.long (own_d2 q2)), .second, .val (.long ((((own_d1 q1) + (own_d2 q1)) + (own_d1 q2)) + (own_d2 q2))), .second, .val (.long (own_w0 a q1 q2)), .second, .val (.long ((own_w0 a q1 q2) + (own_d1 q1))), .second, .val (.long (((own_w0 a q1 q2) + (own_d1 q1)) + (own_d2 q1))), .second, .val (.long ((((own_w0 a q1 q2) + (own_d1 q1)) + (own_d2 q1)) + (own_d1 q2))), .second, .val (.long (((((own_w0 a q1 q2) + (own_d1 q1)) + (own_d2 q1)) + (own_d1 q2)) + (own_d2 q2))), .second, .unset, .unset, .unset, .unset, .unset, .unset] [(.long (((own_w0 a q1 q2) + (own_d1 q1)) + (own_d2 q1))), (.int (2 : Int32)), (.ref b2), (.ref b2)])) t_
    refine XS.l2i X4.here hx rfl (hb hby at_115) rfl ?_
    show Steps p_.tables e_ below (T4.setTop (mkF m_ 116 #[.val (.int a), .val (.long q1), .second, .val (.long q2), .second, .val (.int m), .val (.int n), .val (.long (own_d1 q1)), .second, .val (.long (own_d2 q1)), .second, .val (.long (own_d1 q2)), .second, .val (.long (own_d2 q2)), .second, .val (.long ((((own_d1 q1) + (own_d2 q1)) + (own_d1 q2)) + (own_d2 q2))), .second, .val (.long (own_w0 a q1 q2)), .second, .val (.long ((own_w0 a q1 q2) + (own_d1 q1))), .second, .val (.long (((own_w0 a q1 q2) + (own_d1 q1)) + (own_d2 q1))), .second, .val (.long ((((own_w0 a q1 q2) + (own_d1 q1)) + (own_d2 q1)) + (own_d1 q2))), .second, .val (.long (((((own_w0 a q1 q2) + (own_d1 q1)) + (own_d2 q1)) + (own_d1 q2)) + (own_d2 q2))), .second, .unset, .unset, .unset, .unset, .unset, .unset] [(.int ((((own_w0 a q1 q2) + (own_d1 q1)) + (own_d2 q1)).toInt32)), (.int (2 : Int32)), (.ref b2), (.ref b2)])) t_
    exact k_
  obtain ⟨T5, h5, X5, e5, W5, st5⟩ := own_stI X4 hx hZ e4 A_b2 2 (by decide) (by decide) (j := (2 : Int32)) (x := ((((own_w0 a q1 q2) + (own_d1 q1)) + (own_d2 q1)).toInt32)) (Ls := #[.val (.int a), .val (.long q1), .second, .val (.long q2), .second, .val (.int m), .val (.int n), .val (.long (own_d1 q1)), .second, .val (.long (own_d2 q1)), .second, .val (.long (own_d1 q2)), .second, .val (.long (own_d2 q2)), .second, .val (.long ((((own_d1 q1) + (own_d2 q1)) + (own_d1 q2)) + (own_d2 q2))), .second, .val (.long (own_w0 a q1 q2)), .second, .val (.long ((own_w0 a q1 q2) + (own_d1 q1))), .second, .val (.long (((own_w0 a q1 q2) + (own_d1 q1)) + (own_d2 q1))), .second, .val (.long ((((own_w0 a q1 q2) + (own_d1 q1)) + (own_d2 q1)) + (own_d1 q2))), .second, .val (.long (((((own_w0 a q1 q2) + (own_d1 q1)) + (own_d2 q1)) + (own_d1 q2)) + (own_d2 q2))), .second, .unset, .unset, .unset, .unset, .unset, .unset]) (rest := [(.ref b2)]) (hb hby at_116)
  have N5 := Fr.snoc X5 N4 g_b2
  replace Z0 : n0 ≤ h5.size := W5.size ▸ Z0
  replace A_b2 : own_A Z h5 b2 k2 .int 5 (fun x_ => .int (([((own_w0 a q1 q2).toInt32), (((own_w0 a q1 q2) + (own_d1 q1)).toInt32), ((((own_w0 a q1 q2) + (own_d1 q1)) + (own_d2 q1)).toInt32), (0 : Int32), (0 : Int32)] : List Int32).getD x_ 0)) := A_b2.setLI (by decide) (Nat.le_of_ble_eq_true rfl) W5
  refine own_st T5 (mkF m_ 117 #[.val (.int a), .val (.long q1), .second, .val (.long q2), .second, .val (.int m), .val (.int n), .val (.long (own_d1 q1)), .second, .val (.long (own_d2 q1)), .second, .val (.long (own_d1 q2)), .second, .val (.long (own_d2 q2)), .second, .val (.long ((((own_d1 q1) + (own_d2 q1)) + (own_d1 q2)) + (own_d2 q2))), .second, .val (.long (own_w0 a q1 q2)), .second, .val (.long ((own_w0 a q1 q2) + (own_d1 q1))), .second, .val (.long (((own_w0 a q1 q2) + (own_d1 q1)) + (own_d2 q1))), .second, .val (.long ((((own_w0 a q1 q2) + (own_d1 q1)) + (own_d2 q1)) + (own_d1 q2))), .second, .val (.long (((((own_w0 a q1 q2) + (own_d1 q1)) + (own_d2 q1)) + (own_d1 q2)) + (own_d2 q2))), .second, .unset, .unset, .unset, .unset, .unset, .unset] [(.ref b2)]) st5 ?_
  refine own_st T5 (mkF m_ 122 #[.val (.int a), .val (.long q1), .second, .val (.long q2), .second, .val (.int m), .val (.int n), .val (.long (own_d1 q1)), .second, .val (.long (own_d2 q1)), .second, .val (.long (own_d1 q2)), .second, .val (.long (own_d2 q2)), .second, .val (.long ((((own_d1 q1) + (own_d2 q1)) + (own_d1 q2)) + (own_d2 q2))), .second, .val (.long (own_w0 a q1 q2)), .second, .val (.long ((own_w0 a q1 q2) + (own_d1 q1))), .second, .val (.long (((own_w0 a q1 q2) + (own_d1 q1)) + (own_d2 q1))), .second, .val (.long ((((own_w0 a q1 q2) + (own_d1 q1)) + (own_d2 q1)) + (own_d1 q2))), .second, .val (.long (((((own_w0 a q1 q2) + (own_d1 q1)) + (own_d2 q1)) + (own_d1 q2)) + (own_d2 q2))), .second, .unset, .unset, .unset, .unset, .unset, .unset] [(.int (((((own_w0 a q1 q2) + (own_d1 q1)) + (own_d2 q1)) + (own_d1 q2)).toInt32)), (.int (3 : Int32)), (.ref b2), (.ref b2)]) (fun t_ k_ => ?_) ?_
  · refine XS.dup X5.here hx rfl (hb hby at_117) rfl rfl ?_
    show Steps p_.tables e_ below (T5.setTop (mkF m_ 118 #[.val (.int a), .val (.long q1), .second, .val (.long q2), .second, .val (.int m), .val (.int n), .val (.long (own_d1 q1)), .second, .val (.long (own_d2 q1)), .second, .val (.long (own_d1 q2)), .second, .val (.long (own_d2 q2)), .second, .val (.long ((((own_d1 q1) + (own_d2 q1)) + (own_d1 q2)) + (own_d2 q2))), .second, .val (.long (own_w0 a q1 q2)), .second, .val (.long ((own_w0 a q1 q2) + (own_d1 q1))), .second, .val (.long (((own_w0 a q1 q2) + (own_d1 q1)) + (own_d2 q1))), .second, .val (.long ((((own_w0 a q1 q2) + (own_d1 q1)) + (own_d2 q1)) + (own_d1 q2))), .second, .val (.long (((((own_w0 a q1 q2) + (own_d1 q1)) + (own_d2 q1)) + (own_d1 q2)) + (own_d2 q2))), .second, .unset, .unset, .unset, .unset, .unset, .unset] [(.ref b2), (.ref b2)])) t_
    refine XS.iconst X5.here hx rfl (hb hby at_118) ?_
    show Steps p_.tables e_ below (T5.setTop (mkF m_ 119 #[.val (.int a), .val (.long q1), .second, .val (.long q2), .second, .val (.int m), .val (.int n), .val (.long (own_d1 q1)), .second, .val (.long (own_d2 q1)), .second, .val (.long (own_d1 q2)), .second, .val (.long (own_d2 q2)), .second, .val (.long ((((own_d1 q1) + (own_d2 q1)) + (own_d1 q2)) + (own_d2 q2))), .second, .val (.long (own_w0 a q1 q2)), .second, .val (.long ((own_w0 a q1 q2) + (own_d1 q1))), .second, .val (.long (((own_w0 a q1 q2) + (own_d1 q1)) + (own_d2 q1))), .second, .val (.long ((((own_w0 a q1 q2) + (own_d1 q1)) + (own_d2 q1)) + (own_d1 q2))), .second, .val (.long (((((own_w0 a q1 q2) + (own_d1 q1)) + (own_d2 q1)) + (own_d1 q2)) + (own_d2 q2))), .second, .unset, .unset, .unset, .unset, .unset, .unset] [(.int (3 : Int32)), (.ref b2), (.ref b2)])) t_
    refine XS.lload X5.here hx rfl (hb hby at_119) rfl ?_
    show Steps p_.tables e_ below (T5.setTop (mkF m_ 121 #[.val (.int a), .val (.long q1), .second, .val (.long q2), .second, .val (.int m), .val (.int n), .val (.long (own_d1 q1)), .second, .val (.long (own_d2 q1)), .second, .val (.long (own_d1 q2)), .second, .val (.long (own_d2 q2)), .second, .val (.long ((((own_d1 q1) + (own_d2 q1)) + (own_d1 q2)) + (own_d2 q2))), .second, .val (.long (own_w0 a q1 q2)), .second, .val (.long ((own_w0 a q1 q2) + (own_d1 q1))), .second, .val (.long (((own_w0 a q1 q2) + (own_d1 q1)) + (own_d2 q1))), .second, .val (.long ((((own_w0 a q1 q2) + (own_d1 q1)) + (own_d2 q1)) + (own_d1 q2))), .second, .val (.long (((((own_w0 a q1 q2) + (own_d1 q1)) + (own_d2 q1)) + (own_d1 q2)) + (own_d2 q2))), .second, .unset, .unset, .unset, .unset, .unset, .unset] [(.long ((((own_w0 a q1 q2) + (own_d1 q1)) + (own_d2 q1)) + (own_d1 q2))), (.int (3 : Int32)), (.ref b2), (.ref b2)])) t_
    refine XS.l2i X5.here hx rfl (hb hby at_121) rfl ?_
    show Steps p_.tables e_ below (T5.setTop (mkF m_ 122 #[.val (.int a), .val (.long q1), .second, .val (.long q2), .second, .val (.int m), .val (.int n), .val (.long (own_d1 q1)), .second, .val (.long (own_d2 q1)), .second, .val (.long (own_d1 q2)), .second, .val (.long (own_d2 q2)), .second, .val (.long ((((own_d1 q1) + (own_d2 q1)) + (own_d1 q2)) + (own_d2 q2))), .second, .val (.long (own_w0 a q1 q2)), .second, .val (.long ((own_w0 a q1 q2) + (own_d1 q1))), .second, .val (.long (((own_w0 a q1 q2) + (own_d1 q1)) + (own_d2 q1))), .second, .val (.long ((((own_w0 a q1 q2) + (own_d1 q1)) + (own_d2 q1)) + (own_d1 q2))), .second, .val (.long (((((own_w0 a q1 q2) + (own_d1 q1)) + (own_d2 q1)) + (own_d1 q2)) + (own_d2 q2))), .second, .unset, .unset, .unset, .unset, .unset, .unset] [(.int (((((own_w0 a q1 q2) + (own_d1 q1)) + (own_d2 q1)) + (own_d1 q2)).toInt32)), (.int (3 : Int32)), (.ref b2), (.ref b2)])) t_
    exact k_
  obtain ⟨T6, h6, X6, e6, W6, st6⟩ := own_stI X5 hx hZ e5 A_b2 3 (by decide) (by decide) (j := (3 : Int32)) (x := (((((own_w0 a q1 q2) + (own_d1 q1)) + (own_d2 q1)) + (own_d1 q2)).toInt32)) (Ls := #[.val (.int a), .val (.long q1), .second, .val (.long q2), .second, .val (.int m), .val (.int n), .val (.long (own_d1 q1)), .second, .val (.long (own_d2 q1)), .second, .val (.long (own_d1 q2)), .second, .val (.long (own_d2 q2)), .second, .val (.long ((((own_d1 q1) + (own_d2 q1)) + (own_d1 q2)) + (own_d2 q2))), .second, .val (.long (own_w0 a q1 q2)), .second, .val (.long ((own_w0 a q1 q2) + (own_d1 q1))), .second, .val (.long (((own_w0 a q1 q2) + (own_d1 q1)) + (own_d2 q1))), .second, .val (.long ((((own_w0 a q1 q2) + (own_d1 q1)) + (own_d2 q1)) + (own_d1 q2))), .second, .val (.long (((((own_w0 a q1 q2) + (own_d1 q1)) + (own_d2 q1)) + (own_d1 q2)) + (own_d2 q2))), .second, .unset, .unset, .unset, .unset, .unset, .unset]) (rest := [(.ref b2)]) (hb hby at_122)
  have N6 := Fr.snoc X6 N5 g_b2
  replace Z0 : n0 ≤ h6.size := W6.size ▸ Z0
  replace A_b2 : own_A Z h6 b2 k2 .int 5 (fun x_ => .int (([((own_w0 a q1 q2).toInt32), (((own_w0 a q1 q2) + (own_d1 q1)).toInt32), ((((own_w0 a q1 q2) + (own_d1 q1)) + (own_d2 q1)).toInt32), (((((own_w0 a q1 q2) + (own_d1 q1)) + (own_d2 q1)) + (own_d1 q2)).toInt32), (0 : Int32)] : List Int32).getD x_ 0)) := A_b2.setLI (by decide) (Nat.le_of_ble_eq_true rfl) W6
  refine own_st T6 (mkF m_ 123 #[.val (.int a), .val (.long q1), .second, .val (.long q2), .second, .val (.int m), .val (.int n), .val (.long (own_d1 q1)), .second, .val (.long (own_d2 q1)), .second, .val (.long (own_d1 q2)), .second, .val (.long (own_d2 q2)), .second, .val (.long ((((own_d1 q1) + (own_d2 q1)) + (own_d1 q2)) + (own_d2 q2))), .second, .val (.long (own_w0 a q1 q2)), .second, .val (.long ((own_w0 a q1 q2) + (own_d1 q1))), .second, .val (.long (((own_w0 a q1 q2) + (own_d1 q1)) + (own_d2 q1))), .second, .val (.long ((((own_w0 a q1 q2) + (own_d1 q1)) + (own_d2 q1)) + (own_d1 q2))), .second, .val (.long (((((own_w0 a q1 q2) + (own_d1 q1)) + (own_d2 q1)) + (own_d1 q2)) + (own_d2 q2))), .second, .unset, .unset, .unset, .unset, .unset, .unset] [(.ref b2)]) st6 ?_
  refine own_st T6 (mkF m_ 128 #[.val (.int a), .val (.long q1), .second, .val (.long q2), .second, .val (.int m), .val (.int n), .val (.long (own_d1 q1)), .second, .val (.long (own_d2 q1)), .second, .val (.long (own_d1 q2)), .second, .val (.long (own_d2 q2)), .second, .val (.long ((((own_d1 q1) + (own_d2 q1)) + (own_d1 q2)) + (own_d2 q2))), .second, .val (.long (own_w0 a q1 q2)), .second, .val (.long ((own_w0 a q1 q2) + (own_d1 q1))), .second, .val (.long (((own_w0 a q1 q2) + (own_d1 q1)) + (own_d2 q1))), .second, .val (.long ((((own_w0 a q1 q2) + (own_d1 q1)) + (own_d2 q1)) + (own_d1 q2))), .second, .val (.long (((((own_w0 a q1 q2) + (own_d1 q1)) + (own_d2 q1)) + (own_d1 q2)) + (own_d2 q2))), .second, .unset, .unset, .unset, .unset, .unset, .unset] [(.int ((((((own_w0 a q1 q2) + (own_d1 q1)) + (own_d2 q1)) + (own_d1 q2)) + (own_d2 q2)).toInt32)), (.int (4 : Int32)), (.ref b2), (.ref b2)]) (fun t_ k_ => ?_) ?_
  · refine XS.dup X6.here hx rfl (hb hby at_123) rfl rfl ?_
    show Steps p_.tables e_ below (T6.setTop (mkF m_ 124 #[.val (.int a), .val (.long q1), .second, .val (.long q2), .second, .val (.int m), .val (.int n), .val (.long (own_d1 q1)), .second, .val (.long (own_d2 q1)), .second, .val (.long (own_d1 q2)), .second, .val (.long (own_d2 q2)), .second, .val (.long ((((own_d1 q1) + (own_d2 q1)) + (own_d1 q2)) + (own_d2 q2))), .second, .val (.long (own_w0 a q1 q2)), .second, .val (.long ((own_w0 a q1 q2) + (own_d1 q1))), .second, .val (.long (((own_w0 a q1 q2) + (own_d1 q1)) + (own_d2 q1))), .second, .val (.long ((((own_w0 a q1 q2) + (own_d1 q1)) + (own_d2 q1)) + (own_d1 q2))), .second, .val (.long (((((own_w0 a q1 q2) + (own_d1 q1)) + (own_d2 q1)) + (own_d1 q2)) + (own_d2 q2))), .second, .unset, .unset, .unset, .unset, .unset, .unset] [(.ref b2), (.ref b2)])) t_
    refine XS.iconst X6.here hx rfl (hb hby at_124) ?_
    show Steps p_.tables e_ below (T6.setTop (mkF m_ 125 #[.val (.int a), .val (.long q1), .second, .val (.long q2), .second, .val (.int m), .val (.int n), .val (.long (own_d1 q1)), .second, .val (.long (own_d2 q1)), .second, .val (.long (own_d1 q2)), .second, .val (.long (own_d2 q2)), .second, .val (.long ((((own_d1 q1) + (own_d2 q1)) + (own_d1 q2)) + (own_d2 q2))), .second, .val (.long (own_w0 a q1 q2)), .second, .val (.long ((own_w0 a q1 q2) + (own_d1 q1))), .second, .val (.long (((own_w0 a q1 q2) + (own_d1 q1)) + (own_d2 q1))), .second, .val (.long ((((own_w0 a q1 q2) + (own_d1 q1)) + (own_d2 q1)) + (own_d1 q2))), .second, .val (.long (((((own_w0 a q1 q2) + (own_d1 q1)) + (own_d2 q1)) + (own_d1 q2)) + (own_d2 q2))), .second, .unset, .unset, .unset, .unset, .unset, .unset] [(.int (4 : Int32)), (.ref b2), (.ref b2)])) t_
    refine XS.lload X6.here hx rfl (hb hby at_125) rfl ?_
    show Steps p_.tables e_ below (T6.setTop (mkF m_ 127 #[.val (.int a), .val (.long q1), .second, .val (.long q2), .second, .val (.int m), .val (.int n), .val (.long (own_d1 q1)), .second, .val (.long (own_d2 q1)), .second, .val (.long (own_d1 q2)), .second, .val (.long (own_d2 q2)), .second, .val (.long ((((own_d1 q1) + (own_d2 q1)) + (own_d1 q2)) + (own_d2 q2))), .second, .val (.long (own_w0 a q1 q2)), .second, .val (.long ((own_w0 a q1 q2) + (own_d1 q1))), .second, .val (.long (((own_w0 a q1 q2) + (own_d1 q1)) + (own_d2 q1))), .second, .val (.long ((((own_w0 a q1 q2) + (own_d1 q1)) + (own_d2 q1)) + (own_d1 q2))), .second, .val (.long (((((own_w0 a q1 q2) + (own_d1 q1)) + (own_d2 q1)) + (own_d1 q2)) + (own_d2 q2))), .second, .unset, .unset, .unset, .unset, .unset, .unset] [(.long (((((own_w0 a q1 q2) + (own_d1 q1)) + (own_d2 q1)) + (own_d1 q2)) + (own_d2 q2))), (.int (4 : Int32)), (.ref b2), (.ref b2)])) t_
    refine XS.l2i X6.here hx rfl (hb hby at_127) rfl ?_
    show Steps p_.tables e_ below (T6.setTop (mkF m_ 128 #[.val (.int a), .val (.long q1), .second, .val (.long q2), .second, .val (.int m), .val (.int n), .val (.long (own_d1 q1)), .second, .val (.long (own_d2 q1)), .second, .val (.long (own_d1 q2)), .second, .val (.long (own_d2 q2)), .second, .val (.long ((((own_d1 q1) + (own_d2 q1)) + (own_d1 q2)) + (own_d2 q2))), .second, .val (.long (own_w0 a q1 q2)), .second, .val (.long ((own_w0 a q1 q2) + (own_d1 q1))), .second, .val (.long (((own_w0 a q1 q2) + (own_d1 q1)) + (own_d2 q1))), .second, .val (.long ((((own_w0 a q1 q2) + (own_d1 q1)) + (own_d2 q1)) + (own_d1 q2))), .second, .val (.long (((((own_w0 a q1 q2) + (own_d1 q1)) + (own_d2 q1)) + (own_d1 q2)) + (own_d2 q2))), .second, .unset, .unset, .unset, .unset, .unset, .unset] [(.int ((((((own_w0 a q1 q2) + (own_d1 q1)) + (own_d2 q1)) + (own_d1 q2)) + (own_d2 q2)).toInt32)), (.int (4 : Int32)), (.ref b2), (.ref b2)])) t_
    exact k_
  obtain ⟨T7, h7, X7, e7, W7, st7⟩ := own_stI X6 hx hZ e6 A_b2 4 (by decide) (by decide) (j := (4 : Int32)) (x := ((((((own_w0 a q1 q2) + (own_d1 q1)) + (own_d2 q1)) + (own_d1 q2)) + (own_d2 q2)).toInt32)) (Ls := #[.val (.int a), .val (.long q1), .second, .val (.long q2), .second, .val (.int m), .val (.int n), .val (.long (own_d1 q1)), .second, .val (.long (own_d2 q1)), .second, .val (.long (own_d1 q2)), .second, .val (.long (own_d2 q2)), .second, .val (.long ((((own_d1 q1) + (own_d2 q1)) + (own_d1 q2)) + (own_d2 q2))), .second, .val (.long (own_w0 a q1 q2)), .second, .val (.long ((own_w0 a q1 q2) + (own_d1 q1))), .second, .val (.long (((own_w0 a q1 q2) + (own_d1 q1)) + (own_d2 q1))), .second, .val (.long ((((own_w0 a q1 q2) + (own_d1 q1)) + (own_d2 q1)) + (own_d1 q2))), .second, .val (.long (((((own_w0 a q1 q2) + (own_d1 q1)) + (own_d2 q1)) + (own_d1 q2)) + (own_d2 q2))), .second, .unset, .unset, .unset, .unset, .unset, .unset]) (rest := [(.ref b2)]) (hb hby at_128)
  have N7 := Fr.snoc X7 N6 g_b2
  replace Z0 : n0 ≤ h7.size := W7.size ▸ Z0
  replace A_b2 : own_A Z h7 b2 k2 .int 5 (fun x_ => .int (own_w a q1 q2 x_)) := A_b2.setLI (by decide) (Nat.le_of_ble_eq_true rfl) W7
  refine own_st T7 (mkF m_ 129 #[.val (.int a), .val (.long q1), .second, .val (.long q2), .second, .val (.int m), .val (.int n), .val (.long (own_d1 q1)), .second, .val (.long (own_d2 q1)), .second, .val (.long (own_d1 q2)), .second, .val (.long (own_d2 q2)), .second, .val (.long ((((own_d1 q1) + (own_d2 q1)) + (own_d1 q2)) + (own_d2 q2))), .second, .val (.long (own_w0 a q1 q2)), .second, .val (.long ((own_w0 a q1 q2) + (own_d1 q1))), .second, .val (.long (((own_w0 a q1 q2) + (own_d1 q1)) + (own_d2 q1))), .second, .val (.long ((((own_w0 a q1 q2) + (own_d1 q1)) + (own_d2 q1)) + (own_d1 q2))), .second, .val (.long (((((own_w0 a q1 q2) + (own_d1 q1)) + (own_d2 q1)) + (own_d1 q2)) + (own_d2 q2))), .second, .unset, .unset, .unset, .unset, .unset, .unset] [(.ref b2)]) st7 ?_
  refine own_st T7 (mkF m_ 149 #[.val (.int a), .val (.long q1), .second, .val (.long q2), .second, .val (.int m), .val (.int n), .val (.long (own_d1 q1)), .second, .val (.long (own_d2 q1)), .second, .val (.long (own_d1 q2)), .second, .val (.long (own_d2 q2)), .second, .val (.long ((((own_d1 q1) + (own_d2 q1)) + (own_d1 q2)) + (own_d2 q2))), .second, .val (.long (own_w0 a q1 q2)), .second, .val (.long ((own_w0 a q1 q2) + (own_d1 q1))), .second, .val (.long (((own_w0 a q1 q2) + (own_d1 q1)) + (own_d2 q1))), .second, .val (.long ((((own_w0 a q1 q2) + (own_d1 q1)) + (own_d2 q1)) + (own_d1 q2))), .second, .val (.long (((((own_w0 a q1 q2) + (own_d1 q1)) + (own_d2 q1)) + (own_d1 q2)) + (own_d2 q2))), .second, .val (.ref b2), .val (.int (own_m m)), .val (.int (own_m n)), .unset, .unset, .unset] [(.ref b2), (.int (own_m m))]) (fun t_ k_ => ?_) ?_
  · refine XS.astore X7.here hx rfl (hb hby at_129) rfl rfl (l' := #[.val (.int a), .val (.long q1), .second, .val (.long q2), .second, .val (.int m), .val (.int n), .val (.long (own_d1 q1)), .second, .val (.long (own_d2 q1)), .second, .val (.long (own_d1 q2)), .second, .val (.long (own_d2 q2)), .second, .val (.long ((((own_d1 q1) + (own_d2 q1)) + (own_d1 q2)) + (own_d2 q2))), .second, .val (.long (own_w0 a q1 q2)), .second, .val (.long ((own_w0 a q1 q2) + (own_d1 q1))), .second, .val (.long (((own_w0 a q1 q2) + (own_d1 q1)) + (own_d2 q1))), .second, .val (.long ((((own_w0 a q1 q2) + (own_d1 q1)) + (own_d2 q1)) + (own_d1 q2))), .second, .val (.long (((((own_w0 a q1 q2) + (own_d1 q1)) + (own_d2 q1)) + (own_d1 q2)) + (own_d2 q2))), .second, .val (.ref b2), .unset, .unset, .unset, .unset, .unset]) rfl ?_
    show Steps p_.tables e_ below (T7.setTop (mkF m_ 131 #[.val (.int a), .val (.long q1), .second, .val (.long q2), .second, .val (.int m), .val (.int n), .val (.long (own_d1 q1)), .second, .val (.long (own_d2 q1)), .second, .val (.long (own_d1 q2)), .second, .val (.long (own_d2 q2)), .second, .val (.long ((((own_d1 q1) + (own_d2 q1)) + (own_d1 q2)) + (own_d2 q2))), .second, .val (.long (own_w0 a q1 q2)), .second, .val (.long ((own_w0 a q1 q2) + (own_d1 q1))), .second, .val (.long (((own_w0 a q1 q2) + (own_d1 q1)) + (own_d2 q1))), .second, .val (.long ((((own_w0 a q1 q2) + (own_d1 q1)) + (own_d2 q1)) + (own_d1 q2))), .second, .val (.long (((((own_w0 a q1 q2) + (own_d1 q1)) + (own_d2 q1)) + (own_d1 q2)) + (own_d2 q2))), .second, .val (.ref b2), .unset, .unset, .unset, .unset, .unset] [])) t_
    refine XS.iload X7.here hx rfl (hb hby at_131) rfl ?_
    show Steps p_.tables e_ below (T7.setTop (mkF m_ 133 #[.val (.int a), .val (.long q1), .second, .val (.long q2), .second, .val (.int m), .val (.int n), .val (.long (own_d1 q1)), .second, .val (.long (own_d2 q1)), .second, .val (.long (own_d1 q2)), .second, .val (.long (own_d2 q2)), .second, .val (.long ((((own_d1 q1) + (own_d2 q1)) + (own_d1 q2)) + (own_d2 q2))), .second, .val (.long (own_w0 a q1 q2)), .second, .val (.long ((own_w0 a q1 q2) + (own_d1 q1))), .second, .val (.long (((own_w0 a q1 q2) + (own_d1 q1)) + (own_d2 q1))), .second, .val (.long ((((own_w0 a q1 q2) + (own_d1 q1)) + (own_d2 q1)) + (own_d1 q2))), .second, .val (.long (((((own_w0 a q1 q2) + (own_d1 q1)) + (own_d2 q1)) + (own_d1 q2)) + (own_d2 q2))), .second, .val (.ref b2), .unset, .unset, .unset, .unset, .unset] [(.int m)])) t_
    refine XS.bipush X7.here hx rfl (hb hby at_133) ?_
    show Steps p_.tables e_ below (T7.setTop (mkF m_ 135 #[.val (.int a), .val (.long q1), .second, .val (.long q2), .second, .val (.int m), .val (.int n), .val (.long (own_d1 q1)), .second, .val (.long (own_d2 q1)), .second, .val (.long (own_d1 q2)), .second, .val (.long (own_d2 q2)), .second, .val (.long ((((own_d1 q1) + (own_d2 q1)) + (own_d1 q2)) + (own_d2 q2))), .second, .val (.long (own_w0 a q1 q2)), .second, .val (.long ((own_w0 a q1 q2) + (own_d1 q1))), .second, .val (.long (((own_w0 a q1 q2) + (own_d1 q1)) + (own_d2 q1))), .second, .val (.long ((((own_w0 a q1 q2) + (own_d1 q1)) + (own_d2 q1)) + (own_d1 q2))), .second, .val (.long (((((own_w0 a q1 q2) + (own_d1 q1)) + (own_d2 q1)) + (own_d1 q2)) + (own_d2 q2))), .second, .val (.ref b2), .unset, .unset, .unset, .unset, .unset] [(.int (31 : Int32)), (.int m)])) t_
    refine XS.iand X7.here hx rfl (hb hby at_135) rfl ?_
    show Steps p_.tables e_ below (T7.setTop (mkF m_ 136 #[.val (.int a), .val (.long q1), .second, .val (.long q2), .second, .val (.int m), .val (.int n), .val (.long (own_d1 q1)), .second, .val (.long (own_d2 q1)), .second, .val (.long (own_d1 q2)), .second, .val (.long (own_d2 q2)), .second, .val (.long ((((own_d1 q1) + (own_d2 q1)) + (own_d1 q2)) + (own_d2 q2))), .second, .val (.long (own_w0 a q1 q2)), .second, .val (.long ((own_w0 a q1 q2) + (own_d1 q1))), .second, .val (.long (((own_w0 a q1 q2) + (own_d1 q1)) + (own_d2 q1))), .second, .val (.long ((((own_w0 a q1 q2) + (own_d1 q1)) + (own_d2 q1)) + (own_d1 q2))), .second, .val (.long (((((own_w0 a q1 q2) + (own_d1 q1)) + (own_d2 q1)) + (own_d1 q2)) + (own_d2 q2))), .second, .val (.ref b2), .unset, .unset, .unset, .unset, .unset] [(.int (own_m m))])) t_
    refine XS.istore X7.here hx rfl (hb hby at_136) rfl (l' := #[.val (.int a), .val (.long q1), .second, .val (.long q2), .second, .val (.int m), .val (.int n), .val (.long (own_d1 q1)), .second, .val (.long (own_d2 q1)), .second, .val (.long (own_d1 q2)), .second, .val (.long (own_d2 q2)), .second, .val (.long ((((own_d1 q1) + (own_d2 q1)) + (own_d1 q2)) + (own_d2 q2))), .second, .val (.long (own_w0 a q1 q2)), .second, .val (.long ((own_w0 a q1 q2) + (own_d1 q1))), .second, .val (.long (((own_w0 a q1 q2) + (own_d1 q1)) + (own_d2 q1))), .second, .val (.long ((((own_w0 a q1 q2) + (own_d1 q1)) + (own_d2 q1)) + (own_d1 q2))), .second, .val (.long (((((own_w0 a q1 q2) + (own_d1 q1)) + (own_d2 q1)) + (own_d1 q2)) + (own_d2 q2))), .second, .val (.ref b2), .val (.int (own_m m)), .unset, .unset, .unset, .unset]) rfl ?_
    show Steps p_.tables e_ below (T7.setTop (mkF m_ 138 #[.val (.int a), .val (.long q1), .second, .val (.long q2), .second, .val (.int m), .val (.int n), .val (.long (own_d1 q1)), .second, .val (.long (own_d2 q1)), .second, .val (.long (own_d1 q2)), .second, .val (.long (own_d2 q2)), .second, .val (.long ((((own_d1 q1) + (own_d2 q1)) + (own_d1 q2)) + (own_d2 q2))), .second, .val (.long (own_w0 a q1 q2)), .second, .val (.long ((own_w0 a q1 q2) + (own_d1 q1))), .second, .val (.long (((own_w0 a q1 q2) + (own_d1 q1)) + (own_d2 q1))), .second, .val (.long ((((own_w0 a q1 q2) + (own_d1 q1)) + (own_d2 q1)) + (own_d1 q2))), .second, .val (.long (((((own_w0 a q1 q2) + (own_d1 q1)) + (own_d2 q1)) + (own_d1 q2)) + (own_d2 q2))), .second, .val (.ref b2), .val (.int (own_m m)), .unset, .unset, .unset, .unset] [])) t_
    refine XS.iload X7.here hx rfl (hb hby at_138) rfl ?_
    show Steps p_.tables e_ below (T7.setTop (mkF m_ 140 #[.val (.int a), .val (.long q1), .second, .val (.long q2), .second, .val (.int m), .val (.int n), .val (.long (own_d1 q1)), .second, .val (.long (own_d2 q1)), .second, .val (.long (own_d1 q2)), .second, .val (.long (own_d2 q2)), .second, .val (.long ((((own_d1 q1) + (own_d2 q1)) + (own_d1 q2)) + (own_d2 q2))), .second, .val (.long (own_w0 a q1 q2)), .second, .val (.long ((own_w0 a q1 q2) + (own_d1 q1))), .second, .val (.long (((own_w0 a q1 q2) + (own_d1 q1)) + (own_d2 q1))), .second, .val (.long ((((own_w0 a q1 q2) + (own_d1 q1)) + (own_d2 q1)) + (own_d1 q2))), .second, .val (.long (((((own_w0 a q1 q2) + (own_d1 q1)) + (own_d2 q1)) + (own_d1 q2)) + (own_d2 q2))), .second, .val (.ref b2), .val (.int (own_m m)), .unset, .unset, .unset, .unset] [(.int n)])) t_
    refine XS.bipush X7.here hx rfl (hb hby at_140) ?_
    show Steps p_.tables e_ below (T7.setTop (mkF m_ 142 #[.val (.int a), .val (.long q1), .second, .val (.long q2), .second, .val (.int m), .val (.int n), .val (.long (own_d1 q1)), .second, .val (.long (own_d2 q1)), .second, .val (.long (own_d1 q2)), .second, .val (.long (own_d2 q2)), .second, .val (.long ((((own_d1 q1) + (own_d2 q1)) + (own_d1 q2)) + (own_d2 q2))), .second, .val (.long (own_w0 a q1 q2)), .second, .val (.long ((own_w0 a q1 q2) + (own_d1 q1))), .second, .val (.long (((own_w0 a q1 q2) + (own_d1 q1)) + (own_d2 q1))), .second, .val (.long ((((own_w0 a q1 q2) + (own_d1 q1)) + (own_d2 q1)) + (own_d1 q2))), .second, .val (.long (((((own_w0 a q1 q2) + (own_d1 q1)) + (own_d2 q1)) + (own_d1 q2)) + (own_d2 q2))), .second, .val (.ref b2), .val (.int (own_m m)), .unset, .unset, .unset, .unset] [(.int (31 : Int32)), (.int n)])) t_
    refine XS.iand X7.here hx rfl (hb hby at_142) rfl ?_
    show Steps p_.tables e_ below (T7.setTop (mkF m_ 143 #[.val (.int a), .val (.long q1), .second, .val (.long q2), .second, .val (.int m), .val (.int n), .val (.long (own_d1 q1)), .second, .val (.long (own_d2 q1)), .second, .val (.long (own_d1 q2)), .second, .val (.long (own_d2 q2)), .second, .val (.long ((((own_d1 q1) + (own_d2 q1)) + (own_d1 q2)) + (own_d2 q2))), .second, .val (.long (own_w0 a q1 q2)), .second, .val (.long ((own_w0 a q1 q2) + (own_d1 q1))), .second, .val (.long (((own_w0 a q1 q2) + (own_d1 q1)) + (own_d2 q1))), .second, .val (.long ((((own_w0 a q1 q2) + (own_d1 q1)) + (own_d2 q1)) + (own_d1 q2))), .second, .val (.long (((((own_w0 a q1 q2) + (own_d1 q1)) + (own_d2 q1)) + (own_d1 q2)) + (own_d2 q2))), .second, .val (.ref b2), .val (.int (own_m m)), .unset, .unset, .unset, .unset] [(.int (own_m n))])) t_
    refine XS.istore X7.here hx rfl (hb hby at_143) rfl (l' := #[.val (.int a), .val (.long q1), .second, .val (.long q2), .second, .val (.int m), .val (.int n), .val (.long (own_d1 q1)), .second, .val (.long (own_d2 q1)), .second, .val (.long (own_d1 q2)), .second, .val (.long (own_d2 q2)), .second, .val (.long ((((own_d1 q1) + (own_d2 q1)) + (own_d1 q2)) + (own_d2 q2))), .second, .val (.long (own_w0 a q1 q2)), .second, .val (.long ((own_w0 a q1 q2) + (own_d1 q1))), .second, .val (.long (((own_w0 a q1 q2) + (own_d1 q1)) + (own_d2 q1))), .second, .val (.long ((((own_w0 a q1 q2) + (own_d1 q1)) + (own_d2 q1)) + (own_d1 q2))), .second, .val (.long (((((own_w0 a q1 q2) + (own_d1 q1)) + (own_d2 q1)) + (own_d1 q2)) + (own_d2 q2))), .second, .val (.ref b2), .val (.int (own_m m)), .val (.int (own_m n)), .unset, .unset, .unset]) rfl ?_
    show Steps p_.tables e_ below (T7.setTop (mkF m_ 145 #[.val (.int a), .val (.long q1), .second, .val (.long q2), .second, .val (.int m), .val (.int n), .val (.long (own_d1 q1)), .second, .val (.long (own_d2 q1)), .second, .val (.long (own_d1 q2)), .second, .val (.long (own_d2 q2)), .second, .val (.long ((((own_d1 q1) + (own_d2 q1)) + (own_d1 q2)) + (own_d2 q2))), .second, .val (.long (own_w0 a q1 q2)), .second, .val (.long ((own_w0 a q1 q2) + (own_d1 q1))), .second, .val (.long (((own_w0 a q1 q2) + (own_d1 q1)) + (own_d2 q1))), .second, .val (.long ((((own_w0 a q1 q2) + (own_d1 q1)) + (own_d2 q1)) + (own_d1 q2))), .second, .val (.long (((((own_w0 a q1 q2) + (own_d1 q1)) + (own_d2 q1)) + (own_d1 q2)) + (own_d2 q2))), .second, .val (.ref b2), .val (.int (own_m m)), .val (.int (own_m n)), .unset, .unset, .unset] [])) t_
    refine XS.iload X7.here hx rfl (hb hby at_145) rfl ?_
    show Steps p_.tables e_ below (T7.setTop (mkF m_ 147 #[.val (.int a), .val (.long q1), .second, .val (.long q2), .second, .val (.int m), .val (.int n), .val (.long (own_d1 q1)), .second, .val (.long (own_d2 q1)), .second, .val (.long (own_d1 q2)), .second, .val (.long (own_d2 q2)), .second, .val (.long ((((own_d1 q1) + (own_d2 q1)) + (own_d1 q2)) + (own_d2 q2))), .second, .val (.long (own_w0 a q1 q2)), .second, .val (.long ((own_w0 a q1 q2) + (own_d1 q1))), .second, .val (.long (((own_w0 a q1 q2) + (own_d1 q1)) + (own_d2 q1))), .second, .val (.long ((((own_w0 a q1 q2) + (own_d1 q1)) + (own_d2 q1)) + (own_d1 q2))), .second, .val (.long (((((own_w0 a q1 q2) + (own_d1 q1)) + (own_d2 q1)) + (own_d1 q2)) + (own_d2 q2))), .second, .val (.ref b2), .val (.int (own_m m)), .val (.int (own_m n)), .unset, .unset, .unset] [(.int (own_m m))])) t_
    refine XS.aload X7.here hx rfl (hb hby at_147) rfl rfl ?_
    show Steps p_.tables e_ below (T7.setTop (mkF m_ 149 #[.val (.int a), .val (.long q1), .second, .val (.long q2), .second, .val (.int m), .val (.int n), .val (.long (own_d1 q1)), .second, .val (.long (own_d2 q1)), .second, .val (.long (own_d1 q2)), .second, .val (.long (own_d2 q2)), .second, .val (.long ((((own_d1 q1) + (own_d2 q1)) + (own_d1 q2)) + (own_d2 q2))), .second, .val (.long (own_w0 a q1 q2)), .second, .val (.long ((own_w0 a q1 q2) + (own_d1 q1))), .second, .val (.long (((own_w0 a q1 q2) + (own_d1 q1)) + (own_d2 q1))), .second, .val (.long ((((own_w0 a q1 q2) + (own_d1 q1)) + (own_d2 q1)) + (own_d1 q2))), .second, .val (.long (((((own_w0 a q1 q2) + (own_d1 q1)) + (own_d2 q1)) + (own_d1 q2)) + (own_d2 q2))), .second, .val (.ref b2), .val (.int (own_m m)), .val (.int (own_m n)), .unset, .unset, .unset] [(.ref b2), (.int (own_m m))])) t_
    exact k_
  refine own_callS X7 hx hZ hown (hw _ (List.mem_of_getElem? (i := 7) rfl)) (hw _ (List.mem_of_getElem? (i := 8) rfl)) (hw _ (List.mem_of_getElem? (i := 9) rfl)) (hw _ (List.mem_of_getElem? (i := 10) rfl)) (by decide) [(.int (own_m m)), (.ref b2)] [] (rm2 l Z a0 hw (own_m m) b2 k2 (own_w a q1 q2) h7 n0 Z0 A_b2 (own_m31 m)) 0 (by decide) (by decide) e7 (by rw [hml]; rfl) (lenOf own_pd1 rfl) rfl (Nat.le_of_eq rfl) (hb hby at_149) (by decide) (by decide) ?_
  intro v8 T8 L8 X8 q8
  obtain ⟨b8, k8, rfl, g_b8, sz8, N8q, K8, A_b8⟩ := q8
  have N8 := Fr.app N7 N8q
  replace A_b2 := A_b2.keep K8 nin0
  replace Z0 : n0 ≤ T8.heap.size := Nat.le_trans Z0 K8.1
  show own_Out p_ e_ below s_ _ _ _ T8 (mkF m_ 152 #[.val (.int a), .val (.long q1), .second, .val (.long q2), .second, .val (.int m), .val (.int n), .val (.long (own_d1 q1)), .second, .val (.long (own_d2 q1)), .second, .val (.long (own_d1 q2)), .second, .val (.long (own_d2 q2)), .second, .val (.long ((((own_d1 q1) + (own_d2 q1)) + (own_d1 q2)) + (own_d2 q2))), .second, .val (.long (own_w0 a q1 q2)), .second, .val (.long ((own_w0 a q1 q2) + (own_d1 q1))), .second, .val (.long (((own_w0 a q1 q2) + (own_d1 q1)) + (own_d2 q1))), .second, .val (.long ((((own_w0 a q1 q2) + (own_d1 q1)) + (own_d2 q1)) + (own_d1 q2))), .second, .val (.long (((((own_w0 a q1 q2) + (own_d1 q1)) + (own_d2 q1)) + (own_d1 q2)) + (own_d2 q2))), .second, .val (.ref b2), .val (.int (own_m m)), .val (.int (own_m n)), .unset, .unset, .unset] [(.ref b8)])
  refine own_st T8 (mkF m_ 158 #[.val (.int a), .val (.long q1), .second, .val (.long q2), .second, .val (.int m), .val (.int n), .val (.long (own_d1 q1)), .second, .val (.long (own_d2 q1)), .second, .val (.long (own_d1 q2)), .second, .val (.long (own_d2 q2)), .second, .val (.long ((((own_d1 q1) + (own_d2 q1)) + (own_d1 q2)) + (own_d2 q2))), .second, .val (.long (own_w0 a q1 q2)), .second, .val (.long ((own_w0 a q1 q2) + (own_d1 q1))), .second, .val (.long (((own_w0 a q1 q2) + (own_d1 q1)) + (own_d2 q1))), .second, .val (.long ((((own_w0 a q1 q2) + (own_d1 q1)) + (own_d2 q1)) + (own_d1 q2))), .second, .val (.long (((((own_w0 a q1 q2) + (own_d1 q1)) + (own_d2 q1)) + (own_d1 q2)) + (own_d2 q2))), .second, .val (.ref b2), .val (.int (own_m m)), .val (.int (own_m n)), .val (.ref b8), .unset, .unset] [(.ref b2), (.int (own_m n))]) (fun t_ k_ => ?_) ?_
  · refine XS.astore X8.here hx rfl (hb hby at_152) rfl rfl (l' := #[.val (.int a), .val (.long q1), .second, .val (.long q2), .second, .val (.int m), .val (.int n), .val (.long (own_d1 q1)), .second, .val (.long (own_d2 q1)), .second, .val (.long (own_d1 q2)), .second, .val (.long (own_d2 q2)), .second, .val (.long ((((own_d1 q1) + (own_d2 q1)) + (own_d1 q2)) + (own_d2 q2))), .second, .val (.long (own_w0 a q1 q2)), .second, .val (.long ((own_w0 a q1 q2) + (own_d1 q1))), .second, .val (.long (((own_w0 a q1 q2) + (own_d1 q1)) + (own_d2 q1))), .second, .val (.long ((((own_w0 a q1 q2) + (own_d1 q1)) + (own_d2 q1)) + (own_d1 q2))), .second, .val (.long (((((own_w0 a q1 q2) + (own_d1 q1)) + (own_d2 q1)) + (own_d1 q2)) + (own_d2 q2))), .second, .val (.ref b2), .val (.int (own_m m)), .val (.int (own_m n)), .val (.ref b8), .unset, .unset]) rfl ?_
    show Steps p_.tables e_ below (T8.setTop (mkF m_ 154 #[.val (.int a), .val (.long q1), .second, .val (.long q2), .second, .val (.int m), .val (.int n), .val (.long (own_d1 q1)), .second, .val (.long (own_d2 q1)), .second, .val (.long (own_d1 q2)), .second, .val (.long (own_d2 q2)), .second, .val (.long ((((own_d1 q1) + (own_d2 q1)) + (own_d1 q2)) + (own_d2 q2))), .second, .val (.long (own_w0 a q1 q2)), .second, .val (.long ((own_w0 a q1 q2) + (own_d1 q1))), .second, .val (.long (((own_w0 a q1 q2) + (own_d1 q1)) + (own_d2 q1))), .second, .val (.long ((((own_w0 a q1 q2) + (own_d1 q1)) + (own_d2 q1)) + (own_d1 q2))), .second, .val (.long (((((own_w0 a q1 q2) + (own_d1 q1)) + (own_d2 q1)) + (own_d1 q2)) + (own_d2 q2))), .second, .val (.ref b2), .val (.int (own_m m)), .val (.int (own_m n)), .val (.ref b8), .unset, .unset] [])) t_
    refine XS.iload X8.here hx rfl (hb hby at_154) rfl ?_
    show Steps p_.tables e_ below (T8.setTop (mkF m_ 156 #[.val (.int a), .val (.long q1), .second, .val (.long q2), .second, .val (.int m), .val (.int n), .val (.long (own_d1 q1)), .second, .val (.long (own_d2 q1)), .second, .val (.long (own_d1 q2)), .second, .val (.long (own_d2 q2)), .second, .val (.long ((((own_d1 q1) + (own_d2 q1)) + (own_d1 q2)) + (own_d2 q2))), .second, .val (.long (own_w0 a q1 q2)), .second, .val (.long ((own_w0 a q1 q2) + (own_d1 q1))), .second, .val (.long (((own_w0 a q1 q2) + (own_d1 q1)) + (own_d2 q1))), .second, .val (.long ((((own_w0 a q1 q2) + (own_d1 q1)) + (own_d2 q1)) + (own_d1 q2))), .second, .val (.long (((((own_w0 a q1 q2) + (own_d1 q1)) + (own_d2 q1)) + (own_d1 q2)) + (own_d2 q2))), .second, .val (.ref b2), .val (.int (own_m m)), .val (.int (own_m n)), .val (.ref b8), .unset, .unset] [(.int (own_m n))])) t_
    refine XS.aload X8.here hx rfl (hb hby at_156) rfl rfl ?_
    show Steps p_.tables e_ below (T8.setTop (mkF m_ 158 #[.val (.int a), .val (.long q1), .second, .val (.long q2), .second, .val (.int m), .val (.int n), .val (.long (own_d1 q1)), .second, .val (.long (own_d2 q1)), .second, .val (.long (own_d1 q2)), .second, .val (.long (own_d2 q2)), .second, .val (.long ((((own_d1 q1) + (own_d2 q1)) + (own_d1 q2)) + (own_d2 q2))), .second, .val (.long (own_w0 a q1 q2)), .second, .val (.long ((own_w0 a q1 q2) + (own_d1 q1))), .second, .val (.long (((own_w0 a q1 q2) + (own_d1 q1)) + (own_d2 q1))), .second, .val (.long ((((own_w0 a q1 q2) + (own_d1 q1)) + (own_d2 q1)) + (own_d1 q2))), .second, .val (.long (((((own_w0 a q1 q2) + (own_d1 q1)) + (own_d2 q1)) + (own_d1 q2)) + (own_d2 q2))), .second, .val (.ref b2), .val (.int (own_m m)), .val (.int (own_m n)), .val (.ref b8), .unset, .unset] [(.ref b2), (.int (own_m n))])) t_
    exact k_
  refine own_callS X8 hx hZ hown (hw _ (List.mem_of_getElem? (i := 7) rfl)) (hw _ (List.mem_of_getElem? (i := 8) rfl)) (hw _ (List.mem_of_getElem? (i := 9) rfl)) (hw _ (List.mem_of_getElem? (i := 10) rfl)) (by decide) [(.int (own_m n)), (.ref b2)] [] (rm2 l Z a0 hw (own_m n) b2 k2 (own_w a q1 q2) T8.heap n0 Z0 A_b2 (own_m31 n)) 0 (by decide) (by decide) rfl (by rw [hml]; rfl) (lenOf own_pd1 rfl) rfl (Nat.le_of_eq rfl) (hb hby at_158) (by decide) (by decide) ?_
  intro v9 T9 L9 X9 q9
  obtain ⟨b9, k9, rfl, g_b9, sz9, N9q, K9, A_b9⟩ := q9
  have N9 := Fr.app N8 N9q
  replace A_b2 := A_b2.keep K9 nin0
  replace A_b8 := A_b8.keep K9 nin0
  replace Z0 : n0 ≤ T9.heap.size := Nat.le_trans Z0 K9.1
  show own_Out p_ e_ below s_ _ _ _ T9 (mkF m_ 161 #[.val (.int a), .val (.long q1), .second, .val (.long q2), .second, .val (.int m), .val (.int n), .val (.long (own_d1 q1)), .second, .val (.long (own_d2 q1)), .second, .val (.long (own_d1 q2)), .second, .val (.long (own_d2 q2)), .second, .val (.long ((((own_d1 q1) + (own_d2 q1)) + (own_d1 q2)) + (own_d2 q2))), .second, .val (.long (own_w0 a q1 q2)), .second, .val (.long ((own_w0 a q1 q2) + (own_d1 q1))), .second, .val (.long (((own_w0 a q1 q2) + (own_d1 q1)) + (own_d2 q1))), .second, .val (.long ((((own_w0 a q1 q2) + (own_d1 q1)) + (own_d2 q1)) + (own_d1 q2))), .second, .val (.long (((((own_w0 a q1 q2) + (own_d1 q1)) + (own_d2 q1)) + (own_d1 q2)) + (own_d2 q2))), .second, .val (.ref b2), .val (.int (own_m m)), .val (.int (own_m n)), .val (.ref b8), .unset, .unset] [(.ref b9)])
  refine own_st T9 (mkF m_ 184 #[.val (.int a), .val (.long q1), .second, .val (.long q2), .second, .val (.int m), .val (.int n), .val (.long (own_d1 q1)), .second, .val (.long (own_d2 q1)), .second, .val (.long (own_d1 q2)), .second, .val (.long (own_d2 q2)), .second, .val (.long ((((own_d1 q1) + (own_d2 q1)) + (own_d1 q2)) + (own_d2 q2))), .second, .val (.long (own_w0 a q1 q2)), .second, .val (.long ((own_w0 a q1 q2) + (own_d1 q1))), .second, .val (.long (((own_w0 a q1 q2) + (own_d1 q1)) + (own_d2 q1))), .second, .val (.long ((((own_w0 a q1 q2) + (own_d1 q1)) + (own_d2 q1)) + (own_d1 q2))), .second, .val (.long (((((own_w0 a q1 q2) + (own_d1 q1)) + (own_d2 q1)) + (own_d1 q2)) + (own_d2 q2))), .second, .val (.ref b2), .val (.int (own_m m)), .val (.int (own_m n)), .val (.ref b8), .val (.ref b9), .val (.int (if ((own_m m) &&& ((own_m n) ^^^ (-1 : Int32))) = (0 : Int32) then (1 : Int32) else 0))] [(.ref b9), (.ref b8)]) (fun t_ k_ => ?_) ?_
  · refine XS.astore X9.here hx rfl (hb hby at_161) rfl rfl (l' := #[.val (.int a), .val (.long q1), .second, .val (.long q2), .second, .val (.int m), .val (.int n), .val (.long (own_d1 q1)), .second, .val (.long (own_d2 q1)), .second, .val (.long (own_d1 q2)), .second, .val (.long (own_d2 q2)), .second, .val (.long ((((own_d1 q1) + (own_d2 q1)) + (own_d1 q2)) + (own_d2 q2))), .second, .val (.long (own_w0 a q1 q2)), .second, .val (.long ((own_w0 a q1 q2) + (own_d1 q1))), .second, .val (.long (((own_w0 a q1 q2) + (own_d1 q1)) + (own_d2 q1))), .second, .val (.long ((((own_w0 a q1 q2) + (own_d1 q1)) + (own_d2 q1)) + (own_d1 q2))), .second, .val (.long (((((own_w0 a q1 q2) + (own_d1 q1)) + (own_d2 q1)) + (own_d1 q2)) + (own_d2 q2))), .second, .val (.ref b2), .val (.int (own_m m)), .val (.int (own_m n)), .val (.ref b8), .val (.ref b9), .unset]) rfl ?_
    show Steps p_.tables e_ below (T9.setTop (mkF m_ 163 #[.val (.int a), .val (.long q1), .second, .val (.long q2), .second, .val (.int m), .val (.int n), .val (.long (own_d1 q1)), .second, .val (.long (own_d2 q1)), .second, .val (.long (own_d1 q2)), .second, .val (.long (own_d2 q2)), .second, .val (.long ((((own_d1 q1) + (own_d2 q1)) + (own_d1 q2)) + (own_d2 q2))), .second, .val (.long (own_w0 a q1 q2)), .second, .val (.long ((own_w0 a q1 q2) + (own_d1 q1))), .second, .val (.long (((own_w0 a q1 q2) + (own_d1 q1)) + (own_d2 q1))), .second, .val (.long ((((own_w0 a q1 q2) + (own_d1 q1)) + (own_d2 q1)) + (own_d1 q2))), .second, .val (.long (((((own_w0 a q1 q2) + (own_d1 q1)) + (own_d2 q1)) + (own_d1 q2)) + (own_d2 q2))), .second, .val (.ref b2), .val (.int (own_m m)), .val (.int (own_m n)), .val (.ref b8), .val (.ref b9), .unset] [])) t_
    refine XS.iload X9.here hx rfl (hb hby at_163) rfl ?_
    show Steps p_.tables e_ below (T9.setTop (mkF m_ 165 #[.val (.int a), .val (.long q1), .second, .val (.long q2), .second, .val (.int m), .val (.int n), .val (.long (own_d1 q1)), .second, .val (.long (own_d2 q1)), .second, .val (.long (own_d1 q2)), .second, .val (.long (own_d2 q2)), .second, .val (.long ((((own_d1 q1) + (own_d2 q1)) + (own_d1 q2)) + (own_d2 q2))), .second, .val (.long (own_w0 a q1 q2)), .second, .val (.long ((own_w0 a q1 q2) + (own_d1 q1))), .second, .val (.long (((own_w0 a q1 q2) + (own_d1 q1)) + (own_d2 q1))), .second, .val (.long ((((own_w0 a q1 q2) + (own_d1 q1)) + (own_d2 q1)) + (own_d1 q2))), .second, .val (.long (((((own_w0 a q1 q2) + (own_d1 q1)) + (own_d2 q1)) + (own_d1 q2)) + (own_d2 q2))), .second, .val (.ref b2), .val (.int (own_m m)), .val (.int (own_m n)), .val (.ref b8), .val (.ref b9), .unset] [(.int (own_m m))])) t_
    refine XS.iload X9.here hx rfl (hb hby at_165) rfl ?_
    show Steps p_.tables e_ below (T9.setTop (mkF m_ 167 #[.val (.int a), .val (.long q1), .second, .val (.long q2), .second, .val (.int m), .val (.int n), .val (.long (own_d1 q1)), .second, .val (.long (own_d2 q1)), .second, .val (.long (own_d1 q2)), .second, .val (.long (own_d2 q2)), .second, .val (.long ((((own_d1 q1) + (own_d2 q1)) + (own_d1 q2)) + (own_d2 q2))), .second, .val (.long (own_w0 a q1 q2)), .second, .val (.long ((own_w0 a q1 q2) + (own_d1 q1))), .second, .val (.long (((own_w0 a q1 q2) + (own_d1 q1)) + (own_d2 q1))), .second, .val (.long ((((own_w0 a q1 q2) + (own_d1 q1)) + (own_d2 q1)) + (own_d1 q2))), .second, .val (.long (((((own_w0 a q1 q2) + (own_d1 q1)) + (own_d2 q1)) + (own_d1 q2)) + (own_d2 q2))), .second, .val (.ref b2), .val (.int (own_m m)), .val (.int (own_m n)), .val (.ref b8), .val (.ref b9), .unset] [(.int (own_m n)), (.int (own_m m))])) t_
    refine XS.iconst X9.here hx rfl (hb hby at_167) ?_
    show Steps p_.tables e_ below (T9.setTop (mkF m_ 168 #[.val (.int a), .val (.long q1), .second, .val (.long q2), .second, .val (.int m), .val (.int n), .val (.long (own_d1 q1)), .second, .val (.long (own_d2 q1)), .second, .val (.long (own_d1 q2)), .second, .val (.long (own_d2 q2)), .second, .val (.long ((((own_d1 q1) + (own_d2 q1)) + (own_d1 q2)) + (own_d2 q2))), .second, .val (.long (own_w0 a q1 q2)), .second, .val (.long ((own_w0 a q1 q2) + (own_d1 q1))), .second, .val (.long (((own_w0 a q1 q2) + (own_d1 q1)) + (own_d2 q1))), .second, .val (.long ((((own_w0 a q1 q2) + (own_d1 q1)) + (own_d2 q1)) + (own_d1 q2))), .second, .val (.long (((((own_w0 a q1 q2) + (own_d1 q1)) + (own_d2 q1)) + (own_d1 q2)) + (own_d2 q2))), .second, .val (.ref b2), .val (.int (own_m m)), .val (.int (own_m n)), .val (.ref b8), .val (.ref b9), .unset] [(.int (-1 : Int32)), (.int (own_m n)), (.int (own_m m))])) t_
    refine XS.ixor X9.here hx rfl (hb hby at_168) rfl ?_
    show Steps p_.tables e_ below (T9.setTop (mkF m_ 169 #[.val (.int a), .val (.long q1), .second, .val (.long q2), .second, .val (.int m), .val (.int n), .val (.long (own_d1 q1)), .second, .val (.long (own_d2 q1)), .second, .val (.long (own_d1 q2)), .second, .val (.long (own_d2 q2)), .second, .val (.long ((((own_d1 q1) + (own_d2 q1)) + (own_d1 q2)) + (own_d2 q2))), .second, .val (.long (own_w0 a q1 q2)), .second, .val (.long ((own_w0 a q1 q2) + (own_d1 q1))), .second, .val (.long (((own_w0 a q1 q2) + (own_d1 q1)) + (own_d2 q1))), .second, .val (.long ((((own_w0 a q1 q2) + (own_d1 q1)) + (own_d2 q1)) + (own_d1 q2))), .second, .val (.long (((((own_w0 a q1 q2) + (own_d1 q1)) + (own_d2 q1)) + (own_d1 q2)) + (own_d2 q2))), .second, .val (.ref b2), .val (.int (own_m m)), .val (.int (own_m n)), .val (.ref b8), .val (.ref b9), .unset] [(.int ((own_m n) ^^^ (-1 : Int32))), (.int (own_m m))])) t_
    refine XS.iand X9.here hx rfl (hb hby at_169) rfl ?_
    show Steps p_.tables e_ below (T9.setTop (mkF m_ 170 #[.val (.int a), .val (.long q1), .second, .val (.long q2), .second, .val (.int m), .val (.int n), .val (.long (own_d1 q1)), .second, .val (.long (own_d2 q1)), .second, .val (.long (own_d1 q2)), .second, .val (.long (own_d2 q2)), .second, .val (.long ((((own_d1 q1) + (own_d2 q1)) + (own_d1 q2)) + (own_d2 q2))), .second, .val (.long (own_w0 a q1 q2)), .second, .val (.long ((own_w0 a q1 q2) + (own_d1 q1))), .second, .val (.long (((own_w0 a q1 q2) + (own_d1 q1)) + (own_d2 q1))), .second, .val (.long ((((own_w0 a q1 q2) + (own_d1 q1)) + (own_d2 q1)) + (own_d1 q2))), .second, .val (.long (((((own_w0 a q1 q2) + (own_d1 q1)) + (own_d2 q1)) + (own_d1 q2)) + (own_d2 q2))), .second, .val (.ref b2), .val (.int (own_m m)), .val (.int (own_m n)), .val (.ref b8), .val (.ref b9), .unset] [(.int ((own_m m) &&& ((own_m n) ^^^ (-1 : Int32))))])) t_
    have jn170 : ∀ t_, Steps p_.tables e_ below (T9.setTop (mkF m_ 178 #[.val (.int a), .val (.long q1), .second, .val (.long q2), .second, .val (.int m), .val (.int n), .val (.long (own_d1 q1)), .second, .val (.long (own_d2 q1)), .second, .val (.long (own_d1 q2)), .second, .val (.long (own_d2 q2)), .second, .val (.long ((((own_d1 q1) + (own_d2 q1)) + (own_d1 q2)) + (own_d2 q2))), .second, .val (.long (own_w0 a q1 q2)), .second, .val (.long ((own_w0 a q1 q2) + (own_d1 q1))), .second, .val (.long (((own_w0 a q1 q2) + (own_d1 q1)) + (own_d2 q1))), .second, .val (.long ((((own_w0 a q1 q2) + (own_d1 q1)) + (own_d2 q1)) + (own_d1 q2))), .second, .val (.long (((((own_w0 a q1 q2) + (own_d1 q1)) + (own_d2 q1)) + (own_d1 q2)) + (own_d2 q2))), .second, .val (.ref b2), .val (.int (own_m m)), .val (.int (own_m n)), .val (.ref b8), .val (.ref b9), .unset] [(.int (if ((own_m m) &&& ((own_m n) ^^^ (-1 : Int32))) = (0 : Int32) then (1 : Int32) else 0))])) t_ → Steps p_.tables e_ below (T9.setTop (mkF m_ 170 #[.val (.int a), .val (.long q1), .second, .val (.long q2), .second, .val (.int m), .val (.int n), .val (.long (own_d1 q1)), .second, .val (.long (own_d2 q1)), .second, .val (.long (own_d1 q2)), .second, .val (.long (own_d2 q2)), .second, .val (.long ((((own_d1 q1) + (own_d2 q1)) + (own_d1 q2)) + (own_d2 q2))), .second, .val (.long (own_w0 a q1 q2)), .second, .val (.long ((own_w0 a q1 q2) + (own_d1 q1))), .second, .val (.long (((own_w0 a q1 q2) + (own_d1 q1)) + (own_d2 q1))), .second, .val (.long ((((own_w0 a q1 q2) + (own_d1 q1)) + (own_d2 q1)) + (own_d1 q2))), .second, .val (.long (((((own_w0 a q1 q2) + (own_d1 q1)) + (own_d2 q1)) + (own_d1 q2)) + (own_d2 q2))), .second, .val (.ref b2), .val (.int (own_m m)), .val (.int (own_m n)), .val (.ref b8), .val (.ref b9), .unset] [(.int ((own_m m) &&& ((own_m n) ^^^ (-1 : Int32))))])) t_ := by
      intro t_ k_
      by_cases hc170 : ((own_m m) &&& ((own_m n) ^^^ (-1 : Int32))) = (0 : Int32)
      · refine XS.ifNo X9.here hx rfl (hb hby at_170) rfl ((if0 _ _).trans (teq hc170).2) ?_
        show Steps p_.tables e_ below (T9.setTop (mkF m_ 173 #[.val (.int a), .val (.long q1), .second, .val (.long q2), .second, .val (.int m), .val (.int n), .val (.long (own_d1 q1)), .second, .val (.long (own_d2 q1)), .second, .val (.long (own_d1 q2)), .second, .val (.long (own_d2 q2)), .second, .val (.long ((((own_d1 q1) + (own_d2 q1)) + (own_d1 q2)) + (own_d2 q2))), .second, .val (.long (own_w0 a q1 q2)), .second, .val (.long ((own_w0 a q1 q2) + (own_d1 q1))), .second, .val (.long (((own_w0 a q1 q2) + (own_d1 q1)) + (own_d2 q1))), .second, .val (.long ((((own_w0 a q1 q2) + (own_d1 q1)) + (own_d2 q1)) + (own_d1 q2))), .second, .val (.long (((((own_w0 a q1 q2) + (own_d1 q1)) + (own_d2 q1)) + (own_d1 q2)) + (own_d2 q2))), .second, .val (.ref b2), .val (.int (own_m m)), .val (.int (own_m n)), .val (.ref b8), .val (.ref b9), .unset] [])) t_
        refine XS.iconst X9.here hx rfl (hb hby at_173) ?_
        show Steps p_.tables e_ below (T9.setTop (mkF m_ 174 #[.val (.int a), .val (.long q1), .second, .val (.long q2), .second, .val (.int m), .val (.int n), .val (.long (own_d1 q1)), .second, .val (.long (own_d2 q1)), .second, .val (.long (own_d1 q2)), .second, .val (.long (own_d2 q2)), .second, .val (.long ((((own_d1 q1) + (own_d2 q1)) + (own_d1 q2)) + (own_d2 q2))), .second, .val (.long (own_w0 a q1 q2)), .second, .val (.long ((own_w0 a q1 q2) + (own_d1 q1))), .second, .val (.long (((own_w0 a q1 q2) + (own_d1 q1)) + (own_d2 q1))), .second, .val (.long ((((own_w0 a q1 q2) + (own_d1 q1)) + (own_d2 q1)) + (own_d1 q2))), .second, .val (.long (((((own_w0 a q1 q2) + (own_d1 q1)) + (own_d2 q1)) + (own_d1 q2)) + (own_d2 q2))), .second, .val (.ref b2), .val (.int (own_m m)), .val (.int (own_m n)), .val (.ref b8), .val (.ref b9), .unset] [(.int (1 : Int32))])) t_
        refine XS.goto X9.here hx rfl (pc0 := 174) (pc' := 178) rfl (hb hby at_174) (by decide) (by decide) ?_
        show Steps p_.tables e_ below (T9.setTop (mkF m_ 178 #[.val (.int a), .val (.long q1), .second, .val (.long q2), .second, .val (.int m), .val (.int n), .val (.long (own_d1 q1)), .second, .val (.long (own_d2 q1)), .second, .val (.long (own_d1 q2)), .second, .val (.long (own_d2 q2)), .second, .val (.long ((((own_d1 q1) + (own_d2 q1)) + (own_d1 q2)) + (own_d2 q2))), .second, .val (.long (own_w0 a q1 q2)), .second, .val (.long ((own_w0 a q1 q2) + (own_d1 q1))), .second, .val (.long (((own_w0 a q1 q2) + (own_d1 q1)) + (own_d2 q1))), .second, .val (.long ((((own_w0 a q1 q2) + (own_d1 q1)) + (own_d2 q1)) + (own_d1 q2))), .second, .val (.long (((((own_w0 a q1 q2) + (own_d1 q1)) + (own_d2 q1)) + (own_d1 q2)) + (own_d2 q2))), .second, .val (.ref b2), .val (.int (own_m m)), .val (.int (own_m n)), .val (.ref b8), .val (.ref b9), .unset] [(.int (1 : Int32))])) t_
        simp only [if_pos hc170] at k_ ⊢
        exact k_
      · refine XS.ifYes X9.here hx rfl (pc0 := 170) (pc' := 177) rfl (hb hby at_170) rfl ((if0 _ _).trans (feq hc170).2) (by decide) (by decide) ?_
        show Steps p_.tables e_ below (T9.setTop (mkF m_ 177 #[.val (.int a), .val (.long q1), .second, .val (.long q2), .second, .val (.int m), .val (.int n), .val (.long (own_d1 q1)), .second, .val (.long (own_d2 q1)), .second, .val (.long (own_d1 q2)), .second, .val (.long (own_d2 q2)), .second, .val (.long ((((own_d1 q1) + (own_d2 q1)) + (own_d1 q2)) + (own_d2 q2))), .second, .val (.long (own_w0 a q1 q2)), .second, .val (.long ((own_w0 a q1 q2) + (own_d1 q1))), .second, .val (.long (((own_w0 a q1 q2) + (own_d1 q1)) + (own_d2 q1))), .second, .val (.long ((((own_w0 a q1 q2) + (own_d1 q1)) + (own_d2 q1)) + (own_d1 q2))), .second, .val (.long (((((own_w0 a q1 q2) + (own_d1 q1)) + (own_d2 q1)) + (own_d1 q2)) + (own_d2 q2))), .second, .val (.ref b2), .val (.int (own_m m)), .val (.int (own_m n)), .val (.ref b8), .val (.ref b9), .unset] [])) t_
        refine XS.iconst X9.here hx rfl (hb hby at_177) ?_
        show Steps p_.tables e_ below (T9.setTop (mkF m_ 178 #[.val (.int a), .val (.long q1), .second, .val (.long q2), .second, .val (.int m), .val (.int n), .val (.long (own_d1 q1)), .second, .val (.long (own_d2 q1)), .second, .val (.long (own_d1 q2)), .second, .val (.long (own_d2 q2)), .second, .val (.long ((((own_d1 q1) + (own_d2 q1)) + (own_d1 q2)) + (own_d2 q2))), .second, .val (.long (own_w0 a q1 q2)), .second, .val (.long ((own_w0 a q1 q2) + (own_d1 q1))), .second, .val (.long (((own_w0 a q1 q2) + (own_d1 q1)) + (own_d2 q1))), .second, .val (.long ((((own_w0 a q1 q2) + (own_d1 q1)) + (own_d2 q1)) + (own_d1 q2))), .second, .val (.long (((((own_w0 a q1 q2) + (own_d1 q1)) + (own_d2 q1)) + (own_d1 q2)) + (own_d2 q2))), .second, .val (.ref b2), .val (.int (own_m m)), .val (.int (own_m n)), .val (.ref b8), .val (.ref b9), .unset] [(.int (0 : Int32))])) t_
        simp only [if_neg hc170] at k_ ⊢
        exact k_
    refine jn170 _ ?_
    show Steps p_.tables e_ below (T9.setTop (mkF m_ 178 #[.val (.int a), .val (.long q1), .second, .val (.long q2), .second, .val (.int m), .val (.int n), .val (.long (own_d1 q1)), .second, .val (.long (own_d2 q1)), .second, .val (.long (own_d1 q2)), .second, .val (.long (own_d2 q2)), .second, .val (.long ((((own_d1 q1) + (own_d2 q1)) + (own_d1 q2)) + (own_d2 q2))), .second, .val (.long (own_w0 a q1 q2)), .second, .val (.long ((own_w0 a q1 q2) + (own_d1 q1))), .second, .val (.long (((own_w0 a q1 q2) + (own_d1 q1)) + (own_d2 q1))), .second, .val (.long ((((own_w0 a q1 q2) + (own_d1 q1)) + (own_d2 q1)) + (own_d1 q2))), .second, .val (.long (((((own_w0 a q1 q2) + (own_d1 q1)) + (own_d2 q1)) + (own_d1 q2)) + (own_d2 q2))), .second, .val (.ref b2), .val (.int (own_m m)), .val (.int (own_m n)), .val (.ref b8), .val (.ref b9), .unset] [(.int (if ((own_m m) &&& ((own_m n) ^^^ (-1 : Int32))) = (0 : Int32) then (1 : Int32) else 0))])) t_
    refine XS.istore X9.here hx rfl (hb hby at_178) rfl (l' := #[.val (.int a), .val (.long q1), .second, .val (.long q2), .second, .val (.int m), .val (.int n), .val (.long (own_d1 q1)), .second, .val (.long (own_d2 q1)), .second, .val (.long (own_d1 q2)), .second, .val (.long (own_d2 q2)), .second, .val (.long ((((own_d1 q1) + (own_d2 q1)) + (own_d1 q2)) + (own_d2 q2))), .second, .val (.long (own_w0 a q1 q2)), .second, .val (.long ((own_w0 a q1 q2) + (own_d1 q1))), .second, .val (.long (((own_w0 a q1 q2) + (own_d1 q1)) + (own_d2 q1))), .second, .val (.long ((((own_w0 a q1 q2) + (own_d1 q1)) + (own_d2 q1)) + (own_d1 q2))), .second, .val (.long (((((own_w0 a q1 q2) + (own_d1 q1)) + (own_d2 q1)) + (own_d1 q2)) + (own_d2 q2))), .second, .val (.ref b2), .val (.int (own_m m)), .val (.int (own_m n)), .val (.ref b8), .val (.ref b9), .val (.int (if ((own_m m) &&& ((own_m n) ^^^ (-1 : Int32))) = (0 : Int32) then (1 : Int32) else 0))]) rfl ?_
    show Steps p_.tables e_ below (T9.setTop (mkF m_ 180 #[.val (.int a), .val (.long q1), .second, .val (.long q2), .second, .val (.int m), .val (.int n), .val (.long (own_d1 q1)), .second, .val (.long (own_d2 q1)), .second, .val (.long (own_d1 q2)), .second, .val (.long (own_d2 q2)), .second, .val (.long ((((own_d1 q1) + (own_d2 q1)) + (own_d1 q2)) + (own_d2 q2))), .second, .val (.long (own_w0 a q1 q2)), .second, .val (.long ((own_w0 a q1 q2) + (own_d1 q1))), .second, .val (.long (((own_w0 a q1 q2) + (own_d1 q1)) + (own_d2 q1))), .second, .val (.long ((((own_w0 a q1 q2) + (own_d1 q1)) + (own_d2 q1)) + (own_d1 q2))), .second, .val (.long (((((own_w0 a q1 q2) + (own_d1 q1)) + (own_d2 q1)) + (own_d1 q2)) + (own_d2 q2))), .second, .val (.ref b2), .val (.int (own_m m)), .val (.int (own_m n)), .val (.ref b8), .val (.ref b9), .val (.int (if ((own_m m) &&& ((own_m n) ^^^ (-1 : Int32))) = (0 : Int32) then (1 : Int32) else 0))] [])) t_
    refine XS.aload X9.here hx rfl (hb hby at_180) rfl rfl ?_
    show Steps p_.tables e_ below (T9.setTop (mkF m_ 182 #[.val (.int a), .val (.long q1), .second, .val (.long q2), .second, .val (.int m), .val (.int n), .val (.long (own_d1 q1)), .second, .val (.long (own_d2 q1)), .second, .val (.long (own_d1 q2)), .second, .val (.long (own_d2 q2)), .second, .val (.long ((((own_d1 q1) + (own_d2 q1)) + (own_d1 q2)) + (own_d2 q2))), .second, .val (.long (own_w0 a q1 q2)), .second, .val (.long ((own_w0 a q1 q2) + (own_d1 q1))), .second, .val (.long (((own_w0 a q1 q2) + (own_d1 q1)) + (own_d2 q1))), .second, .val (.long ((((own_w0 a q1 q2) + (own_d1 q1)) + (own_d2 q1)) + (own_d1 q2))), .second, .val (.long (((((own_w0 a q1 q2) + (own_d1 q1)) + (own_d2 q1)) + (own_d1 q2)) + (own_d2 q2))), .second, .val (.ref b2), .val (.int (own_m m)), .val (.int (own_m n)), .val (.ref b8), .val (.ref b9), .val (.int (if ((own_m m) &&& ((own_m n) ^^^ (-1 : Int32))) = (0 : Int32) then (1 : Int32) else 0))] [(.ref b8)])) t_
    refine XS.aload X9.here hx rfl (hb hby at_182) rfl rfl ?_
    show Steps p_.tables e_ below (T9.setTop (mkF m_ 184 #[.val (.int a), .val (.long q1), .second, .val (.long q2), .second, .val (.int m), .val (.int n), .val (.long (own_d1 q1)), .second, .val (.long (own_d2 q1)), .second, .val (.long (own_d1 q2)), .second, .val (.long (own_d2 q2)), .second, .val (.long ((((own_d1 q1) + (own_d2 q1)) + (own_d1 q2)) + (own_d2 q2))), .second, .val (.long (own_w0 a q1 q2)), .second, .val (.long ((own_w0 a q1 q2) + (own_d1 q1))), .second, .val (.long (((own_w0 a q1 q2) + (own_d1 q1)) + (own_d2 q1))), .second, .val (.long ((((own_w0 a q1 q2) + (own_d1 q1)) + (own_d2 q1)) + (own_d1 q2))), .second, .val (.long (((((own_w0 a q1 q2) + (own_d1 q1)) + (own_d2 q1)) + (own_d1 q2)) + (own_d2 q2))), .second, .val (.ref b2), .val (.int (own_m m)), .val (.int (own_m n)), .val (.ref b8), .val (.ref b9), .val (.int (if ((own_m m) &&& ((own_m n) ^^^ (-1 : Int32))) = (0 : Int32) then (1 : Int32) else 0))] [(.ref b9), (.ref b8)])) t_
    exact k_
  refine own_callS X9 hx hZ hown (hw _ (List.mem_of_getElem? (i := 11) rfl)) (hw _ (List.mem_of_getElem? (i := 12) rfl)) (hw _ (List.mem_of_getElem? (i := 13) rfl)) (hw _ (List.mem_of_getElem? (i := 14) rfl)) (by decide) [(.ref b8), (.ref b9)] [] (rm3 l Z a0 hw b8 b9 k8 k9 ((own_sel (own_m m) (own_w a q1 q2)).length) ((own_sel (own_m n) (own_w a q1 q2)).length) (fun x_ => ((own_sel (own_m m) (own_w a q1 q2)).getD x_ 0)) (fun x_ => ((own_sel (own_m n) (own_w a q1 q2)).getD x_ 0)) (Int32.ofNat ((own_sel (own_m m) (own_w a q1 q2)).length)) (Int32.ofNat ((own_sel (own_m n) (own_w a q1 q2)).length)) T9.heap n0 Z0 A_b8 A_b9 (own_ol m a q1 q2) (own_ol n a q1 q2) (own_l100 m a q1 q2) (own_l100 n a q1 q2)) 0 (by decide) (by decide) rfl (by rw [hml]; rfl) (lenOf own_pd2 rfl) rfl (Nat.le_of_eq rfl) (hb hby at_184) (by decide) (by decide) ?_
  intro v10 T10 L10 X10 q10
  obtain ⟨rfl, N10q, e10⟩ := q10
  have N10 := Fr.app N9 N10q
  rw [own_sbE a q1 q2 m n]
  show own_Out p_ e_ below s_ _ _ _ T10 (mkF m_ 187 #[.val (.int a), .val (.long q1), .second, .val (.long q2), .second, .val (.int m), .val (.int n), .val (.long (own_d1 q1)), .second, .val (.long (own_d2 q1)), .second, .val (.long (own_d1 q2)), .second, .val (.long (own_d2 q2)), .second, .val (.long ((((own_d1 q1) + (own_d2 q1)) + (own_d1 q2)) + (own_d2 q2))), .second, .val (.long (own_w0 a q1 q2)), .second, .val (.long ((own_w0 a q1 q2) + (own_d1 q1))), .second, .val (.long (((own_w0 a q1 q2) + (own_d1 q1)) + (own_d2 q1))), .second, .val (.long ((((own_w0 a q1 q2) + (own_d1 q1)) + (own_d2 q1)) + (own_d1 q2))), .second, .val (.long (((((own_w0 a q1 q2) + (own_d1 q1)) + (own_d2 q1)) + (own_d1 q2)) + (own_d2 q2))), .second, .val (.ref b2), .val (.int (own_m m)), .val (.int (own_m n)), .val (.ref b8), .val (.ref b9), .val (.int (if ((own_m m) &&& ((own_m n) ^^^ (-1 : Int32))) = (0 : Int32) then (1 : Int32) else 0))] [(.int (if own_m m &&& ((own_m n) ^^^ (-1 : Int32)) = (0 : Int32) then (1 : Int32) else 0))])
  refine own_st T10 (mkF m_ 197 #[.val (.int a), .val (.long q1), .second, .val (.long q2), .second, .val (.int m), .val (.int n), .val (.long (own_d1 q1)), .second, .val (.long (own_d2 q1)), .second, .val (.long (own_d1 q2)), .second, .val (.long (own_d2 q2)), .second, .val (.long ((((own_d1 q1) + (own_d2 q1)) + (own_d1 q2)) + (own_d2 q2))), .second, .val (.long (own_w0 a q1 q2)), .second, .val (.long ((own_w0 a q1 q2) + (own_d1 q1))), .second, .val (.long (((own_w0 a q1 q2) + (own_d1 q1)) + (own_d2 q1))), .second, .val (.long ((((own_w0 a q1 q2) + (own_d1 q1)) + (own_d2 q1)) + (own_d1 q2))), .second, .val (.long (((((own_w0 a q1 q2) + (own_d1 q1)) + (own_d2 q1)) + (own_d1 q2)) + (own_d2 q2))), .second, .val (.ref b2), .val (.int (own_m m)), .val (.int (own_m n)), .val (.ref b8), .val (.ref b9), .val (.int (if ((own_m m) &&& ((own_m n) ^^^ (-1 : Int32))) = (0 : Int32) then (1 : Int32) else 0))] [(.int (1 : Int32))]) (fun t_ k_ => ?_) ?_
  · refine XS.iload X10.here hx rfl (hb hby at_187) rfl ?_
    show Steps p_.tables e_ below (T10.setTop (mkF m_ 189 #[.val (.int a), .val (.long q1), .second, .val (.long q2), .second, .val (.int m), .val (.int n), .val (.long (own_d1 q1)), .second, .val (.long (own_d2 q1)), .second, .val (.long (own_d1 q2)), .second, .val (.long (own_d2 q2)), .second, .val (.long ((((own_d1 q1) + (own_d2 q1)) + (own_d1 q2)) + (own_d2 q2))), .second, .val (.long (own_w0 a q1 q2)), .second, .val (.long ((own_w0 a q1 q2) + (own_d1 q1))), .second, .val (.long (((own_w0 a q1 q2) + (own_d1 q1)) + (own_d2 q1))), .second, .val (.long ((((own_w0 a q1 q2) + (own_d1 q1)) + (own_d2 q1)) + (own_d1 q2))), .second, .val (.long (((((own_w0 a q1 q2) + (own_d1 q1)) + (own_d2 q1)) + (own_d1 q2)) + (own_d2 q2))), .second, .val (.ref b2), .val (.int (own_m m)), .val (.int (own_m n)), .val (.ref b8), .val (.ref b9), .val (.int (if ((own_m m) &&& ((own_m n) ^^^ (-1 : Int32))) = (0 : Int32) then (1 : Int32) else 0))] [(.int (if ((own_m m) &&& ((own_m n) ^^^ (-1 : Int32))) = (0 : Int32) then (1 : Int32) else 0)), (.int (if own_m m &&& ((own_m n) ^^^ (-1 : Int32)) = (0 : Int32) then (1 : Int32) else 0))])) t_
    refine XS.icmpNo X10.here hx rfl (hb hby at_189) rfl (teq (rfl : (if own_m m &&& ((own_m n) ^^^ (-1 : Int32)) = (0 : Int32) then (1 : Int32) else 0) = (if ((own_m m) &&& ((own_m n) ^^^ (-1 : Int32))) = (0 : Int32) then (1 : Int32) else 0))).2 ?_
    show Steps p_.tables e_ below (T10.setTop (mkF m_ 192 #[.val (.int a), .val (.long q1), .second, .val (.long q2), .second, .val (.int m), .val (.int n), .val (.long (own_d1 q1)), .second, .val (.long (own_d2 q1)), .second, .val (.long (own_d1 q2)), .second, .val (.long (own_d2 q2)), .second, .val (.long ((((own_d1 q1) + (own_d2 q1)) + (own_d1 q2)) + (own_d2 q2))), .second, .val (.long (own_w0 a q1 q2)), .second, .val (.long ((own_w0 a q1 q2) + (own_d1 q1))), .second, .val (.long (((own_w0 a q1 q2) + (own_d1 q1)) + (own_d2 q1))), .second, .val (.long ((((own_w0 a q1 q2) + (own_d1 q1)) + (own_d2 q1)) + (own_d1 q2))), .second, .val (.long (((((own_w0 a q1 q2) + (own_d1 q1)) + (own_d2 q1)) + (own_d1 q2)) + (own_d2 q2))), .second, .val (.ref b2), .val (.int (own_m m)), .val (.int (own_m n)), .val (.ref b8), .val (.ref b9), .val (.int (if ((own_m m) &&& ((own_m n) ^^^ (-1 : Int32))) = (0 : Int32) then (1 : Int32) else 0))] [])) t_
    refine XS.iconst X10.here hx rfl (hb hby at_192) ?_
    show Steps p_.tables e_ below (T10.setTop (mkF m_ 193 #[.val (.int a), .val (.long q1), .second, .val (.long q2), .second, .val (.int m), .val (.int n), .val (.long (own_d1 q1)), .second, .val (.long (own_d2 q1)), .second, .val (.long (own_d1 q2)), .second, .val (.long (own_d2 q2)), .second, .val (.long ((((own_d1 q1) + (own_d2 q1)) + (own_d1 q2)) + (own_d2 q2))), .second, .val (.long (own_w0 a q1 q2)), .second, .val (.long ((own_w0 a q1 q2) + (own_d1 q1))), .second, .val (.long (((own_w0 a q1 q2) + (own_d1 q1)) + (own_d2 q1))), .second, .val (.long ((((own_w0 a q1 q2) + (own_d1 q1)) + (own_d2 q1)) + (own_d1 q2))), .second, .val (.long (((((own_w0 a q1 q2) + (own_d1 q1)) + (own_d2 q1)) + (own_d1 q2)) + (own_d2 q2))), .second, .val (.ref b2), .val (.int (own_m m)), .val (.int (own_m n)), .val (.ref b8), .val (.ref b9), .val (.int (if ((own_m m) &&& ((own_m n) ^^^ (-1 : Int32))) = (0 : Int32) then (1 : Int32) else 0))] [(.int (1 : Int32))])) t_
    refine XS.goto X10.here hx rfl (pc0 := 193) (pc' := 197) rfl (hb hby at_193) (by decide) (by decide) ?_
    show Steps p_.tables e_ below (T10.setTop (mkF m_ 197 #[.val (.int a), .val (.long q1), .second, .val (.long q2), .second, .val (.int m), .val (.int n), .val (.long (own_d1 q1)), .second, .val (.long (own_d2 q1)), .second, .val (.long (own_d1 q2)), .second, .val (.long (own_d2 q2)), .second, .val (.long ((((own_d1 q1) + (own_d2 q1)) + (own_d1 q2)) + (own_d2 q2))), .second, .val (.long (own_w0 a q1 q2)), .second, .val (.long ((own_w0 a q1 q2) + (own_d1 q1))), .second, .val (.long (((own_w0 a q1 q2) + (own_d1 q1)) + (own_d2 q1))), .second, .val (.long ((((own_w0 a q1 q2) + (own_d1 q1)) + (own_d2 q1)) + (own_d1 q2))), .second, .val (.long (((((own_w0 a q1 q2) + (own_d1 q1)) + (own_d2 q1)) + (own_d1 q2)) + (own_d2 q2))), .second, .val (.ref b2), .val (.int (own_m m)), .val (.int (own_m n)), .val (.ref b8), .val (.ref b9), .val (.int (if ((own_m m) &&& ((own_m n) ^^^ (-1 : Int32))) = (0 : Int32) then (1 : Int32) else 0))] [(.int (1 : Int32))])) t_
    exact k_
  refine own_retN X10 hx hlk (t := .boolean) hret (by simp) (hb hby at_197) (by decide) (by decide) ?_
  exact ⟨rfl, N10⟩
set_option maxRecDepth 65536 in
set_option maxHeartbeats 40000000 in
theorem comes_1 {Post : Tables → Env → Array Value → State → Outcome → State → Prop} (hpost : ∀ tb e args s v u, (limb_1_1.after args s (.returned v) u = true ∧ limb_1_2.after args s (.returned v) u = true ∧ True) → FrameEnd s (.returned v) u (Jvm.fieldLocs frame_1_writes args s ++ Jvm.arrayLocs frame_1_arrays args s ++ Jvm.staticLocs frame_1_statics s) 16 128 → Post tb e args s (.returned v) u) :
    ArmFor flags0 classFile x code maxLocals ret World_1 tables_1 room_1 Calls_1 rest_1 Pre_1 Post := by
  intro l hfl _ _ p e ha hc hk s m args below hf hA hF happ hP
  obtain ⟨hcalls, hrest, hpre⟩ := hP
  obtain ⟨-, -, -, hnamed, -, -, -, hat⟩ := (Spec.applies_iff hf).mp happ
  obtain ⟨hg, hn⟩ := and_e (Cond.before_iff.mp (show (Jvm.Cond.and given_1 narrow_1).before args s = true from hpre))
  obtain ⟨c0, r0⟩ := and_e hg
  obtain ⟨k0, r1⟩ := and_e r0
  obtain ⟨k1, r2⟩ := and_e r1
  obtain ⟨k2, r3⟩ := and_e r2
  obtain ⟨k3, r4⟩ := and_e r3
  obtain ⟨w0, w1, w2, w3, w4, rfl⟩ : ∃ w0 w1 w2 w3 w4 : Value, args = #[w0, w1, w2, w3, w4] := by
    have hs : args.size = 5 := by simpa [Cond.value, given_1] using c0
    obtain ⟨L⟩ := args
    match L, hs with
    | [w0, w1, w2, w3, w4], _ => exact ⟨w0, w1, w2, w3, w4, rfl⟩
  have hw := fun d (hd : d ∈ tables_1) => atoms_spec (ws := Jvm.Cond.code x code maxLocals ret :: tables_1) hat d (List.mem_cons_of_mem _ hd)
  have hfit : Fit s := fun {y c} hc i hi => by
    obtain ⟨ha, rfl⟩ := Array.getElem?_eq_some_iff.mp hc
    have q := List.all_eq_true.mp ((Array.all_eq_true_iff_forall_mem.mp hF) _ (Array.getElem_mem ha)) i (List.mem_range.mpr hi)
    simpa [Array.getElem?_eq_getElem hi] using q
  obtain ⟨i0, ei0⟩ := is_v k0
  obtain rfl : w0 = (.int i0) := Option.some.inj ei0
  obtain ⟨i1, ei1⟩ := isL_v k1
  obtain rfl : w1 = (.long i1) := Option.some.inj ei1
  obtain ⟨i2, ei2⟩ := isL_v k2
  obtain rfl : w2 = (.long i2) := Option.some.inj ei2
  obtain ⟨i3, ei3⟩ := is_v k3
  obtain rfl : w3 = (.int i3) := Option.some.inj ei3
  obtain ⟨i4, ei4⟩ := is_v r4
  obtain rfl : w4 = (.int i4) := Option.some.inj ei4
  obtain ⟨n, o, h1, h2, h3, _, L, rfl, ⟨rfl, N⟩, hq⟩ := rm0 l s _ hw i0 i1 i2 i3 i4 s.heap s.heap.size (Nat.le_refl _)  tables_1 p e ha hc hk s m _ below hf ((Spec.applies_iff_loose hf).mp happ).1 ⟨rfl, State.Warmed39.refl s, rfl⟩ trivial
  refine ⟨n, _, h1, h2, h3, hpost _ _ _ _ _ _ ⟨Cond.after_iff.mpr rfl, Cond.after_iff.mpr (eq_i res_at (Term.int_eval (1)) rfl), trivial⟩ ⟨hq.1, hq.2.1, (hq.2.2.sift fun y hy => Or.inr (N y hy)).mono (by decide) (by decide)⟩⟩
theorem main_1_1 : Claimed_1_1 := comes_1 fun _ _ _ _ _ _ h hF => ⟨h.1, hF⟩
theorem main_1_2 : Claimed_1_2 := comes_1 fun _ _ _ _ _ _ h hF => ⟨h.2.1, hF⟩
end Jvm.Pilot.@@N@@
namespace Jvm.Pilot.@@N@@
open Jvm Jvm.ClassFile Sem Op Lib Jvm.Free Jvm.Stand Jvm.Pilot.@@N@@.Jvm.D
/-! MADE BY PROGRAM (witnessworld.py) out of the Statement's table words and the real class files: 10 classes; the members and pool entries that the words name. The judged class is class 1, her method 1. -/
namespace start1
open Jvm.ClassFile
def u (s : String) : CpInfo := .utf8 (stringToUtf16 s)
/-- a pool by its gaps: so many unusable entries, then the entry; so many at the end -/
def gap : Nat → List CpInfo → List CpInfo
  | 0, r => r
  | n + 1, r => .unusable :: gap n r
def poolList (es : List (Nat × CpInfo)) (last : Nat) : List CpInfo := es.foldr (fun e r => gap e.1 (e.2 :: r)) (gap last [])
def pool (es : List (Nat × CpInfo)) (last : Nat) : Array CpInfo := ⟨poolList es last⟩
def fileOf (pool : Array CpInfo) (this : Nat) (attrs : Array Attribute := #[]) (ms : Array MethodInfo := #[]) (fl : Nat := 33) (sup : Nat := 0) (ifs : Array Nat := #[]) (fds : Array FieldInfo := #[]) : ClassFile where
  minorVersion := 0
  majorVersion := 65
  constantPool := pool
  accessFlags := fl
  thisClass := this
  superClass := sup
  interfaces := ifs
  fields := fds
  methods := ms
  attributes := attrs
def plain (name : String) (sup : Option ClassId) : Class where
  name := name
  kind := .ordinary
  loader := none
  accessFlags := 33
  super := sup
  interfaces := #[]
  cf := none
  fields := #[]
  methods := #[]
  instanceTypes := #[]
  staticTypes := #[]
  resolved := #[]
  callSites := []
  init := .initialized
  statics := none
  mirror := none

def pool0 : Array CpInfo := pool [(5, u "<init>"), (0, u "()V"), (1, .class_ 10), (1, u "java/lang/Object")] 113

def k0m0 : Method := { name := "<init>", desc := "()V", sig := { parameters := [], returnType := none }, accessFlags := 1, code := none }
/-- java/lang/Object -/
def k0 : Class := { plain "java/lang/Object" none with
  accessFlags := 33
  interfaces := #[]
  cf := some (fileOf pool0 8 #[] #[{ accessFlags := 1, nameIndex := 5, descriptorIndex := 6, attributes := #[] }] 33 0 #[] #[])
  fields := #[]
  methods := #[k0m0]
  instanceTypes := #[]
  staticTypes := #[]
  resolved := Array.replicate 124 none
  statics := none }

def pool1 : Array CpInfo := pool [(2, .class_ 4), (1, u "java/lang/Object"), (0, u "<init>"), (0, u "()V"), (0, .long 536870911), (3, .long 2147483647), (1, .methodref 14 15), (0, .class_ 16), (0, .nameAndType 17 18), (0, u "java/lang/Math"), (0, u "min"), (0, u "(JJ)J"), (0, .methodref 20 21), (0, .class_ 22), (0, .nameAndType 23 24), (0, u "com/example/refinement_flow_checker/refinementflowchecker/checker/SortedSetsSubsetPinLaw"), (0, u "build"), (0, u "(I[I)[I"), (0, .methodref 26 27), (0, .class_ 28), (0, .nameAndType 29 30), (0, u "com/example/refinement_flow_checker/refinementflowchecker/checker/SortedSets"), (0, u "subset"), (0, u "([I[I)Z"), (2, u "law"), (0, u "(IJJII)Z")] 5

def k1m0 : Method := { name := "<init>", desc := "()V", sig := { parameters := [], returnType := none }, accessFlags := 1, code := none }
def k1c1 : Code := { maxStack := 6, maxLocals := 33, code := code, exceptionTable := #[], attributes := #[] }
def k1m1 : Method := { name := "law", desc := "(IJJII)Z", sig := { parameters := [.int, .long, .long, .int, .int], returnType := some .boolean }, accessFlags := 9, code := some k1c1 }
def k1c2 : Code := { maxStack := 4, maxLocals := 5, code := method_3_code, exceptionTable := #[], attributes := #[] }
def k1m2 : Method := { name := "build", desc := "(I[I)[I", sig := { parameters := [.int, (.array .int)], returnType := some (.array .int) }, accessFlags := 10, code := some k1c2 }
/-- com/example/refinement_flow_checker/refinementflowchecker/checker/SortedSetsSubsetPinLaw -/
def k1 : Class := { plain "com/example/refinement_flow_checker/refinementflowchecker/checker/SortedSetsSubsetPinLaw" (some 0) with
  accessFlags := 49
  interfaces := #[]
  cf := some (fileOf pool1 20 #[] #[{ accessFlags := 1, nameIndex := 5, descriptorIndex := 6, attributes := #[] }, { accessFlags := 9, nameIndex := 33, descriptorIndex := 34, attributes := #[] }, { accessFlags := 10, nameIndex := 23, descriptorIndex := 24, attributes := #[] }] 49 2 #[] #[])
  fields := #[]
  methods := #[k1m0, k1m1, k1m2]
  instanceTypes := #[]
  staticTypes := #[]
  resolved := Array.replicate 40 none
  statics := none }

def pool2 : Array CpInfo := pool [(1, .class_ 2), (0, u "java/lang/Math"), (1, .class_ 6), (1, u "java/lang/Object"), (0, u "<init>"), (0, u "()V"), (89, .class_ 100), (1, u "java/lang/Math$RandomNumberGeneratorHolder"), (20, u "(JJ)J"), (50, u "negativeZeroFloatBits"), (0, u "J"), (2, u "negativeZeroDoubleBits"), (24, u "min"), (43, u "$assertionsDisabled"), (0, u "Z"), (91, u "twoToTheDoubleScaleDown"), (0, u "D"), (4, u "twoToTheDoubleScaleUp"), (9, u "E"), (3, u "PI"), (2, u "TAU"), (2, u "DEGREES_TO_RADIANS"), (0, u "RADIANS_TO_DEGREES")] 94

def k2m0 : Method := { name := "<init>", desc := "()V", sig := { parameters := [], returnType := none }, accessFlags := 2, code := none }
def k2c1 : Code := { maxStack := 4, maxLocals := 4, code := jdk_29_method_70_code, exceptionTable := #[], attributes := #[] }
def k2m1 : Method := { name := "min", desc := "(JJ)J", sig := { parameters := [.long, .long], returnType := some .long }, accessFlags := 9, code := some k2c1 }
/-- java/lang/Math -/
def k2 : Class := { plain "java/lang/Math" (some 0) with
  accessFlags := 49
  interfaces := #[]
  cf := some (fileOf pool2 1 #[.nestMembers #[98]] #[{ accessFlags := 2, nameIndex := 7, descriptorIndex := 8, attributes := #[] }, { accessFlags := 9, nameIndex := 201, descriptorIndex := 121, attributes := #[] }] 49 4 #[] #[{ accessFlags := 25, nameIndex := 354, descriptorIndex := 339, attributes := #[] }, { accessFlags := 25, nameIndex := 358, descriptorIndex := 339, attributes := #[] }, { accessFlags := 25, nameIndex := 361, descriptorIndex := 339, attributes := #[] }, { accessFlags := 26, nameIndex := 364, descriptorIndex := 339, attributes := #[] }, { accessFlags := 26, nameIndex := 365, descriptorIndex := 339, attributes := #[] }, { accessFlags := 26, nameIndex := 172, descriptorIndex := 173, attributes := #[] }, { accessFlags := 26, nameIndex := 176, descriptorIndex := 173, attributes := #[] }, { accessFlags := 8, nameIndex := 344, descriptorIndex := 339, attributes := #[] }, { accessFlags := 8, nameIndex := 338, descriptorIndex := 339, attributes := #[] }, { accessFlags := 4120, nameIndex := 245, descriptorIndex := 246, attributes := #[] }])
  fields := #[{ name := "E", type := .double, accessFlags := 25, slot := 0, constantValue := 0 }, { name := "PI", type := .double, accessFlags := 25, slot := 1, constantValue := 0 }, { name := "TAU", type := .double, accessFlags := 25, slot := 2, constantValue := 0 }, { name := "DEGREES_TO_RADIANS", type := .double, accessFlags := 26, slot := 3, constantValue := 0 }, { name := "RADIANS_TO_DEGREES", type := .double, accessFlags := 26, slot := 4, constantValue := 0 }, { name := "negativeZeroFloatBits", type := .long, accessFlags := 26, slot := 5, constantValue := 0 }, { name := "negativeZeroDoubleBits", type := .long, accessFlags := 26, slot := 6, constantValue := 0 }, { name := "twoToTheDoubleScaleUp", type := .double, accessFlags := 8, slot := 7, constantValue := 0 }, { name := "twoToTheDoubleScaleDown", type := .double, accessFlags := 8, slot := 8, constantValue := 0 }, { name := "$assertionsDisabled", type := .boolean, accessFlags := 4120, slot := 9, constantValue := 0 }]
  methods := #[k2m0, k2m1]
  instanceTypes := #[]
  staticTypes := #[.double, .double, .double, .double, .double, .long, .long, .double, .double, .boolean]
  resolved := Array.replicate 460 none
  statics := none }

def pool3 : Array CpInfo := pool [(2, .class_ 4), (1, u "java/lang/Object"), (0, u "<init>"), (0, u "()V"), (15, .class_ 24), (1, u "com/example/refinement_flow_checker/refinementflowchecker/checker/SortedSets"), (0, u "EMPTY"), (0, u "[I"), (6, u "subset"), (0, u "([I[I)Z")] 8

def k3m0 : Method := { name := "<init>", desc := "()V", sig := { parameters := [], returnType := none }, accessFlags := 2, code := none }
def k3c1 : Code := { maxStack := 2, maxLocals := 7, code := prog_50_method_4_code, exceptionTable := #[], attributes := #[] }
def k3m1 : Method := { name := "subset", desc := "([I[I)Z", sig := { parameters := [(.array .int), (.array .int)], returnType := some .boolean }, accessFlags := 8, code := some k3c1 }
/-- com/example/refinement_flow_checker/refinementflowchecker/checker/SortedSets -/
def k3 : Class := { plain "com/example/refinement_flow_checker/refinementflowchecker/checker/SortedSets" (some 0) with
  accessFlags := 48
  interfaces := #[]
  cf := some (fileOf pool3 22 #[] #[{ accessFlags := 2, nameIndex := 5, descriptorIndex := 6, attributes := #[] }, { accessFlags := 8, nameIndex := 33, descriptorIndex := 34, attributes := #[] }] 48 2 #[] #[{ accessFlags := 24, nameIndex := 25, descriptorIndex := 26, attributes := #[] }])
  fields := #[{ name := "EMPTY", type := (.array .int), accessFlags := 24, slot := 0, constantValue := 0 }]
  methods := #[k3m0, k3m1]
  instanceTypes := #[]
  staticTypes := #[(.array .int)]
  resolved := Array.replicate 43 none
  statics := none }

def pool4 : Array CpInfo := pool [(1, u "java/lang/Cloneable"), (0, .class_ 1), (0, u "java/lang/Object"), (0, .class_ 3)] 3

/-- java/lang/Cloneable -/
def k4 : Class := { plain "java/lang/Cloneable" (some 0) with
  accessFlags := 1537
  interfaces := #[]
  cf := some (fileOf pool4 2 #[] #[] 1537 4 #[] #[])
  fields := #[]
  methods := #[]
  instanceTypes := #[]
  staticTypes := #[]
  resolved := Array.replicate 8 none
  statics := none }

def pool5 : Array CpInfo := pool [(1, u "java/io/Serializable"), (0, .class_ 1), (0, u "java/lang/Object"), (0, .class_ 3)] 3

/-- java/io/Serializable -/
def k5 : Class := { plain "java/io/Serializable" (some 0) with
  accessFlags := 1537
  interfaces := #[]
  cf := some (fileOf pool5 2 #[] #[] 1537 4 #[] #[])
  fields := #[]
  methods := #[]
  instanceTypes := #[]
  staticTypes := #[]
  resolved := Array.replicate 8 none
  statics := none }

/-- the primitive byte -/
def k6 : Class := { plain "byte" none with kind := .primitive 'B', accessFlags := 0x411 }
/-- [B -/
def k7 : Class := { plain "[B" (some 0) with kind := .array 6 .byte, interfaces := #[4, 5], accessFlags := 1041 }

/-- the primitive int -/
def k8 : Class := { plain "int" none with kind := .primitive 'I', accessFlags := 0x411 }
/-- [I -/
def k9 : Class := { plain "[I" (some 0) with kind := .array 8 .int, interfaces := #[4, 5], accessFlags := 1041 }

def heap : Heap := #[]
def classes : Array Class := #[k0, k1, k2, k3, k4, k5, k6, k7, k8, k9]
def interned : List (Array UInt16 × Addr) := []
def slotsUsed : Nat := 0
def theMethod : MethodId := ⟨1, 1⟩
def args0 : Array Value := #[.int 5, .long 300, .long 7, .int 3, .int 9]
def aboutOver (below : List Frame) : State where
  vm := { classes := classes, interned := interned.toArray }
  heap := heap
  slotsUsed := slotsUsed
  threads := #[{ frames := .invoking theMethod args0 :: below }]
def below0 : List Frame := [.native { method := ⟨0, 0⟩, args := #[] }]
def about1 : State := aboutOver below0
def p0 : Program := .bare "" "" ""
def e0 : Env := launch0.env 0 0 0
theorem w_frames : about1.frames = Frame.invoking theMethod args0 :: below0 := rfl
set_option maxRecDepth 65536 in
theorem w_args : argsFit about1.vm theMethod args0 = true := by decide +kernel
set_option maxRecDepth 65536 in
theorem w_heap : heapFits about1 = true := by decide +kernel
set_option maxRecDepth 65536 in
theorem w_runnable : about1.curStatus? = some .runnable := by decide +kernel
set_option maxRecDepth 65536 in
theorem w_alone : about1.alone = true := by decide +kernel
set_option maxRecDepth 65536 in
theorem w_named : about1.methodNamed? x = some theMethod := by decide +kernel
set_option maxRecDepth 65536 in
theorem w_hears : about1.hears theMethod below0 = true := by decide +kernel
set_option maxRecDepth 65536 in
theorem w_ripe : about1.ripe theMethod args0 below0 = true := by decide +kernel
theorem w_running : about1.status = .running := rfl
set_option maxRecDepth 65536 in
theorem w_room : about1.hasRoom e0.platform room_1 = true :=
  launch0.hasRoom_least _ room_1 (by decide +kernel) (by decide +kernel) (by decide +kernel) (by decide +kernel) (by decide +kernel) (by decide +kernel)
theorem allAtoms_all (ts : List Jvm.Cond) (a : Array Jvm.Value) (st : Jvm.State) : (allAtoms ts).before a st = ts.all (fun c => c.before a st) := by
  induction ts with
  | nil => rfl
  | cons c t ih =>
    show (Jvm.Cond.and c (allAtoms t)).before a st = _
    rw [Jvm.Cond.before_and, ih, List.all_cons]
def words1 : List Jvm.Cond := Jvm.Cond.code x code maxLocals ret :: tables_1
/-- a 'code' word, met by the world's own term for the bytes: nothing is compared byte by byte -/
theorem code_word {y : MethodName} {bytes : ByteArray} {mx : Nat} {rt : Option FieldType} {a : Array Value} {s : State} {m : MethodId} {meth : Method} {c : Code} (h1 : s.methodNamed? y = some m) (h2 : s.vm.method? m = some meth) (h3 : meth.code = some c) (h4 : c.code = bytes)
    (h5 : (c.maxLocals == mx && c.exceptionTable.isEmpty && decide (c.maxStack ≤ mostOperands) && decide (meth.sig.returnType = rt) && !meth.locks && decide (parseMethodDescriptor y.desc = some meth.sig)) = true) : (Jvm.Cond.code y bytes mx rt).before a s = true := by
  simp only [Bool.and_eq_true, beq_iff_eq, Bool.not_eq_true', decide_eq_true_eq] at h5
  obtain ⟨⟨⟨⟨⟨g1, g2⟩, g3⟩, g4⟩, g5⟩, g6⟩ := h5
  simp [Cond.before, Cond.holds, Cond.value, h1, h2, h3, h4, g1, g2, g3, g4, g5, g6]
def isCode : Jvm.Cond → Bool
  | .code _ _ _ _ => true
  | _ => false
theorem all_split {L : List Jvm.Cond} {P : Jvm.Cond → Bool} (h1 : L.all (fun c => isCode c || P c) = true) (h2 : ∀ c ∈ L.filter isCode, P c = true) : L.all P = true := by
  refine List.all_eq_true.mpr fun c hc => ?_
  have h := List.all_eq_true.mp h1 c hc
  rcases Bool.eq_false_or_eq_true (isCode c) with hi | hi
  · exact h2 c (List.mem_filter.mpr ⟨hc, hi⟩)
  · simpa [hi] using h
set_option maxRecDepth 65536 in
theorem w_c0 : (Jvm.Cond.code x code maxLocals ret).before args0 about1 = true := code_word (m := ⟨1, 1⟩) (meth := k1m1) (c := k1c1) (by decide +kernel) rfl rfl rfl (by decide +kernel)
set_option maxRecDepth 65536 in
theorem w_c1 : (Jvm.Cond.code ({ cls := "java/lang/Math", name := "min", desc := "(JJ)J" } : Jvm.MethodName) jdk_29_method_70_code (4 : Nat) (Option.some Jvm.ClassFile.FieldType.long)).before args0 about1 = true := code_word (m := ⟨2, 1⟩) (meth := k2m1) (c := k2c1) (by decide +kernel) rfl rfl rfl (by decide +kernel)
set_option maxRecDepth 65536 in
theorem w_c2 : (Jvm.Cond.code ({ cls := "com/example/refinement_flow_checker/refinementflowchecker/checker/SortedSetsSubsetPinLaw", name := "build", desc := "(I[I)[I" } : Jvm.MethodName) method_3_code (5 : Nat) (Option.some (Jvm.ClassFile.FieldType.array Jvm.ClassFile.FieldType.int))).before args0 about1 = true := code_word (m := ⟨1, 2⟩) (meth := k1m2) (c := k1c2) (by decide +kernel) rfl rfl rfl (by decide +kernel)
set_option maxRecDepth 65536 in
theorem w_c3 : (Jvm.Cond.code ({ cls := "com/example/refinement_flow_checker/refinementflowchecker/checker/SortedSets", name := "subset", desc := "([I[I)Z" } : Jvm.MethodName) prog_50_method_4_code (7 : Nat) (Option.some Jvm.ClassFile.FieldType.boolean)).before args0 about1 = true := code_word (m := ⟨3, 1⟩) (meth := k3m1) (c := k3c1) (by decide +kernel) rfl rfl rfl (by decide +kernel)
def codes1 : List Jvm.Cond := [Jvm.Cond.code x code maxLocals ret, Jvm.Cond.code ({ cls := "java/lang/Math", name := "min", desc := "(JJ)J" } : Jvm.MethodName) jdk_29_method_70_code (4 : Nat) (Option.some Jvm.ClassFile.FieldType.long), Jvm.Cond.code ({ cls := "com/example/refinement_flow_checker/refinementflowchecker/checker/SortedSetsSubsetPinLaw", name := "build", desc := "(I[I)[I" } : Jvm.MethodName) method_3_code (5 : Nat) (Option.some (Jvm.ClassFile.FieldType.array Jvm.ClassFile.FieldType.int)), Jvm.Cond.code ({ cls := "com/example/refinement_flow_checker/refinementflowchecker/checker/SortedSets", name := "subset", desc := "([I[I)Z" } : Jvm.MethodName) prog_50_method_4_code (7 : Nat) (Option.some Jvm.ClassFile.FieldType.boolean)]
set_option maxRecDepth 65536 in
theorem codes_eq : words1.filter isCode = codes1 := rfl
theorem w_codes : ∀ c ∈ words1.filter isCode, c.before args0 about1 = true := by
  rw [codes_eq]
  intro c hc
  simp only [codes1, List.mem_cons, List.not_mem_nil, or_false] at hc
  rcases hc with rfl | rfl | rfl | rfl
  · exact w_c0
  · exact w_c1
  · exact w_c2
  · exact w_c3
set_option maxRecDepth 65536 in
theorem w_t1 : words1.all (fun c => isCode c || c.before args0 about1) = true := by decide +kernel
theorem w_tables : (allAtoms (Jvm.Cond.code x code maxLocals ret :: tables_1)).before args0 about1 = true := by
  rw [allAtoms_all]
  show words1.all (fun c => c.before args0 about1) = true
  refine all_split ?_ w_codes
  rw [w_t1]
set_option maxRecDepth 65536 in
theorem w_case : (Jvm.Cond.and given_1 narrow_1).before args0 about1 = true := by decide +kernel
theorem w_applies : (headSpec (Jvm.Cond.code x code maxLocals ret :: tables_1) room_1).applies x e0.platform about1 = true :=
  (Spec.applies_iff w_frames).mpr ⟨w_running, w_runnable, w_alone, w_named, w_hears, w_ripe, w_room, w_tables⟩
theorem atStart : AtStart classFile x code maxLocals ret World_1 tables_1 room_1 Calls_1 rest_1 Pre_1 launch0 p0 e0 about1 theMethod args0 below0 :=
  ⟨lists_1, trivial, launch0.admits_env _ _ _, launch0.least_env, fairChoices_fair.cas, fairChoices_fair.clock, w_frames, w_args, w_heap, w_applies, trivial, trivial, w_case⟩
end start1
theorem witness_1 : WitnessClaimed_1 := ⟨start1.p0, start1.e0, start1.about1, start1.theMethod, start1.args0, start1.below0, start1.atStart⟩
end Jvm.Pilot.@@N@@
