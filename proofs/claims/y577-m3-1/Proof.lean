import JvmDerived
import JvmDerived.Pilot.@@N@@Statement
import JvmDerived.Pilot.@@N@@Code
set_option linter.unusedVariables false
set_option linter.unusedSimpArgs false
namespace Jvm.Pilot.@@N@@
open Jvm Jvm.ClassFile Sem Op Lib Jvm.Free Jvm.Stand Jvm.LawKit Jvm.RoadKit Bundle Jvm.Pilot.@@N@@.Jvm.D
/-! own_Out: from the frame g over T the run comes to a return of which Q speaks. A walk is a proof of own_Out from its entry, backwards step by step; so it may fork. -/
section OwnKit
variable {p : Program} {l : Launch} {e : Env} {R : Room} {s : State} {m : MethodId} {args : Array Value} {below : List Frame} {meth : Method} {c : Code} {T : State} {locs : List Loc} {cells slots kc ks : Nat} {Z : State} {a0 : Array Value} {h h' h0 : Heap} {Q : Option Value → Heap → List Loc → Prop} {g : JFrame}
def own_Out (p : Program) (e : Env) (below : List Frame) (s : State) (Q : Option Value → Heap → List Loc → Prop) (kc ks : Nat) (T : State) (g : JFrame) : Prop :=
  ∃ U o, Steps p.tables e below (T.setTop g) U ∧ U.status = .running ∧ Ended U below o ∧ ∃ v L, o = .returned v ∧ Q v U.heap L ∧ FrameEnd s o U L kc ks
theorem own_st (T' : State) (g' : JFrame) (st : ∀ t, Steps p.tables e below (T'.setTop g') t → Steps p.tables e below (T.setTop g) t) (k : own_Out p e below s Q kc ks T' g') : own_Out p e below s Q kc ks T g := by
  obtain ⟨U, o, h1, h2⟩ := k; exact ⟨U, o, st _ h1, h2⟩
theorem own_tr (T' : State) (g' : JFrame) (st : Steps p.tables e below (T.setTop g) (T'.setTop g')) (k : own_Out p e below s Q kc ks T' g') : own_Out p e below s Q kc ks T g := by
  obtain ⟨U, o, h1, h2⟩ := k; exact ⟨U, o, st.trans h1, h2⟩
theorem own_ret (X : Stand p l e R s m args below meth c T locs cells slots) (hx : p.tables.exec = Jvm.exec) (hlk : meth.locks = false) {pc : Nat} {Ls : Array Slot} {w : Value} {t : FieldType} {i : Instr} {rest : List Value} (hret : meth.sig.returnType = some t) (hn : narrow t w = w)
    (hi : (i = .ireturn ∧ (t = .int ∨ t = .boolean ∨ t = .byte ∨ t = .char ∨ t = .short) ∧ ∃ z, w = .int z) ∨ (i = .lreturn ∧ t = .long ∧ ∃ z, w = .long z) ∨ (i = .dreturn ∧ t = .double ∧ ∃ z, w = .double z) ∨ (i = .freturn ∧ t = .float ∧ ∃ z, w = .float z) ∨ (i = .areturn ∧ t.isReference = true ∧ w.isRef = true))
    (hd : decode c.code pc = .ok (i, 1)) (hc : cells ≤ kc) (hs : slots ≤ ks) (hq : Q (some w) T.heap locs) : own_Out p e below s Q kc ks T (mkF m pc Ls (w :: rest)) := by
  obtain ⟨fs, hr, hrun, hended, hW, hsame⟩ := X.leave (v := some w) (fun h => by rw [hret] at h; cases h) hlk
  exact ⟨_, _, retOut X hx hret hn hi hd hr, hrun, hended, _, _, rfl, hq, ⟨_, rfl⟩, hW, hsame.mono hc hs⟩
theorem own_retI (X : Stand p l e R s m args below meth c T locs cells slots) (hx : p.tables.exec = Jvm.exec) (hlk : meth.locks = false) {pc : Nat} {Ls : Array Slot} {z : Int32} {rest : List Value} (hret : meth.sig.returnType = some .int)
    (hd : decode c.code pc = .ok (.ireturn, 1)) (hc : cells ≤ kc) (hs : slots ≤ ks) (hq : Q (some (.int z)) T.heap locs) : own_Out p e below s Q kc ks T (mkF m pc Ls (.int z :: rest)) :=
  own_ret X hx hlk hret rfl (Or.inl ⟨rfl, Or.inl rfl, z, rfl⟩) hd hc hs hq
theorem own_retJ (X : Stand p l e R s m args below meth c T locs cells slots) (hx : p.tables.exec = Jvm.exec) (hlk : meth.locks = false) {pc : Nat} {Ls : Array Slot} {z : Int64} {rest : List Value} (hret : meth.sig.returnType = some .long)
    (hd : decode c.code pc = .ok (.lreturn, 1)) (hc : cells ≤ kc) (hs : slots ≤ ks) (hq : Q (some (.long z)) T.heap locs) : own_Out p e below s Q kc ks T (mkF m pc Ls (.long z :: rest)) :=
  own_ret X hx hlk hret rfl (Or.inr (Or.inl ⟨rfl, rfl, z, rfl⟩)) hd hc hs hq
theorem own_nref {t : FieldType} {w : Value} (ht : t.isReference = true) (hw : w.isRef = true) : narrow t w = w := by
  cases t <;> first | (cases ht; done) | (cases w <;> first | rfl | (cases hw; done))
theorem own_retA (X : Stand p l e R s m args below meth c T locs cells slots) (hx : p.tables.exec = Jvm.exec) (hlk : meth.locks = false) {pc : Nat} {Ls : Array Slot} {w : Value} {t : FieldType} {rest : List Value} (hret : meth.sig.returnType = some t) (ht : t.isReference = true) (hw : w.isRef = true)
    (hd : decode c.code pc = .ok (.areturn, 1)) (hc : cells ≤ kc) (hs : slots ≤ ks) (hq : Q (some w) T.heap locs) : own_Out p e below s Q kc ks T (mkF m pc Ls (w :: rest)) :=
  own_ret X hx hlk hret (own_nref ht hw) (Or.inr (Or.inr (Or.inr (Or.inr ⟨rfl, ht, hw⟩)))) hd hc hs hq
theorem own_retN (X : Stand p l e R s m args below meth c T locs cells slots) (hx : p.tables.exec = Jvm.exec) (hlk : meth.locks = false) {pc : Nat} {Ls : Array Slot} {z : Int32} {t : FieldType} {rest : List Value} (hret : meth.sig.returnType = some t) (ht : t = .boolean ∨ t = .byte ∨ t = .char ∨ t = .short)
    (hd : decode c.code pc = .ok (.ireturn, 1)) (hc : cells ≤ kc) (hs : slots ≤ ks) (hq : Q (some (.int (nar t z))) T.heap locs) : own_Out p e below s Q kc ks T (mkF m pc Ls (.int z :: rest)) := by
  obtain ⟨fs, hr, hrun, hended, hW, hsame⟩ := X.leave (v := some (.int (nar t z))) (fun h => by rw [hret] at h; cases h) hlk
  exact ⟨_, _, retN X hx hret ht hd hr, hrun, hended, _, _, rfl, hq, ⟨_, rfl⟩, hW, hsame.mono hc hs⟩
theorem own_ret0 (X : Stand p l e R s m args below meth c T locs cells slots) (hx : p.tables.exec = Jvm.exec) (hlk : meth.locks = false) {pc : Nat} {Ls : Array Slot} (hret : meth.sig.returnType = none)
    (hd : decode c.code pc = .ok (.return_, 1)) (hc : cells ≤ kc) (hs : slots ≤ ks) (hq : Q none T.heap locs) : own_Out p e below s Q kc ks T (mkF m pc Ls []) := by
  obtain ⟨fs, hr, hrun, hended, hW, hsame⟩ := X.leave (v := none) (fun _ => rfl) hlk
  exact ⟨_, _, X.returnOut hx hret hd hr, hrun, hended, _, _, rfl, hq, ⟨_, rfl⟩, hW, hsame.mono hc hs⟩
/-- a method's contract at the arguments as' over the heap h0 -/
def own_Met (l : Launch) (Z : State) (y : MethodName) (bytes : ByteArray) (maxL : Nat) (ret : Option FieldType) (rm : Room) (as' : Array Value) (h0 : Heap) (Q : Option Value → Heap → List Loc → Prop) : Prop :=
  ∀ ws : List Jvm.Cond, MetFree l y (head1 (Jvm.Cond.code y bytes maxL ret :: ws) rm) (fun a U => a = as' ∧ Z.Warmed39 U.vm ∧ U.heap = h0) (fun _ _ _ _ _ => True) (fun _ U o U' => ∃ v L, o = .returned v ∧ Q v U'.heap L ∧ FrameEnd U o U' L rm.cells rm.slots)
theorem own_body {y : MethodName} {bytes : ByteArray} {maxL : Nat} {ret : Option FieldType} {rm : Room} {as' : Array Value} (Ls : Array Slot) (hp : plainFor y = true) (hef : ∀ m, entryFrame m as' maxL = mkF m 0 Ls [])
    (hbody : ∀ (p : Program) (e : Env) (s : State) (m : MethodId) (below : List Frame) (meth : Method) (c : Code) (s₁ : State), Stand p l e rm s m as' below meth c s₁ [] 0 0 → p.tables.exec = Jvm.exec → c.code = bytes → c.maxLocals = maxL → meth.sig.returnType = ret → meth.locks = false → Z.Warmed39 s.vm → s.vm.findClass y.cls = some m.cls → meth.name = y.name → s₁.heap = h0 →
      own_Out p e below s Q rm.cells rm.slots s₁ (mkF m 0 Ls [])) : own_Met l Z y bytes maxL ret rm as' h0 Q := by
  intro ws
  refine MetFree.of_bodySF hp hisR ?_
  intro p e s m args below meth c s₁ Bd hml0 hP hK
  obtain ⟨rfl, hZ, hh⟩ := hP
  have X0 : Stand p l e rm s m args below meth c s₁ [] 0 0 := Stand.of_body Bd
  have e0 : s₁.heap = h0 := by rw [← hh, Bd.state]; rfl
  obtain ⟨U, o, h1, h2⟩ := hbody p e s m below meth c s₁ X0 Bd.exec Bd.bytes hml0 Bd.returns Bd.notSynchronized hZ (findClass_of_methodNamed Bd.named) (name_of_methodNamed Bd.named Bd.method).1 e0
  exact ⟨U, o, castTop (hef m) h1, h2⟩
theorem own_callS (X : Stand p l e R s m args below meth c T locs cells slots) (hx : p.tables.exec = Jvm.exec) (hZ : Z.Warmed39 s.vm) {own : String} {index : Nat} {y : MethodName} {bytes : ByteArray} {maxL : Nat} {ret : Option FieldType} (hown : s.vm.findClass own = some m.cls)
    (w1 : (Cond.methodLink own index y).before a0 Z = true) (w2 : (Cond.static y).before a0 Z = true) (w3 : (Cond.initialized y.cls).before a0 Z = true) (w4 : (Cond.code y bytes maxL ret).before a0 Z = true) (hy : y.cls ≠ "java/lang/invoke/MethodHandle" ∧ y.cls ≠ "java/lang/invoke/VarHandle")
    {rm : Room} (argsL rest : List Value) {Qc : Option Value → Heap → List Loc → Prop} (M : own_Met l Z y bytes maxL ret rm argsL.toArray h Qc) (W : Nat) (hf : rm.frames + 1 ≤ R.frames) (hl : W + (maxL + 11) + rm.locals ≤ R.locals) (eT : T.heap = h)
    {pc : Nat} {Ls : Array Slot} {st : List Value} (hsize : Ls.size = c.maxLocals) (hlen : ∀ sig, parseMethodDescriptor y.desc = some sig → argsL.length = sig.parameters.length) (hstack : st = argsL.reverse ++ rest) (hW : (rest.map fun v => v.category).sum ≤ W)
    (hd : decode c.code pc = .ok (.invokestatic index, 3)) (hc : cells + rm.cells ≤ R.cells) (hs : slots + rm.slots ≤ R.slots)
    (k : ∀ v T' L, Stand p l e R s m args below meth c T' (locs ++ L) (cells + rm.cells) (slots + rm.slots) → Qc v T'.heap L → own_Out p e below s Q kc ks T' (mkF m (pc + 3) Ls (v.toList ++ rest))) : own_Out p e below s Q kc ks T (mkF m pc Ls st) := by
  obtain ⟨v, vm1, ⟨T', L', c', n'⟩, -, X', ⟨L, hQ, r1, r2, r3⟩, stp⟩ := Jvm.LawKit.callS X hx (y := y) (bytes := bytes) (maxL := maxL) (ret := ret) hown (mvT hZ w1) (mvT hZ w2) (mvT hZ w3) (mvT hZ w4) hy (backOf (W := W) (M []) hZ w4 w3 hf hl) (g := mkF m pc Ls st) rfl hsize (argsL := argsL) (rest := rest) hlen hstack (by show 2 * 0 + _ ≤ _; omega) hd (fun _ _ => ⟨rfl, eT, hc, hs⟩)
  dsimp only [Pt.U, Pt.locs, Pt.cells, Pt.slots] at X' r1 r2 r3 stp hQ
  subst r1 r2 r3
  exact own_st _ _ stp (k v T' L X' hQ)
theorem own_callC (X : Stand p l e R s m args below meth c T locs cells slots) (hx : p.tables.exec = Jvm.exec) (hZ : Z.Warmed39 s.vm) {own : String} {index : Nat} {y : MethodName} {bytes : ByteArray} {maxL : Nat} (hy1 : y.name = "<init>") (hown : s.vm.findClass own = some m.cls)
    (w1 : (Cond.methodLink own index y).before a0 Z = true) (w2 : (Cond.instanceMethod y).before a0 Z = true) (w3 : (Cond.initialized y.cls).before a0 Z = true) (w4 : (Cond.code y bytes maxL none).before a0 Z = true) (hy : y.cls ≠ "java/lang/invoke/MethodHandle" ∧ y.cls ≠ "java/lang/invoke/VarHandle")
    {rm : Room} (a : Addr) (argsL rest : List Value) {Qc : Option Value → Heap → List Loc → Prop} (M : own_Met l Z y bytes maxL none rm (.ref a :: argsL).toArray h Qc) (W : Nat) (hf : rm.frames + 1 ≤ R.frames) (hl : W + (maxL + 11) + rm.locals ≤ R.locals) (eT : T.heap = h)
    {pc : Nat} {Ls : Array Slot} {st : List Value} (hsize : Ls.size = c.maxLocals) (hlen : ∀ sig, parseMethodDescriptor y.desc = some sig → argsL.length = sig.parameters.length) (hstack : st = argsL.reverse ++ .ref a :: rest) (hW : (rest.map fun v => v.category).sum ≤ W)
    (hd : decode c.code pc = .ok (.invokespecial index, 3)) (hc : cells + rm.cells ≤ R.cells) (hs : slots + rm.slots ≤ R.slots)
    (k : ∀ v T' L, Stand p l e R s m args below meth c T' (locs ++ L) (cells + rm.cells) (slots + rm.slots) → Qc v T'.heap L → own_Out p e below s Q kc ks T' (mkF m (pc + 3) Ls (v.toList ++ rest))) : own_Out p e below s Q kc ks T (mkF m pc Ls st) := by
  obtain ⟨v, vm1, ⟨T', L', c', n'⟩, -, X', ⟨L, hQ, r1, r2, r3⟩, stp⟩ := X.specialBack hx (y := y) (bytes := bytes) (maxL := maxL) hy1 hown (mvT hZ w1) (mvT hZ w2) (mvT hZ w4) hy (backOf (W := W) (M []) hZ w4 w3 hf hl) (g := mkF m pc Ls st) rfl hsize (Steps.refl _) (a := a) (argsL := argsL) (rest := rest) hlen hstack (by show 2 * 0 + _ ≤ _; omega) hd (fun _ _ => ⟨rfl, eT, hc, hs⟩)
  dsimp only [Pt.U, Pt.locs, Pt.cells, Pt.slots] at X' r1 r2 r3 stp hQ
  subst r1 r2 r3
  exact own_tr _ _ stp (k v T' L X' hQ)
theorem own_callV (X : Stand p l e R s m args below meth c T locs cells slots) (hx : p.tables.exec = Jvm.exec) (hZ : Z.Warmed39 s.vm) {own C : String} {index : Nat} {y z : MethodName} {bytes : ByteArray} {maxL : Nat} {ret : Option FieldType} (hown : s.vm.findClass own = some m.cls)
    (w1 : (Cond.methodLink own index y).before a0 Z = true) (w2 : (Cond.declares y).before a0 Z = true) (hnf : NotFace s y) (w5 : (Cond.selects C y z).before a0 Z = true) (w6 : (Cond.instanceMethod z).before a0 Z = true) (w3 : (Cond.initialized z.cls).before a0 Z = true) (w4 : (Cond.code z bytes maxL ret).before a0 Z = true) (hy : y.cls ≠ "java/lang/invoke/MethodHandle" ∧ y.cls ≠ "java/lang/invoke/VarHandle")
    {rm : Room} (a : Addr) (argsL rest : List Value) {Qc : Option Value → Heap → List Loc → Prop} (E : Exa Z h a C) (M : own_Met l Z z bytes maxL ret rm (.ref a :: argsL).toArray h Qc) (W : Nat) (hf : rm.frames + 1 ≤ R.frames) (hl : W + (maxL + 11) + rm.locals ≤ R.locals) (eT : T.heap = h)
    {pc : Nat} {Ls : Array Slot} {st : List Value} (hsize : Ls.size = c.maxLocals) (hlen : ∀ sig, parseMethodDescriptor y.desc = some sig → argsL.length = sig.parameters.length) (hstack : st = argsL.reverse ++ .ref a :: rest) (hW : (rest.map fun v => v.category).sum ≤ W)
    (hd : decode c.code pc = .ok (.invokevirtual index, 3)) (hc : cells + rm.cells ≤ R.cells) (hs : slots + rm.slots ≤ R.slots)
    (k : ∀ v T' L, Stand p l e R s m args below meth c T' (locs ++ L) (cells + rm.cells) (slots + rm.slots) → Qc v T'.heap L → own_Out p e below s Q kc ks T' (mkF m (pc + 3) Ls (v.toList ++ rest))) : own_Out p e below s Q kc ks T (mkF m pc Ls st) := by
  obtain ⟨cq, kq, qa, qb, qc⟩ := isOf hZ eT E
  obtain ⟨v, vm1, ⟨T', L', c', n'⟩, -, X', ⟨L, hQ, r1, r2, r3⟩, stp⟩ := X.virtualBack hx (y := y) (z := z) hown (mvT hZ w1) (mvT hZ w2) hnf (mvT hZ w5) (mvT hZ w6) hy (backOf (W := W) (M []) hZ w4 w3 hf hl) qa qc (g := mkF m pc Ls st) rfl hsize (Steps.refl _) (argsL := argsL) (rest := rest) hlen hstack (by show 2 * 0 + _ ≤ _; omega) hd (fun _ _ => ⟨rfl, eT, hc, hs⟩)
  dsimp only [Pt.U, Pt.locs, Pt.cells, Pt.slots] at X' r1 r2 r3 stp hQ
  subst r1 r2 r3
  exact own_tr _ _ stp (k v T' L X' hQ)
theorem own_callI (X : Stand p l e R s m args below meth c T locs cells slots) (hx : p.tables.exec = Jvm.exec) (hZ : Z.Warmed39 s.vm) {own C : String} {index count : Nat} {xi y : MethodName} {bytes : ByteArray} {maxL : Nat} {ret : Option FieldType} (hown : s.vm.findClass own = some m.cls)
    (w1 : (Cond.methodLink own index xi).before args s = true) (w2 : (Cond.declares xi).before args s = true) (w7 : (Cond.interfaceMethod xi.cls xi.cls xi.name xi.desc).before args s = true) (w5 : (Cond.selects C xi y).before args s = true) (w6 : (Cond.instanceMethod y).before args s = true) (w8 : (Cond.publicMethod y).before args s = true) (w9 : (Cond.unhidden C xi.name xi.desc).before args s = true) (w10 : (Cond.castable C xi.cls).before args s = true) (w3 : (Cond.initialized y.cls).before a0 Z = true) (w4 : (Cond.code y bytes maxL ret).before a0 Z = true) (hy : xi.cls ≠ "java/lang/invoke/MethodHandle" ∧ xi.cls ≠ "java/lang/invoke/VarHandle")
    {rm : Room} (a : Addr) (argsL rest : List Value) {Qc : Option Value → Heap → List Loc → Prop} (E : Exa Z h a C) (M : own_Met l Z y bytes maxL ret rm (.ref a :: argsL).toArray h Qc) (W : Nat) (hf : rm.frames + 1 ≤ R.frames) (hl : W + (maxL + 11) + rm.locals ≤ R.locals) (eT : T.heap = h)
    {pc : Nat} {Ls : Array Slot} {st : List Value} (hsize : Ls.size = c.maxLocals) (hlen : ∀ sig, parseMethodDescriptor xi.desc = some sig → argsL.length = sig.parameters.length) (hstack : st = argsL.reverse ++ .ref a :: rest) (hW : (rest.map fun v => v.category).sum ≤ W)
    (hd : decode c.code pc = .ok (.invokeinterface index count, 5)) (hc : cells + rm.cells ≤ R.cells) (hs : slots + rm.slots ≤ R.slots)
    (k : ∀ v T' L, Stand p l e R s m args below meth c T' (locs ++ L) (cells + rm.cells) (slots + rm.slots) → Qc v T'.heap L → own_Out p e below s Q kc ks T' (mkF m (pc + 5) Ls (v.toList ++ rest))) : own_Out p e below s Q kc ks T (mkF m pc Ls st) := by
  obtain ⟨cq, kq, qa, qb, qc⟩ := isOf hZ eT E
  obtain ⟨v, vm1, ⟨T', L', c', n'⟩, -, X', ⟨L, hQ, r1, r2, r3⟩, stp⟩ := X.interfaceBack hx (xi := xi) (y := y) hown w1 w2 w7 w5 w6 w8 w9 w10 hy (backOf (W := W) (M []) hZ w4 w3 hf hl) qa qb qc (g := mkF m pc Ls st) rfl hsize (Steps.refl _) (argsL := argsL) (rest := rest) hlen hstack (by show 2 * 0 + _ ≤ _; omega) hd (fun _ _ => ⟨rfl, eT, hc, hs⟩)
  dsimp only [Pt.U, Pt.locs, Pt.cells, Pt.slots] at X' r1 r2 r3 stp hQ
  subst r1 r2 r3
  exact own_tr _ _ stp (k v T' L X' hQ)
theorem own_callP (X : Stand p l e R s m args below meth c T locs cells slots) (hx : p.tables.exec = Jvm.exec) (hZ : Z.Warmed39 s.vm) {own : String} {index : Nat} {y : MethodName} {bytes : ByteArray} {maxL : Nat} {ret : Option FieldType} (hown : s.vm.findClass own = some m.cls)
    (w1 : (Cond.methodLink own index y).before a0 Z = true) (w2 : (Cond.instanceMethod y).before a0 Z = true) (w5 : (Cond.selects y.cls y y).before a0 Z = true) (w6 : (Cond.privateMethod y).before a0 Z = true) (w3 : (Cond.initialized y.cls).before a0 Z = true) (w4 : (Cond.code y bytes maxL ret).before a0 Z = true) (hy : y.cls ≠ "java/lang/invoke/MethodHandle" ∧ y.cls ≠ "java/lang/invoke/VarHandle")
    {rm : Room} (a : Addr) (argsL rest : List Value) {C : String} {Qc : Option Value → Heap → List Loc → Prop} (E : Exa Z h a C) (M : own_Met l Z y bytes maxL ret rm (.ref a :: argsL).toArray h Qc) (W : Nat) (hf : rm.frames + 1 ≤ R.frames) (hl : W + (maxL + 11) + rm.locals ≤ R.locals) (eT : T.heap = h)
    {pc : Nat} {Ls : Array Slot} {st : List Value} (hsize : Ls.size = c.maxLocals) (hlen : ∀ sig, parseMethodDescriptor y.desc = some sig → argsL.length = sig.parameters.length) (hstack : st = argsL.reverse ++ .ref a :: rest) (hW : (rest.map fun v => v.category).sum ≤ W)
    (hd : decode c.code pc = .ok (.invokevirtual index, 3)) (hc : cells + rm.cells ≤ R.cells) (hs : slots + rm.slots ≤ R.slots)
    (k : ∀ v T' L, Stand p l e R s m args below meth c T' (locs ++ L) (cells + rm.cells) (slots + rm.slots) → Qc v T'.heap L → own_Out p e below s Q kc ks T' (mkF m (pc + 3) Ls (v.toList ++ rest))) : own_Out p e below s Q kc ks T (mkF m pc Ls st) := by
  obtain ⟨cq, qa, qb⟩ := E.cell
  obtain ⟨v, vm1, ⟨T', L', c', n'⟩, -, X', ⟨L, hQ, r1, r2, r3⟩, stp⟩ := X.privateBack hx (y := y) (bytes := bytes) (maxL := maxL) (ret := ret) hown (mvT hZ w1) (mvT hZ w2) (mvT hZ w5) (Cond.privateMethod_at (mvP hZ w6 (args := #[]))) (mvT hZ w4) hy (backOf (W := W) (M []) hZ w4 w3 hf hl) (g := mkF m pc Ls st) rfl hsize (Steps.refl _) (a := a) (by rw [eT]; exact qa) qb (argsL := argsL) (rest := rest) hlen hstack (by show 2 * 0 + _ ≤ _; omega) hd (fun _ _ => ⟨rfl, eT, hc, hs⟩)
  dsimp only [Pt.U, Pt.locs, Pt.cells, Pt.slots] at X' r1 r2 r3 stp hQ
  subst r1 r2 r3
  exact own_tr _ _ stp (k v T' L X' hQ)
/-- an array by its values: n places, place i holds f i -/
def own_A (Z : State) (h : Heap) (a : Addr) (k : ClassId) (ty : FieldType) (n : Nat) (f : Nat → Value) : Prop := ∃ cl : Cell, Arr Z h a cl ty ∧ cl.cls = k ∧ cl.slots.size = n ∧ n < 2 ^ 31 ∧ ∀ i, i < n → cl.slots[i]? = some (f i)
variable {a b : Addr} {k : ClassId} {ty : FieldType} {n : Nat} {f f' : Nat → Value} {sl : Nat} {v : Value} {ws : List Addr}
theorem own_A.lt (F : own_A Z h a k ty n f) : a < h.size := by obtain ⟨c, A, -⟩ := F; exact A.lt
theorem own_A.ext (F : own_A Z h a k ty n f) (E : Ext h h') : own_A Z h' a k ty n f := by obtain ⟨c, A, r⟩ := F; exact ⟨c, A.ext E, r⟩
theorem own_A.other (F : own_A Z h b k ty n f) (W : Wr h h' a sl v) (q : b ≠ a) : own_A Z h' b k ty n f := by obtain ⟨c, A, r⟩ := F; exact ⟨c, A.other W q, r⟩
theorem own_A.keep (F : own_A Z h a k ty n f) (K : Keep h h' ws) (q : a ∉ ws) : own_A Z h' a k ty n f := by obtain ⟨c, A, r⟩ := F; exact ⟨c, ⟨K.2.1 a c A.1 q, A.2⟩, r⟩
theorem own_A.cong (F : own_A Z h a k ty n f) (q : ∀ i, i < n → f i = f' i) : own_A Z h a k ty n f' := by obtain ⟨c, A, r1, r2, r3, r4⟩ := F; exact ⟨c, A, r1, r2, r3, fun i hi => by rw [r4 i hi, q i hi]⟩
theorem own_A.new {z : Int32} (A : Arr Z h a (newA k ty z) ty) (q : ¬ z < 0) : own_A Z h a k ty z.toNatClampNeg (fun _ => defaultValue ty) := ⟨_, A, rfl, sz_new _ _ _, (back32 q).2, fun i hi => by simp [newA, hi]⟩
theorem own_A.newL {z : Int32} (A : Arr Z h a (newA k ty z) ty) (q : ¬ z < 0) (n : Nat) (hn : z.toNatClampNeg = n) (d : Value) (hd : defaultValue ty = d) : own_A Z h a k ty n (fun i => (List.replicate n d).getD i d) := by
  subst hn hd
  refine (own_A.new A q).cong fun i hi => ?_
  simp [List.getD_eq_getElem?_getD, List.getElem?_replicate, hi]
theorem own_jn {j : Int32} {i : Nat} (q : j.toInt = (i : Int)) : j.toNatClampNeg = i := by simp only [Int32.toNatClampNeg]; omega
theorem own_in {j : Int32} {i n : Nat} {cl : Cell} (q : j.toInt = (i : Int)) (hi : i < n) (S : cl.slots.size = n) : ¬ (j < 0 ∨ cl.slots.size ≤ j.toNatClampNeg) := by
  rw [own_jn q, Int32.lt_iff_toInt_lt, q, S]; have : (0 : Int32).toInt = 0 := rfl; omega
theorem own_A.set (F : own_A Z h a k ty n f) {i : Nat} (hi : i < n) (W : Wr h h' a i v) : own_A Z h' a k ty n (fun x => if x = i then v else f x) := by
  obtain ⟨cl, A, r1, r2, r3, r4⟩ := F
  refine ⟨_, A.same W, r1, by rw [sz_set]; exact r2, r3, fun x hx => ?_⟩
  by_cases q : x = i
  · subst q; simp [Cell.setSlot, r2, hi]
  · show (cl.slots.setIfInBounds i v)[x]? = _
    rw [Array.getElem?_setIfInBounds_ne (Ne.symm q)]; simp only [q, if_false]; exact r4 x hx
theorem own_A.setL {L : List Value} {d : Value} (F : own_A Z h a k ty n (fun x => L.getD x d)) {i : Nat} (hi : i < n) (hL : i < L.length) (W : Wr h h' a i v) : own_A Z h' a k ty n (fun x => (L.set i v).getD x d) := by
  refine (F.set hi W).cong fun x hx => ?_
  by_cases q : x = i
  · subst q; simp [List.getD_eq_getElem?_getD, List.getElem?_set, hL]
  · simp [List.getD_eq_getElem?_getD, List.getElem?_set, q, Ne.symm q]
theorem own_A.setI {b : Nat → Int32} {x : Int32} (F : own_A Z h a k ty n (fun y => .int (b y))) {i : Nat} (hi : i < n) (W : Wr h h' a i (.int x)) : own_A Z h' a k ty n (fun y => .int (if y = i then x else b y)) := by
  refine (F.set hi W).cong fun y hy => ?_
  by_cases q : y = i <;> simp [q]
theorem own_A.setLI {L : List Int32} {x : Int32} (F : own_A Z h a k ty n (fun y => .int (L.getD y 0))) {i : Nat} (hi : i < n) (hL : i < L.length) (W : Wr h h' a i (.int x)) : own_A Z h' a k ty n (fun y => .int ((L.set i x).getD y 0)) := by
  refine (F.setI hi W).cong fun y hy => ?_
  by_cases q : y = i
  · subst q; simp [List.getD_eq_getElem?_getD, List.getElem?_set, hL]
  · simp [List.getD_eq_getElem?_getD, List.getElem?_set, q, Ne.symm q]
theorem own_A.snocI {L : List Int32} {x : Int32} (F : own_A Z h a k ty n (fun y => .int (L.getD y 0))) {i : Nat} (hi : i < n) (hL : L.length = i) (W : Wr h h' a i (.int x)) : own_A Z h' a k ty n (fun y => .int ((L ++ [x]).getD y 0)) := by
  refine (F.setI hi W).cong fun y hy => ?_
  by_cases q : y = i
  · subst q; subst hL; simp [List.getD_eq_getElem?_getD]
  · by_cases r : y < L.length
    · simp [List.getD_eq_getElem?_getD, q, List.getElem?_append_left r]
    · have h1 : L[y]? = none := List.getElem?_eq_none (by omega)
      have h2 : (L ++ [x])[y]? = none := List.getElem?_eq_none (by simp; omega)
      simp [List.getD_eq_getElem?_getD, q, h1, h2]
theorem own_A.newI {z : Int32} (A : Arr Z h a (newA k ty z) ty) (q : ¬ z < 0) (n : Nat) (hn : z.toNatClampNeg = n) (hd : defaultValue ty = .int 0) : own_A Z h a k ty n (fun _ => .int 0) := by
  subst hn; rw [← hd]; exact own_A.new A q
theorem own_A.newLI {z : Int32} (A : Arr Z h a (newA k ty z) ty) (q : ¬ z < 0) (n : Nat) (hn : z.toNatClampNeg = n) (hd : defaultValue ty = .int 0) : own_A Z h a k ty n (fun y => .int ((List.replicate n (0 : Int32)).getD y 0)) := by
  refine (own_A.newI A q n hn hd).cong fun i hi => ?_
  simp [List.getD_eq_getElem?_getD, List.getElem?_replicate, hi]
theorem own_stI (X : Stand p l e R s m args below meth c T locs cells slots) (hx : p.tables.exec = Jvm.exec) (hZ : Z.Warmed39 s.vm) (eT : T.heap = h) (F : own_A Z h a k .int n f) {j x : Int32} (i : Nat) (q : j.toInt = (i : Int)) (hi : i < n) {pc : Nat} {Ls : Array Slot} {rest : List Value} (hd : decode c.code pc = .ok (.iastore, 1)) :
    ∃ T' h', Stand p l e R s m args below meth c T' (locs ++ [⟨a, i⟩]) cells slots ∧ T'.heap = h' ∧ Wr h h' a i (.int x) ∧ ∀ t, Steps p.tables e below (T'.setTop (mkF m (pc + 1) Ls rest)) t → Steps p.tables e below (T.setTop (mkF m pc Ls (.int x :: .int j :: .ref a :: rest))) t := by
  obtain ⟨cl, A, r1, r2, r3, r4⟩ := F
  have := stI X hx hZ eT A (j := j) (x := x) (own_in q hi r2) (g := mkF m pc Ls (.int x :: .int j :: .ref a :: rest)) rfl rfl hd
  rw [own_jn q] at this; exact this
theorem own_stB (X : Stand p l e R s m args below meth c T locs cells slots) (hx : p.tables.exec = Jvm.exec) (hZ : Z.Warmed39 s.vm) (eT : T.heap = h) (F : own_A Z h a k .byte n f) {j x : Int32} (x' : Int32) (hx' : nar .byte x = x') (i : Nat) (q : j.toInt = (i : Int)) (hi : i < n) {pc : Nat} {Ls : Array Slot} {rest : List Value} (hd : decode c.code pc = .ok (.bastore, 1)) :
    ∃ T' h', Stand p l e R s m args below meth c T' (locs ++ [⟨a, i⟩]) cells slots ∧ T'.heap = h' ∧ Wr h h' a i (.int x') ∧ ∀ t, Steps p.tables e below (T'.setTop (mkF m (pc + 1) Ls rest)) t → Steps p.tables e below (T.setTop (mkF m pc Ls (.int x :: .int j :: .ref a :: rest))) t := by
  obtain ⟨cl, A, r1, r2, r3, r4⟩ := F
  have := stB X hx hZ eT A (j := j) (x := x) (own_in q hi r2) (g := mkF m pc Ls (.int x :: .int j :: .ref a :: rest)) rfl rfl hd
  rw [own_jn q] at this; subst hx'; exact this
theorem own_stC (X : Stand p l e R s m args below meth c T locs cells slots) (hx : p.tables.exec = Jvm.exec) (hZ : Z.Warmed39 s.vm) (eT : T.heap = h) (F : own_A Z h a k .char n f) {j x : Int32} (x' : Int32) (hx' : nar .char x = x') (i : Nat) (q : j.toInt = (i : Int)) (hi : i < n) {pc : Nat} {Ls : Array Slot} {rest : List Value} (hd : decode c.code pc = .ok (.castore, 1)) :
    ∃ T' h', Stand p l e R s m args below meth c T' (locs ++ [⟨a, i⟩]) cells slots ∧ T'.heap = h' ∧ Wr h h' a i (.int x') ∧ ∀ t, Steps p.tables e below (T'.setTop (mkF m (pc + 1) Ls rest)) t → Steps p.tables e below (T.setTop (mkF m pc Ls (.int x :: .int j :: .ref a :: rest))) t := by
  obtain ⟨cl, A, r1, r2, r3, r4⟩ := F
  have := stC X hx hZ eT A (j := j) (x := x) (own_in q hi r2) (g := mkF m pc Ls (.int x :: .int j :: .ref a :: rest)) rfl rfl hd
  rw [own_jn q] at this; subst hx'; exact this
theorem own_stR (X : Stand p l e R s m args below meth c T locs cells slots) (hx : p.tables.exec = Jvm.exec) (hZ : Z.Warmed39 s.vm) (eT : T.heap = h) {C : String} (F : own_A Z h a k (.object C) n f) {j : Int32} {v : Value} (O : Ovr Z k C) (I : v = .null ∨ ∃ y, v = .ref y ∧ Ins Z h y C true) (i : Nat) (q : j.toInt = (i : Int)) (hi : i < n) {pc : Nat} {Ls : Array Slot} {rest : List Value} (hd : decode c.code pc = .ok (.aastore, 1)) :
    ∃ T' h', Stand p l e R s m args below meth c T' (locs ++ [⟨a, i⟩]) cells slots ∧ T'.heap = h' ∧ Wr h h' a i v ∧ ∀ t, Steps p.tables e below (T'.setTop (mkF m (pc + 1) Ls rest)) t → Steps p.tables e below (T.setTop (mkF m pc Ls (v :: .int j :: .ref a :: rest))) t := by
  obtain ⟨cl, A, r1, r2, r3, r4⟩ := F
  have S : Sto Z h a v := by
    rcases I with rfl | ⟨y, rfl, I⟩
    · exact Or.inl rfl
    · exact Sto.ofV A r1 O I
  have := stR X hx hZ eT A (j := j) (own_in q hi r2) rfl S (g := mkF m pc Ls (v :: .int j :: .ref a :: rest)) rfl rfl hd
  rw [own_jn q] at this; exact this
theorem own_stRA (X : Stand p l e R s m args below meth c T locs cells slots) (hx : p.tables.exec = Jvm.exec) (hZ : Z.Warmed39 s.vm) (eT : T.heap = h) {C : String} {t0 : FieldType} (F : own_A Z h a k (.array t0) n f) {j : Int32} {v : Value} (O : OvrA Z k t0 C) (I : v = .null ∨ ∃ y, v = .ref y ∧ Ins Z h y C true) (i : Nat) (q : j.toInt = (i : Int)) (hi : i < n) {pc : Nat} {Ls : Array Slot} {rest : List Value} (hd : decode c.code pc = .ok (.aastore, 1)) :
    ∃ T' h', Stand p l e R s m args below meth c T' (locs ++ [⟨a, i⟩]) cells slots ∧ T'.heap = h' ∧ Wr h h' a i v ∧ ∀ t, Steps p.tables e below (T'.setTop (mkF m (pc + 1) Ls rest)) t → Steps p.tables e below (T.setTop (mkF m pc Ls (v :: .int j :: .ref a :: rest))) t := by
  obtain ⟨cl, A, r1, r2, r3, r4⟩ := F
  have S : Sto Z h a v := by
    rcases I with rfl | ⟨y, rfl, I⟩
    · exact Or.inl rfl
    · exact Sto.ofVA A r1 O I
  have := stR X hx hZ eT A (j := j) (own_in q hi r2) rfl S (g := mkF m pc Ls (v :: .int j :: .ref a :: rest)) rfl rfl hd
  rw [own_jn q] at this; exact this
theorem own_ldI (X : Stand p l e R s m args below meth c T locs cells slots) (hx : p.tables.exec = Jvm.exec) (hZ : Z.Warmed39 s.vm) (eT : T.heap = h) (F : own_A Z h a k .int n f) {j : Int32} (i : Nat) (q : j.toInt = (i : Int)) (hi : i < n) {pc : Nat} {Ls : Array Slot} {rest : List Value} (hd : decode c.code pc = .ok (.iaload, 1)) :
    ∀ t, Steps p.tables e below (T.setTop (mkF m (pc + 1) Ls (f i :: rest))) t → Steps p.tables e below (T.setTop (mkF m pc Ls (.int j :: .ref a :: rest))) t := fun t kt => by
  obtain ⟨cl, A, r1, r2, r3, r4⟩ := F
  exact X.iaload hx (j := j) (v := f i) (by rw [eT]; exact A.1) (State.isArrayOf_alike hZ.alike A.2.1) A.2.2 (own_in q hi r2) (by rw [own_jn q]; exact r4 i hi) (g := mkF m pc Ls (.int j :: .ref a :: rest)) rfl rfl hd _ kt
theorem own_ldB (X : Stand p l e R s m args below meth c T locs cells slots) (hx : p.tables.exec = Jvm.exec) (hZ : Z.Warmed39 s.vm) (eT : T.heap = h) (F : own_A Z h a k .byte n f) {j : Int32} (i : Nat) (q : j.toInt = (i : Int)) (hi : i < n) {pc : Nat} {Ls : Array Slot} {rest : List Value} (hd : decode c.code pc = .ok (.baload, 1)) :
    ∀ t, Steps p.tables e below (T.setTop (mkF m (pc + 1) Ls (f i :: rest))) t → Steps p.tables e below (T.setTop (mkF m pc Ls (.int j :: .ref a :: rest))) t := fun t kt => by
  obtain ⟨cl, A, r1, r2, r3, r4⟩ := F
  exact X.baloadBytes hx (j := j) (v := f i) (by rw [eT]; exact A.1) (State.isArrayOf_alike hZ.alike A.2.1) A.2.2 (own_in q hi r2) (by rw [own_jn q]; exact r4 i hi) (g := mkF m pc Ls (.int j :: .ref a :: rest)) rfl rfl hd _ kt
theorem own_ldC (X : Stand p l e R s m args below meth c T locs cells slots) (hx : p.tables.exec = Jvm.exec) (hZ : Z.Warmed39 s.vm) (eT : T.heap = h) (F : own_A Z h a k .char n f) {j : Int32} (i : Nat) (q : j.toInt = (i : Int)) (hi : i < n) {pc : Nat} {Ls : Array Slot} {rest : List Value} (hd : decode c.code pc = .ok (.caload, 1)) :
    ∀ t, Steps p.tables e below (T.setTop (mkF m (pc + 1) Ls (f i :: rest))) t → Steps p.tables e below (T.setTop (mkF m pc Ls (.int j :: .ref a :: rest))) t := fun t kt => by
  obtain ⟨cl, A, r1, r2, r3, r4⟩ := F
  exact X.caload hx (j := j) (v := f i) (by rw [eT]; exact A.1) (State.isArrayOf_alike hZ.alike A.2.1) A.2.2 (own_in q hi r2) (by rw [own_jn q]; exact r4 i hi) (g := mkF m pc Ls (.int j :: .ref a :: rest)) rfl rfl hd _ kt
theorem own_ldR (X : Stand p l e R s m args below meth c T locs cells slots) (hx : p.tables.exec = Jvm.exec) (hZ : Z.Warmed39 s.vm) (eT : T.heap = h) (F : own_A Z h a k ty n f) (hty : ty.isReference = true) {j : Int32} (i : Nat) (q : j.toInt = (i : Int)) (hi : i < n) {pc : Nat} {Ls : Array Slot} {rest : List Value} (hd : decode c.code pc = .ok (.aaload, 1)) :
    ∀ t, Steps p.tables e below (T.setTop (mkF m (pc + 1) Ls (f i :: rest))) t → Steps p.tables e below (T.setTop (mkF m pc Ls (.int j :: .ref a :: rest))) t := fun t kt => by
  obtain ⟨cl, A, r1, r2, r3, r4⟩ := F
  exact X.aaload hx (j := j) (v := f i) (by rw [eT]; exact A.1) (State.isArrayOf_alike hZ.alike A.2.1) hty A.2.2 (own_in q hi r2) (by rw [own_jn q]; exact r4 i hi) (g := mkF m pc Ls (.int j :: .ref a :: rest)) rfl rfl hd _ kt
theorem own_len (X : Stand p l e R s m args below meth c T locs cells slots) (hx : p.tables.exec = Jvm.exec) (hZ : Z.Warmed39 s.vm) (eT : T.heap = h) (F : own_A Z h a k ty n f) {pc : Nat} {Ls : Array Slot} {rest : List Value} (hd : decode c.code pc = .ok (.arraylength, 1)) (z : Int32) (hz : z.toInt = (n : Int)) :
    ∀ t, Steps p.tables e below (T.setTop (mkF m (pc + 1) Ls (.int z :: rest))) t → Steps p.tables e below (T.setTop (mkF m pc Ls (.ref a :: rest))) t := fun t kt => by
  obtain ⟨cl, A, r1, r2, r3, r4⟩ := F
  have q : cl.slots.size.toInt32 = z := by
    apply Int32.toInt_inj.mp; rw [r2, hz]; exact len_toInt r3
  exact X.arraylength hx (by rw [eT]; exact A.1) (State.isArrayOf_alike hZ.alike A.2.1) (g := mkF m pc Ls (.ref a :: rest)) rfl rfl hd _ (by rw [q]; exact kt)
theorem own_nb (x : Int32) : nar .byte x.toInt8.toInt32 = x.toInt8.toInt32 := by simp [nar]
theorem own_nc (x : Int32) : nar .char x.toUInt32.toUInt16.toUInt32.toInt32 = x.toUInt32.toUInt16.toUInt32.toInt32 := by
  have := Jvm.Free.XT.narrow_c x
  simpa [nar, narrow] using this
theorem own_nz {z : Int32} (q : z = 0 ∨ z = 1) : nar .boolean z = z := by rcases q with rfl | rfl <;> rfl
theorem own_bt {P : Prop} [Decidable P] (q : P) : ¬ ((if P then (1 : Int32) else 0) = 0) := by simp [q]
theorem own_bf {P : Prop} [Decidable P] (q : ¬ P) : (if P then (1 : Int32) else 0) = 0 := by simp [q]
theorem own_nt {P : Prop} [Decidable P] (q : P) : (if P then (0 : Int32) else 1) = 0 := by simp [q]
theorem own_nf {P : Prop} [Decidable P] (q : ¬ P) : ¬ ((if P then (0 : Int32) else 1) = 0) := by simp [q]
theorem own_lrem {target : State} (X : Stand p l e R s m args below meth c T locs cells slots) (hx : p.tables.exec = Jvm.exec) (hg : g.method = m) {x y : Int64} {rest : List Value} (hd : decode c.code g.pc = .ok (.lrem, 1)) (hs : g.stack = .long y :: .long x :: rest) (hy : y ≠ 0)
    (hr : Steps p.tables e below (T.setTop { g with pc := g.pc + 1, stack := .long (x % y) :: rest }) target) : Steps p.tables e below (T.setTop g) target := XS.lrem X.here hx hg hd hs hy (by rw [lrem_mod]; exact hr)
end OwnKit
theorem own_fv {Z : State} {args : Array Value} {t : Term} {C n d : String} {i : Int32} {a : Addr} (h : (Cond.eq (.field t C n d) (.int i)).value args Z none Z [] = some true) (ht : t.eval args Z none [] Z = some (.ref a)) : Fld Z Z.heap a C n d (.int i) := by
  apply Fld.start
  have e := fld_at (args := args) (first := Z) (o := none) (idx := []) (s := Z) (C := C) (n := n) (dd := d) ht
  rw [← e]
  simp only [Cond.value, Term.int_eval] at h
  cases hx : (Term.field t C n d).eval args Z none [] Z with
  | none => simp [hx] at h
  | some x => cases x <;> simp [hx] at h ⊢; exact h
def f1 (a s1 s2 s3 s4 : Addr) : Int32 := (if a = s1 then (1 : Int32) else (if a = s2 then (1 : Int32) else (if a = s3 then (1 : Int32) else (if a = s4 then (1 : Int32) else 0))))
theorem dprog_18_method_5_code_0 : decode prog_18_method_5_code 0 = .ok (.aload_n 0, 1) := by decide +kernel
theorem dprog_18_method_5_code_1 : decode prog_18_method_5_code 1 = .ok (.getstatic 7, 3) := by decide +kernel
theorem dprog_18_method_5_code_4 : decode prog_18_method_5_code 4 = .ok (.if_acmp .eq 24, 3) := by decide +kernel
theorem dprog_18_method_5_code_28 : decode prog_18_method_5_code 28 = .ok (.iconst 1, 1) := by decide +kernel
theorem dprog_18_method_5_code_29 : decode prog_18_method_5_code 29 = .ok (.goto 4, 3) := by decide +kernel
theorem dprog_18_method_5_code_33 : decode prog_18_method_5_code 33 = .ok (.ireturn, 1) := by decide +kernel
theorem dprog_18_method_5_code_7 : decode prog_18_method_5_code 7 = .ok (.aload_n 0, 1) := by decide +kernel
theorem dprog_18_method_5_code_8 : decode prog_18_method_5_code 8 = .ok (.getstatic 10, 3) := by decide +kernel
theorem dprog_18_method_5_code_11 : decode prog_18_method_5_code 11 = .ok (.if_acmp .eq 17, 3) := by decide +kernel
theorem dprog_18_method_5_code_14 : decode prog_18_method_5_code 14 = .ok (.aload_n 0, 1) := by decide +kernel
theorem dprog_18_method_5_code_15 : decode prog_18_method_5_code 15 = .ok (.getstatic 13, 3) := by decide +kernel
theorem dprog_18_method_5_code_18 : decode prog_18_method_5_code 18 = .ok (.if_acmp .eq 10, 3) := by decide +kernel
theorem dprog_18_method_5_code_21 : decode prog_18_method_5_code 21 = .ok (.aload_n 0, 1) := by decide +kernel
theorem dprog_18_method_5_code_22 : decode prog_18_method_5_code 22 = .ok (.getstatic 16, 3) := by decide +kernel
theorem dprog_18_method_5_code_25 : decode prog_18_method_5_code 25 = .ok (.if_acmp .ne 7, 3) := by decide +kernel
theorem dprog_18_method_5_code_32 : decode prog_18_method_5_code 32 = .ok (.iconst 0, 1) := by decide +kernel
theorem ef_rm1 (m_ : MethodId) (a : Addr) : entryFrame m_ #[(.ref a)] 1 = mkF m_ 0 #[.val (.ref a)] [] := by first | (simp [entryFrame, mkF, argsToLocals, Value.category]; done) | rfl
theorem own_pn0 : plainName "com/example/refinement_flow_checker/refinementflowchecker/checker/Exploration$Verdict" = true := by first | (simp [plainName, overriddenIn]; done) | decide +kernel
set_option maxRecDepth 65536 in
set_option maxHeartbeats 40000000 in
theorem rm1 (l : Launch) (Z : State) (a0 : Array Value) (hw : ∀ d ∈ tables_1, d.before a0 Z = true) (a : Addr) (s1 s2 s3 s4 : Addr) (h0 : Heap) (n0 : Nat) (Z0 : n0 ≤ h0.size) (S_INVARIANT_VIOLATED : Sta Z h0 "com/example/refinement_flow_checker/refinementflowchecker/checker/Exploration$Verdict" "INVARIANT_VIOLATED" "Lcom/example/refinement_flow_checker/refinementflowchecker/checker/Exploration$Verdict;" (.ref s1)) (S_DEADLOCK_REACHED : Sta Z h0 "com/example/refinement_flow_checker/refinementflowchecker/checker/Exploration$Verdict" "DEADLOCK_REACHED" "Lcom/example/refinement_flow_checker/refinementflowchecker/checker/Exploration$Verdict;" (.ref s2)) (S_UNDEFINED : Sta Z h0 "com/example/refinement_flow_checker/refinementflowchecker/checker/Exploration$Verdict" "UNDEFINED" "Lcom/example/refinement_flow_checker/refinementflowchecker/checker/Exploration$Verdict;" (.ref s3)) (S_REFINEMENT_VIOLATED : Sta Z h0 "com/example/refinement_flow_checker/refinementflowchecker/checker/Exploration$Verdict" "REFINEMENT_VIOLATED" "Lcom/example/refinement_flow_checker/refinementflowchecker/checker/Exploration$Verdict;" (.ref s4)) :
    own_Met l Z (⟨"com/example/refinement_flow_checker/refinementflowchecker/checker/Exploration$Verdict", "violation", "()Z"⟩ : MethodName) prog_18_method_5_code 1 (some .boolean) ({ frames := 0, cells := 0, slots := 0, locals := 0 } : Room) #[(.ref a)] h0 (fun v h L => v = some (.int (f1 a s1 s2 s3 s4)) ∧ Fr n0 L ∧ h = h0) := by
  refine own_body #[.val (.ref a)] (plainFor_of_name own_pn0) (fun m_ => ef_rm1 m_ a) ?_
  intro p_ e_ s_ m_ below meth c_ s₁ X0 hx hby hml hret hlk hZ hown hnm e0
  have N0 := Fr.nil n0
  show own_Out p_ e_ below s_ _ _ _ s₁ (mkF m_ 0 #[.val (.ref a)] [])
  refine own_st s₁ (mkF m_ 1 #[.val (.ref a)] [(.ref a)]) (fun t_ k_ => ?_) ?_
  · refine XS.aloadN X0.here hx rfl (hb hby dprog_18_method_5_code_0) rfl rfl ?_
    show Steps p_.tables e_ below (s₁.setTop (mkF m_ 1 #[.val (.ref a)] [(.ref a)])) t_
    exact k_
  obtain ⟨T1, X1, e1, st1⟩ := getS2 X0 hx hZ hown (host := "") (Or.inl (hw _ (List.mem_of_getElem? (i := 9) rfl))) Via.refl e0 S_INVARIANT_VIOLATED (g := (mkF m_ 1 #[.val (.ref a)] [(.ref a)])) rfl (hb hby dprog_18_method_5_code_1)
  refine own_st T1 (mkF m_ 4 #[.val (.ref a)] [(.ref s1), (.ref a)]) st1 ?_
  by_cases hc4 : a = s1
  · refine own_st T1 (mkF m_ 28 #[.val (.ref a)] []) (fun t_ k_ => Jvm.RoadKit.acmp (g := (mkF m_ 4 #[.val (.ref a)] [(.ref s1), (.ref a)])) X1 hx rfl rfl rfl (pc0 := 4) (pc' := 28) (same := true) rfl (hb hby dprog_18_method_5_code_4) rfl (decide_eq_true (congrArg Value.ref hc4)) (by decide) (by decide) k_) ?_
    refine own_st T1 (mkF m_ 33 #[.val (.ref a)] [(.int (1 : Int32))]) (fun t_ k_ => ?_) ?_
    · refine XS.iconst X1.here hx rfl (hb hby dprog_18_method_5_code_28) ?_
      show Steps p_.tables e_ below (T1.setTop (mkF m_ 29 #[.val (.ref a)] [(.int (1 : Int32))])) t_
      refine XS.goto X1.here hx rfl (pc0 := 29) (pc' := 33) rfl (hb hby dprog_18_method_5_code_29) (by decide) (by decide) ?_
      show Steps p_.tables e_ below (T1.setTop (mkF m_ 33 #[.val (.ref a)] [(.int (1 : Int32))])) t_
      exact k_
    refine own_retN X1 hx hlk (t := .boolean) hret (by simp) (hb hby dprog_18_method_5_code_33) (by decide) (by decide) ?_
    rw [e1]
    have hz : nar .boolean (1 : Int32) = (1 : Int32) := own_nz (by first | exact Or.inl rfl | exact Or.inr rfl | (repeat' split) <;> first | exact Or.inl rfl | exact Or.inr rfl)
    rw [hz]
    exact ⟨by simp only [f1, if_pos hc4], N0, rfl⟩
  · refine own_st T1 (mkF m_ 7 #[.val (.ref a)] []) (fun t_ k_ => Jvm.RoadKit.acmp (g := (mkF m_ 4 #[.val (.ref a)] [(.ref s1), (.ref a)])) X1 hx rfl rfl rfl (pc0 := 4) (pc' := 7) (same := false) rfl (hb hby dprog_18_method_5_code_4) rfl (decide_eq_false fun q => hc4 (Value.ref.inj q)) (by decide) (by decide) k_) ?_
    refine own_st T1 (mkF m_ 8 #[.val (.ref a)] [(.ref a)]) (fun t_ k_ => ?_) ?_
    · refine XS.aloadN X1.here hx rfl (hb hby dprog_18_method_5_code_7) rfl rfl ?_
      show Steps p_.tables e_ below (T1.setTop (mkF m_ 8 #[.val (.ref a)] [(.ref a)])) t_
      exact k_
    obtain ⟨T2, X2, e2, st2⟩ := getS2 X1 hx hZ hown (host := "") (Or.inl (hw _ (List.mem_of_getElem? (i := 11) rfl))) Via.refl e1 S_DEADLOCK_REACHED (g := (mkF m_ 8 #[.val (.ref a)] [(.ref a)])) rfl (hb hby dprog_18_method_5_code_8)
    refine own_st T2 (mkF m_ 11 #[.val (.ref a)] [(.ref s2), (.ref a)]) st2 ?_
    by_cases hc11 : a = s2
    · refine own_st T2 (mkF m_ 28 #[.val (.ref a)] []) (fun t_ k_ => Jvm.RoadKit.acmp (g := (mkF m_ 11 #[.val (.ref a)] [(.ref s2), (.ref a)])) X2 hx rfl rfl rfl (pc0 := 11) (pc' := 28) (same := true) rfl (hb hby dprog_18_method_5_code_11) rfl (decide_eq_true (congrArg Value.ref hc11)) (by decide) (by decide) k_) ?_
      refine own_st T2 (mkF m_ 33 #[.val (.ref a)] [(.int (1 : Int32))]) (fun t_ k_ => ?_) ?_
      · refine XS.iconst X2.here hx rfl (hb hby dprog_18_method_5_code_28) ?_
        show Steps p_.tables e_ below (T2.setTop (mkF m_ 29 #[.val (.ref a)] [(.int (1 : Int32))])) t_
        refine XS.goto X2.here hx rfl (pc0 := 29) (pc' := 33) rfl (hb hby dprog_18_method_5_code_29) (by decide) (by decide) ?_
        show Steps p_.tables e_ below (T2.setTop (mkF m_ 33 #[.val (.ref a)] [(.int (1 : Int32))])) t_
        exact k_
      refine own_retN X2 hx hlk (t := .boolean) hret (by simp) (hb hby dprog_18_method_5_code_33) (by decide) (by decide) ?_
      rw [e2]
      have hz : nar .boolean (1 : Int32) = (1 : Int32) := own_nz (by first | exact Or.inl rfl | exact Or.inr rfl | (repeat' split) <;> first | exact Or.inl rfl | exact Or.inr rfl)
      rw [hz]
      exact ⟨by simp only [f1, if_neg hc4, if_pos hc11], N0, rfl⟩
    · refine own_st T2 (mkF m_ 14 #[.val (.ref a)] []) (fun t_ k_ => Jvm.RoadKit.acmp (g := (mkF m_ 11 #[.val (.ref a)] [(.ref s2), (.ref a)])) X2 hx rfl rfl rfl (pc0 := 11) (pc' := 14) (same := false) rfl (hb hby dprog_18_method_5_code_11) rfl (decide_eq_false fun q => hc11 (Value.ref.inj q)) (by decide) (by decide) k_) ?_
      refine own_st T2 (mkF m_ 15 #[.val (.ref a)] [(.ref a)]) (fun t_ k_ => ?_) ?_
      · refine XS.aloadN X2.here hx rfl (hb hby dprog_18_method_5_code_14) rfl rfl ?_
        show Steps p_.tables e_ below (T2.setTop (mkF m_ 15 #[.val (.ref a)] [(.ref a)])) t_
        exact k_
      obtain ⟨T3, X3, e3, st3⟩ := getS2 X2 hx hZ hown (host := "") (Or.inl (hw _ (List.mem_of_getElem? (i := 13) rfl))) Via.refl e2 S_UNDEFINED (g := (mkF m_ 15 #[.val (.ref a)] [(.ref a)])) rfl (hb hby dprog_18_method_5_code_15)
      refine own_st T3 (mkF m_ 18 #[.val (.ref a)] [(.ref s3), (.ref a)]) st3 ?_
      by_cases hc18 : a = s3
      · refine own_st T3 (mkF m_ 28 #[.val (.ref a)] []) (fun t_ k_ => Jvm.RoadKit.acmp (g := (mkF m_ 18 #[.val (.ref a)] [(.ref s3), (.ref a)])) X3 hx rfl rfl rfl (pc0 := 18) (pc' := 28) (same := true) rfl (hb hby dprog_18_method_5_code_18) rfl (decide_eq_true (congrArg Value.ref hc18)) (by decide) (by decide) k_) ?_
        refine own_st T3 (mkF m_ 33 #[.val (.ref a)] [(.int (1 : Int32))]) (fun t_ k_ => ?_) ?_
        · refine XS.iconst X3.here hx rfl (hb hby dprog_18_method_5_code_28) ?_
          show Steps p_.tables e_ below (T3.setTop (mkF m_ 29 #[.val (.ref a)] [(.int (1 : Int32))])) t_
          refine XS.goto X3.here hx rfl (pc0 := 29) (pc' := 33) rfl (hb hby dprog_18_method_5_code_29) (by decide) (by decide) ?_
          show Steps p_.tables e_ below (T3.setTop (mkF m_ 33 #[.val (.ref a)] [(.int (1 : Int32))])) t_
          exact k_
        refine own_retN X3 hx hlk (t := .boolean) hret (by simp) (hb hby dprog_18_method_5_code_33) (by decide) (by decide) ?_
        rw [e3]
        have hz : nar .boolean (1 : Int32) = (1 : Int32) := own_nz (by first | exact Or.inl rfl | exact Or.inr rfl | (repeat' split) <;> first | exact Or.inl rfl | exact Or.inr rfl)
        rw [hz]
        exact ⟨by simp only [f1, if_neg hc4, if_neg hc11, if_pos hc18], N0, rfl⟩
      · refine own_st T3 (mkF m_ 21 #[.val (.ref a)] []) (fun t_ k_ => Jvm.RoadKit.acmp (g := (mkF m_ 18 #[.val (.ref a)] [(.ref s3), (.ref a)])) X3 hx rfl rfl rfl (pc0 := 18) (pc' := 21) (same := false) rfl (hb hby dprog_18_method_5_code_18) rfl (decide_eq_false fun q => hc18 (Value.ref.inj q)) (by decide) (by decide) k_) ?_
        refine own_st T3 (mkF m_ 22 #[.val (.ref a)] [(.ref a)]) (fun t_ k_ => ?_) ?_
        · refine XS.aloadN X3.here hx rfl (hb hby dprog_18_method_5_code_21) rfl rfl ?_
          show Steps p_.tables e_ below (T3.setTop (mkF m_ 22 #[.val (.ref a)] [(.ref a)])) t_
          exact k_
        obtain ⟨T4, X4, e4, st4⟩ := getS2 X3 hx hZ hown (host := "") (Or.inl (hw _ (List.mem_of_getElem? (i := 15) rfl))) Via.refl e3 S_REFINEMENT_VIOLATED (g := (mkF m_ 22 #[.val (.ref a)] [(.ref a)])) rfl (hb hby dprog_18_method_5_code_22)
        refine own_st T4 (mkF m_ 25 #[.val (.ref a)] [(.ref s4), (.ref a)]) st4 ?_
        refine own_st T4 (mkF m_ 33 #[.val (.ref a)] [(.int (if a = s4 then (1 : Int32) else 0))]) (fun t_ k_ => ?_) ?_
        · have jn25 : ∀ t_, Steps p_.tables e_ below (T4.setTop (mkF m_ 33 #[.val (.ref a)] [(.int (if a = s4 then (1 : Int32) else 0))])) t_ → Steps p_.tables e_ below (T4.setTop (mkF m_ 25 #[.val (.ref a)] [(.ref s4), (.ref a)])) t_ := by
            intro t_ k_
            by_cases hc25 : a = s4
            · refine Jvm.RoadKit.acmp (g := (mkF m_ 25 #[.val (.ref a)] [(.ref s4), (.ref a)])) X4 hx rfl rfl rfl (pc0 := 25) (pc' := 28) (same := true) rfl (hb hby dprog_18_method_5_code_25) rfl (decide_eq_true (congrArg Value.ref hc25)) (by decide) (by decide) ?_
              show Steps p_.tables e_ below (T4.setTop (mkF m_ 28 #[.val (.ref a)] [])) t_
              refine XS.iconst X4.here hx rfl (hb hby dprog_18_method_5_code_28) ?_
              show Steps p_.tables e_ below (T4.setTop (mkF m_ 29 #[.val (.ref a)] [(.int (1 : Int32))])) t_
              refine XS.goto X4.here hx rfl (pc0 := 29) (pc' := 33) rfl (hb hby dprog_18_method_5_code_29) (by decide) (by decide) ?_
              show Steps p_.tables e_ below (T4.setTop (mkF m_ 33 #[.val (.ref a)] [(.int (1 : Int32))])) t_
              simp only [if_pos hc25] at k_
              exact k_
            · refine Jvm.RoadKit.acmp (g := (mkF m_ 25 #[.val (.ref a)] [(.ref s4), (.ref a)])) X4 hx rfl rfl rfl (pc0 := 25) (pc' := 32) (same := false) rfl (hb hby dprog_18_method_5_code_25) rfl (decide_eq_false fun q => hc25 (Value.ref.inj q)) (by decide) (by decide) ?_
              show Steps p_.tables e_ below (T4.setTop (mkF m_ 32 #[.val (.ref a)] [])) t_
              refine XS.iconst X4.here hx rfl (hb hby dprog_18_method_5_code_32) ?_
              show Steps p_.tables e_ below (T4.setTop (mkF m_ 33 #[.val (.ref a)] [(.int (0 : Int32))])) t_
              simp only [if_neg hc25] at k_
              exact k_
          refine jn25 _ ?_
          show Steps p_.tables e_ below (T4.setTop (mkF m_ 33 #[.val (.ref a)] [(.int (if a = s4 then (1 : Int32) else 0))])) t_
          exact k_
        refine own_retN X4 hx hlk (t := .boolean) hret (by simp) (hb hby dprog_18_method_5_code_33) (by decide) (by decide) ?_
        rw [e4]
        have hz : nar .boolean (if a = s4 then (1 : Int32) else 0) = (if a = s4 then (1 : Int32) else 0) := own_nz (by first | exact Or.inl rfl | exact Or.inr rfl | (repeat' split) <;> first | exact Or.inl rfl | exact Or.inr rfl)
        rw [hz]
        exact ⟨by simp only [f1, if_neg hc4, if_neg hc11, if_neg hc18], N0, rfl⟩
def f2 (a s5 s6 : Addr) : Int32 := (if a = s5 then (1 : Int32) else (if a = s6 then (1 : Int32) else 0))
theorem dprog_18_method_4_code_0 : decode prog_18_method_4_code 0 = .ok (.aload_n 0, 1) := by decide +kernel
theorem dprog_18_method_4_code_1 : decode prog_18_method_4_code 1 = .ok (.getstatic 19, 3) := by decide +kernel
theorem dprog_18_method_4_code_4 : decode prog_18_method_4_code 4 = .ok (.if_acmp .eq 10, 3) := by decide +kernel
theorem dprog_18_method_4_code_14 : decode prog_18_method_4_code 14 = .ok (.iconst 1, 1) := by decide +kernel
theorem dprog_18_method_4_code_15 : decode prog_18_method_4_code 15 = .ok (.goto 4, 3) := by decide +kernel
theorem dprog_18_method_4_code_19 : decode prog_18_method_4_code 19 = .ok (.ireturn, 1) := by decide +kernel
theorem dprog_18_method_4_code_7 : decode prog_18_method_4_code 7 = .ok (.aload_n 0, 1) := by decide +kernel
theorem dprog_18_method_4_code_8 : decode prog_18_method_4_code 8 = .ok (.getstatic 22, 3) := by decide +kernel
theorem dprog_18_method_4_code_11 : decode prog_18_method_4_code 11 = .ok (.if_acmp .ne 7, 3) := by decide +kernel
theorem dprog_18_method_4_code_18 : decode prog_18_method_4_code 18 = .ok (.iconst 0, 1) := by decide +kernel
theorem ef_rm2 (m_ : MethodId) (a : Addr) : entryFrame m_ #[(.ref a)] 1 = mkF m_ 0 #[.val (.ref a)] [] := by first | (simp [entryFrame, mkF, argsToLocals, Value.category]; done) | rfl
set_option maxRecDepth 65536 in
set_option maxHeartbeats 40000000 in
theorem rm2 (l : Launch) (Z : State) (a0 : Array Value) (hw : ∀ d ∈ tables_1, d.before a0 Z = true) (a : Addr) (s5 s6 : Addr) (h0 : Heap) (n0 : Nat) (Z0 : n0 ≤ h0.size) (S_STATE_BOUND_REACHED : Sta Z h0 "com/example/refinement_flow_checker/refinementflowchecker/checker/Exploration$Verdict" "STATE_BOUND_REACHED" "Lcom/example/refinement_flow_checker/refinementflowchecker/checker/Exploration$Verdict;" (.ref s5)) (S_MEMORY_EXHAUSTED : Sta Z h0 "com/example/refinement_flow_checker/refinementflowchecker/checker/Exploration$Verdict" "MEMORY_EXHAUSTED" "Lcom/example/refinement_flow_checker/refinementflowchecker/checker/Exploration$Verdict;" (.ref s6)) :
    own_Met l Z (⟨"com/example/refinement_flow_checker/refinementflowchecker/checker/Exploration$Verdict", "incomplete", "()Z"⟩ : MethodName) prog_18_method_4_code 1 (some .boolean) ({ frames := 0, cells := 0, slots := 0, locals := 0 } : Room) #[(.ref a)] h0 (fun v h L => v = some (.int (f2 a s5 s6)) ∧ Fr n0 L ∧ h = h0) := by
  refine own_body #[.val (.ref a)] (plainFor_of_name own_pn0) (fun m_ => ef_rm2 m_ a) ?_
  intro p_ e_ s_ m_ below meth c_ s₁ X0 hx hby hml hret hlk hZ hown hnm e0
  have N0 := Fr.nil n0
  show own_Out p_ e_ below s_ _ _ _ s₁ (mkF m_ 0 #[.val (.ref a)] [])
  refine own_st s₁ (mkF m_ 1 #[.val (.ref a)] [(.ref a)]) (fun t_ k_ => ?_) ?_
  · refine XS.aloadN X0.here hx rfl (hb hby dprog_18_method_4_code_0) rfl rfl ?_
    show Steps p_.tables e_ below (s₁.setTop (mkF m_ 1 #[.val (.ref a)] [(.ref a)])) t_
    exact k_
  obtain ⟨T1, X1, e1, st1⟩ := getS2 X0 hx hZ hown (host := "") (Or.inl (hw _ (List.mem_of_getElem? (i := 22) rfl))) Via.refl e0 S_STATE_BOUND_REACHED (g := (mkF m_ 1 #[.val (.ref a)] [(.ref a)])) rfl (hb hby dprog_18_method_4_code_1)
  refine own_st T1 (mkF m_ 4 #[.val (.ref a)] [(.ref s5), (.ref a)]) st1 ?_
  by_cases hc4 : a = s5
  · refine own_st T1 (mkF m_ 14 #[.val (.ref a)] []) (fun t_ k_ => Jvm.RoadKit.acmp (g := (mkF m_ 4 #[.val (.ref a)] [(.ref s5), (.ref a)])) X1 hx rfl rfl rfl (pc0 := 4) (pc' := 14) (same := true) rfl (hb hby dprog_18_method_4_code_4) rfl (decide_eq_true (congrArg Value.ref hc4)) (by decide) (by decide) k_) ?_
    refine own_st T1 (mkF m_ 19 #[.val (.ref a)] [(.int (1 : Int32))]) (fun t_ k_ => ?_) ?_
    · refine XS.iconst X1.here hx rfl (hb hby dprog_18_method_4_code_14) ?_
      show Steps p_.tables e_ below (T1.setTop (mkF m_ 15 #[.val (.ref a)] [(.int (1 : Int32))])) t_
      refine XS.goto X1.here hx rfl (pc0 := 15) (pc' := 19) rfl (hb hby dprog_18_method_4_code_15) (by decide) (by decide) ?_
      show Steps p_.tables e_ below (T1.setTop (mkF m_ 19 #[.val (.ref a)] [(.int (1 : Int32))])) t_
      exact k_
    refine own_retN X1 hx hlk (t := .boolean) hret (by simp) (hb hby dprog_18_method_4_code_19) (by decide) (by decide) ?_
    rw [e1]
    have hz : nar .boolean (1 : Int32) = (1 : Int32) := own_nz (by first | exact Or.inl rfl | exact Or.inr rfl | (repeat' split) <;> first | exact Or.inl rfl | exact Or.inr rfl)
    rw [hz]
    exact ⟨by simp only [f2, if_pos hc4], N0, rfl⟩
  · refine own_st T1 (mkF m_ 7 #[.val (.ref a)] []) (fun t_ k_ => Jvm.RoadKit.acmp (g := (mkF m_ 4 #[.val (.ref a)] [(.ref s5), (.ref a)])) X1 hx rfl rfl rfl (pc0 := 4) (pc' := 7) (same := false) rfl (hb hby dprog_18_method_4_code_4) rfl (decide_eq_false fun q => hc4 (Value.ref.inj q)) (by decide) (by decide) k_) ?_
    refine own_st T1 (mkF m_ 8 #[.val (.ref a)] [(.ref a)]) (fun t_ k_ => ?_) ?_
    · refine XS.aloadN X1.here hx rfl (hb hby dprog_18_method_4_code_7) rfl rfl ?_
      show Steps p_.tables e_ below (T1.setTop (mkF m_ 8 #[.val (.ref a)] [(.ref a)])) t_
      exact k_
    obtain ⟨T2, X2, e2, st2⟩ := getS2 X1 hx hZ hown (host := "") (Or.inl (hw _ (List.mem_of_getElem? (i := 24) rfl))) Via.refl e1 S_MEMORY_EXHAUSTED (g := (mkF m_ 8 #[.val (.ref a)] [(.ref a)])) rfl (hb hby dprog_18_method_4_code_8)
    refine own_st T2 (mkF m_ 11 #[.val (.ref a)] [(.ref s6), (.ref a)]) st2 ?_
    refine own_st T2 (mkF m_ 19 #[.val (.ref a)] [(.int (if a = s6 then (1 : Int32) else 0))]) (fun t_ k_ => ?_) ?_
    · have jn11 : ∀ t_, Steps p_.tables e_ below (T2.setTop (mkF m_ 19 #[.val (.ref a)] [(.int (if a = s6 then (1 : Int32) else 0))])) t_ → Steps p_.tables e_ below (T2.setTop (mkF m_ 11 #[.val (.ref a)] [(.ref s6), (.ref a)])) t_ := by
        intro t_ k_
        by_cases hc11 : a = s6
        · refine Jvm.RoadKit.acmp (g := (mkF m_ 11 #[.val (.ref a)] [(.ref s6), (.ref a)])) X2 hx rfl rfl rfl (pc0 := 11) (pc' := 14) (same := true) rfl (hb hby dprog_18_method_4_code_11) rfl (decide_eq_true (congrArg Value.ref hc11)) (by decide) (by decide) ?_
          show Steps p_.tables e_ below (T2.setTop (mkF m_ 14 #[.val (.ref a)] [])) t_
          refine XS.iconst X2.here hx rfl (hb hby dprog_18_method_4_code_14) ?_
          show Steps p_.tables e_ below (T2.setTop (mkF m_ 15 #[.val (.ref a)] [(.int (1 : Int32))])) t_
          refine XS.goto X2.here hx rfl (pc0 := 15) (pc' := 19) rfl (hb hby dprog_18_method_4_code_15) (by decide) (by decide) ?_
          show Steps p_.tables e_ below (T2.setTop (mkF m_ 19 #[.val (.ref a)] [(.int (1 : Int32))])) t_
          simp only [if_pos hc11] at k_
          exact k_
        · refine Jvm.RoadKit.acmp (g := (mkF m_ 11 #[.val (.ref a)] [(.ref s6), (.ref a)])) X2 hx rfl rfl rfl (pc0 := 11) (pc' := 18) (same := false) rfl (hb hby dprog_18_method_4_code_11) rfl (decide_eq_false fun q => hc11 (Value.ref.inj q)) (by decide) (by decide) ?_
          show Steps p_.tables e_ below (T2.setTop (mkF m_ 18 #[.val (.ref a)] [])) t_
          refine XS.iconst X2.here hx rfl (hb hby dprog_18_method_4_code_18) ?_
          show Steps p_.tables e_ below (T2.setTop (mkF m_ 19 #[.val (.ref a)] [(.int (0 : Int32))])) t_
          simp only [if_neg hc11] at k_
          exact k_
      refine jn11 _ ?_
      show Steps p_.tables e_ below (T2.setTop (mkF m_ 19 #[.val (.ref a)] [(.int (if a = s6 then (1 : Int32) else 0))])) t_
      exact k_
    refine own_retN X2 hx hlk (t := .boolean) hret (by simp) (hb hby dprog_18_method_4_code_19) (by decide) (by decide) ?_
    rw [e2]
    have hz : nar .boolean (if a = s6 then (1 : Int32) else 0) = (if a = s6 then (1 : Int32) else 0) := own_nz (by first | exact Or.inl rfl | exact Or.inr rfl | (repeat' split) <;> first | exact Or.inl rfl | exact Or.inr rfl)
    rw [hz]
    exact ⟨by simp only [f2, if_neg hc4], N0, rfl⟩
def own_k (xx : Int32) : Int32 := ((xx &&& (2147483647 : Int32)) % (7 : Int32))
theorem own_pd0 : parseMethodDescriptor "()Z" = some ⟨[], some .boolean⟩ := by decide +kernel
theorem ef_rm0 (m_ : MethodId) (xx : Int32) : entryFrame m_ #[(.int xx)] maxLocals = mkF m_ 0 #[.val (.int xx), .unset, .unset, .unset, .unset, .unset, .unset, .unset, .unset] [] := by first | (simp [entryFrame, mkF, argsToLocals, Value.category, maxLocals]; done) | rfl
theorem own_pn1 : plainName "com/example/refinement_flow_checker/refinementflowchecker/checker/VerdictViolationPinLaw" = true := by first | (simp [plainName, overriddenIn]; done) | decide +kernel
set_option maxRecDepth 65536 in
set_option maxHeartbeats 40000000 in
theorem rm0 (l : Launch) (Z : State) (a0 : Array Value) (hw : ∀ d ∈ tables_1, d.before a0 Z = true) (xx : Int32) (w0 w1 w2 w3 w4 w5 w6 : Addr) (h0 : Heap) (n0 : Nat) (Z0 : n0 ≤ h0.size) (S_COMPLETE : Sta Z h0 "com/example/refinement_flow_checker/refinementflowchecker/checker/Exploration$Verdict" "COMPLETE" "Lcom/example/refinement_flow_checker/refinementflowchecker/checker/Exploration$Verdict;" (.ref w0)) (S_INVARIANT_VIOLATED : Sta Z h0 "com/example/refinement_flow_checker/refinementflowchecker/checker/Exploration$Verdict" "INVARIANT_VIOLATED" "Lcom/example/refinement_flow_checker/refinementflowchecker/checker/Exploration$Verdict;" (.ref w1)) (S_DEADLOCK_REACHED : Sta Z h0 "com/example/refinement_flow_checker/refinementflowchecker/checker/Exploration$Verdict" "DEADLOCK_REACHED" "Lcom/example/refinement_flow_checker/refinementflowchecker/checker/Exploration$Verdict;" (.ref w2)) (S_UNDEFINED : Sta Z h0 "com/example/refinement_flow_checker/refinementflowchecker/checker/Exploration$Verdict" "UNDEFINED" "Lcom/example/refinement_flow_checker/refinementflowchecker/checker/Exploration$Verdict;" (.ref w3)) (S_REFINEMENT_VIOLATED : Sta Z h0 "com/example/refinement_flow_checker/refinementflowchecker/checker/Exploration$Verdict" "REFINEMENT_VIOLATED" "Lcom/example/refinement_flow_checker/refinementflowchecker/checker/Exploration$Verdict;" (.ref w4)) (S_STATE_BOUND_REACHED : Sta Z h0 "com/example/refinement_flow_checker/refinementflowchecker/checker/Exploration$Verdict" "STATE_BOUND_REACHED" "Lcom/example/refinement_flow_checker/refinementflowchecker/checker/Exploration$Verdict;" (.ref w5)) (S_MEMORY_EXHAUSTED : Sta Z h0 "com/example/refinement_flow_checker/refinementflowchecker/checker/Exploration$Verdict" "MEMORY_EXHAUSTED" "Lcom/example/refinement_flow_checker/refinementflowchecker/checker/Exploration$Verdict;" (.ref w6)) (E_w0 : Exa Z h0 w0 "com/example/refinement_flow_checker/refinementflowchecker/checker/Exploration$Verdict") (E_w1 : Exa Z h0 w1 "com/example/refinement_flow_checker/refinementflowchecker/checker/Exploration$Verdict") (E_w2 : Exa Z h0 w2 "com/example/refinement_flow_checker/refinementflowchecker/checker/Exploration$Verdict") (E_w3 : Exa Z h0 w3 "com/example/refinement_flow_checker/refinementflowchecker/checker/Exploration$Verdict") (E_w4 : Exa Z h0 w4 "com/example/refinement_flow_checker/refinementflowchecker/checker/Exploration$Verdict") (E_w5 : Exa Z h0 w5 "com/example/refinement_flow_checker/refinementflowchecker/checker/Exploration$Verdict") (E_w6 : Exa Z h0 w6 "com/example/refinement_flow_checker/refinementflowchecker/checker/Exploration$Verdict") (ne_0_1 : w0 ≠ w1) (ne_0_2 : w0 ≠ w2) (ne_0_3 : w0 ≠ w3) (ne_0_4 : w0 ≠ w4) (ne_0_5 : w0 ≠ w5) (ne_0_6 : w0 ≠ w6) (ne_1_2 : w1 ≠ w2) (ne_1_3 : w1 ≠ w3) (ne_1_4 : w1 ≠ w4) (ne_1_5 : w1 ≠ w5) (ne_1_6 : w1 ≠ w6) (ne_2_3 : w2 ≠ w3) (ne_2_4 : w2 ≠ w4) (ne_2_5 : w2 ≠ w5) (ne_2_6 : w2 ≠ w6) (ne_3_4 : w3 ≠ w4) (ne_3_5 : w3 ≠ w5) (ne_3_6 : w3 ≠ w6) (ne_4_5 : w4 ≠ w5) (ne_4_6 : w4 ≠ w6) (ne_5_6 : w5 ≠ w6) :
    own_Met l Z x code maxLocals ret room_1 #[(.int xx)] h0 (fun v h L => v = some (.int 1) ∧ Fr n0 L) := by
  refine own_body #[.val (.int xx), .unset, .unset, .unset, .unset, .unset, .unset, .unset, .unset] (plainFor_of_name own_pn1) (fun m_ => ef_rm0 m_ xx) ?_
  intro p_ e_ s_ m_ below meth c_ s₁ X0 hx hby hml hret hlk hZ hown hnm e0
  have N0 := Fr.nil n0
  show own_Out p_ e_ below s_ _ _ _ s₁ (mkF m_ 0 #[.val (.int xx), .unset, .unset, .unset, .unset, .unset, .unset, .unset, .unset] [])
  refine own_st s₁ (mkF m_ 9 #[.val (.int xx), .val (.int (own_k xx)), .unset, .unset, .unset, .unset, .unset, .unset, .unset] [(.int (own_k xx))]) (fun t_ k_ => ?_) ?_
  · refine XS.iloadN X0.here hx rfl (hb hby at_0) rfl ?_
    show Steps p_.tables e_ below (s₁.setTop (mkF m_ 1 #[.val (.int xx), .unset, .unset, .unset, .unset, .unset, .unset, .unset, .unset] [(.int xx)])) t_
    refine X0.ldcInt hx hown (mvT hZ (hw _ (List.mem_of_getElem? (i := 0) rfl))) (g := (mkF m_ 1 #[.val (.int xx), .unset, .unset, .unset, .unset, .unset, .unset, .unset, .unset] [(.int xx)])) rfl (hb hby at_1) _ ?_
    show Steps p_.tables e_ below (s₁.setTop (mkF m_ 3 #[.val (.int xx), .unset, .unset, .unset, .unset, .unset, .unset, .unset, .unset] [(.int (2147483647 : Int32)), (.int xx)])) t_
    refine XS.iand X0.here hx rfl (hb hby at_3) rfl ?_
    show Steps p_.tables e_ below (s₁.setTop (mkF m_ 4 #[.val (.int xx), .unset, .unset, .unset, .unset, .unset, .unset, .unset, .unset] [(.int (xx &&& (2147483647 : Int32)))])) t_
    refine XS.bipush X0.here hx rfl (hb hby at_4) ?_
    show Steps p_.tables e_ below (s₁.setTop (mkF m_ 6 #[.val (.int xx), .unset, .unset, .unset, .unset, .unset, .unset, .unset, .unset] [(.int (7 : Int32)), (.int (xx &&& (2147483647 : Int32)))])) t_
    refine iremM X0 hx rfl (hb hby at_6) rfl (by decide) ?_
    show Steps p_.tables e_ below (s₁.setTop (mkF m_ 7 #[.val (.int xx), .unset, .unset, .unset, .unset, .unset, .unset, .unset, .unset] [(.int (own_k xx))])) t_
    refine XS.istoreN X0.here hx rfl (hb hby at_7) rfl (l' := #[.val (.int xx), .val (.int (own_k xx)), .unset, .unset, .unset, .unset, .unset, .unset, .unset]) rfl ?_
    show Steps p_.tables e_ below (s₁.setTop (mkF m_ 8 #[.val (.int xx), .val (.int (own_k xx)), .unset, .unset, .unset, .unset, .unset, .unset, .unset] [])) t_
    refine XS.iloadN X0.here hx rfl (hb hby at_8) rfl ?_
    show Steps p_.tables e_ below (s₁.setTop (mkF m_ 9 #[.val (.int xx), .val (.int (own_k xx)), .unset, .unset, .unset, .unset, .unset, .unset, .unset] [(.int (own_k xx))])) t_
    exact k_
  by_cases hc9 : (own_k xx) = (0 : Int32)
  · refine own_st s₁ (mkF m_ 12 #[.val (.int xx), .val (.int (own_k xx)), .unset, .unset, .unset, .unset, .unset, .unset, .unset] []) (fun t_ k_ => XS.ifNo X0.here hx rfl (hb hby at_9) rfl ((if0 _ _).trans (teq hc9).2) k_) ?_
    obtain ⟨T1, X1, e1, st1⟩ := getS2 X0 hx hZ hown (host := "") (Or.inl (hw _ (List.mem_of_getElem? (i := 1) rfl))) Via.refl e0 S_COMPLETE (g := (mkF m_ 12 #[.val (.int xx), .val (.int (own_k xx)), .unset, .unset, .unset, .unset, .unset, .unset, .unset] [])) rfl (hb hby at_12)
    refine own_st T1 (mkF m_ 15 #[.val (.int xx), .val (.int (own_k xx)), .unset, .unset, .unset, .unset, .unset, .unset, .unset] [(.ref w0)]) st1 ?_
    refine own_st T1 (mkF m_ 98 #[.val (.int xx), .val (.int (own_k xx)), .val (.ref w0), .val (.int (0 : Int32)), .unset, .unset, .unset, .unset, .unset] [(.ref w0)]) (fun t_ k_ => ?_) ?_
    · refine XS.astoreN X1.here hx rfl (hb hby at_15) rfl rfl (l' := #[.val (.int xx), .val (.int (own_k xx)), .val (.ref w0), .unset, .unset, .unset, .unset, .unset, .unset]) rfl ?_
      show Steps p_.tables e_ below (T1.setTop (mkF m_ 16 #[.val (.int xx), .val (.int (own_k xx)), .val (.ref w0), .unset, .unset, .unset, .unset, .unset, .unset] [])) t_
      refine XS.iconst X1.here hx rfl (hb hby at_16) ?_
      show Steps p_.tables e_ below (T1.setTop (mkF m_ 17 #[.val (.int xx), .val (.int (own_k xx)), .val (.ref w0), .unset, .unset, .unset, .unset, .unset, .unset] [(.int (0 : Int32))])) t_
      refine XS.istoreN X1.here hx rfl (hb hby at_17) rfl (l' := #[.val (.int xx), .val (.int (own_k xx)), .val (.ref w0), .val (.int (0 : Int32)), .unset, .unset, .unset, .unset, .unset]) rfl ?_
      show Steps p_.tables e_ below (T1.setTop (mkF m_ 18 #[.val (.int xx), .val (.int (own_k xx)), .val (.ref w0), .val (.int (0 : Int32)), .unset, .unset, .unset, .unset, .unset] [])) t_
      refine XS.goto X1.here hx rfl (pc0 := 18) (pc' := 97) rfl (hb hby at_18) (by decide) (by decide) ?_
      show Steps p_.tables e_ below (T1.setTop (mkF m_ 97 #[.val (.int xx), .val (.int (own_k xx)), .val (.ref w0), .val (.int (0 : Int32)), .unset, .unset, .unset, .unset, .unset] [])) t_
      refine XS.aloadN X1.here hx rfl (hb hby at_97) rfl rfl ?_
      show Steps p_.tables e_ below (T1.setTop (mkF m_ 98 #[.val (.int xx), .val (.int (own_k xx)), .val (.ref w0), .val (.int (0 : Int32)), .unset, .unset, .unset, .unset, .unset] [(.ref w0)])) t_
      exact k_
    refine own_callV X1 hx hZ (y := (⟨"com/example/refinement_flow_checker/refinementflowchecker/checker/Exploration$Verdict", "violation", "()Z"⟩ : MethodName)) (z := (⟨"com/example/refinement_flow_checker/refinementflowchecker/checker/Exploration$Verdict", "violation", "()Z"⟩ : MethodName)) hown (hw _ (List.mem_of_getElem? (i := 4) rfl)) (hw _ (List.mem_of_getElem? (i := 5) rfl)) (notFace_of_selects (args := #[]) (mvT hZ (hw _ (List.mem_of_getElem? (i := 7) rfl)))) (hw _ (List.mem_of_getElem? (i := 7) rfl)) (hw _ (List.mem_of_getElem? (i := 6) rfl)) (hw _ (List.mem_of_getElem? (i := 2) rfl)) (hw _ (List.mem_of_getElem? (i := 8) rfl)) (by decide) w0 [] [] E_w0 (rm1 l Z a0 hw w0 w1 w2 w3 w4 h0 n0 Z0 S_INVARIANT_VIOLATED S_DEADLOCK_REACHED S_UNDEFINED S_REFINEMENT_VIOLATED) 0 (by decide) (by decide) e1 (by rw [hml]; rfl) (lenOf own_pd0 rfl) rfl (Nat.le_of_eq rfl) (hb hby at_98) (by decide) (by decide) ?_
    intro v2 T2 L2 X2 q2
    obtain ⟨rfl, N2q, e2⟩ := q2
    have N2 := Fr.app N0 N2q
    rw [show f1 w0 w1 w2 w3 w4 = 0 from by simp [f1, ne_0_1, ne_0_2, ne_0_3, ne_0_4]]
    show own_Out p_ e_ below s_ _ _ _ T2 (mkF m_ 101 #[.val (.int xx), .val (.int (own_k xx)), .val (.ref w0), .val (.int (0 : Int32)), .unset, .unset, .unset, .unset, .unset] [(.int (0 : Int32))])
    refine own_st T2 (mkF m_ 104 #[.val (.int xx), .val (.int (own_k xx)), .val (.ref w0), .val (.int (0 : Int32)), .val (.int (0 : Int32)), .unset, .unset, .unset, .unset] [(.ref w0)]) (fun t_ k_ => ?_) ?_
    · refine XS.istore X2.here hx rfl (hb hby at_101) rfl (l' := #[.val (.int xx), .val (.int (own_k xx)), .val (.ref w0), .val (.int (0 : Int32)), .val (.int (0 : Int32)), .unset, .unset, .unset, .unset]) rfl ?_
      show Steps p_.tables e_ below (T2.setTop (mkF m_ 103 #[.val (.int xx), .val (.int (own_k xx)), .val (.ref w0), .val (.int (0 : Int32)), .val (.int (0 : Int32)), .unset, .unset, .unset, .unset] [])) t_
      refine XS.aloadN X2.here hx rfl (hb hby at_103) rfl rfl ?_
      show Steps p_.tables e_ below (T2.setTop (mkF m_ 104 #[.val (.int xx), .val (.int (own_k xx)), .val (.ref w0), .val (.int (0 : Int32)), .val (.int (0 : Int32)), .unset, .unset, .unset, .unset] [(.ref w0)])) t_
      exact k_
    refine own_callV X2 hx hZ (y := (⟨"com/example/refinement_flow_checker/refinementflowchecker/checker/Exploration$Verdict", "incomplete", "()Z"⟩ : MethodName)) (z := (⟨"com/example/refinement_flow_checker/refinementflowchecker/checker/Exploration$Verdict", "incomplete", "()Z"⟩ : MethodName)) hown (hw _ (List.mem_of_getElem? (i := 17) rfl)) (hw _ (List.mem_of_getElem? (i := 18) rfl)) (notFace_of_selects (args := #[]) (mvT hZ (hw _ (List.mem_of_getElem? (i := 20) rfl)))) (hw _ (List.mem_of_getElem? (i := 20) rfl)) (hw _ (List.mem_of_getElem? (i := 19) rfl)) (hw _ (List.mem_of_getElem? (i := 2) rfl)) (hw _ (List.mem_of_getElem? (i := 21) rfl)) (by decide) w0 [] [] E_w0 (rm2 l Z a0 hw w0 w5 w6 h0 n0 Z0 S_STATE_BOUND_REACHED S_MEMORY_EXHAUSTED) 0 (by decide) (by decide) e2 (by rw [hml]; rfl) (lenOf own_pd0 rfl) rfl (Nat.le_of_eq rfl) (hb hby at_104) (by decide) (by decide) ?_
    intro v3 T3 L3 X3 q3
    obtain ⟨rfl, N3q, e3⟩ := q3
    have N3 := Fr.app N2 N3q
    rw [show f2 w0 w5 w6 = 0 from by simp [f2, ne_0_5, ne_0_6]]
    show own_Out p_ e_ below s_ _ _ _ T3 (mkF m_ 107 #[.val (.int xx), .val (.int (own_k xx)), .val (.ref w0), .val (.int (0 : Int32)), .val (.int (0 : Int32)), .unset, .unset, .unset, .unset] [(.int (0 : Int32))])
    refine own_st T3 (mkF m_ 150 #[.val (.int xx), .val (.int (own_k xx)), .val (.ref w0), .val (.int (0 : Int32)), .val (.int (0 : Int32)), .val (.int (0 : Int32)), .val (.int (1 : Int32)), .val (.int (1 : Int32)), .unset] [(.ref w0)]) (fun t_ k_ => ?_) ?_
    · refine XS.istore X3.here hx rfl (hb hby at_107) rfl (l' := #[.val (.int xx), .val (.int (own_k xx)), .val (.ref w0), .val (.int (0 : Int32)), .val (.int (0 : Int32)), .val (.int (0 : Int32)), .unset, .unset, .unset]) rfl ?_
      show Steps p_.tables e_ below (T3.setTop (mkF m_ 109 #[.val (.int xx), .val (.int (own_k xx)), .val (.ref w0), .val (.int (0 : Int32)), .val (.int (0 : Int32)), .val (.int (0 : Int32)), .unset, .unset, .unset] [])) t_
      refine XS.iload X3.here hx rfl (hb hby at_109) rfl ?_
      show Steps p_.tables e_ below (T3.setTop (mkF m_ 111 #[.val (.int xx), .val (.int (own_k xx)), .val (.ref w0), .val (.int (0 : Int32)), .val (.int (0 : Int32)), .val (.int (0 : Int32)), .unset, .unset, .unset] [(.int (0 : Int32))])) t_
      refine XS.iloadN X3.here hx rfl (hb hby at_111) rfl ?_
      show Steps p_.tables e_ below (T3.setTop (mkF m_ 112 #[.val (.int xx), .val (.int (own_k xx)), .val (.ref w0), .val (.int (0 : Int32)), .val (.int (0 : Int32)), .val (.int (0 : Int32)), .unset, .unset, .unset] [(.int (0 : Int32)), (.int (0 : Int32))])) t_
      refine XS.icmpNo X3.here hx rfl (hb hby at_112) rfl (teq (by decide : (0 : Int32) = (0 : Int32))).2 ?_
      show Steps p_.tables e_ below (T3.setTop (mkF m_ 115 #[.val (.int xx), .val (.int (own_k xx)), .val (.ref w0), .val (.int (0 : Int32)), .val (.int (0 : Int32)), .val (.int (0 : Int32)), .unset, .unset, .unset] [])) t_
      refine XS.iconst X3.here hx rfl (hb hby at_115) ?_
      show Steps p_.tables e_ below (T3.setTop (mkF m_ 116 #[.val (.int xx), .val (.int (own_k xx)), .val (.ref w0), .val (.int (0 : Int32)), .val (.int (0 : Int32)), .val (.int (0 : Int32)), .unset, .unset, .unset] [(.int (1 : Int32))])) t_
      refine XS.goto X3.here hx rfl (pc0 := 116) (pc' := 120) rfl (hb hby at_116) (by decide) (by decide) ?_
      show Steps p_.tables e_ below (T3.setTop (mkF m_ 120 #[.val (.int xx), .val (.int (own_k xx)), .val (.ref w0), .val (.int (0 : Int32)), .val (.int (0 : Int32)), .val (.int (0 : Int32)), .unset, .unset, .unset] [(.int (1 : Int32))])) t_
      refine XS.istore X3.here hx rfl (hb hby at_120) rfl (l' := #[.val (.int xx), .val (.int (own_k xx)), .val (.ref w0), .val (.int (0 : Int32)), .val (.int (0 : Int32)), .val (.int (0 : Int32)), .val (.int (1 : Int32)), .unset, .unset]) rfl ?_
      show Steps p_.tables e_ below (T3.setTop (mkF m_ 122 #[.val (.int xx), .val (.int (own_k xx)), .val (.ref w0), .val (.int (0 : Int32)), .val (.int (0 : Int32)), .val (.int (0 : Int32)), .val (.int (1 : Int32)), .unset, .unset] [])) t_
      refine XS.iload X3.here hx rfl (hb hby at_122) rfl ?_
      show Steps p_.tables e_ below (T3.setTop (mkF m_ 124 #[.val (.int xx), .val (.int (own_k xx)), .val (.ref w0), .val (.int (0 : Int32)), .val (.int (0 : Int32)), .val (.int (0 : Int32)), .val (.int (1 : Int32)), .unset, .unset] [(.int (0 : Int32))])) t_
      refine XS.ifYes X3.here hx rfl (pc0 := 124) (pc' := 132) rfl (hb hby at_124) rfl ((if0 _ _).trans (teq (by decide : (0 : Int32) = (0 : Int32))).1) (by decide) (by decide) ?_
      show Steps p_.tables e_ below (T3.setTop (mkF m_ 132 #[.val (.int xx), .val (.int (own_k xx)), .val (.ref w0), .val (.int (0 : Int32)), .val (.int (0 : Int32)), .val (.int (0 : Int32)), .val (.int (1 : Int32)), .unset, .unset] [])) t_
      refine XS.iconst X3.here hx rfl (hb hby at_132) ?_
      show Steps p_.tables e_ below (T3.setTop (mkF m_ 133 #[.val (.int xx), .val (.int (own_k xx)), .val (.ref w0), .val (.int (0 : Int32)), .val (.int (0 : Int32)), .val (.int (0 : Int32)), .val (.int (1 : Int32)), .unset, .unset] [(.int (1 : Int32))])) t_
      refine XS.goto X3.here hx rfl (pc0 := 133) (pc' := 137) rfl (hb hby at_133) (by decide) (by decide) ?_
      show Steps p_.tables e_ below (T3.setTop (mkF m_ 137 #[.val (.int xx), .val (.int (own_k xx)), .val (.ref w0), .val (.int (0 : Int32)), .val (.int (0 : Int32)), .val (.int (0 : Int32)), .val (.int (1 : Int32)), .unset, .unset] [(.int (1 : Int32))])) t_
      refine XS.istore X3.here hx rfl (hb hby at_137) rfl (l' := #[.val (.int xx), .val (.int (own_k xx)), .val (.ref w0), .val (.int (0 : Int32)), .val (.int (0 : Int32)), .val (.int (0 : Int32)), .val (.int (1 : Int32)), .val (.int (1 : Int32)), .unset]) rfl ?_
      show Steps p_.tables e_ below (T3.setTop (mkF m_ 139 #[.val (.int xx), .val (.int (own_k xx)), .val (.ref w0), .val (.int (0 : Int32)), .val (.int (0 : Int32)), .val (.int (0 : Int32)), .val (.int (1 : Int32)), .val (.int (1 : Int32)), .unset] [])) t_
      refine XS.iload X3.here hx rfl (hb hby at_139) rfl ?_
      show Steps p_.tables e_ below (T3.setTop (mkF m_ 141 #[.val (.int xx), .val (.int (own_k xx)), .val (.ref w0), .val (.int (0 : Int32)), .val (.int (0 : Int32)), .val (.int (0 : Int32)), .val (.int (1 : Int32)), .val (.int (1 : Int32)), .unset] [(.int (0 : Int32))])) t_
      refine XS.ifNo X3.here hx rfl (hb hby at_141) rfl ((if0 _ _).trans (teq (by decide : (0 : Int32) = (0 : Int32))).2) ?_
      show Steps p_.tables e_ below (T3.setTop (mkF m_ 144 #[.val (.int xx), .val (.int (own_k xx)), .val (.ref w0), .val (.int (0 : Int32)), .val (.int (0 : Int32)), .val (.int (0 : Int32)), .val (.int (1 : Int32)), .val (.int (1 : Int32)), .unset] [])) t_
      refine XS.iload X3.here hx rfl (hb hby at_144) rfl ?_
      show Steps p_.tables e_ below (T3.setTop (mkF m_ 146 #[.val (.int xx), .val (.int (own_k xx)), .val (.ref w0), .val (.int (0 : Int32)), .val (.int (0 : Int32)), .val (.int (0 : Int32)), .val (.int (1 : Int32)), .val (.int (1 : Int32)), .unset] [(.int (0 : Int32))])) t_
      refine XS.ifNo X3.here hx rfl (hb hby at_146) rfl ((if0 _ _).trans (teq (by decide : (0 : Int32) = (0 : Int32))).2) ?_
      show Steps p_.tables e_ below (T3.setTop (mkF m_ 149 #[.val (.int xx), .val (.int (own_k xx)), .val (.ref w0), .val (.int (0 : Int32)), .val (.int (0 : Int32)), .val (.int (0 : Int32)), .val (.int (1 : Int32)), .val (.int (1 : Int32)), .unset] [])) t_
      refine XS.aloadN X3.here hx rfl (hb hby at_149) rfl rfl ?_
      show Steps p_.tables e_ below (T3.setTop (mkF m_ 150 #[.val (.int xx), .val (.int (own_k xx)), .val (.ref w0), .val (.int (0 : Int32)), .val (.int (0 : Int32)), .val (.int (0 : Int32)), .val (.int (1 : Int32)), .val (.int (1 : Int32)), .unset] [(.ref w0)])) t_
      exact k_
    obtain ⟨T4, X4, e4, st4⟩ := getS2 X3 hx hZ hown (host := "") (Or.inl (hw _ (List.mem_of_getElem? (i := 1) rfl))) Via.refl e3 S_COMPLETE (g := (mkF m_ 150 #[.val (.int xx), .val (.int (own_k xx)), .val (.ref w0), .val (.int (0 : Int32)), .val (.int (0 : Int32)), .val (.int (0 : Int32)), .val (.int (1 : Int32)), .val (.int (1 : Int32)), .unset] [(.ref w0)])) rfl (hb hby at_150)
    refine own_st T4 (mkF m_ 153 #[.val (.int xx), .val (.int (own_k xx)), .val (.ref w0), .val (.int (0 : Int32)), .val (.int (0 : Int32)), .val (.int (0 : Int32)), .val (.int (1 : Int32)), .val (.int (1 : Int32)), .unset] [(.ref w0), (.ref w0)]) st4 ?_
    refine own_st T4 (mkF m_ 183 #[.val (.int xx), .val (.int (own_k xx)), .val (.ref w0), .val (.int (0 : Int32)), .val (.int (0 : Int32)), .val (.int (0 : Int32)), .val (.int (1 : Int32)), .val (.int (1 : Int32)), .val (.int (1 : Int32))] [(.int (1 : Int32))]) (fun t_ k_ => ?_) ?_
    · refine Jvm.RoadKit.acmp (g := (mkF m_ 153 #[.val (.int xx), .val (.int (own_k xx)), .val (.ref w0), .val (.int (0 : Int32)), .val (.int (0 : Int32)), .val (.int (0 : Int32)), .val (.int (1 : Int32)), .val (.int (1 : Int32)), .unset] [(.ref w0), (.ref w0)])) X4 hx rfl rfl rfl (pc0 := 153) (pc' := 156) (same := true) rfl (hb hby at_153) rfl (decide_eq_true rfl) (by decide) (by decide) ?_
      show Steps p_.tables e_ below (T4.setTop (mkF m_ 156 #[.val (.int xx), .val (.int (own_k xx)), .val (.ref w0), .val (.int (0 : Int32)), .val (.int (0 : Int32)), .val (.int (0 : Int32)), .val (.int (1 : Int32)), .val (.int (1 : Int32)), .unset] [])) t_
      refine XS.iconst X4.here hx rfl (hb hby at_156) ?_
      show Steps p_.tables e_ below (T4.setTop (mkF m_ 157 #[.val (.int xx), .val (.int (own_k xx)), .val (.ref w0), .val (.int (0 : Int32)), .val (.int (0 : Int32)), .val (.int (0 : Int32)), .val (.int (1 : Int32)), .val (.int (1 : Int32)), .unset] [(.int (1 : Int32))])) t_
      refine XS.goto X4.here hx rfl (pc0 := 157) (pc' := 161) rfl (hb hby at_157) (by decide) (by decide) ?_
      show Steps p_.tables e_ below (T4.setTop (mkF m_ 161 #[.val (.int xx), .val (.int (own_k xx)), .val (.ref w0), .val (.int (0 : Int32)), .val (.int (0 : Int32)), .val (.int (0 : Int32)), .val (.int (1 : Int32)), .val (.int (1 : Int32)), .unset] [(.int (1 : Int32))])) t_
      refine XS.istore X4.here hx rfl (hb hby at_161) rfl (l' := #[.val (.int xx), .val (.int (own_k xx)), .val (.ref w0), .val (.int (0 : Int32)), .val (.int (0 : Int32)), .val (.int (0 : Int32)), .val (.int (1 : Int32)), .val (.int (1 : Int32)), .val (.int (1 : Int32))]) rfl ?_
      show Steps p_.tables e_ below (T4.setTop (mkF m_ 163 #[.val (.int xx), .val (.int (own_k xx)), .val (.ref w0), .val (.int (0 : Int32)), .val (.int (0 : Int32)), .val (.int (0 : Int32)), .val (.int (1 : Int32)), .val (.int (1 : Int32)), .val (.int (1 : Int32))] [])) t_
      refine XS.iload X4.here hx rfl (hb hby at_163) rfl ?_
      show Steps p_.tables e_ below (T4.setTop (mkF m_ 165 #[.val (.int xx), .val (.int (own_k xx)), .val (.ref w0), .val (.int (0 : Int32)), .val (.int (0 : Int32)), .val (.int (0 : Int32)), .val (.int (1 : Int32)), .val (.int (1 : Int32)), .val (.int (1 : Int32))] [(.int (1 : Int32))])) t_
      refine XS.ifNo X4.here hx rfl (hb hby at_165) rfl ((if0 _ _).trans (feq (by decide : ¬ ((1 : Int32) = (0 : Int32)))).1) ?_
      show Steps p_.tables e_ below (T4.setTop (mkF m_ 168 #[.val (.int xx), .val (.int (own_k xx)), .val (.ref w0), .val (.int (0 : Int32)), .val (.int (0 : Int32)), .val (.int (0 : Int32)), .val (.int (1 : Int32)), .val (.int (1 : Int32)), .val (.int (1 : Int32))] [])) t_
      refine XS.iload X4.here hx rfl (hb hby at_168) rfl ?_
      show Steps p_.tables e_ below (T4.setTop (mkF m_ 170 #[.val (.int xx), .val (.int (own_k xx)), .val (.ref w0), .val (.int (0 : Int32)), .val (.int (0 : Int32)), .val (.int (0 : Int32)), .val (.int (1 : Int32)), .val (.int (1 : Int32)), .val (.int (1 : Int32))] [(.int (1 : Int32))])) t_
      refine XS.ifNo X4.here hx rfl (hb hby at_170) rfl ((if0 _ _).trans (feq (by decide : ¬ ((1 : Int32) = (0 : Int32)))).1) ?_
      show Steps p_.tables e_ below (T4.setTop (mkF m_ 173 #[.val (.int xx), .val (.int (own_k xx)), .val (.ref w0), .val (.int (0 : Int32)), .val (.int (0 : Int32)), .val (.int (0 : Int32)), .val (.int (1 : Int32)), .val (.int (1 : Int32)), .val (.int (1 : Int32))] [])) t_
      refine XS.iload X4.here hx rfl (hb hby at_173) rfl ?_
      show Steps p_.tables e_ below (T4.setTop (mkF m_ 175 #[.val (.int xx), .val (.int (own_k xx)), .val (.ref w0), .val (.int (0 : Int32)), .val (.int (0 : Int32)), .val (.int (0 : Int32)), .val (.int (1 : Int32)), .val (.int (1 : Int32)), .val (.int (1 : Int32))] [(.int (1 : Int32))])) t_
      refine XS.ifNo X4.here hx rfl (hb hby at_175) rfl ((if0 _ _).trans (feq (by decide : ¬ ((1 : Int32) = (0 : Int32)))).1) ?_
      show Steps p_.tables e_ below (T4.setTop (mkF m_ 178 #[.val (.int xx), .val (.int (own_k xx)), .val (.ref w0), .val (.int (0 : Int32)), .val (.int (0 : Int32)), .val (.int (0 : Int32)), .val (.int (1 : Int32)), .val (.int (1 : Int32)), .val (.int (1 : Int32))] [])) t_
      refine XS.iconst X4.here hx rfl (hb hby at_178) ?_
      show Steps p_.tables e_ below (T4.setTop (mkF m_ 179 #[.val (.int xx), .val (.int (own_k xx)), .val (.ref w0), .val (.int (0 : Int32)), .val (.int (0 : Int32)), .val (.int (0 : Int32)), .val (.int (1 : Int32)), .val (.int (1 : Int32)), .val (.int (1 : Int32))] [(.int (1 : Int32))])) t_
      refine XS.goto X4.here hx rfl (pc0 := 179) (pc' := 183) rfl (hb hby at_179) (by decide) (by decide) ?_
      show Steps p_.tables e_ below (T4.setTop (mkF m_ 183 #[.val (.int xx), .val (.int (own_k xx)), .val (.ref w0), .val (.int (0 : Int32)), .val (.int (0 : Int32)), .val (.int (0 : Int32)), .val (.int (1 : Int32)), .val (.int (1 : Int32)), .val (.int (1 : Int32))] [(.int (1 : Int32))])) t_
      exact k_
    refine own_retN X4 hx hlk (t := .boolean) hret (by simp) (hb hby at_183) (by decide) (by decide) ?_
    exact ⟨rfl, N3⟩
  · refine own_st s₁ (mkF m_ 21 #[.val (.int xx), .val (.int (own_k xx)), .unset, .unset, .unset, .unset, .unset, .unset, .unset] []) (fun t_ k_ => XS.ifYes X0.here hx rfl (pc0 := 9) (pc' := 21) rfl (hb hby at_9) rfl ((if0 _ _).trans (feq hc9).2) (by decide) (by decide) k_) ?_
    refine own_st s₁ (mkF m_ 23 #[.val (.int xx), .val (.int (own_k xx)), .unset, .unset, .unset, .unset, .unset, .unset, .unset] [(.int (1 : Int32)), (.int (own_k xx))]) (fun t_ k_ => ?_) ?_
    · refine XS.iloadN X0.here hx rfl (hb hby at_21) rfl ?_
      show Steps p_.tables e_ below (s₁.setTop (mkF m_ 22 #[.val (.int xx), .val (.int (own_k xx)), .unset, .unset, .unset, .unset, .unset, .unset, .unset] [(.int (own_k xx))])) t_
      refine XS.iconst X0.here hx rfl (hb hby at_22) ?_
      show Steps p_.tables e_ below (s₁.setTop (mkF m_ 23 #[.val (.int xx), .val (.int (own_k xx)), .unset, .unset, .unset, .unset, .unset, .unset, .unset] [(.int (1 : Int32)), (.int (own_k xx))])) t_
      exact k_
    by_cases hc23 : (own_k xx) = (1 : Int32)
    · refine own_st s₁ (mkF m_ 26 #[.val (.int xx), .val (.int (own_k xx)), .unset, .unset, .unset, .unset, .unset, .unset, .unset] []) (fun t_ k_ => XS.icmpNo X0.here hx rfl (hb hby at_23) rfl (teq hc23).2 k_) ?_
      obtain ⟨T5, X5, e5, st5⟩ := getS2 X0 hx hZ hown (host := "") (Or.inl (hw _ (List.mem_of_getElem? (i := 31) rfl))) Via.refl e0 S_INVARIANT_VIOLATED (g := (mkF m_ 26 #[.val (.int xx), .val (.int (own_k xx)), .unset, .unset, .unset, .unset, .unset, .unset, .unset] [])) rfl (hb hby at_26)
      refine own_st T5 (mkF m_ 29 #[.val (.int xx), .val (.int (own_k xx)), .unset, .unset, .unset, .unset, .unset, .unset, .unset] [(.ref w1)]) st5 ?_
      refine own_st T5 (mkF m_ 98 #[.val (.int xx), .val (.int (own_k xx)), .val (.ref w1), .val (.int (1 : Int32)), .unset, .unset, .unset, .unset, .unset] [(.ref w1)]) (fun t_ k_ => ?_) ?_
      · refine XS.astoreN X5.here hx rfl (hb hby at_29) rfl rfl (l' := #[.val (.int xx), .val (.int (own_k xx)), .val (.ref w1), .unset, .unset, .unset, .unset, .unset, .unset]) rfl ?_
        show Steps p_.tables e_ below (T5.setTop (mkF m_ 30 #[.val (.int xx), .val (.int (own_k xx)), .val (.ref w1), .unset, .unset, .unset, .unset, .unset, .unset] [])) t_
        refine XS.iconst X5.here hx rfl (hb hby at_30) ?_
        show Steps p_.tables e_ below (T5.setTop (mkF m_ 31 #[.val (.int xx), .val (.int (own_k xx)), .val (.ref w1), .unset, .unset, .unset, .unset, .unset, .unset] [(.int (1 : Int32))])) t_
        refine XS.istoreN X5.here hx rfl (hb hby at_31) rfl (l' := #[.val (.int xx), .val (.int (own_k xx)), .val (.ref w1), .val (.int (1 : Int32)), .unset, .unset, .unset, .unset, .unset]) rfl ?_
        show Steps p_.tables e_ below (T5.setTop (mkF m_ 32 #[.val (.int xx), .val (.int (own_k xx)), .val (.ref w1), .val (.int (1 : Int32)), .unset, .unset, .unset, .unset, .unset] [])) t_
        refine XS.goto X5.here hx rfl (pc0 := 32) (pc' := 97) rfl (hb hby at_32) (by decide) (by decide) ?_
        show Steps p_.tables e_ below (T5.setTop (mkF m_ 97 #[.val (.int xx), .val (.int (own_k xx)), .val (.ref w1), .val (.int (1 : Int32)), .unset, .unset, .unset, .unset, .unset] [])) t_
        refine XS.aloadN X5.here hx rfl (hb hby at_97) rfl rfl ?_
        show Steps p_.tables e_ below (T5.setTop (mkF m_ 98 #[.val (.int xx), .val (.int (own_k xx)), .val (.ref w1), .val (.int (1 : Int32)), .unset, .unset, .unset, .unset, .unset] [(.ref w1)])) t_
        exact k_
      refine own_callV X5 hx hZ (y := (⟨"com/example/refinement_flow_checker/refinementflowchecker/checker/Exploration$Verdict", "violation", "()Z"⟩ : MethodName)) (z := (⟨"com/example/refinement_flow_checker/refinementflowchecker/checker/Exploration$Verdict", "violation", "()Z"⟩ : MethodName)) hown (hw _ (List.mem_of_getElem? (i := 4) rfl)) (hw _ (List.mem_of_getElem? (i := 5) rfl)) (notFace_of_selects (args := #[]) (mvT hZ (hw _ (List.mem_of_getElem? (i := 7) rfl)))) (hw _ (List.mem_of_getElem? (i := 7) rfl)) (hw _ (List.mem_of_getElem? (i := 6) rfl)) (hw _ (List.mem_of_getElem? (i := 2) rfl)) (hw _ (List.mem_of_getElem? (i := 8) rfl)) (by decide) w1 [] [] E_w1 (rm1 l Z a0 hw w1 w1 w2 w3 w4 h0 n0 Z0 S_INVARIANT_VIOLATED S_DEADLOCK_REACHED S_UNDEFINED S_REFINEMENT_VIOLATED) 0 (by decide) (by decide) e5 (by rw [hml]; rfl) (lenOf own_pd0 rfl) rfl (Nat.le_of_eq rfl) (hb hby at_98) (by decide) (by decide) ?_
      intro v6 T6 L6 X6 q6
      obtain ⟨rfl, N6q, e6⟩ := q6
      have N6 := Fr.app N0 N6q
      rw [show f1 w1 w1 w2 w3 w4 = 1 from by simp [f1, ne_1_2, ne_1_3, ne_1_4]]
      show own_Out p_ e_ below s_ _ _ _ T6 (mkF m_ 101 #[.val (.int xx), .val (.int (own_k xx)), .val (.ref w1), .val (.int (1 : Int32)), .unset, .unset, .unset, .unset, .unset] [(.int (1 : Int32))])
      refine own_st T6 (mkF m_ 104 #[.val (.int xx), .val (.int (own_k xx)), .val (.ref w1), .val (.int (1 : Int32)), .val (.int (1 : Int32)), .unset, .unset, .unset, .unset] [(.ref w1)]) (fun t_ k_ => ?_) ?_
      · refine XS.istore X6.here hx rfl (hb hby at_101) rfl (l' := #[.val (.int xx), .val (.int (own_k xx)), .val (.ref w1), .val (.int (1 : Int32)), .val (.int (1 : Int32)), .unset, .unset, .unset, .unset]) rfl ?_
        show Steps p_.tables e_ below (T6.setTop (mkF m_ 103 #[.val (.int xx), .val (.int (own_k xx)), .val (.ref w1), .val (.int (1 : Int32)), .val (.int (1 : Int32)), .unset, .unset, .unset, .unset] [])) t_
        refine XS.aloadN X6.here hx rfl (hb hby at_103) rfl rfl ?_
        show Steps p_.tables e_ below (T6.setTop (mkF m_ 104 #[.val (.int xx), .val (.int (own_k xx)), .val (.ref w1), .val (.int (1 : Int32)), .val (.int (1 : Int32)), .unset, .unset, .unset, .unset] [(.ref w1)])) t_
        exact k_
      refine own_callV X6 hx hZ (y := (⟨"com/example/refinement_flow_checker/refinementflowchecker/checker/Exploration$Verdict", "incomplete", "()Z"⟩ : MethodName)) (z := (⟨"com/example/refinement_flow_checker/refinementflowchecker/checker/Exploration$Verdict", "incomplete", "()Z"⟩ : MethodName)) hown (hw _ (List.mem_of_getElem? (i := 17) rfl)) (hw _ (List.mem_of_getElem? (i := 18) rfl)) (notFace_of_selects (args := #[]) (mvT hZ (hw _ (List.mem_of_getElem? (i := 20) rfl)))) (hw _ (List.mem_of_getElem? (i := 20) rfl)) (hw _ (List.mem_of_getElem? (i := 19) rfl)) (hw _ (List.mem_of_getElem? (i := 2) rfl)) (hw _ (List.mem_of_getElem? (i := 21) rfl)) (by decide) w1 [] [] E_w1 (rm2 l Z a0 hw w1 w5 w6 h0 n0 Z0 S_STATE_BOUND_REACHED S_MEMORY_EXHAUSTED) 0 (by decide) (by decide) e6 (by rw [hml]; rfl) (lenOf own_pd0 rfl) rfl (Nat.le_of_eq rfl) (hb hby at_104) (by decide) (by decide) ?_
      intro v7 T7 L7 X7 q7
      obtain ⟨rfl, N7q, e7⟩ := q7
      have N7 := Fr.app N6 N7q
      rw [show f2 w1 w5 w6 = 0 from by simp [f2, ne_1_5, ne_1_6]]
      show own_Out p_ e_ below s_ _ _ _ T7 (mkF m_ 107 #[.val (.int xx), .val (.int (own_k xx)), .val (.ref w1), .val (.int (1 : Int32)), .val (.int (1 : Int32)), .unset, .unset, .unset, .unset] [(.int (0 : Int32))])
      refine own_st T7 (mkF m_ 183 #[.val (.int xx), .val (.int (own_k xx)), .val (.ref w1), .val (.int (1 : Int32)), .val (.int (1 : Int32)), .val (.int (0 : Int32)), .val (.int (1 : Int32)), .val (.int (1 : Int32)), .val (.int (1 : Int32))] [(.int (1 : Int32))]) (fun t_ k_ => ?_) ?_
      · refine XS.istore X7.here hx rfl (hb hby at_107) rfl (l' := #[.val (.int xx), .val (.int (own_k xx)), .val (.ref w1), .val (.int (1 : Int32)), .val (.int (1 : Int32)), .val (.int (0 : Int32)), .unset, .unset, .unset]) rfl ?_
        show Steps p_.tables e_ below (T7.setTop (mkF m_ 109 #[.val (.int xx), .val (.int (own_k xx)), .val (.ref w1), .val (.int (1 : Int32)), .val (.int (1 : Int32)), .val (.int (0 : Int32)), .unset, .unset, .unset] [])) t_
        refine XS.iload X7.here hx rfl (hb hby at_109) rfl ?_
        show Steps p_.tables e_ below (T7.setTop (mkF m_ 111 #[.val (.int xx), .val (.int (own_k xx)), .val (.ref w1), .val (.int (1 : Int32)), .val (.int (1 : Int32)), .val (.int (0 : Int32)), .unset, .unset, .unset] [(.int (1 : Int32))])) t_
        refine XS.iloadN X7.here hx rfl (hb hby at_111) rfl ?_
        show Steps p_.tables e_ below (T7.setTop (mkF m_ 112 #[.val (.int xx), .val (.int (own_k xx)), .val (.ref w1), .val (.int (1 : Int32)), .val (.int (1 : Int32)), .val (.int (0 : Int32)), .unset, .unset, .unset] [(.int (1 : Int32)), (.int (1 : Int32))])) t_
        refine XS.icmpNo X7.here hx rfl (hb hby at_112) rfl (teq (by decide : (1 : Int32) = (1 : Int32))).2 ?_
        show Steps p_.tables e_ below (T7.setTop (mkF m_ 115 #[.val (.int xx), .val (.int (own_k xx)), .val (.ref w1), .val (.int (1 : Int32)), .val (.int (1 : Int32)), .val (.int (0 : Int32)), .unset, .unset, .unset] [])) t_
        refine XS.iconst X7.here hx rfl (hb hby at_115) ?_
        show Steps p_.tables e_ below (T7.setTop (mkF m_ 116 #[.val (.int xx), .val (.int (own_k xx)), .val (.ref w1), .val (.int (1 : Int32)), .val (.int (1 : Int32)), .val (.int (0 : Int32)), .unset, .unset, .unset] [(.int (1 : Int32))])) t_
        refine XS.goto X7.here hx rfl (pc0 := 116) (pc' := 120) rfl (hb hby at_116) (by decide) (by decide) ?_
        show Steps p_.tables e_ below (T7.setTop (mkF m_ 120 #[.val (.int xx), .val (.int (own_k xx)), .val (.ref w1), .val (.int (1 : Int32)), .val (.int (1 : Int32)), .val (.int (0 : Int32)), .unset, .unset, .unset] [(.int (1 : Int32))])) t_
        refine XS.istore X7.here hx rfl (hb hby at_120) rfl (l' := #[.val (.int xx), .val (.int (own_k xx)), .val (.ref w1), .val (.int (1 : Int32)), .val (.int (1 : Int32)), .val (.int (0 : Int32)), .val (.int (1 : Int32)), .unset, .unset]) rfl ?_
        show Steps p_.tables e_ below (T7.setTop (mkF m_ 122 #[.val (.int xx), .val (.int (own_k xx)), .val (.ref w1), .val (.int (1 : Int32)), .val (.int (1 : Int32)), .val (.int (0 : Int32)), .val (.int (1 : Int32)), .unset, .unset] [])) t_
        refine XS.iload X7.here hx rfl (hb hby at_122) rfl ?_
        show Steps p_.tables e_ below (T7.setTop (mkF m_ 124 #[.val (.int xx), .val (.int (own_k xx)), .val (.ref w1), .val (.int (1 : Int32)), .val (.int (1 : Int32)), .val (.int (0 : Int32)), .val (.int (1 : Int32)), .unset, .unset] [(.int (1 : Int32))])) t_
        refine XS.ifNo X7.here hx rfl (hb hby at_124) rfl ((if0 _ _).trans (feq (by decide : ¬ ((1 : Int32) = (0 : Int32)))).1) ?_
        show Steps p_.tables e_ below (T7.setTop (mkF m_ 127 #[.val (.int xx), .val (.int (own_k xx)), .val (.ref w1), .val (.int (1 : Int32)), .val (.int (1 : Int32)), .val (.int (0 : Int32)), .val (.int (1 : Int32)), .unset, .unset] [])) t_
        refine XS.iload X7.here hx rfl (hb hby at_127) rfl ?_
        show Steps p_.tables e_ below (T7.setTop (mkF m_ 129 #[.val (.int xx), .val (.int (own_k xx)), .val (.ref w1), .val (.int (1 : Int32)), .val (.int (1 : Int32)), .val (.int (0 : Int32)), .val (.int (1 : Int32)), .unset, .unset] [(.int (0 : Int32))])) t_
        refine XS.ifNo X7.here hx rfl (hb hby at_129) rfl ((if0 _ _).trans (teq (by decide : (0 : Int32) = (0 : Int32))).2) ?_
        show Steps p_.tables e_ below (T7.setTop (mkF m_ 132 #[.val (.int xx), .val (.int (own_k xx)), .val (.ref w1), .val (.int (1 : Int32)), .val (.int (1 : Int32)), .val (.int (0 : Int32)), .val (.int (1 : Int32)), .unset, .unset] [])) t_
        refine XS.iconst X7.here hx rfl (hb hby at_132) ?_
        show Steps p_.tables e_ below (T7.setTop (mkF m_ 133 #[.val (.int xx), .val (.int (own_k xx)), .val (.ref w1), .val (.int (1 : Int32)), .val (.int (1 : Int32)), .val (.int (0 : Int32)), .val (.int (1 : Int32)), .unset, .unset] [(.int (1 : Int32))])) t_
        refine XS.goto X7.here hx rfl (pc0 := 133) (pc' := 137) rfl (hb hby at_133) (by decide) (by decide) ?_
        show Steps p_.tables e_ below (T7.setTop (mkF m_ 137 #[.val (.int xx), .val (.int (own_k xx)), .val (.ref w1), .val (.int (1 : Int32)), .val (.int (1 : Int32)), .val (.int (0 : Int32)), .val (.int (1 : Int32)), .unset, .unset] [(.int (1 : Int32))])) t_
        refine XS.istore X7.here hx rfl (hb hby at_137) rfl (l' := #[.val (.int xx), .val (.int (own_k xx)), .val (.ref w1), .val (.int (1 : Int32)), .val (.int (1 : Int32)), .val (.int (0 : Int32)), .val (.int (1 : Int32)), .val (.int (1 : Int32)), .unset]) rfl ?_
        show Steps p_.tables e_ below (T7.setTop (mkF m_ 139 #[.val (.int xx), .val (.int (own_k xx)), .val (.ref w1), .val (.int (1 : Int32)), .val (.int (1 : Int32)), .val (.int (0 : Int32)), .val (.int (1 : Int32)), .val (.int (1 : Int32)), .unset] [])) t_
        refine XS.iload X7.here hx rfl (hb hby at_139) rfl ?_
        show Steps p_.tables e_ below (T7.setTop (mkF m_ 141 #[.val (.int xx), .val (.int (own_k xx)), .val (.ref w1), .val (.int (1 : Int32)), .val (.int (1 : Int32)), .val (.int (0 : Int32)), .val (.int (1 : Int32)), .val (.int (1 : Int32)), .unset] [(.int (1 : Int32))])) t_
        refine XS.ifYes X7.here hx rfl (pc0 := 141) (pc' := 156) rfl (hb hby at_141) rfl ((if0 _ _).trans (feq (by decide : ¬ ((1 : Int32) = (0 : Int32)))).2) (by decide) (by decide) ?_
        show Steps p_.tables e_ below (T7.setTop (mkF m_ 156 #[.val (.int xx), .val (.int (own_k xx)), .val (.ref w1), .val (.int (1 : Int32)), .val (.int (1 : Int32)), .val (.int (0 : Int32)), .val (.int (1 : Int32)), .val (.int (1 : Int32)), .unset] [])) t_
        refine XS.iconst X7.here hx rfl (hb hby at_156) ?_
        show Steps p_.tables e_ below (T7.setTop (mkF m_ 157 #[.val (.int xx), .val (.int (own_k xx)), .val (.ref w1), .val (.int (1 : Int32)), .val (.int (1 : Int32)), .val (.int (0 : Int32)), .val (.int (1 : Int32)), .val (.int (1 : Int32)), .unset] [(.int (1 : Int32))])) t_
        refine XS.goto X7.here hx rfl (pc0 := 157) (pc' := 161) rfl (hb hby at_157) (by decide) (by decide) ?_
        show Steps p_.tables e_ below (T7.setTop (mkF m_ 161 #[.val (.int xx), .val (.int (own_k xx)), .val (.ref w1), .val (.int (1 : Int32)), .val (.int (1 : Int32)), .val (.int (0 : Int32)), .val (.int (1 : Int32)), .val (.int (1 : Int32)), .unset] [(.int (1 : Int32))])) t_
        refine XS.istore X7.here hx rfl (hb hby at_161) rfl (l' := #[.val (.int xx), .val (.int (own_k xx)), .val (.ref w1), .val (.int (1 : Int32)), .val (.int (1 : Int32)), .val (.int (0 : Int32)), .val (.int (1 : Int32)), .val (.int (1 : Int32)), .val (.int (1 : Int32))]) rfl ?_
        show Steps p_.tables e_ below (T7.setTop (mkF m_ 163 #[.val (.int xx), .val (.int (own_k xx)), .val (.ref w1), .val (.int (1 : Int32)), .val (.int (1 : Int32)), .val (.int (0 : Int32)), .val (.int (1 : Int32)), .val (.int (1 : Int32)), .val (.int (1 : Int32))] [])) t_
        refine XS.iload X7.here hx rfl (hb hby at_163) rfl ?_
        show Steps p_.tables e_ below (T7.setTop (mkF m_ 165 #[.val (.int xx), .val (.int (own_k xx)), .val (.ref w1), .val (.int (1 : Int32)), .val (.int (1 : Int32)), .val (.int (0 : Int32)), .val (.int (1 : Int32)), .val (.int (1 : Int32)), .val (.int (1 : Int32))] [(.int (1 : Int32))])) t_
        refine XS.ifNo X7.here hx rfl (hb hby at_165) rfl ((if0 _ _).trans (feq (by decide : ¬ ((1 : Int32) = (0 : Int32)))).1) ?_
        show Steps p_.tables e_ below (T7.setTop (mkF m_ 168 #[.val (.int xx), .val (.int (own_k xx)), .val (.ref w1), .val (.int (1 : Int32)), .val (.int (1 : Int32)), .val (.int (0 : Int32)), .val (.int (1 : Int32)), .val (.int (1 : Int32)), .val (.int (1 : Int32))] [])) t_
        refine XS.iload X7.here hx rfl (hb hby at_168) rfl ?_
        show Steps p_.tables e_ below (T7.setTop (mkF m_ 170 #[.val (.int xx), .val (.int (own_k xx)), .val (.ref w1), .val (.int (1 : Int32)), .val (.int (1 : Int32)), .val (.int (0 : Int32)), .val (.int (1 : Int32)), .val (.int (1 : Int32)), .val (.int (1 : Int32))] [(.int (1 : Int32))])) t_
        refine XS.ifNo X7.here hx rfl (hb hby at_170) rfl ((if0 _ _).trans (feq (by decide : ¬ ((1 : Int32) = (0 : Int32)))).1) ?_
        show Steps p_.tables e_ below (T7.setTop (mkF m_ 173 #[.val (.int xx), .val (.int (own_k xx)), .val (.ref w1), .val (.int (1 : Int32)), .val (.int (1 : Int32)), .val (.int (0 : Int32)), .val (.int (1 : Int32)), .val (.int (1 : Int32)), .val (.int (1 : Int32))] [])) t_
        refine XS.iload X7.here hx rfl (hb hby at_173) rfl ?_
        show Steps p_.tables e_ below (T7.setTop (mkF m_ 175 #[.val (.int xx), .val (.int (own_k xx)), .val (.ref w1), .val (.int (1 : Int32)), .val (.int (1 : Int32)), .val (.int (0 : Int32)), .val (.int (1 : Int32)), .val (.int (1 : Int32)), .val (.int (1 : Int32))] [(.int (1 : Int32))])) t_
        refine XS.ifNo X7.here hx rfl (hb hby at_175) rfl ((if0 _ _).trans (feq (by decide : ¬ ((1 : Int32) = (0 : Int32)))).1) ?_
        show Steps p_.tables e_ below (T7.setTop (mkF m_ 178 #[.val (.int xx), .val (.int (own_k xx)), .val (.ref w1), .val (.int (1 : Int32)), .val (.int (1 : Int32)), .val (.int (0 : Int32)), .val (.int (1 : Int32)), .val (.int (1 : Int32)), .val (.int (1 : Int32))] [])) t_
        refine XS.iconst X7.here hx rfl (hb hby at_178) ?_
        show Steps p_.tables e_ below (T7.setTop (mkF m_ 179 #[.val (.int xx), .val (.int (own_k xx)), .val (.ref w1), .val (.int (1 : Int32)), .val (.int (1 : Int32)), .val (.int (0 : Int32)), .val (.int (1 : Int32)), .val (.int (1 : Int32)), .val (.int (1 : Int32))] [(.int (1 : Int32))])) t_
        refine XS.goto X7.here hx rfl (pc0 := 179) (pc' := 183) rfl (hb hby at_179) (by decide) (by decide) ?_
        show Steps p_.tables e_ below (T7.setTop (mkF m_ 183 #[.val (.int xx), .val (.int (own_k xx)), .val (.ref w1), .val (.int (1 : Int32)), .val (.int (1 : Int32)), .val (.int (0 : Int32)), .val (.int (1 : Int32)), .val (.int (1 : Int32)), .val (.int (1 : Int32))] [(.int (1 : Int32))])) t_
        exact k_
      refine own_retN X7 hx hlk (t := .boolean) hret (by simp) (hb hby at_183) (by decide) (by decide) ?_
      exact ⟨rfl, N7⟩
    · refine own_st s₁ (mkF m_ 35 #[.val (.int xx), .val (.int (own_k xx)), .unset, .unset, .unset, .unset, .unset, .unset, .unset] []) (fun t_ k_ => XS.icmpYes X0.here hx rfl (pc0 := 23) (pc' := 35) rfl (hb hby at_23) rfl (feq hc23).2 (by decide) (by decide) k_) ?_
      refine own_st s₁ (mkF m_ 37 #[.val (.int xx), .val (.int (own_k xx)), .unset, .unset, .unset, .unset, .unset, .unset, .unset] [(.int (2 : Int32)), (.int (own_k xx))]) (fun t_ k_ => ?_) ?_
      · refine XS.iloadN X0.here hx rfl (hb hby at_35) rfl ?_
        show Steps p_.tables e_ below (s₁.setTop (mkF m_ 36 #[.val (.int xx), .val (.int (own_k xx)), .unset, .unset, .unset, .unset, .unset, .unset, .unset] [(.int (own_k xx))])) t_
        refine XS.iconst X0.here hx rfl (hb hby at_36) ?_
        show Steps p_.tables e_ below (s₁.setTop (mkF m_ 37 #[.val (.int xx), .val (.int (own_k xx)), .unset, .unset, .unset, .unset, .unset, .unset, .unset] [(.int (2 : Int32)), (.int (own_k xx))])) t_
        exact k_
      by_cases hc37 : (own_k xx) = (2 : Int32)
      · refine own_st s₁ (mkF m_ 40 #[.val (.int xx), .val (.int (own_k xx)), .unset, .unset, .unset, .unset, .unset, .unset, .unset] []) (fun t_ k_ => XS.icmpNo X0.here hx rfl (hb hby at_37) rfl (teq hc37).2 k_) ?_
        obtain ⟨T8, X8, e8, st8⟩ := getS2 X0 hx hZ hown (host := "") (Or.inl (hw _ (List.mem_of_getElem? (i := 30) rfl))) Via.refl e0 S_DEADLOCK_REACHED (g := (mkF m_ 40 #[.val (.int xx), .val (.int (own_k xx)), .unset, .unset, .unset, .unset, .unset, .unset, .unset] [])) rfl (hb hby at_40)
        refine own_st T8 (mkF m_ 43 #[.val (.int xx), .val (.int (own_k xx)), .unset, .unset, .unset, .unset, .unset, .unset, .unset] [(.ref w2)]) st8 ?_
        refine own_st T8 (mkF m_ 98 #[.val (.int xx), .val (.int (own_k xx)), .val (.ref w2), .val (.int (1 : Int32)), .unset, .unset, .unset, .unset, .unset] [(.ref w2)]) (fun t_ k_ => ?_) ?_
        · refine XS.astoreN X8.here hx rfl (hb hby at_43) rfl rfl (l' := #[.val (.int xx), .val (.int (own_k xx)), .val (.ref w2), .unset, .unset, .unset, .unset, .unset, .unset]) rfl ?_
          show Steps p_.tables e_ below (T8.setTop (mkF m_ 44 #[.val (.int xx), .val (.int (own_k xx)), .val (.ref w2), .unset, .unset, .unset, .unset, .unset, .unset] [])) t_
          refine XS.iconst X8.here hx rfl (hb hby at_44) ?_
          show Steps p_.tables e_ below (T8.setTop (mkF m_ 45 #[.val (.int xx), .val (.int (own_k xx)), .val (.ref w2), .unset, .unset, .unset, .unset, .unset, .unset] [(.int (1 : Int32))])) t_
          refine XS.istoreN X8.here hx rfl (hb hby at_45) rfl (l' := #[.val (.int xx), .val (.int (own_k xx)), .val (.ref w2), .val (.int (1 : Int32)), .unset, .unset, .unset, .unset, .unset]) rfl ?_
          show Steps p_.tables e_ below (T8.setTop (mkF m_ 46 #[.val (.int xx), .val (.int (own_k xx)), .val (.ref w2), .val (.int (1 : Int32)), .unset, .unset, .unset, .unset, .unset] [])) t_
          refine XS.goto X8.here hx rfl (pc0 := 46) (pc' := 97) rfl (hb hby at_46) (by decide) (by decide) ?_
          show Steps p_.tables e_ below (T8.setTop (mkF m_ 97 #[.val (.int xx), .val (.int (own_k xx)), .val (.ref w2), .val (.int (1 : Int32)), .unset, .unset, .unset, .unset, .unset] [])) t_
          refine XS.aloadN X8.here hx rfl (hb hby at_97) rfl rfl ?_
          show Steps p_.tables e_ below (T8.setTop (mkF m_ 98 #[.val (.int xx), .val (.int (own_k xx)), .val (.ref w2), .val (.int (1 : Int32)), .unset, .unset, .unset, .unset, .unset] [(.ref w2)])) t_
          exact k_
        refine own_callV X8 hx hZ (y := (⟨"com/example/refinement_flow_checker/refinementflowchecker/checker/Exploration$Verdict", "violation", "()Z"⟩ : MethodName)) (z := (⟨"com/example/refinement_flow_checker/refinementflowchecker/checker/Exploration$Verdict", "violation", "()Z"⟩ : MethodName)) hown (hw _ (List.mem_of_getElem? (i := 4) rfl)) (hw _ (List.mem_of_getElem? (i := 5) rfl)) (notFace_of_selects (args := #[]) (mvT hZ (hw _ (List.mem_of_getElem? (i := 7) rfl)))) (hw _ (List.mem_of_getElem? (i := 7) rfl)) (hw _ (List.mem_of_getElem? (i := 6) rfl)) (hw _ (List.mem_of_getElem? (i := 2) rfl)) (hw _ (List.mem_of_getElem? (i := 8) rfl)) (by decide) w2 [] [] E_w2 (rm1 l Z a0 hw w2 w1 w2 w3 w4 h0 n0 Z0 S_INVARIANT_VIOLATED S_DEADLOCK_REACHED S_UNDEFINED S_REFINEMENT_VIOLATED) 0 (by decide) (by decide) e8 (by rw [hml]; rfl) (lenOf own_pd0 rfl) rfl (Nat.le_of_eq rfl) (hb hby at_98) (by decide) (by decide) ?_
        intro v9 T9 L9 X9 q9
        obtain ⟨rfl, N9q, e9⟩ := q9
        have N9 := Fr.app N0 N9q
        rw [show f1 w2 w1 w2 w3 w4 = 1 from by simp [f1, (Ne.symm ne_1_2), ne_2_3, ne_2_4]]
        show own_Out p_ e_ below s_ _ _ _ T9 (mkF m_ 101 #[.val (.int xx), .val (.int (own_k xx)), .val (.ref w2), .val (.int (1 : Int32)), .unset, .unset, .unset, .unset, .unset] [(.int (1 : Int32))])
        refine own_st T9 (mkF m_ 104 #[.val (.int xx), .val (.int (own_k xx)), .val (.ref w2), .val (.int (1 : Int32)), .val (.int (1 : Int32)), .unset, .unset, .unset, .unset] [(.ref w2)]) (fun t_ k_ => ?_) ?_
        · refine XS.istore X9.here hx rfl (hb hby at_101) rfl (l' := #[.val (.int xx), .val (.int (own_k xx)), .val (.ref w2), .val (.int (1 : Int32)), .val (.int (1 : Int32)), .unset, .unset, .unset, .unset]) rfl ?_
          show Steps p_.tables e_ below (T9.setTop (mkF m_ 103 #[.val (.int xx), .val (.int (own_k xx)), .val (.ref w2), .val (.int (1 : Int32)), .val (.int (1 : Int32)), .unset, .unset, .unset, .unset] [])) t_
          refine XS.aloadN X9.here hx rfl (hb hby at_103) rfl rfl ?_
          show Steps p_.tables e_ below (T9.setTop (mkF m_ 104 #[.val (.int xx), .val (.int (own_k xx)), .val (.ref w2), .val (.int (1 : Int32)), .val (.int (1 : Int32)), .unset, .unset, .unset, .unset] [(.ref w2)])) t_
          exact k_
        refine own_callV X9 hx hZ (y := (⟨"com/example/refinement_flow_checker/refinementflowchecker/checker/Exploration$Verdict", "incomplete", "()Z"⟩ : MethodName)) (z := (⟨"com/example/refinement_flow_checker/refinementflowchecker/checker/Exploration$Verdict", "incomplete", "()Z"⟩ : MethodName)) hown (hw _ (List.mem_of_getElem? (i := 17) rfl)) (hw _ (List.mem_of_getElem? (i := 18) rfl)) (notFace_of_selects (args := #[]) (mvT hZ (hw _ (List.mem_of_getElem? (i := 20) rfl)))) (hw _ (List.mem_of_getElem? (i := 20) rfl)) (hw _ (List.mem_of_getElem? (i := 19) rfl)) (hw _ (List.mem_of_getElem? (i := 2) rfl)) (hw _ (List.mem_of_getElem? (i := 21) rfl)) (by decide) w2 [] [] E_w2 (rm2 l Z a0 hw w2 w5 w6 h0 n0 Z0 S_STATE_BOUND_REACHED S_MEMORY_EXHAUSTED) 0 (by decide) (by decide) e9 (by rw [hml]; rfl) (lenOf own_pd0 rfl) rfl (Nat.le_of_eq rfl) (hb hby at_104) (by decide) (by decide) ?_
        intro v10 T10 L10 X10 q10
        obtain ⟨rfl, N10q, e10⟩ := q10
        have N10 := Fr.app N9 N10q
        rw [show f2 w2 w5 w6 = 0 from by simp [f2, ne_2_5, ne_2_6]]
        show own_Out p_ e_ below s_ _ _ _ T10 (mkF m_ 107 #[.val (.int xx), .val (.int (own_k xx)), .val (.ref w2), .val (.int (1 : Int32)), .val (.int (1 : Int32)), .unset, .unset, .unset, .unset] [(.int (0 : Int32))])
        refine own_st T10 (mkF m_ 183 #[.val (.int xx), .val (.int (own_k xx)), .val (.ref w2), .val (.int (1 : Int32)), .val (.int (1 : Int32)), .val (.int (0 : Int32)), .val (.int (1 : Int32)), .val (.int (1 : Int32)), .val (.int (1 : Int32))] [(.int (1 : Int32))]) (fun t_ k_ => ?_) ?_
        · refine XS.istore X10.here hx rfl (hb hby at_107) rfl (l' := #[.val (.int xx), .val (.int (own_k xx)), .val (.ref w2), .val (.int (1 : Int32)), .val (.int (1 : Int32)), .val (.int (0 : Int32)), .unset, .unset, .unset]) rfl ?_
          show Steps p_.tables e_ below (T10.setTop (mkF m_ 109 #[.val (.int xx), .val (.int (own_k xx)), .val (.ref w2), .val (.int (1 : Int32)), .val (.int (1 : Int32)), .val (.int (0 : Int32)), .unset, .unset, .unset] [])) t_
          refine XS.iload X10.here hx rfl (hb hby at_109) rfl ?_
          show Steps p_.tables e_ below (T10.setTop (mkF m_ 111 #[.val (.int xx), .val (.int (own_k xx)), .val (.ref w2), .val (.int (1 : Int32)), .val (.int (1 : Int32)), .val (.int (0 : Int32)), .unset, .unset, .unset] [(.int (1 : Int32))])) t_
          refine XS.iloadN X10.here hx rfl (hb hby at_111) rfl ?_
          show Steps p_.tables e_ below (T10.setTop (mkF m_ 112 #[.val (.int xx), .val (.int (own_k xx)), .val (.ref w2), .val (.int (1 : Int32)), .val (.int (1 : Int32)), .val (.int (0 : Int32)), .unset, .unset, .unset] [(.int (1 : Int32)), (.int (1 : Int32))])) t_
          refine XS.icmpNo X10.here hx rfl (hb hby at_112) rfl (teq (by decide : (1 : Int32) = (1 : Int32))).2 ?_
          show Steps p_.tables e_ below (T10.setTop (mkF m_ 115 #[.val (.int xx), .val (.int (own_k xx)), .val (.ref w2), .val (.int (1 : Int32)), .val (.int (1 : Int32)), .val (.int (0 : Int32)), .unset, .unset, .unset] [])) t_
          refine XS.iconst X10.here hx rfl (hb hby at_115) ?_
          show Steps p_.tables e_ below (T10.setTop (mkF m_ 116 #[.val (.int xx), .val (.int (own_k xx)), .val (.ref w2), .val (.int (1 : Int32)), .val (.int (1 : Int32)), .val (.int (0 : Int32)), .unset, .unset, .unset] [(.int (1 : Int32))])) t_
          refine XS.goto X10.here hx rfl (pc0 := 116) (pc' := 120) rfl (hb hby at_116) (by decide) (by decide) ?_
          show Steps p_.tables e_ below (T10.setTop (mkF m_ 120 #[.val (.int xx), .val (.int (own_k xx)), .val (.ref w2), .val (.int (1 : Int32)), .val (.int (1 : Int32)), .val (.int (0 : Int32)), .unset, .unset, .unset] [(.int (1 : Int32))])) t_
          refine XS.istore X10.here hx rfl (hb hby at_120) rfl (l' := #[.val (.int xx), .val (.int (own_k xx)), .val (.ref w2), .val (.int (1 : Int32)), .val (.int (1 : Int32)), .val (.int (0 : Int32)), .val (.int (1 : Int32)), .unset, .unset]) rfl ?_
          show Steps p_.tables e_ below (T10.setTop (mkF m_ 122 #[.val (.int xx), .val (.int (own_k xx)), .val (.ref w2), .val (.int (1 : Int32)), .val (.int (1 : Int32)), .val (.int (0 : Int32)), .val (.int (1 : Int32)), .unset, .unset] [])) t_
          refine XS.iload X10.here hx rfl (hb hby at_122) rfl ?_
          show Steps p_.tables e_ below (T10.setTop (mkF m_ 124 #[.val (.int xx), .val (.int (own_k xx)), .val (.ref w2), .val (.int (1 : Int32)), .val (.int (1 : Int32)), .val (.int (0 : Int32)), .val (.int (1 : Int32)), .unset, .unset] [(.int (1 : Int32))])) t_
          refine XS.ifNo X10.here hx rfl (hb hby at_124) rfl ((if0 _ _).trans (feq (by decide : ¬ ((1 : Int32) = (0 : Int32)))).1) ?_
          show Steps p_.tables e_ below (T10.setTop (mkF m_ 127 #[.val (.int xx), .val (.int (own_k xx)), .val (.ref w2), .val (.int (1 : Int32)), .val (.int (1 : Int32)), .val (.int (0 : Int32)), .val (.int (1 : Int32)), .unset, .unset] [])) t_
          refine XS.iload X10.here hx rfl (hb hby at_127) rfl ?_
          show Steps p_.tables e_ below (T10.setTop (mkF m_ 129 #[.val (.int xx), .val (.int (own_k xx)), .val (.ref w2), .val (.int (1 : Int32)), .val (.int (1 : Int32)), .val (.int (0 : Int32)), .val (.int (1 : Int32)), .unset, .unset] [(.int (0 : Int32))])) t_
          refine XS.ifNo X10.here hx rfl (hb hby at_129) rfl ((if0 _ _).trans (teq (by decide : (0 : Int32) = (0 : Int32))).2) ?_
          show Steps p_.tables e_ below (T10.setTop (mkF m_ 132 #[.val (.int xx), .val (.int (own_k xx)), .val (.ref w2), .val (.int (1 : Int32)), .val (.int (1 : Int32)), .val (.int (0 : Int32)), .val (.int (1 : Int32)), .unset, .unset] [])) t_
          refine XS.iconst X10.here hx rfl (hb hby at_132) ?_
          show Steps p_.tables e_ below (T10.setTop (mkF m_ 133 #[.val (.int xx), .val (.int (own_k xx)), .val (.ref w2), .val (.int (1 : Int32)), .val (.int (1 : Int32)), .val (.int (0 : Int32)), .val (.int (1 : Int32)), .unset, .unset] [(.int (1 : Int32))])) t_
          refine XS.goto X10.here hx rfl (pc0 := 133) (pc' := 137) rfl (hb hby at_133) (by decide) (by decide) ?_
          show Steps p_.tables e_ below (T10.setTop (mkF m_ 137 #[.val (.int xx), .val (.int (own_k xx)), .val (.ref w2), .val (.int (1 : Int32)), .val (.int (1 : Int32)), .val (.int (0 : Int32)), .val (.int (1 : Int32)), .unset, .unset] [(.int (1 : Int32))])) t_
          refine XS.istore X10.here hx rfl (hb hby at_137) rfl (l' := #[.val (.int xx), .val (.int (own_k xx)), .val (.ref w2), .val (.int (1 : Int32)), .val (.int (1 : Int32)), .val (.int (0 : Int32)), .val (.int (1 : Int32)), .val (.int (1 : Int32)), .unset]) rfl ?_
          show Steps p_.tables e_ below (T10.setTop (mkF m_ 139 #[.val (.int xx), .val (.int (own_k xx)), .val (.ref w2), .val (.int (1 : Int32)), .val (.int (1 : Int32)), .val (.int (0 : Int32)), .val (.int (1 : Int32)), .val (.int (1 : Int32)), .unset] [])) t_
          refine XS.iload X10.here hx rfl (hb hby at_139) rfl ?_
          show Steps p_.tables e_ below (T10.setTop (mkF m_ 141 #[.val (.int xx), .val (.int (own_k xx)), .val (.ref w2), .val (.int (1 : Int32)), .val (.int (1 : Int32)), .val (.int (0 : Int32)), .val (.int (1 : Int32)), .val (.int (1 : Int32)), .unset] [(.int (1 : Int32))])) t_
          refine XS.ifYes X10.here hx rfl (pc0 := 141) (pc' := 156) rfl (hb hby at_141) rfl ((if0 _ _).trans (feq (by decide : ¬ ((1 : Int32) = (0 : Int32)))).2) (by decide) (by decide) ?_
          show Steps p_.tables e_ below (T10.setTop (mkF m_ 156 #[.val (.int xx), .val (.int (own_k xx)), .val (.ref w2), .val (.int (1 : Int32)), .val (.int (1 : Int32)), .val (.int (0 : Int32)), .val (.int (1 : Int32)), .val (.int (1 : Int32)), .unset] [])) t_
          refine XS.iconst X10.here hx rfl (hb hby at_156) ?_
          show Steps p_.tables e_ below (T10.setTop (mkF m_ 157 #[.val (.int xx), .val (.int (own_k xx)), .val (.ref w2), .val (.int (1 : Int32)), .val (.int (1 : Int32)), .val (.int (0 : Int32)), .val (.int (1 : Int32)), .val (.int (1 : Int32)), .unset] [(.int (1 : Int32))])) t_
          refine XS.goto X10.here hx rfl (pc0 := 157) (pc' := 161) rfl (hb hby at_157) (by decide) (by decide) ?_
          show Steps p_.tables e_ below (T10.setTop (mkF m_ 161 #[.val (.int xx), .val (.int (own_k xx)), .val (.ref w2), .val (.int (1 : Int32)), .val (.int (1 : Int32)), .val (.int (0 : Int32)), .val (.int (1 : Int32)), .val (.int (1 : Int32)), .unset] [(.int (1 : Int32))])) t_
          refine XS.istore X10.here hx rfl (hb hby at_161) rfl (l' := #[.val (.int xx), .val (.int (own_k xx)), .val (.ref w2), .val (.int (1 : Int32)), .val (.int (1 : Int32)), .val (.int (0 : Int32)), .val (.int (1 : Int32)), .val (.int (1 : Int32)), .val (.int (1 : Int32))]) rfl ?_
          show Steps p_.tables e_ below (T10.setTop (mkF m_ 163 #[.val (.int xx), .val (.int (own_k xx)), .val (.ref w2), .val (.int (1 : Int32)), .val (.int (1 : Int32)), .val (.int (0 : Int32)), .val (.int (1 : Int32)), .val (.int (1 : Int32)), .val (.int (1 : Int32))] [])) t_
          refine XS.iload X10.here hx rfl (hb hby at_163) rfl ?_
          show Steps p_.tables e_ below (T10.setTop (mkF m_ 165 #[.val (.int xx), .val (.int (own_k xx)), .val (.ref w2), .val (.int (1 : Int32)), .val (.int (1 : Int32)), .val (.int (0 : Int32)), .val (.int (1 : Int32)), .val (.int (1 : Int32)), .val (.int (1 : Int32))] [(.int (1 : Int32))])) t_
          refine XS.ifNo X10.here hx rfl (hb hby at_165) rfl ((if0 _ _).trans (feq (by decide : ¬ ((1 : Int32) = (0 : Int32)))).1) ?_
          show Steps p_.tables e_ below (T10.setTop (mkF m_ 168 #[.val (.int xx), .val (.int (own_k xx)), .val (.ref w2), .val (.int (1 : Int32)), .val (.int (1 : Int32)), .val (.int (0 : Int32)), .val (.int (1 : Int32)), .val (.int (1 : Int32)), .val (.int (1 : Int32))] [])) t_
          refine XS.iload X10.here hx rfl (hb hby at_168) rfl ?_
          show Steps p_.tables e_ below (T10.setTop (mkF m_ 170 #[.val (.int xx), .val (.int (own_k xx)), .val (.ref w2), .val (.int (1 : Int32)), .val (.int (1 : Int32)), .val (.int (0 : Int32)), .val (.int (1 : Int32)), .val (.int (1 : Int32)), .val (.int (1 : Int32))] [(.int (1 : Int32))])) t_
          refine XS.ifNo X10.here hx rfl (hb hby at_170) rfl ((if0 _ _).trans (feq (by decide : ¬ ((1 : Int32) = (0 : Int32)))).1) ?_
          show Steps p_.tables e_ below (T10.setTop (mkF m_ 173 #[.val (.int xx), .val (.int (own_k xx)), .val (.ref w2), .val (.int (1 : Int32)), .val (.int (1 : Int32)), .val (.int (0 : Int32)), .val (.int (1 : Int32)), .val (.int (1 : Int32)), .val (.int (1 : Int32))] [])) t_
          refine XS.iload X10.here hx rfl (hb hby at_173) rfl ?_
          show Steps p_.tables e_ below (T10.setTop (mkF m_ 175 #[.val (.int xx), .val (.int (own_k xx)), .val (.ref w2), .val (.int (1 : Int32)), .val (.int (1 : Int32)), .val (.int (0 : Int32)), .val (.int (1 : Int32)), .val (.int (1 : Int32)), .val (.int (1 : Int32))] [(.int (1 : Int32))])) t_
          refine XS.ifNo X10.here hx rfl (hb hby at_175) rfl ((if0 _ _).trans (feq (by decide : ¬ ((1 : Int32) = (0 : Int32)))).1) ?_
          show Steps p_.tables e_ below (T10.setTop (mkF m_ 178 #[.val (.int xx), .val (.int (own_k xx)), .val (.ref w2), .val (.int (1 : Int32)), .val (.int (1 : Int32)), .val (.int (0 : Int32)), .val (.int (1 : Int32)), .val (.int (1 : Int32)), .val (.int (1 : Int32))] [])) t_
          refine XS.iconst X10.here hx rfl (hb hby at_178) ?_
          show Steps p_.tables e_ below (T10.setTop (mkF m_ 179 #[.val (.int xx), .val (.int (own_k xx)), .val (.ref w2), .val (.int (1 : Int32)), .val (.int (1 : Int32)), .val (.int (0 : Int32)), .val (.int (1 : Int32)), .val (.int (1 : Int32)), .val (.int (1 : Int32))] [(.int (1 : Int32))])) t_
          refine XS.goto X10.here hx rfl (pc0 := 179) (pc' := 183) rfl (hb hby at_179) (by decide) (by decide) ?_
          show Steps p_.tables e_ below (T10.setTop (mkF m_ 183 #[.val (.int xx), .val (.int (own_k xx)), .val (.ref w2), .val (.int (1 : Int32)), .val (.int (1 : Int32)), .val (.int (0 : Int32)), .val (.int (1 : Int32)), .val (.int (1 : Int32)), .val (.int (1 : Int32))] [(.int (1 : Int32))])) t_
          exact k_
        refine own_retN X10 hx hlk (t := .boolean) hret (by simp) (hb hby at_183) (by decide) (by decide) ?_
        exact ⟨rfl, N10⟩
      · refine own_st s₁ (mkF m_ 49 #[.val (.int xx), .val (.int (own_k xx)), .unset, .unset, .unset, .unset, .unset, .unset, .unset] []) (fun t_ k_ => XS.icmpYes X0.here hx rfl (pc0 := 37) (pc' := 49) rfl (hb hby at_37) rfl (feq hc37).2 (by decide) (by decide) k_) ?_
        refine own_st s₁ (mkF m_ 51 #[.val (.int xx), .val (.int (own_k xx)), .unset, .unset, .unset, .unset, .unset, .unset, .unset] [(.int (3 : Int32)), (.int (own_k xx))]) (fun t_ k_ => ?_) ?_
        · refine XS.iloadN X0.here hx rfl (hb hby at_49) rfl ?_
          show Steps p_.tables e_ below (s₁.setTop (mkF m_ 50 #[.val (.int xx), .val (.int (own_k xx)), .unset, .unset, .unset, .unset, .unset, .unset, .unset] [(.int (own_k xx))])) t_
          refine XS.iconst X0.here hx rfl (hb hby at_50) ?_
          show Steps p_.tables e_ below (s₁.setTop (mkF m_ 51 #[.val (.int xx), .val (.int (own_k xx)), .unset, .unset, .unset, .unset, .unset, .unset, .unset] [(.int (3 : Int32)), (.int (own_k xx))])) t_
          exact k_
        by_cases hc51 : (own_k xx) = (3 : Int32)
        · refine own_st s₁ (mkF m_ 54 #[.val (.int xx), .val (.int (own_k xx)), .unset, .unset, .unset, .unset, .unset, .unset, .unset] []) (fun t_ k_ => XS.icmpNo X0.here hx rfl (hb hby at_51) rfl (teq hc51).2 k_) ?_
          obtain ⟨T11, X11, e11, st11⟩ := getS2 X0 hx hZ hown (host := "") (Or.inl (hw _ (List.mem_of_getElem? (i := 26) rfl))) Via.refl e0 S_UNDEFINED (g := (mkF m_ 54 #[.val (.int xx), .val (.int (own_k xx)), .unset, .unset, .unset, .unset, .unset, .unset, .unset] [])) rfl (hb hby at_54)
          refine own_st T11 (mkF m_ 57 #[.val (.int xx), .val (.int (own_k xx)), .unset, .unset, .unset, .unset, .unset, .unset, .unset] [(.ref w3)]) st11 ?_
          refine own_st T11 (mkF m_ 98 #[.val (.int xx), .val (.int (own_k xx)), .val (.ref w3), .val (.int (1 : Int32)), .unset, .unset, .unset, .unset, .unset] [(.ref w3)]) (fun t_ k_ => ?_) ?_
          · refine XS.astoreN X11.here hx rfl (hb hby at_57) rfl rfl (l' := #[.val (.int xx), .val (.int (own_k xx)), .val (.ref w3), .unset, .unset, .unset, .unset, .unset, .unset]) rfl ?_
            show Steps p_.tables e_ below (T11.setTop (mkF m_ 58 #[.val (.int xx), .val (.int (own_k xx)), .val (.ref w3), .unset, .unset, .unset, .unset, .unset, .unset] [])) t_
            refine XS.iconst X11.here hx rfl (hb hby at_58) ?_
            show Steps p_.tables e_ below (T11.setTop (mkF m_ 59 #[.val (.int xx), .val (.int (own_k xx)), .val (.ref w3), .unset, .unset, .unset, .unset, .unset, .unset] [(.int (1 : Int32))])) t_
            refine XS.istoreN X11.here hx rfl (hb hby at_59) rfl (l' := #[.val (.int xx), .val (.int (own_k xx)), .val (.ref w3), .val (.int (1 : Int32)), .unset, .unset, .unset, .unset, .unset]) rfl ?_
            show Steps p_.tables e_ below (T11.setTop (mkF m_ 60 #[.val (.int xx), .val (.int (own_k xx)), .val (.ref w3), .val (.int (1 : Int32)), .unset, .unset, .unset, .unset, .unset] [])) t_
            refine XS.goto X11.here hx rfl (pc0 := 60) (pc' := 97) rfl (hb hby at_60) (by decide) (by decide) ?_
            show Steps p_.tables e_ below (T11.setTop (mkF m_ 97 #[.val (.int xx), .val (.int (own_k xx)), .val (.ref w3), .val (.int (1 : Int32)), .unset, .unset, .unset, .unset, .unset] [])) t_
            refine XS.aloadN X11.here hx rfl (hb hby at_97) rfl rfl ?_
            show Steps p_.tables e_ below (T11.setTop (mkF m_ 98 #[.val (.int xx), .val (.int (own_k xx)), .val (.ref w3), .val (.int (1 : Int32)), .unset, .unset, .unset, .unset, .unset] [(.ref w3)])) t_
            exact k_
          refine own_callV X11 hx hZ (y := (⟨"com/example/refinement_flow_checker/refinementflowchecker/checker/Exploration$Verdict", "violation", "()Z"⟩ : MethodName)) (z := (⟨"com/example/refinement_flow_checker/refinementflowchecker/checker/Exploration$Verdict", "violation", "()Z"⟩ : MethodName)) hown (hw _ (List.mem_of_getElem? (i := 4) rfl)) (hw _ (List.mem_of_getElem? (i := 5) rfl)) (notFace_of_selects (args := #[]) (mvT hZ (hw _ (List.mem_of_getElem? (i := 7) rfl)))) (hw _ (List.mem_of_getElem? (i := 7) rfl)) (hw _ (List.mem_of_getElem? (i := 6) rfl)) (hw _ (List.mem_of_getElem? (i := 2) rfl)) (hw _ (List.mem_of_getElem? (i := 8) rfl)) (by decide) w3 [] [] E_w3 (rm1 l Z a0 hw w3 w1 w2 w3 w4 h0 n0 Z0 S_INVARIANT_VIOLATED S_DEADLOCK_REACHED S_UNDEFINED S_REFINEMENT_VIOLATED) 0 (by decide) (by decide) e11 (by rw [hml]; rfl) (lenOf own_pd0 rfl) rfl (Nat.le_of_eq rfl) (hb hby at_98) (by decide) (by decide) ?_
          intro v12 T12 L12 X12 q12
          obtain ⟨rfl, N12q, e12⟩ := q12
          have N12 := Fr.app N0 N12q
          rw [show f1 w3 w1 w2 w3 w4 = 1 from by simp [f1, (Ne.symm ne_1_3), (Ne.symm ne_2_3), ne_3_4]]
          show own_Out p_ e_ below s_ _ _ _ T12 (mkF m_ 101 #[.val (.int xx), .val (.int (own_k xx)), .val (.ref w3), .val (.int (1 : Int32)), .unset, .unset, .unset, .unset, .unset] [(.int (1 : Int32))])
          refine own_st T12 (mkF m_ 104 #[.val (.int xx), .val (.int (own_k xx)), .val (.ref w3), .val (.int (1 : Int32)), .val (.int (1 : Int32)), .unset, .unset, .unset, .unset] [(.ref w3)]) (fun t_ k_ => ?_) ?_
          · refine XS.istore X12.here hx rfl (hb hby at_101) rfl (l' := #[.val (.int xx), .val (.int (own_k xx)), .val (.ref w3), .val (.int (1 : Int32)), .val (.int (1 : Int32)), .unset, .unset, .unset, .unset]) rfl ?_
            show Steps p_.tables e_ below (T12.setTop (mkF m_ 103 #[.val (.int xx), .val (.int (own_k xx)), .val (.ref w3), .val (.int (1 : Int32)), .val (.int (1 : Int32)), .unset, .unset, .unset, .unset] [])) t_
            refine XS.aloadN X12.here hx rfl (hb hby at_103) rfl rfl ?_
            show Steps p_.tables e_ below (T12.setTop (mkF m_ 104 #[.val (.int xx), .val (.int (own_k xx)), .val (.ref w3), .val (.int (1 : Int32)), .val (.int (1 : Int32)), .unset, .unset, .unset, .unset] [(.ref w3)])) t_
            exact k_
          refine own_callV X12 hx hZ (y := (⟨"com/example/refinement_flow_checker/refinementflowchecker/checker/Exploration$Verdict", "incomplete", "()Z"⟩ : MethodName)) (z := (⟨"com/example/refinement_flow_checker/refinementflowchecker/checker/Exploration$Verdict", "incomplete", "()Z"⟩ : MethodName)) hown (hw _ (List.mem_of_getElem? (i := 17) rfl)) (hw _ (List.mem_of_getElem? (i := 18) rfl)) (notFace_of_selects (args := #[]) (mvT hZ (hw _ (List.mem_of_getElem? (i := 20) rfl)))) (hw _ (List.mem_of_getElem? (i := 20) rfl)) (hw _ (List.mem_of_getElem? (i := 19) rfl)) (hw _ (List.mem_of_getElem? (i := 2) rfl)) (hw _ (List.mem_of_getElem? (i := 21) rfl)) (by decide) w3 [] [] E_w3 (rm2 l Z a0 hw w3 w5 w6 h0 n0 Z0 S_STATE_BOUND_REACHED S_MEMORY_EXHAUSTED) 0 (by decide) (by decide) e12 (by rw [hml]; rfl) (lenOf own_pd0 rfl) rfl (Nat.le_of_eq rfl) (hb hby at_104) (by decide) (by decide) ?_
          intro v13 T13 L13 X13 q13
          obtain ⟨rfl, N13q, e13⟩ := q13
          have N13 := Fr.app N12 N13q
          rw [show f2 w3 w5 w6 = 0 from by simp [f2, ne_3_5, ne_3_6]]
          show own_Out p_ e_ below s_ _ _ _ T13 (mkF m_ 107 #[.val (.int xx), .val (.int (own_k xx)), .val (.ref w3), .val (.int (1 : Int32)), .val (.int (1 : Int32)), .unset, .unset, .unset, .unset] [(.int (0 : Int32))])
          refine own_st T13 (mkF m_ 183 #[.val (.int xx), .val (.int (own_k xx)), .val (.ref w3), .val (.int (1 : Int32)), .val (.int (1 : Int32)), .val (.int (0 : Int32)), .val (.int (1 : Int32)), .val (.int (1 : Int32)), .val (.int (1 : Int32))] [(.int (1 : Int32))]) (fun t_ k_ => ?_) ?_
          · refine XS.istore X13.here hx rfl (hb hby at_107) rfl (l' := #[.val (.int xx), .val (.int (own_k xx)), .val (.ref w3), .val (.int (1 : Int32)), .val (.int (1 : Int32)), .val (.int (0 : Int32)), .unset, .unset, .unset]) rfl ?_
            show Steps p_.tables e_ below (T13.setTop (mkF m_ 109 #[.val (.int xx), .val (.int (own_k xx)), .val (.ref w3), .val (.int (1 : Int32)), .val (.int (1 : Int32)), .val (.int (0 : Int32)), .unset, .unset, .unset] [])) t_
            refine XS.iload X13.here hx rfl (hb hby at_109) rfl ?_
            show Steps p_.tables e_ below (T13.setTop (mkF m_ 111 #[.val (.int xx), .val (.int (own_k xx)), .val (.ref w3), .val (.int (1 : Int32)), .val (.int (1 : Int32)), .val (.int (0 : Int32)), .unset, .unset, .unset] [(.int (1 : Int32))])) t_
            refine XS.iloadN X13.here hx rfl (hb hby at_111) rfl ?_
            show Steps p_.tables e_ below (T13.setTop (mkF m_ 112 #[.val (.int xx), .val (.int (own_k xx)), .val (.ref w3), .val (.int (1 : Int32)), .val (.int (1 : Int32)), .val (.int (0 : Int32)), .unset, .unset, .unset] [(.int (1 : Int32)), (.int (1 : Int32))])) t_
            refine XS.icmpNo X13.here hx rfl (hb hby at_112) rfl (teq (by decide : (1 : Int32) = (1 : Int32))).2 ?_
            show Steps p_.tables e_ below (T13.setTop (mkF m_ 115 #[.val (.int xx), .val (.int (own_k xx)), .val (.ref w3), .val (.int (1 : Int32)), .val (.int (1 : Int32)), .val (.int (0 : Int32)), .unset, .unset, .unset] [])) t_
            refine XS.iconst X13.here hx rfl (hb hby at_115) ?_
            show Steps p_.tables e_ below (T13.setTop (mkF m_ 116 #[.val (.int xx), .val (.int (own_k xx)), .val (.ref w3), .val (.int (1 : Int32)), .val (.int (1 : Int32)), .val (.int (0 : Int32)), .unset, .unset, .unset] [(.int (1 : Int32))])) t_
            refine XS.goto X13.here hx rfl (pc0 := 116) (pc' := 120) rfl (hb hby at_116) (by decide) (by decide) ?_
            show Steps p_.tables e_ below (T13.setTop (mkF m_ 120 #[.val (.int xx), .val (.int (own_k xx)), .val (.ref w3), .val (.int (1 : Int32)), .val (.int (1 : Int32)), .val (.int (0 : Int32)), .unset, .unset, .unset] [(.int (1 : Int32))])) t_
            refine XS.istore X13.here hx rfl (hb hby at_120) rfl (l' := #[.val (.int xx), .val (.int (own_k xx)), .val (.ref w3), .val (.int (1 : Int32)), .val (.int (1 : Int32)), .val (.int (0 : Int32)), .val (.int (1 : Int32)), .unset, .unset]) rfl ?_
            show Steps p_.tables e_ below (T13.setTop (mkF m_ 122 #[.val (.int xx), .val (.int (own_k xx)), .val (.ref w3), .val (.int (1 : Int32)), .val (.int (1 : Int32)), .val (.int (0 : Int32)), .val (.int (1 : Int32)), .unset, .unset] [])) t_
            refine XS.iload X13.here hx rfl (hb hby at_122) rfl ?_
            show Steps p_.tables e_ below (T13.setTop (mkF m_ 124 #[.val (.int xx), .val (.int (own_k xx)), .val (.ref w3), .val (.int (1 : Int32)), .val (.int (1 : Int32)), .val (.int (0 : Int32)), .val (.int (1 : Int32)), .unset, .unset] [(.int (1 : Int32))])) t_
            refine XS.ifNo X13.here hx rfl (hb hby at_124) rfl ((if0 _ _).trans (feq (by decide : ¬ ((1 : Int32) = (0 : Int32)))).1) ?_
            show Steps p_.tables e_ below (T13.setTop (mkF m_ 127 #[.val (.int xx), .val (.int (own_k xx)), .val (.ref w3), .val (.int (1 : Int32)), .val (.int (1 : Int32)), .val (.int (0 : Int32)), .val (.int (1 : Int32)), .unset, .unset] [])) t_
            refine XS.iload X13.here hx rfl (hb hby at_127) rfl ?_
            show Steps p_.tables e_ below (T13.setTop (mkF m_ 129 #[.val (.int xx), .val (.int (own_k xx)), .val (.ref w3), .val (.int (1 : Int32)), .val (.int (1 : Int32)), .val (.int (0 : Int32)), .val (.int (1 : Int32)), .unset, .unset] [(.int (0 : Int32))])) t_
            refine XS.ifNo X13.here hx rfl (hb hby at_129) rfl ((if0 _ _).trans (teq (by decide : (0 : Int32) = (0 : Int32))).2) ?_
            show Steps p_.tables e_ below (T13.setTop (mkF m_ 132 #[.val (.int xx), .val (.int (own_k xx)), .val (.ref w3), .val (.int (1 : Int32)), .val (.int (1 : Int32)), .val (.int (0 : Int32)), .val (.int (1 : Int32)), .unset, .unset] [])) t_
            refine XS.iconst X13.here hx rfl (hb hby at_132) ?_
            show Steps p_.tables e_ below (T13.setTop (mkF m_ 133 #[.val (.int xx), .val (.int (own_k xx)), .val (.ref w3), .val (.int (1 : Int32)), .val (.int (1 : Int32)), .val (.int (0 : Int32)), .val (.int (1 : Int32)), .unset, .unset] [(.int (1 : Int32))])) t_
            refine XS.goto X13.here hx rfl (pc0 := 133) (pc' := 137) rfl (hb hby at_133) (by decide) (by decide) ?_
            show Steps p_.tables e_ below (T13.setTop (mkF m_ 137 #[.val (.int xx), .val (.int (own_k xx)), .val (.ref w3), .val (.int (1 : Int32)), .val (.int (1 : Int32)), .val (.int (0 : Int32)), .val (.int (1 : Int32)), .unset, .unset] [(.int (1 : Int32))])) t_
            refine XS.istore X13.here hx rfl (hb hby at_137) rfl (l' := #[.val (.int xx), .val (.int (own_k xx)), .val (.ref w3), .val (.int (1 : Int32)), .val (.int (1 : Int32)), .val (.int (0 : Int32)), .val (.int (1 : Int32)), .val (.int (1 : Int32)), .unset]) rfl ?_
            show Steps p_.tables e_ below (T13.setTop (mkF m_ 139 #[.val (.int xx), .val (.int (own_k xx)), .val (.ref w3), .val (.int (1 : Int32)), .val (.int (1 : Int32)), .val (.int (0 : Int32)), .val (.int (1 : Int32)), .val (.int (1 : Int32)), .unset] [])) t_
            refine XS.iload X13.here hx rfl (hb hby at_139) rfl ?_
            show Steps p_.tables e_ below (T13.setTop (mkF m_ 141 #[.val (.int xx), .val (.int (own_k xx)), .val (.ref w3), .val (.int (1 : Int32)), .val (.int (1 : Int32)), .val (.int (0 : Int32)), .val (.int (1 : Int32)), .val (.int (1 : Int32)), .unset] [(.int (1 : Int32))])) t_
            refine XS.ifYes X13.here hx rfl (pc0 := 141) (pc' := 156) rfl (hb hby at_141) rfl ((if0 _ _).trans (feq (by decide : ¬ ((1 : Int32) = (0 : Int32)))).2) (by decide) (by decide) ?_
            show Steps p_.tables e_ below (T13.setTop (mkF m_ 156 #[.val (.int xx), .val (.int (own_k xx)), .val (.ref w3), .val (.int (1 : Int32)), .val (.int (1 : Int32)), .val (.int (0 : Int32)), .val (.int (1 : Int32)), .val (.int (1 : Int32)), .unset] [])) t_
            refine XS.iconst X13.here hx rfl (hb hby at_156) ?_
            show Steps p_.tables e_ below (T13.setTop (mkF m_ 157 #[.val (.int xx), .val (.int (own_k xx)), .val (.ref w3), .val (.int (1 : Int32)), .val (.int (1 : Int32)), .val (.int (0 : Int32)), .val (.int (1 : Int32)), .val (.int (1 : Int32)), .unset] [(.int (1 : Int32))])) t_
            refine XS.goto X13.here hx rfl (pc0 := 157) (pc' := 161) rfl (hb hby at_157) (by decide) (by decide) ?_
            show Steps p_.tables e_ below (T13.setTop (mkF m_ 161 #[.val (.int xx), .val (.int (own_k xx)), .val (.ref w3), .val (.int (1 : Int32)), .val (.int (1 : Int32)), .val (.int (0 : Int32)), .val (.int (1 : Int32)), .val (.int (1 : Int32)), .unset] [(.int (1 : Int32))])) t_
            refine XS.istore X13.here hx rfl (hb hby at_161) rfl (l' := #[.val (.int xx), .val (.int (own_k xx)), .val (.ref w3), .val (.int (1 : Int32)), .val (.int (1 : Int32)), .val (.int (0 : Int32)), .val (.int (1 : Int32)), .val (.int (1 : Int32)), .val (.int (1 : Int32))]) rfl ?_
            show Steps p_.tables e_ below (T13.setTop (mkF m_ 163 #[.val (.int xx), .val (.int (own_k xx)), .val (.ref w3), .val (.int (1 : Int32)), .val (.int (1 : Int32)), .val (.int (0 : Int32)), .val (.int (1 : Int32)), .val (.int (1 : Int32)), .val (.int (1 : Int32))] [])) t_
            refine XS.iload X13.here hx rfl (hb hby at_163) rfl ?_
            show Steps p_.tables e_ below (T13.setTop (mkF m_ 165 #[.val (.int xx), .val (.int (own_k xx)), .val (.ref w3), .val (.int (1 : Int32)), .val (.int (1 : Int32)), .val (.int (0 : Int32)), .val (.int (1 : Int32)), .val (.int (1 : Int32)), .val (.int (1 : Int32))] [(.int (1 : Int32))])) t_
            refine XS.ifNo X13.here hx rfl (hb hby at_165) rfl ((if0 _ _).trans (feq (by decide : ¬ ((1 : Int32) = (0 : Int32)))).1) ?_
            show Steps p_.tables e_ below (T13.setTop (mkF m_ 168 #[.val (.int xx), .val (.int (own_k xx)), .val (.ref w3), .val (.int (1 : Int32)), .val (.int (1 : Int32)), .val (.int (0 : Int32)), .val (.int (1 : Int32)), .val (.int (1 : Int32)), .val (.int (1 : Int32))] [])) t_
            refine XS.iload X13.here hx rfl (hb hby at_168) rfl ?_
            show Steps p_.tables e_ below (T13.setTop (mkF m_ 170 #[.val (.int xx), .val (.int (own_k xx)), .val (.ref w3), .val (.int (1 : Int32)), .val (.int (1 : Int32)), .val (.int (0 : Int32)), .val (.int (1 : Int32)), .val (.int (1 : Int32)), .val (.int (1 : Int32))] [(.int (1 : Int32))])) t_
            refine XS.ifNo X13.here hx rfl (hb hby at_170) rfl ((if0 _ _).trans (feq (by decide : ¬ ((1 : Int32) = (0 : Int32)))).1) ?_
            show Steps p_.tables e_ below (T13.setTop (mkF m_ 173 #[.val (.int xx), .val (.int (own_k xx)), .val (.ref w3), .val (.int (1 : Int32)), .val (.int (1 : Int32)), .val (.int (0 : Int32)), .val (.int (1 : Int32)), .val (.int (1 : Int32)), .val (.int (1 : Int32))] [])) t_
            refine XS.iload X13.here hx rfl (hb hby at_173) rfl ?_
            show Steps p_.tables e_ below (T13.setTop (mkF m_ 175 #[.val (.int xx), .val (.int (own_k xx)), .val (.ref w3), .val (.int (1 : Int32)), .val (.int (1 : Int32)), .val (.int (0 : Int32)), .val (.int (1 : Int32)), .val (.int (1 : Int32)), .val (.int (1 : Int32))] [(.int (1 : Int32))])) t_
            refine XS.ifNo X13.here hx rfl (hb hby at_175) rfl ((if0 _ _).trans (feq (by decide : ¬ ((1 : Int32) = (0 : Int32)))).1) ?_
            show Steps p_.tables e_ below (T13.setTop (mkF m_ 178 #[.val (.int xx), .val (.int (own_k xx)), .val (.ref w3), .val (.int (1 : Int32)), .val (.int (1 : Int32)), .val (.int (0 : Int32)), .val (.int (1 : Int32)), .val (.int (1 : Int32)), .val (.int (1 : Int32))] [])) t_
            refine XS.iconst X13.here hx rfl (hb hby at_178) ?_
            show Steps p_.tables e_ below (T13.setTop (mkF m_ 179 #[.val (.int xx), .val (.int (own_k xx)), .val (.ref w3), .val (.int (1 : Int32)), .val (.int (1 : Int32)), .val (.int (0 : Int32)), .val (.int (1 : Int32)), .val (.int (1 : Int32)), .val (.int (1 : Int32))] [(.int (1 : Int32))])) t_
            refine XS.goto X13.here hx rfl (pc0 := 179) (pc' := 183) rfl (hb hby at_179) (by decide) (by decide) ?_
            show Steps p_.tables e_ below (T13.setTop (mkF m_ 183 #[.val (.int xx), .val (.int (own_k xx)), .val (.ref w3), .val (.int (1 : Int32)), .val (.int (1 : Int32)), .val (.int (0 : Int32)), .val (.int (1 : Int32)), .val (.int (1 : Int32)), .val (.int (1 : Int32))] [(.int (1 : Int32))])) t_
            exact k_
          refine own_retN X13 hx hlk (t := .boolean) hret (by simp) (hb hby at_183) (by decide) (by decide) ?_
          exact ⟨rfl, N13⟩
        · refine own_st s₁ (mkF m_ 63 #[.val (.int xx), .val (.int (own_k xx)), .unset, .unset, .unset, .unset, .unset, .unset, .unset] []) (fun t_ k_ => XS.icmpYes X0.here hx rfl (pc0 := 51) (pc' := 63) rfl (hb hby at_51) rfl (feq hc51).2 (by decide) (by decide) k_) ?_
          refine own_st s₁ (mkF m_ 65 #[.val (.int xx), .val (.int (own_k xx)), .unset, .unset, .unset, .unset, .unset, .unset, .unset] [(.int (4 : Int32)), (.int (own_k xx))]) (fun t_ k_ => ?_) ?_
          · refine XS.iloadN X0.here hx rfl (hb hby at_63) rfl ?_
            show Steps p_.tables e_ below (s₁.setTop (mkF m_ 64 #[.val (.int xx), .val (.int (own_k xx)), .unset, .unset, .unset, .unset, .unset, .unset, .unset] [(.int (own_k xx))])) t_
            refine XS.iconst X0.here hx rfl (hb hby at_64) ?_
            show Steps p_.tables e_ below (s₁.setTop (mkF m_ 65 #[.val (.int xx), .val (.int (own_k xx)), .unset, .unset, .unset, .unset, .unset, .unset, .unset] [(.int (4 : Int32)), (.int (own_k xx))])) t_
            exact k_
          by_cases hc65 : (own_k xx) = (4 : Int32)
          · refine own_st s₁ (mkF m_ 68 #[.val (.int xx), .val (.int (own_k xx)), .unset, .unset, .unset, .unset, .unset, .unset, .unset] []) (fun t_ k_ => XS.icmpNo X0.here hx rfl (hb hby at_65) rfl (teq hc65).2 k_) ?_
            obtain ⟨T14, X14, e14, st14⟩ := getS2 X0 hx hZ hown (host := "") (Or.inl (hw _ (List.mem_of_getElem? (i := 29) rfl))) Via.refl e0 S_REFINEMENT_VIOLATED (g := (mkF m_ 68 #[.val (.int xx), .val (.int (own_k xx)), .unset, .unset, .unset, .unset, .unset, .unset, .unset] [])) rfl (hb hby at_68)
            refine own_st T14 (mkF m_ 71 #[.val (.int xx), .val (.int (own_k xx)), .unset, .unset, .unset, .unset, .unset, .unset, .unset] [(.ref w4)]) st14 ?_
            refine own_st T14 (mkF m_ 98 #[.val (.int xx), .val (.int (own_k xx)), .val (.ref w4), .val (.int (1 : Int32)), .unset, .unset, .unset, .unset, .unset] [(.ref w4)]) (fun t_ k_ => ?_) ?_
            · refine XS.astoreN X14.here hx rfl (hb hby at_71) rfl rfl (l' := #[.val (.int xx), .val (.int (own_k xx)), .val (.ref w4), .unset, .unset, .unset, .unset, .unset, .unset]) rfl ?_
              show Steps p_.tables e_ below (T14.setTop (mkF m_ 72 #[.val (.int xx), .val (.int (own_k xx)), .val (.ref w4), .unset, .unset, .unset, .unset, .unset, .unset] [])) t_
              refine XS.iconst X14.here hx rfl (hb hby at_72) ?_
              show Steps p_.tables e_ below (T14.setTop (mkF m_ 73 #[.val (.int xx), .val (.int (own_k xx)), .val (.ref w4), .unset, .unset, .unset, .unset, .unset, .unset] [(.int (1 : Int32))])) t_
              refine XS.istoreN X14.here hx rfl (hb hby at_73) rfl (l' := #[.val (.int xx), .val (.int (own_k xx)), .val (.ref w4), .val (.int (1 : Int32)), .unset, .unset, .unset, .unset, .unset]) rfl ?_
              show Steps p_.tables e_ below (T14.setTop (mkF m_ 74 #[.val (.int xx), .val (.int (own_k xx)), .val (.ref w4), .val (.int (1 : Int32)), .unset, .unset, .unset, .unset, .unset] [])) t_
              refine XS.goto X14.here hx rfl (pc0 := 74) (pc' := 97) rfl (hb hby at_74) (by decide) (by decide) ?_
              show Steps p_.tables e_ below (T14.setTop (mkF m_ 97 #[.val (.int xx), .val (.int (own_k xx)), .val (.ref w4), .val (.int (1 : Int32)), .unset, .unset, .unset, .unset, .unset] [])) t_
              refine XS.aloadN X14.here hx rfl (hb hby at_97) rfl rfl ?_
              show Steps p_.tables e_ below (T14.setTop (mkF m_ 98 #[.val (.int xx), .val (.int (own_k xx)), .val (.ref w4), .val (.int (1 : Int32)), .unset, .unset, .unset, .unset, .unset] [(.ref w4)])) t_
              exact k_
            refine own_callV X14 hx hZ (y := (⟨"com/example/refinement_flow_checker/refinementflowchecker/checker/Exploration$Verdict", "violation", "()Z"⟩ : MethodName)) (z := (⟨"com/example/refinement_flow_checker/refinementflowchecker/checker/Exploration$Verdict", "violation", "()Z"⟩ : MethodName)) hown (hw _ (List.mem_of_getElem? (i := 4) rfl)) (hw _ (List.mem_of_getElem? (i := 5) rfl)) (notFace_of_selects (args := #[]) (mvT hZ (hw _ (List.mem_of_getElem? (i := 7) rfl)))) (hw _ (List.mem_of_getElem? (i := 7) rfl)) (hw _ (List.mem_of_getElem? (i := 6) rfl)) (hw _ (List.mem_of_getElem? (i := 2) rfl)) (hw _ (List.mem_of_getElem? (i := 8) rfl)) (by decide) w4 [] [] E_w4 (rm1 l Z a0 hw w4 w1 w2 w3 w4 h0 n0 Z0 S_INVARIANT_VIOLATED S_DEADLOCK_REACHED S_UNDEFINED S_REFINEMENT_VIOLATED) 0 (by decide) (by decide) e14 (by rw [hml]; rfl) (lenOf own_pd0 rfl) rfl (Nat.le_of_eq rfl) (hb hby at_98) (by decide) (by decide) ?_
            intro v15 T15 L15 X15 q15
            obtain ⟨rfl, N15q, e15⟩ := q15
            have N15 := Fr.app N0 N15q
            rw [show f1 w4 w1 w2 w3 w4 = 1 from by simp [f1, (Ne.symm ne_1_4), (Ne.symm ne_2_4), (Ne.symm ne_3_4)]]
            show own_Out p_ e_ below s_ _ _ _ T15 (mkF m_ 101 #[.val (.int xx), .val (.int (own_k xx)), .val (.ref w4), .val (.int (1 : Int32)), .unset, .unset, .unset, .unset, .unset] [(.int (1 : Int32))])
            refine own_st T15 (mkF m_ 104 #[.val (.int xx), .val (.int (own_k xx)), .val (.ref w4), .val (.int (1 : Int32)), .val (.int (1 : Int32)), .unset, .unset, .unset, .unset] [(.ref w4)]) (fun t_ k_ => ?_) ?_
            · refine XS.istore X15.here hx rfl (hb hby at_101) rfl (l' := #[.val (.int xx), .val (.int (own_k xx)), .val (.ref w4), .val (.int (1 : Int32)), .val (.int (1 : Int32)), .unset, .unset, .unset, .unset]) rfl ?_
              show Steps p_.tables e_ below (T15.setTop (mkF m_ 103 #[.val (.int xx), .val (.int (own_k xx)), .val (.ref w4), .val (.int (1 : Int32)), .val (.int (1 : Int32)), .unset, .unset, .unset, .unset] [])) t_
              refine XS.aloadN X15.here hx rfl (hb hby at_103) rfl rfl ?_
              show Steps p_.tables e_ below (T15.setTop (mkF m_ 104 #[.val (.int xx), .val (.int (own_k xx)), .val (.ref w4), .val (.int (1 : Int32)), .val (.int (1 : Int32)), .unset, .unset, .unset, .unset] [(.ref w4)])) t_
              exact k_
            refine own_callV X15 hx hZ (y := (⟨"com/example/refinement_flow_checker/refinementflowchecker/checker/Exploration$Verdict", "incomplete", "()Z"⟩ : MethodName)) (z := (⟨"com/example/refinement_flow_checker/refinementflowchecker/checker/Exploration$Verdict", "incomplete", "()Z"⟩ : MethodName)) hown (hw _ (List.mem_of_getElem? (i := 17) rfl)) (hw _ (List.mem_of_getElem? (i := 18) rfl)) (notFace_of_selects (args := #[]) (mvT hZ (hw _ (List.mem_of_getElem? (i := 20) rfl)))) (hw _ (List.mem_of_getElem? (i := 20) rfl)) (hw _ (List.mem_of_getElem? (i := 19) rfl)) (hw _ (List.mem_of_getElem? (i := 2) rfl)) (hw _ (List.mem_of_getElem? (i := 21) rfl)) (by decide) w4 [] [] E_w4 (rm2 l Z a0 hw w4 w5 w6 h0 n0 Z0 S_STATE_BOUND_REACHED S_MEMORY_EXHAUSTED) 0 (by decide) (by decide) e15 (by rw [hml]; rfl) (lenOf own_pd0 rfl) rfl (Nat.le_of_eq rfl) (hb hby at_104) (by decide) (by decide) ?_
            intro v16 T16 L16 X16 q16
            obtain ⟨rfl, N16q, e16⟩ := q16
            have N16 := Fr.app N15 N16q
            rw [show f2 w4 w5 w6 = 0 from by simp [f2, ne_4_5, ne_4_6]]
            show own_Out p_ e_ below s_ _ _ _ T16 (mkF m_ 107 #[.val (.int xx), .val (.int (own_k xx)), .val (.ref w4), .val (.int (1 : Int32)), .val (.int (1 : Int32)), .unset, .unset, .unset, .unset] [(.int (0 : Int32))])
            refine own_st T16 (mkF m_ 183 #[.val (.int xx), .val (.int (own_k xx)), .val (.ref w4), .val (.int (1 : Int32)), .val (.int (1 : Int32)), .val (.int (0 : Int32)), .val (.int (1 : Int32)), .val (.int (1 : Int32)), .val (.int (1 : Int32))] [(.int (1 : Int32))]) (fun t_ k_ => ?_) ?_
            · refine XS.istore X16.here hx rfl (hb hby at_107) rfl (l' := #[.val (.int xx), .val (.int (own_k xx)), .val (.ref w4), .val (.int (1 : Int32)), .val (.int (1 : Int32)), .val (.int (0 : Int32)), .unset, .unset, .unset]) rfl ?_
              show Steps p_.tables e_ below (T16.setTop (mkF m_ 109 #[.val (.int xx), .val (.int (own_k xx)), .val (.ref w4), .val (.int (1 : Int32)), .val (.int (1 : Int32)), .val (.int (0 : Int32)), .unset, .unset, .unset] [])) t_
              refine XS.iload X16.here hx rfl (hb hby at_109) rfl ?_
              show Steps p_.tables e_ below (T16.setTop (mkF m_ 111 #[.val (.int xx), .val (.int (own_k xx)), .val (.ref w4), .val (.int (1 : Int32)), .val (.int (1 : Int32)), .val (.int (0 : Int32)), .unset, .unset, .unset] [(.int (1 : Int32))])) t_
              refine XS.iloadN X16.here hx rfl (hb hby at_111) rfl ?_
              show Steps p_.tables e_ below (T16.setTop (mkF m_ 112 #[.val (.int xx), .val (.int (own_k xx)), .val (.ref w4), .val (.int (1 : Int32)), .val (.int (1 : Int32)), .val (.int (0 : Int32)), .unset, .unset, .unset] [(.int (1 : Int32)), (.int (1 : Int32))])) t_
              refine XS.icmpNo X16.here hx rfl (hb hby at_112) rfl (teq (by decide : (1 : Int32) = (1 : Int32))).2 ?_
              show Steps p_.tables e_ below (T16.setTop (mkF m_ 115 #[.val (.int xx), .val (.int (own_k xx)), .val (.ref w4), .val (.int (1 : Int32)), .val (.int (1 : Int32)), .val (.int (0 : Int32)), .unset, .unset, .unset] [])) t_
              refine XS.iconst X16.here hx rfl (hb hby at_115) ?_
              show Steps p_.tables e_ below (T16.setTop (mkF m_ 116 #[.val (.int xx), .val (.int (own_k xx)), .val (.ref w4), .val (.int (1 : Int32)), .val (.int (1 : Int32)), .val (.int (0 : Int32)), .unset, .unset, .unset] [(.int (1 : Int32))])) t_
              refine XS.goto X16.here hx rfl (pc0 := 116) (pc' := 120) rfl (hb hby at_116) (by decide) (by decide) ?_
              show Steps p_.tables e_ below (T16.setTop (mkF m_ 120 #[.val (.int xx), .val (.int (own_k xx)), .val (.ref w4), .val (.int (1 : Int32)), .val (.int (1 : Int32)), .val (.int (0 : Int32)), .unset, .unset, .unset] [(.int (1 : Int32))])) t_
              refine XS.istore X16.here hx rfl (hb hby at_120) rfl (l' := #[.val (.int xx), .val (.int (own_k xx)), .val (.ref w4), .val (.int (1 : Int32)), .val (.int (1 : Int32)), .val (.int (0 : Int32)), .val (.int (1 : Int32)), .unset, .unset]) rfl ?_
              show Steps p_.tables e_ below (T16.setTop (mkF m_ 122 #[.val (.int xx), .val (.int (own_k xx)), .val (.ref w4), .val (.int (1 : Int32)), .val (.int (1 : Int32)), .val (.int (0 : Int32)), .val (.int (1 : Int32)), .unset, .unset] [])) t_
              refine XS.iload X16.here hx rfl (hb hby at_122) rfl ?_
              show Steps p_.tables e_ below (T16.setTop (mkF m_ 124 #[.val (.int xx), .val (.int (own_k xx)), .val (.ref w4), .val (.int (1 : Int32)), .val (.int (1 : Int32)), .val (.int (0 : Int32)), .val (.int (1 : Int32)), .unset, .unset] [(.int (1 : Int32))])) t_
              refine XS.ifNo X16.here hx rfl (hb hby at_124) rfl ((if0 _ _).trans (feq (by decide : ¬ ((1 : Int32) = (0 : Int32)))).1) ?_
              show Steps p_.tables e_ below (T16.setTop (mkF m_ 127 #[.val (.int xx), .val (.int (own_k xx)), .val (.ref w4), .val (.int (1 : Int32)), .val (.int (1 : Int32)), .val (.int (0 : Int32)), .val (.int (1 : Int32)), .unset, .unset] [])) t_
              refine XS.iload X16.here hx rfl (hb hby at_127) rfl ?_
              show Steps p_.tables e_ below (T16.setTop (mkF m_ 129 #[.val (.int xx), .val (.int (own_k xx)), .val (.ref w4), .val (.int (1 : Int32)), .val (.int (1 : Int32)), .val (.int (0 : Int32)), .val (.int (1 : Int32)), .unset, .unset] [(.int (0 : Int32))])) t_
              refine XS.ifNo X16.here hx rfl (hb hby at_129) rfl ((if0 _ _).trans (teq (by decide : (0 : Int32) = (0 : Int32))).2) ?_
              show Steps p_.tables e_ below (T16.setTop (mkF m_ 132 #[.val (.int xx), .val (.int (own_k xx)), .val (.ref w4), .val (.int (1 : Int32)), .val (.int (1 : Int32)), .val (.int (0 : Int32)), .val (.int (1 : Int32)), .unset, .unset] [])) t_
              refine XS.iconst X16.here hx rfl (hb hby at_132) ?_
              show Steps p_.tables e_ below (T16.setTop (mkF m_ 133 #[.val (.int xx), .val (.int (own_k xx)), .val (.ref w4), .val (.int (1 : Int32)), .val (.int (1 : Int32)), .val (.int (0 : Int32)), .val (.int (1 : Int32)), .unset, .unset] [(.int (1 : Int32))])) t_
              refine XS.goto X16.here hx rfl (pc0 := 133) (pc' := 137) rfl (hb hby at_133) (by decide) (by decide) ?_
              show Steps p_.tables e_ below (T16.setTop (mkF m_ 137 #[.val (.int xx), .val (.int (own_k xx)), .val (.ref w4), .val (.int (1 : Int32)), .val (.int (1 : Int32)), .val (.int (0 : Int32)), .val (.int (1 : Int32)), .unset, .unset] [(.int (1 : Int32))])) t_
              refine XS.istore X16.here hx rfl (hb hby at_137) rfl (l' := #[.val (.int xx), .val (.int (own_k xx)), .val (.ref w4), .val (.int (1 : Int32)), .val (.int (1 : Int32)), .val (.int (0 : Int32)), .val (.int (1 : Int32)), .val (.int (1 : Int32)), .unset]) rfl ?_
              show Steps p_.tables e_ below (T16.setTop (mkF m_ 139 #[.val (.int xx), .val (.int (own_k xx)), .val (.ref w4), .val (.int (1 : Int32)), .val (.int (1 : Int32)), .val (.int (0 : Int32)), .val (.int (1 : Int32)), .val (.int (1 : Int32)), .unset] [])) t_
              refine XS.iload X16.here hx rfl (hb hby at_139) rfl ?_
              show Steps p_.tables e_ below (T16.setTop (mkF m_ 141 #[.val (.int xx), .val (.int (own_k xx)), .val (.ref w4), .val (.int (1 : Int32)), .val (.int (1 : Int32)), .val (.int (0 : Int32)), .val (.int (1 : Int32)), .val (.int (1 : Int32)), .unset] [(.int (1 : Int32))])) t_
              refine XS.ifYes X16.here hx rfl (pc0 := 141) (pc' := 156) rfl (hb hby at_141) rfl ((if0 _ _).trans (feq (by decide : ¬ ((1 : Int32) = (0 : Int32)))).2) (by decide) (by decide) ?_
              show Steps p_.tables e_ below (T16.setTop (mkF m_ 156 #[.val (.int xx), .val (.int (own_k xx)), .val (.ref w4), .val (.int (1 : Int32)), .val (.int (1 : Int32)), .val (.int (0 : Int32)), .val (.int (1 : Int32)), .val (.int (1 : Int32)), .unset] [])) t_
              refine XS.iconst X16.here hx rfl (hb hby at_156) ?_
              show Steps p_.tables e_ below (T16.setTop (mkF m_ 157 #[.val (.int xx), .val (.int (own_k xx)), .val (.ref w4), .val (.int (1 : Int32)), .val (.int (1 : Int32)), .val (.int (0 : Int32)), .val (.int (1 : Int32)), .val (.int (1 : Int32)), .unset] [(.int (1 : Int32))])) t_
              refine XS.goto X16.here hx rfl (pc0 := 157) (pc' := 161) rfl (hb hby at_157) (by decide) (by decide) ?_
              show Steps p_.tables e_ below (T16.setTop (mkF m_ 161 #[.val (.int xx), .val (.int (own_k xx)), .val (.ref w4), .val (.int (1 : Int32)), .val (.int (1 : Int32)), .val (.int (0 : Int32)), .val (.int (1 : Int32)), .val (.int (1 : Int32)), .unset] [(.int (1 : Int32))])) t_
              refine XS.istore X16.here hx rfl (hb hby at_161) rfl (l' := #[.val (.int xx), .val (.int (own_k xx)), .val (.ref w4), .val (.int (1 : Int32)), .val (.int (1 : Int32)), .val (.int (0 : Int32)), .val (.int (1 : Int32)), .val (.int (1 : Int32)), .val (.int (1 : Int32))]) rfl ?_
              show Steps p_.tables e_ below (T16.setTop (mkF m_ 163 #[.val (.int xx), .val (.int (own_k xx)), .val (.ref w4), .val (.int (1 : Int32)), .val (.int (1 : Int32)), .val (.int (0 : Int32)), .val (.int (1 : Int32)), .val (.int (1 : Int32)), .val (.int (1 : Int32))] [])) t_
              refine XS.iload X16.here hx rfl (hb hby at_163) rfl ?_
              show Steps p_.tables e_ below (T16.setTop (mkF m_ 165 #[.val (.int xx), .val (.int (own_k xx)), .val (.ref w4), .val (.int (1 : Int32)), .val (.int (1 : Int32)), .val (.int (0 : Int32)), .val (.int (1 : Int32)), .val (.int (1 : Int32)), .val (.int (1 : Int32))] [(.int (1 : Int32))])) t_
              refine XS.ifNo X16.here hx rfl (hb hby at_165) rfl ((if0 _ _).trans (feq (by decide : ¬ ((1 : Int32) = (0 : Int32)))).1) ?_
              show Steps p_.tables e_ below (T16.setTop (mkF m_ 168 #[.val (.int xx), .val (.int (own_k xx)), .val (.ref w4), .val (.int (1 : Int32)), .val (.int (1 : Int32)), .val (.int (0 : Int32)), .val (.int (1 : Int32)), .val (.int (1 : Int32)), .val (.int (1 : Int32))] [])) t_
              refine XS.iload X16.here hx rfl (hb hby at_168) rfl ?_
              show Steps p_.tables e_ below (T16.setTop (mkF m_ 170 #[.val (.int xx), .val (.int (own_k xx)), .val (.ref w4), .val (.int (1 : Int32)), .val (.int (1 : Int32)), .val (.int (0 : Int32)), .val (.int (1 : Int32)), .val (.int (1 : Int32)), .val (.int (1 : Int32))] [(.int (1 : Int32))])) t_
              refine XS.ifNo X16.here hx rfl (hb hby at_170) rfl ((if0 _ _).trans (feq (by decide : ¬ ((1 : Int32) = (0 : Int32)))).1) ?_
              show Steps p_.tables e_ below (T16.setTop (mkF m_ 173 #[.val (.int xx), .val (.int (own_k xx)), .val (.ref w4), .val (.int (1 : Int32)), .val (.int (1 : Int32)), .val (.int (0 : Int32)), .val (.int (1 : Int32)), .val (.int (1 : Int32)), .val (.int (1 : Int32))] [])) t_
              refine XS.iload X16.here hx rfl (hb hby at_173) rfl ?_
              show Steps p_.tables e_ below (T16.setTop (mkF m_ 175 #[.val (.int xx), .val (.int (own_k xx)), .val (.ref w4), .val (.int (1 : Int32)), .val (.int (1 : Int32)), .val (.int (0 : Int32)), .val (.int (1 : Int32)), .val (.int (1 : Int32)), .val (.int (1 : Int32))] [(.int (1 : Int32))])) t_
              refine XS.ifNo X16.here hx rfl (hb hby at_175) rfl ((if0 _ _).trans (feq (by decide : ¬ ((1 : Int32) = (0 : Int32)))).1) ?_
              show Steps p_.tables e_ below (T16.setTop (mkF m_ 178 #[.val (.int xx), .val (.int (own_k xx)), .val (.ref w4), .val (.int (1 : Int32)), .val (.int (1 : Int32)), .val (.int (0 : Int32)), .val (.int (1 : Int32)), .val (.int (1 : Int32)), .val (.int (1 : Int32))] [])) t_
              refine XS.iconst X16.here hx rfl (hb hby at_178) ?_
              show Steps p_.tables e_ below (T16.setTop (mkF m_ 179 #[.val (.int xx), .val (.int (own_k xx)), .val (.ref w4), .val (.int (1 : Int32)), .val (.int (1 : Int32)), .val (.int (0 : Int32)), .val (.int (1 : Int32)), .val (.int (1 : Int32)), .val (.int (1 : Int32))] [(.int (1 : Int32))])) t_
              refine XS.goto X16.here hx rfl (pc0 := 179) (pc' := 183) rfl (hb hby at_179) (by decide) (by decide) ?_
              show Steps p_.tables e_ below (T16.setTop (mkF m_ 183 #[.val (.int xx), .val (.int (own_k xx)), .val (.ref w4), .val (.int (1 : Int32)), .val (.int (1 : Int32)), .val (.int (0 : Int32)), .val (.int (1 : Int32)), .val (.int (1 : Int32)), .val (.int (1 : Int32))] [(.int (1 : Int32))])) t_
              exact k_
            refine own_retN X16 hx hlk (t := .boolean) hret (by simp) (hb hby at_183) (by decide) (by decide) ?_
            exact ⟨rfl, N16⟩
          · refine own_st s₁ (mkF m_ 77 #[.val (.int xx), .val (.int (own_k xx)), .unset, .unset, .unset, .unset, .unset, .unset, .unset] []) (fun t_ k_ => XS.icmpYes X0.here hx rfl (pc0 := 65) (pc' := 77) rfl (hb hby at_65) rfl (feq hc65).2 (by decide) (by decide) k_) ?_
            refine own_st s₁ (mkF m_ 79 #[.val (.int xx), .val (.int (own_k xx)), .unset, .unset, .unset, .unset, .unset, .unset, .unset] [(.int (5 : Int32)), (.int (own_k xx))]) (fun t_ k_ => ?_) ?_
            · refine XS.iloadN X0.here hx rfl (hb hby at_77) rfl ?_
              show Steps p_.tables e_ below (s₁.setTop (mkF m_ 78 #[.val (.int xx), .val (.int (own_k xx)), .unset, .unset, .unset, .unset, .unset, .unset, .unset] [(.int (own_k xx))])) t_
              refine XS.iconst X0.here hx rfl (hb hby at_78) ?_
              show Steps p_.tables e_ below (s₁.setTop (mkF m_ 79 #[.val (.int xx), .val (.int (own_k xx)), .unset, .unset, .unset, .unset, .unset, .unset, .unset] [(.int (5 : Int32)), (.int (own_k xx))])) t_
              exact k_
            by_cases hc79 : (own_k xx) = (5 : Int32)
            · refine own_st s₁ (mkF m_ 82 #[.val (.int xx), .val (.int (own_k xx)), .unset, .unset, .unset, .unset, .unset, .unset, .unset] []) (fun t_ k_ => XS.icmpNo X0.here hx rfl (hb hby at_79) rfl (teq hc79).2 k_) ?_
              obtain ⟨T17, X17, e17, st17⟩ := getS2 X0 hx hZ hown (host := "") (Or.inl (hw _ (List.mem_of_getElem? (i := 27) rfl))) Via.refl e0 S_STATE_BOUND_REACHED (g := (mkF m_ 82 #[.val (.int xx), .val (.int (own_k xx)), .unset, .unset, .unset, .unset, .unset, .unset, .unset] [])) rfl (hb hby at_82)
              refine own_st T17 (mkF m_ 85 #[.val (.int xx), .val (.int (own_k xx)), .unset, .unset, .unset, .unset, .unset, .unset, .unset] [(.ref w5)]) st17 ?_
              refine own_st T17 (mkF m_ 98 #[.val (.int xx), .val (.int (own_k xx)), .val (.ref w5), .val (.int (0 : Int32)), .unset, .unset, .unset, .unset, .unset] [(.ref w5)]) (fun t_ k_ => ?_) ?_
              · refine XS.astoreN X17.here hx rfl (hb hby at_85) rfl rfl (l' := #[.val (.int xx), .val (.int (own_k xx)), .val (.ref w5), .unset, .unset, .unset, .unset, .unset, .unset]) rfl ?_
                show Steps p_.tables e_ below (T17.setTop (mkF m_ 86 #[.val (.int xx), .val (.int (own_k xx)), .val (.ref w5), .unset, .unset, .unset, .unset, .unset, .unset] [])) t_
                refine XS.iconst X17.here hx rfl (hb hby at_86) ?_
                show Steps p_.tables e_ below (T17.setTop (mkF m_ 87 #[.val (.int xx), .val (.int (own_k xx)), .val (.ref w5), .unset, .unset, .unset, .unset, .unset, .unset] [(.int (0 : Int32))])) t_
                refine XS.istoreN X17.here hx rfl (hb hby at_87) rfl (l' := #[.val (.int xx), .val (.int (own_k xx)), .val (.ref w5), .val (.int (0 : Int32)), .unset, .unset, .unset, .unset, .unset]) rfl ?_
                show Steps p_.tables e_ below (T17.setTop (mkF m_ 88 #[.val (.int xx), .val (.int (own_k xx)), .val (.ref w5), .val (.int (0 : Int32)), .unset, .unset, .unset, .unset, .unset] [])) t_
                refine XS.goto X17.here hx rfl (pc0 := 88) (pc' := 97) rfl (hb hby at_88) (by decide) (by decide) ?_
                show Steps p_.tables e_ below (T17.setTop (mkF m_ 97 #[.val (.int xx), .val (.int (own_k xx)), .val (.ref w5), .val (.int (0 : Int32)), .unset, .unset, .unset, .unset, .unset] [])) t_
                refine XS.aloadN X17.here hx rfl (hb hby at_97) rfl rfl ?_
                show Steps p_.tables e_ below (T17.setTop (mkF m_ 98 #[.val (.int xx), .val (.int (own_k xx)), .val (.ref w5), .val (.int (0 : Int32)), .unset, .unset, .unset, .unset, .unset] [(.ref w5)])) t_
                exact k_
              refine own_callV X17 hx hZ (y := (⟨"com/example/refinement_flow_checker/refinementflowchecker/checker/Exploration$Verdict", "violation", "()Z"⟩ : MethodName)) (z := (⟨"com/example/refinement_flow_checker/refinementflowchecker/checker/Exploration$Verdict", "violation", "()Z"⟩ : MethodName)) hown (hw _ (List.mem_of_getElem? (i := 4) rfl)) (hw _ (List.mem_of_getElem? (i := 5) rfl)) (notFace_of_selects (args := #[]) (mvT hZ (hw _ (List.mem_of_getElem? (i := 7) rfl)))) (hw _ (List.mem_of_getElem? (i := 7) rfl)) (hw _ (List.mem_of_getElem? (i := 6) rfl)) (hw _ (List.mem_of_getElem? (i := 2) rfl)) (hw _ (List.mem_of_getElem? (i := 8) rfl)) (by decide) w5 [] [] E_w5 (rm1 l Z a0 hw w5 w1 w2 w3 w4 h0 n0 Z0 S_INVARIANT_VIOLATED S_DEADLOCK_REACHED S_UNDEFINED S_REFINEMENT_VIOLATED) 0 (by decide) (by decide) e17 (by rw [hml]; rfl) (lenOf own_pd0 rfl) rfl (Nat.le_of_eq rfl) (hb hby at_98) (by decide) (by decide) ?_
              intro v18 T18 L18 X18 q18
              obtain ⟨rfl, N18q, e18⟩ := q18
              have N18 := Fr.app N0 N18q
              rw [show f1 w5 w1 w2 w3 w4 = 0 from by simp [f1, (Ne.symm ne_1_5), (Ne.symm ne_2_5), (Ne.symm ne_3_5), (Ne.symm ne_4_5)]]
              show own_Out p_ e_ below s_ _ _ _ T18 (mkF m_ 101 #[.val (.int xx), .val (.int (own_k xx)), .val (.ref w5), .val (.int (0 : Int32)), .unset, .unset, .unset, .unset, .unset] [(.int (0 : Int32))])
              refine own_st T18 (mkF m_ 104 #[.val (.int xx), .val (.int (own_k xx)), .val (.ref w5), .val (.int (0 : Int32)), .val (.int (0 : Int32)), .unset, .unset, .unset, .unset] [(.ref w5)]) (fun t_ k_ => ?_) ?_
              · refine XS.istore X18.here hx rfl (hb hby at_101) rfl (l' := #[.val (.int xx), .val (.int (own_k xx)), .val (.ref w5), .val (.int (0 : Int32)), .val (.int (0 : Int32)), .unset, .unset, .unset, .unset]) rfl ?_
                show Steps p_.tables e_ below (T18.setTop (mkF m_ 103 #[.val (.int xx), .val (.int (own_k xx)), .val (.ref w5), .val (.int (0 : Int32)), .val (.int (0 : Int32)), .unset, .unset, .unset, .unset] [])) t_
                refine XS.aloadN X18.here hx rfl (hb hby at_103) rfl rfl ?_
                show Steps p_.tables e_ below (T18.setTop (mkF m_ 104 #[.val (.int xx), .val (.int (own_k xx)), .val (.ref w5), .val (.int (0 : Int32)), .val (.int (0 : Int32)), .unset, .unset, .unset, .unset] [(.ref w5)])) t_
                exact k_
              refine own_callV X18 hx hZ (y := (⟨"com/example/refinement_flow_checker/refinementflowchecker/checker/Exploration$Verdict", "incomplete", "()Z"⟩ : MethodName)) (z := (⟨"com/example/refinement_flow_checker/refinementflowchecker/checker/Exploration$Verdict", "incomplete", "()Z"⟩ : MethodName)) hown (hw _ (List.mem_of_getElem? (i := 17) rfl)) (hw _ (List.mem_of_getElem? (i := 18) rfl)) (notFace_of_selects (args := #[]) (mvT hZ (hw _ (List.mem_of_getElem? (i := 20) rfl)))) (hw _ (List.mem_of_getElem? (i := 20) rfl)) (hw _ (List.mem_of_getElem? (i := 19) rfl)) (hw _ (List.mem_of_getElem? (i := 2) rfl)) (hw _ (List.mem_of_getElem? (i := 21) rfl)) (by decide) w5 [] [] E_w5 (rm2 l Z a0 hw w5 w5 w6 h0 n0 Z0 S_STATE_BOUND_REACHED S_MEMORY_EXHAUSTED) 0 (by decide) (by decide) e18 (by rw [hml]; rfl) (lenOf own_pd0 rfl) rfl (Nat.le_of_eq rfl) (hb hby at_104) (by decide) (by decide) ?_
              intro v19 T19 L19 X19 q19
              obtain ⟨rfl, N19q, e19⟩ := q19
              have N19 := Fr.app N18 N19q
              rw [show f2 w5 w5 w6 = 1 from by simp [f2, ne_5_6]]
              show own_Out p_ e_ below s_ _ _ _ T19 (mkF m_ 107 #[.val (.int xx), .val (.int (own_k xx)), .val (.ref w5), .val (.int (0 : Int32)), .val (.int (0 : Int32)), .unset, .unset, .unset, .unset] [(.int (1 : Int32))])
              refine own_st T19 (mkF m_ 183 #[.val (.int xx), .val (.int (own_k xx)), .val (.ref w5), .val (.int (0 : Int32)), .val (.int (0 : Int32)), .val (.int (1 : Int32)), .val (.int (1 : Int32)), .val (.int (1 : Int32)), .val (.int (1 : Int32))] [(.int (1 : Int32))]) (fun t_ k_ => ?_) ?_
              · refine XS.istore X19.here hx rfl (hb hby at_107) rfl (l' := #[.val (.int xx), .val (.int (own_k xx)), .val (.ref w5), .val (.int (0 : Int32)), .val (.int (0 : Int32)), .val (.int (1 : Int32)), .unset, .unset, .unset]) rfl ?_
                show Steps p_.tables e_ below (T19.setTop (mkF m_ 109 #[.val (.int xx), .val (.int (own_k xx)), .val (.ref w5), .val (.int (0 : Int32)), .val (.int (0 : Int32)), .val (.int (1 : Int32)), .unset, .unset, .unset] [])) t_
                refine XS.iload X19.here hx rfl (hb hby at_109) rfl ?_
                show Steps p_.tables e_ below (T19.setTop (mkF m_ 111 #[.val (.int xx), .val (.int (own_k xx)), .val (.ref w5), .val (.int (0 : Int32)), .val (.int (0 : Int32)), .val (.int (1 : Int32)), .unset, .unset, .unset] [(.int (0 : Int32))])) t_
                refine XS.iloadN X19.here hx rfl (hb hby at_111) rfl ?_
                show Steps p_.tables e_ below (T19.setTop (mkF m_ 112 #[.val (.int xx), .val (.int (own_k xx)), .val (.ref w5), .val (.int (0 : Int32)), .val (.int (0 : Int32)), .val (.int (1 : Int32)), .unset, .unset, .unset] [(.int (0 : Int32)), (.int (0 : Int32))])) t_
                refine XS.icmpNo X19.here hx rfl (hb hby at_112) rfl (teq (by decide : (0 : Int32) = (0 : Int32))).2 ?_
                show Steps p_.tables e_ below (T19.setTop (mkF m_ 115 #[.val (.int xx), .val (.int (own_k xx)), .val (.ref w5), .val (.int (0 : Int32)), .val (.int (0 : Int32)), .val (.int (1 : Int32)), .unset, .unset, .unset] [])) t_
                refine XS.iconst X19.here hx rfl (hb hby at_115) ?_
                show Steps p_.tables e_ below (T19.setTop (mkF m_ 116 #[.val (.int xx), .val (.int (own_k xx)), .val (.ref w5), .val (.int (0 : Int32)), .val (.int (0 : Int32)), .val (.int (1 : Int32)), .unset, .unset, .unset] [(.int (1 : Int32))])) t_
                refine XS.goto X19.here hx rfl (pc0 := 116) (pc' := 120) rfl (hb hby at_116) (by decide) (by decide) ?_
                show Steps p_.tables e_ below (T19.setTop (mkF m_ 120 #[.val (.int xx), .val (.int (own_k xx)), .val (.ref w5), .val (.int (0 : Int32)), .val (.int (0 : Int32)), .val (.int (1 : Int32)), .unset, .unset, .unset] [(.int (1 : Int32))])) t_
                refine XS.istore X19.here hx rfl (hb hby at_120) rfl (l' := #[.val (.int xx), .val (.int (own_k xx)), .val (.ref w5), .val (.int (0 : Int32)), .val (.int (0 : Int32)), .val (.int (1 : Int32)), .val (.int (1 : Int32)), .unset, .unset]) rfl ?_
                show Steps p_.tables e_ below (T19.setTop (mkF m_ 122 #[.val (.int xx), .val (.int (own_k xx)), .val (.ref w5), .val (.int (0 : Int32)), .val (.int (0 : Int32)), .val (.int (1 : Int32)), .val (.int (1 : Int32)), .unset, .unset] [])) t_
                refine XS.iload X19.here hx rfl (hb hby at_122) rfl ?_
                show Steps p_.tables e_ below (T19.setTop (mkF m_ 124 #[.val (.int xx), .val (.int (own_k xx)), .val (.ref w5), .val (.int (0 : Int32)), .val (.int (0 : Int32)), .val (.int (1 : Int32)), .val (.int (1 : Int32)), .unset, .unset] [(.int (0 : Int32))])) t_
                refine XS.ifYes X19.here hx rfl (pc0 := 124) (pc' := 132) rfl (hb hby at_124) rfl ((if0 _ _).trans (teq (by decide : (0 : Int32) = (0 : Int32))).1) (by decide) (by decide) ?_
                show Steps p_.tables e_ below (T19.setTop (mkF m_ 132 #[.val (.int xx), .val (.int (own_k xx)), .val (.ref w5), .val (.int (0 : Int32)), .val (.int (0 : Int32)), .val (.int (1 : Int32)), .val (.int (1 : Int32)), .unset, .unset] [])) t_
                refine XS.iconst X19.here hx rfl (hb hby at_132) ?_
                show Steps p_.tables e_ below (T19.setTop (mkF m_ 133 #[.val (.int xx), .val (.int (own_k xx)), .val (.ref w5), .val (.int (0 : Int32)), .val (.int (0 : Int32)), .val (.int (1 : Int32)), .val (.int (1 : Int32)), .unset, .unset] [(.int (1 : Int32))])) t_
                refine XS.goto X19.here hx rfl (pc0 := 133) (pc' := 137) rfl (hb hby at_133) (by decide) (by decide) ?_
                show Steps p_.tables e_ below (T19.setTop (mkF m_ 137 #[.val (.int xx), .val (.int (own_k xx)), .val (.ref w5), .val (.int (0 : Int32)), .val (.int (0 : Int32)), .val (.int (1 : Int32)), .val (.int (1 : Int32)), .unset, .unset] [(.int (1 : Int32))])) t_
                refine XS.istore X19.here hx rfl (hb hby at_137) rfl (l' := #[.val (.int xx), .val (.int (own_k xx)), .val (.ref w5), .val (.int (0 : Int32)), .val (.int (0 : Int32)), .val (.int (1 : Int32)), .val (.int (1 : Int32)), .val (.int (1 : Int32)), .unset]) rfl ?_
                show Steps p_.tables e_ below (T19.setTop (mkF m_ 139 #[.val (.int xx), .val (.int (own_k xx)), .val (.ref w5), .val (.int (0 : Int32)), .val (.int (0 : Int32)), .val (.int (1 : Int32)), .val (.int (1 : Int32)), .val (.int (1 : Int32)), .unset] [])) t_
                refine XS.iload X19.here hx rfl (hb hby at_139) rfl ?_
                show Steps p_.tables e_ below (T19.setTop (mkF m_ 141 #[.val (.int xx), .val (.int (own_k xx)), .val (.ref w5), .val (.int (0 : Int32)), .val (.int (0 : Int32)), .val (.int (1 : Int32)), .val (.int (1 : Int32)), .val (.int (1 : Int32)), .unset] [(.int (0 : Int32))])) t_
                refine XS.ifNo X19.here hx rfl (hb hby at_141) rfl ((if0 _ _).trans (teq (by decide : (0 : Int32) = (0 : Int32))).2) ?_
                show Steps p_.tables e_ below (T19.setTop (mkF m_ 144 #[.val (.int xx), .val (.int (own_k xx)), .val (.ref w5), .val (.int (0 : Int32)), .val (.int (0 : Int32)), .val (.int (1 : Int32)), .val (.int (1 : Int32)), .val (.int (1 : Int32)), .unset] [])) t_
                refine XS.iload X19.here hx rfl (hb hby at_144) rfl ?_
                show Steps p_.tables e_ below (T19.setTop (mkF m_ 146 #[.val (.int xx), .val (.int (own_k xx)), .val (.ref w5), .val (.int (0 : Int32)), .val (.int (0 : Int32)), .val (.int (1 : Int32)), .val (.int (1 : Int32)), .val (.int (1 : Int32)), .unset] [(.int (1 : Int32))])) t_
                refine XS.ifYes X19.here hx rfl (pc0 := 146) (pc' := 156) rfl (hb hby at_146) rfl ((if0 _ _).trans (feq (by decide : ¬ ((1 : Int32) = (0 : Int32)))).2) (by decide) (by decide) ?_
                show Steps p_.tables e_ below (T19.setTop (mkF m_ 156 #[.val (.int xx), .val (.int (own_k xx)), .val (.ref w5), .val (.int (0 : Int32)), .val (.int (0 : Int32)), .val (.int (1 : Int32)), .val (.int (1 : Int32)), .val (.int (1 : Int32)), .unset] [])) t_
                refine XS.iconst X19.here hx rfl (hb hby at_156) ?_
                show Steps p_.tables e_ below (T19.setTop (mkF m_ 157 #[.val (.int xx), .val (.int (own_k xx)), .val (.ref w5), .val (.int (0 : Int32)), .val (.int (0 : Int32)), .val (.int (1 : Int32)), .val (.int (1 : Int32)), .val (.int (1 : Int32)), .unset] [(.int (1 : Int32))])) t_
                refine XS.goto X19.here hx rfl (pc0 := 157) (pc' := 161) rfl (hb hby at_157) (by decide) (by decide) ?_
                show Steps p_.tables e_ below (T19.setTop (mkF m_ 161 #[.val (.int xx), .val (.int (own_k xx)), .val (.ref w5), .val (.int (0 : Int32)), .val (.int (0 : Int32)), .val (.int (1 : Int32)), .val (.int (1 : Int32)), .val (.int (1 : Int32)), .unset] [(.int (1 : Int32))])) t_
                refine XS.istore X19.here hx rfl (hb hby at_161) rfl (l' := #[.val (.int xx), .val (.int (own_k xx)), .val (.ref w5), .val (.int (0 : Int32)), .val (.int (0 : Int32)), .val (.int (1 : Int32)), .val (.int (1 : Int32)), .val (.int (1 : Int32)), .val (.int (1 : Int32))]) rfl ?_
                show Steps p_.tables e_ below (T19.setTop (mkF m_ 163 #[.val (.int xx), .val (.int (own_k xx)), .val (.ref w5), .val (.int (0 : Int32)), .val (.int (0 : Int32)), .val (.int (1 : Int32)), .val (.int (1 : Int32)), .val (.int (1 : Int32)), .val (.int (1 : Int32))] [])) t_
                refine XS.iload X19.here hx rfl (hb hby at_163) rfl ?_
                show Steps p_.tables e_ below (T19.setTop (mkF m_ 165 #[.val (.int xx), .val (.int (own_k xx)), .val (.ref w5), .val (.int (0 : Int32)), .val (.int (0 : Int32)), .val (.int (1 : Int32)), .val (.int (1 : Int32)), .val (.int (1 : Int32)), .val (.int (1 : Int32))] [(.int (1 : Int32))])) t_
                refine XS.ifNo X19.here hx rfl (hb hby at_165) rfl ((if0 _ _).trans (feq (by decide : ¬ ((1 : Int32) = (0 : Int32)))).1) ?_
                show Steps p_.tables e_ below (T19.setTop (mkF m_ 168 #[.val (.int xx), .val (.int (own_k xx)), .val (.ref w5), .val (.int (0 : Int32)), .val (.int (0 : Int32)), .val (.int (1 : Int32)), .val (.int (1 : Int32)), .val (.int (1 : Int32)), .val (.int (1 : Int32))] [])) t_
                refine XS.iload X19.here hx rfl (hb hby at_168) rfl ?_
                show Steps p_.tables e_ below (T19.setTop (mkF m_ 170 #[.val (.int xx), .val (.int (own_k xx)), .val (.ref w5), .val (.int (0 : Int32)), .val (.int (0 : Int32)), .val (.int (1 : Int32)), .val (.int (1 : Int32)), .val (.int (1 : Int32)), .val (.int (1 : Int32))] [(.int (1 : Int32))])) t_
                refine XS.ifNo X19.here hx rfl (hb hby at_170) rfl ((if0 _ _).trans (feq (by decide : ¬ ((1 : Int32) = (0 : Int32)))).1) ?_
                show Steps p_.tables e_ below (T19.setTop (mkF m_ 173 #[.val (.int xx), .val (.int (own_k xx)), .val (.ref w5), .val (.int (0 : Int32)), .val (.int (0 : Int32)), .val (.int (1 : Int32)), .val (.int (1 : Int32)), .val (.int (1 : Int32)), .val (.int (1 : Int32))] [])) t_
                refine XS.iload X19.here hx rfl (hb hby at_173) rfl ?_
                show Steps p_.tables e_ below (T19.setTop (mkF m_ 175 #[.val (.int xx), .val (.int (own_k xx)), .val (.ref w5), .val (.int (0 : Int32)), .val (.int (0 : Int32)), .val (.int (1 : Int32)), .val (.int (1 : Int32)), .val (.int (1 : Int32)), .val (.int (1 : Int32))] [(.int (1 : Int32))])) t_
                refine XS.ifNo X19.here hx rfl (hb hby at_175) rfl ((if0 _ _).trans (feq (by decide : ¬ ((1 : Int32) = (0 : Int32)))).1) ?_
                show Steps p_.tables e_ below (T19.setTop (mkF m_ 178 #[.val (.int xx), .val (.int (own_k xx)), .val (.ref w5), .val (.int (0 : Int32)), .val (.int (0 : Int32)), .val (.int (1 : Int32)), .val (.int (1 : Int32)), .val (.int (1 : Int32)), .val (.int (1 : Int32))] [])) t_
                refine XS.iconst X19.here hx rfl (hb hby at_178) ?_
                show Steps p_.tables e_ below (T19.setTop (mkF m_ 179 #[.val (.int xx), .val (.int (own_k xx)), .val (.ref w5), .val (.int (0 : Int32)), .val (.int (0 : Int32)), .val (.int (1 : Int32)), .val (.int (1 : Int32)), .val (.int (1 : Int32)), .val (.int (1 : Int32))] [(.int (1 : Int32))])) t_
                refine XS.goto X19.here hx rfl (pc0 := 179) (pc' := 183) rfl (hb hby at_179) (by decide) (by decide) ?_
                show Steps p_.tables e_ below (T19.setTop (mkF m_ 183 #[.val (.int xx), .val (.int (own_k xx)), .val (.ref w5), .val (.int (0 : Int32)), .val (.int (0 : Int32)), .val (.int (1 : Int32)), .val (.int (1 : Int32)), .val (.int (1 : Int32)), .val (.int (1 : Int32))] [(.int (1 : Int32))])) t_
                exact k_
              refine own_retN X19 hx hlk (t := .boolean) hret (by simp) (hb hby at_183) (by decide) (by decide) ?_
              exact ⟨rfl, N19⟩
            · refine own_st s₁ (mkF m_ 91 #[.val (.int xx), .val (.int (own_k xx)), .unset, .unset, .unset, .unset, .unset, .unset, .unset] []) (fun t_ k_ => XS.icmpYes X0.here hx rfl (pc0 := 79) (pc' := 91) rfl (hb hby at_79) rfl (feq hc79).2 (by decide) (by decide) k_) ?_
              obtain ⟨T20, X20, e20, st20⟩ := getS2 X0 hx hZ hown (host := "") (Or.inl (hw _ (List.mem_of_getElem? (i := 28) rfl))) Via.refl e0 S_MEMORY_EXHAUSTED (g := (mkF m_ 91 #[.val (.int xx), .val (.int (own_k xx)), .unset, .unset, .unset, .unset, .unset, .unset, .unset] [])) rfl (hb hby at_91)
              refine own_st T20 (mkF m_ 94 #[.val (.int xx), .val (.int (own_k xx)), .unset, .unset, .unset, .unset, .unset, .unset, .unset] [(.ref w6)]) st20 ?_
              refine own_st T20 (mkF m_ 98 #[.val (.int xx), .val (.int (own_k xx)), .val (.ref w6), .val (.int (0 : Int32)), .unset, .unset, .unset, .unset, .unset] [(.ref w6)]) (fun t_ k_ => ?_) ?_
              · refine XS.astoreN X20.here hx rfl (hb hby at_94) rfl rfl (l' := #[.val (.int xx), .val (.int (own_k xx)), .val (.ref w6), .unset, .unset, .unset, .unset, .unset, .unset]) rfl ?_
                show Steps p_.tables e_ below (T20.setTop (mkF m_ 95 #[.val (.int xx), .val (.int (own_k xx)), .val (.ref w6), .unset, .unset, .unset, .unset, .unset, .unset] [])) t_
                refine XS.iconst X20.here hx rfl (hb hby at_95) ?_
                show Steps p_.tables e_ below (T20.setTop (mkF m_ 96 #[.val (.int xx), .val (.int (own_k xx)), .val (.ref w6), .unset, .unset, .unset, .unset, .unset, .unset] [(.int (0 : Int32))])) t_
                refine XS.istoreN X20.here hx rfl (hb hby at_96) rfl (l' := #[.val (.int xx), .val (.int (own_k xx)), .val (.ref w6), .val (.int (0 : Int32)), .unset, .unset, .unset, .unset, .unset]) rfl ?_
                show Steps p_.tables e_ below (T20.setTop (mkF m_ 97 #[.val (.int xx), .val (.int (own_k xx)), .val (.ref w6), .val (.int (0 : Int32)), .unset, .unset, .unset, .unset, .unset] [])) t_
                refine XS.aloadN X20.here hx rfl (hb hby at_97) rfl rfl ?_
                show Steps p_.tables e_ below (T20.setTop (mkF m_ 98 #[.val (.int xx), .val (.int (own_k xx)), .val (.ref w6), .val (.int (0 : Int32)), .unset, .unset, .unset, .unset, .unset] [(.ref w6)])) t_
                exact k_
              refine own_callV X20 hx hZ (y := (⟨"com/example/refinement_flow_checker/refinementflowchecker/checker/Exploration$Verdict", "violation", "()Z"⟩ : MethodName)) (z := (⟨"com/example/refinement_flow_checker/refinementflowchecker/checker/Exploration$Verdict", "violation", "()Z"⟩ : MethodName)) hown (hw _ (List.mem_of_getElem? (i := 4) rfl)) (hw _ (List.mem_of_getElem? (i := 5) rfl)) (notFace_of_selects (args := #[]) (mvT hZ (hw _ (List.mem_of_getElem? (i := 7) rfl)))) (hw _ (List.mem_of_getElem? (i := 7) rfl)) (hw _ (List.mem_of_getElem? (i := 6) rfl)) (hw _ (List.mem_of_getElem? (i := 2) rfl)) (hw _ (List.mem_of_getElem? (i := 8) rfl)) (by decide) w6 [] [] E_w6 (rm1 l Z a0 hw w6 w1 w2 w3 w4 h0 n0 Z0 S_INVARIANT_VIOLATED S_DEADLOCK_REACHED S_UNDEFINED S_REFINEMENT_VIOLATED) 0 (by decide) (by decide) e20 (by rw [hml]; rfl) (lenOf own_pd0 rfl) rfl (Nat.le_of_eq rfl) (hb hby at_98) (by decide) (by decide) ?_
              intro v21 T21 L21 X21 q21
              obtain ⟨rfl, N21q, e21⟩ := q21
              have N21 := Fr.app N0 N21q
              rw [show f1 w6 w1 w2 w3 w4 = 0 from by simp [f1, (Ne.symm ne_1_6), (Ne.symm ne_2_6), (Ne.symm ne_3_6), (Ne.symm ne_4_6)]]
              show own_Out p_ e_ below s_ _ _ _ T21 (mkF m_ 101 #[.val (.int xx), .val (.int (own_k xx)), .val (.ref w6), .val (.int (0 : Int32)), .unset, .unset, .unset, .unset, .unset] [(.int (0 : Int32))])
              refine own_st T21 (mkF m_ 104 #[.val (.int xx), .val (.int (own_k xx)), .val (.ref w6), .val (.int (0 : Int32)), .val (.int (0 : Int32)), .unset, .unset, .unset, .unset] [(.ref w6)]) (fun t_ k_ => ?_) ?_
              · refine XS.istore X21.here hx rfl (hb hby at_101) rfl (l' := #[.val (.int xx), .val (.int (own_k xx)), .val (.ref w6), .val (.int (0 : Int32)), .val (.int (0 : Int32)), .unset, .unset, .unset, .unset]) rfl ?_
                show Steps p_.tables e_ below (T21.setTop (mkF m_ 103 #[.val (.int xx), .val (.int (own_k xx)), .val (.ref w6), .val (.int (0 : Int32)), .val (.int (0 : Int32)), .unset, .unset, .unset, .unset] [])) t_
                refine XS.aloadN X21.here hx rfl (hb hby at_103) rfl rfl ?_
                show Steps p_.tables e_ below (T21.setTop (mkF m_ 104 #[.val (.int xx), .val (.int (own_k xx)), .val (.ref w6), .val (.int (0 : Int32)), .val (.int (0 : Int32)), .unset, .unset, .unset, .unset] [(.ref w6)])) t_
                exact k_
              refine own_callV X21 hx hZ (y := (⟨"com/example/refinement_flow_checker/refinementflowchecker/checker/Exploration$Verdict", "incomplete", "()Z"⟩ : MethodName)) (z := (⟨"com/example/refinement_flow_checker/refinementflowchecker/checker/Exploration$Verdict", "incomplete", "()Z"⟩ : MethodName)) hown (hw _ (List.mem_of_getElem? (i := 17) rfl)) (hw _ (List.mem_of_getElem? (i := 18) rfl)) (notFace_of_selects (args := #[]) (mvT hZ (hw _ (List.mem_of_getElem? (i := 20) rfl)))) (hw _ (List.mem_of_getElem? (i := 20) rfl)) (hw _ (List.mem_of_getElem? (i := 19) rfl)) (hw _ (List.mem_of_getElem? (i := 2) rfl)) (hw _ (List.mem_of_getElem? (i := 21) rfl)) (by decide) w6 [] [] E_w6 (rm2 l Z a0 hw w6 w5 w6 h0 n0 Z0 S_STATE_BOUND_REACHED S_MEMORY_EXHAUSTED) 0 (by decide) (by decide) e21 (by rw [hml]; rfl) (lenOf own_pd0 rfl) rfl (Nat.le_of_eq rfl) (hb hby at_104) (by decide) (by decide) ?_
              intro v22 T22 L22 X22 q22
              obtain ⟨rfl, N22q, e22⟩ := q22
              have N22 := Fr.app N21 N22q
              rw [show f2 w6 w5 w6 = 1 from by simp [f2, (Ne.symm ne_5_6)]]
              show own_Out p_ e_ below s_ _ _ _ T22 (mkF m_ 107 #[.val (.int xx), .val (.int (own_k xx)), .val (.ref w6), .val (.int (0 : Int32)), .val (.int (0 : Int32)), .unset, .unset, .unset, .unset] [(.int (1 : Int32))])
              refine own_st T22 (mkF m_ 183 #[.val (.int xx), .val (.int (own_k xx)), .val (.ref w6), .val (.int (0 : Int32)), .val (.int (0 : Int32)), .val (.int (1 : Int32)), .val (.int (1 : Int32)), .val (.int (1 : Int32)), .val (.int (1 : Int32))] [(.int (1 : Int32))]) (fun t_ k_ => ?_) ?_
              · refine XS.istore X22.here hx rfl (hb hby at_107) rfl (l' := #[.val (.int xx), .val (.int (own_k xx)), .val (.ref w6), .val (.int (0 : Int32)), .val (.int (0 : Int32)), .val (.int (1 : Int32)), .unset, .unset, .unset]) rfl ?_
                show Steps p_.tables e_ below (T22.setTop (mkF m_ 109 #[.val (.int xx), .val (.int (own_k xx)), .val (.ref w6), .val (.int (0 : Int32)), .val (.int (0 : Int32)), .val (.int (1 : Int32)), .unset, .unset, .unset] [])) t_
                refine XS.iload X22.here hx rfl (hb hby at_109) rfl ?_
                show Steps p_.tables e_ below (T22.setTop (mkF m_ 111 #[.val (.int xx), .val (.int (own_k xx)), .val (.ref w6), .val (.int (0 : Int32)), .val (.int (0 : Int32)), .val (.int (1 : Int32)), .unset, .unset, .unset] [(.int (0 : Int32))])) t_
                refine XS.iloadN X22.here hx rfl (hb hby at_111) rfl ?_
                show Steps p_.tables e_ below (T22.setTop (mkF m_ 112 #[.val (.int xx), .val (.int (own_k xx)), .val (.ref w6), .val (.int (0 : Int32)), .val (.int (0 : Int32)), .val (.int (1 : Int32)), .unset, .unset, .unset] [(.int (0 : Int32)), (.int (0 : Int32))])) t_
                refine XS.icmpNo X22.here hx rfl (hb hby at_112) rfl (teq (by decide : (0 : Int32) = (0 : Int32))).2 ?_
                show Steps p_.tables e_ below (T22.setTop (mkF m_ 115 #[.val (.int xx), .val (.int (own_k xx)), .val (.ref w6), .val (.int (0 : Int32)), .val (.int (0 : Int32)), .val (.int (1 : Int32)), .unset, .unset, .unset] [])) t_
                refine XS.iconst X22.here hx rfl (hb hby at_115) ?_
                show Steps p_.tables e_ below (T22.setTop (mkF m_ 116 #[.val (.int xx), .val (.int (own_k xx)), .val (.ref w6), .val (.int (0 : Int32)), .val (.int (0 : Int32)), .val (.int (1 : Int32)), .unset, .unset, .unset] [(.int (1 : Int32))])) t_
                refine XS.goto X22.here hx rfl (pc0 := 116) (pc' := 120) rfl (hb hby at_116) (by decide) (by decide) ?_
                show Steps p_.tables e_ below (T22.setTop (mkF m_ 120 #[.val (.int xx), .val (.int (own_k xx)), .val (.ref w6), .val (.int (0 : Int32)), .val (.int (0 : Int32)), .val (.int (1 : Int32)), .unset, .unset, .unset] [(.int (1 : Int32))])) t_
                refine XS.istore X22.here hx rfl (hb hby at_120) rfl (l' := #[.val (.int xx), .val (.int (own_k xx)), .val (.ref w6), .val (.int (0 : Int32)), .val (.int (0 : Int32)), .val (.int (1 : Int32)), .val (.int (1 : Int32)), .unset, .unset]) rfl ?_
                show Steps p_.tables e_ below (T22.setTop (mkF m_ 122 #[.val (.int xx), .val (.int (own_k xx)), .val (.ref w6), .val (.int (0 : Int32)), .val (.int (0 : Int32)), .val (.int (1 : Int32)), .val (.int (1 : Int32)), .unset, .unset] [])) t_
                refine XS.iload X22.here hx rfl (hb hby at_122) rfl ?_
                show Steps p_.tables e_ below (T22.setTop (mkF m_ 124 #[.val (.int xx), .val (.int (own_k xx)), .val (.ref w6), .val (.int (0 : Int32)), .val (.int (0 : Int32)), .val (.int (1 : Int32)), .val (.int (1 : Int32)), .unset, .unset] [(.int (0 : Int32))])) t_
                refine XS.ifYes X22.here hx rfl (pc0 := 124) (pc' := 132) rfl (hb hby at_124) rfl ((if0 _ _).trans (teq (by decide : (0 : Int32) = (0 : Int32))).1) (by decide) (by decide) ?_
                show Steps p_.tables e_ below (T22.setTop (mkF m_ 132 #[.val (.int xx), .val (.int (own_k xx)), .val (.ref w6), .val (.int (0 : Int32)), .val (.int (0 : Int32)), .val (.int (1 : Int32)), .val (.int (1 : Int32)), .unset, .unset] [])) t_
                refine XS.iconst X22.here hx rfl (hb hby at_132) ?_
                show Steps p_.tables e_ below (T22.setTop (mkF m_ 133 #[.val (.int xx), .val (.int (own_k xx)), .val (.ref w6), .val (.int (0 : Int32)), .val (.int (0 : Int32)), .val (.int (1 : Int32)), .val (.int (1 : Int32)), .unset, .unset] [(.int (1 : Int32))])) t_
                refine XS.goto X22.here hx rfl (pc0 := 133) (pc' := 137) rfl (hb hby at_133) (by decide) (by decide) ?_
                show Steps p_.tables e_ below (T22.setTop (mkF m_ 137 #[.val (.int xx), .val (.int (own_k xx)), .val (.ref w6), .val (.int (0 : Int32)), .val (.int (0 : Int32)), .val (.int (1 : Int32)), .val (.int (1 : Int32)), .unset, .unset] [(.int (1 : Int32))])) t_
                refine XS.istore X22.here hx rfl (hb hby at_137) rfl (l' := #[.val (.int xx), .val (.int (own_k xx)), .val (.ref w6), .val (.int (0 : Int32)), .val (.int (0 : Int32)), .val (.int (1 : Int32)), .val (.int (1 : Int32)), .val (.int (1 : Int32)), .unset]) rfl ?_
                show Steps p_.tables e_ below (T22.setTop (mkF m_ 139 #[.val (.int xx), .val (.int (own_k xx)), .val (.ref w6), .val (.int (0 : Int32)), .val (.int (0 : Int32)), .val (.int (1 : Int32)), .val (.int (1 : Int32)), .val (.int (1 : Int32)), .unset] [])) t_
                refine XS.iload X22.here hx rfl (hb hby at_139) rfl ?_
                show Steps p_.tables e_ below (T22.setTop (mkF m_ 141 #[.val (.int xx), .val (.int (own_k xx)), .val (.ref w6), .val (.int (0 : Int32)), .val (.int (0 : Int32)), .val (.int (1 : Int32)), .val (.int (1 : Int32)), .val (.int (1 : Int32)), .unset] [(.int (0 : Int32))])) t_
                refine XS.ifNo X22.here hx rfl (hb hby at_141) rfl ((if0 _ _).trans (teq (by decide : (0 : Int32) = (0 : Int32))).2) ?_
                show Steps p_.tables e_ below (T22.setTop (mkF m_ 144 #[.val (.int xx), .val (.int (own_k xx)), .val (.ref w6), .val (.int (0 : Int32)), .val (.int (0 : Int32)), .val (.int (1 : Int32)), .val (.int (1 : Int32)), .val (.int (1 : Int32)), .unset] [])) t_
                refine XS.iload X22.here hx rfl (hb hby at_144) rfl ?_
                show Steps p_.tables e_ below (T22.setTop (mkF m_ 146 #[.val (.int xx), .val (.int (own_k xx)), .val (.ref w6), .val (.int (0 : Int32)), .val (.int (0 : Int32)), .val (.int (1 : Int32)), .val (.int (1 : Int32)), .val (.int (1 : Int32)), .unset] [(.int (1 : Int32))])) t_
                refine XS.ifYes X22.here hx rfl (pc0 := 146) (pc' := 156) rfl (hb hby at_146) rfl ((if0 _ _).trans (feq (by decide : ¬ ((1 : Int32) = (0 : Int32)))).2) (by decide) (by decide) ?_
                show Steps p_.tables e_ below (T22.setTop (mkF m_ 156 #[.val (.int xx), .val (.int (own_k xx)), .val (.ref w6), .val (.int (0 : Int32)), .val (.int (0 : Int32)), .val (.int (1 : Int32)), .val (.int (1 : Int32)), .val (.int (1 : Int32)), .unset] [])) t_
                refine XS.iconst X22.here hx rfl (hb hby at_156) ?_
                show Steps p_.tables e_ below (T22.setTop (mkF m_ 157 #[.val (.int xx), .val (.int (own_k xx)), .val (.ref w6), .val (.int (0 : Int32)), .val (.int (0 : Int32)), .val (.int (1 : Int32)), .val (.int (1 : Int32)), .val (.int (1 : Int32)), .unset] [(.int (1 : Int32))])) t_
                refine XS.goto X22.here hx rfl (pc0 := 157) (pc' := 161) rfl (hb hby at_157) (by decide) (by decide) ?_
                show Steps p_.tables e_ below (T22.setTop (mkF m_ 161 #[.val (.int xx), .val (.int (own_k xx)), .val (.ref w6), .val (.int (0 : Int32)), .val (.int (0 : Int32)), .val (.int (1 : Int32)), .val (.int (1 : Int32)), .val (.int (1 : Int32)), .unset] [(.int (1 : Int32))])) t_
                refine XS.istore X22.here hx rfl (hb hby at_161) rfl (l' := #[.val (.int xx), .val (.int (own_k xx)), .val (.ref w6), .val (.int (0 : Int32)), .val (.int (0 : Int32)), .val (.int (1 : Int32)), .val (.int (1 : Int32)), .val (.int (1 : Int32)), .val (.int (1 : Int32))]) rfl ?_
                show Steps p_.tables e_ below (T22.setTop (mkF m_ 163 #[.val (.int xx), .val (.int (own_k xx)), .val (.ref w6), .val (.int (0 : Int32)), .val (.int (0 : Int32)), .val (.int (1 : Int32)), .val (.int (1 : Int32)), .val (.int (1 : Int32)), .val (.int (1 : Int32))] [])) t_
                refine XS.iload X22.here hx rfl (hb hby at_163) rfl ?_
                show Steps p_.tables e_ below (T22.setTop (mkF m_ 165 #[.val (.int xx), .val (.int (own_k xx)), .val (.ref w6), .val (.int (0 : Int32)), .val (.int (0 : Int32)), .val (.int (1 : Int32)), .val (.int (1 : Int32)), .val (.int (1 : Int32)), .val (.int (1 : Int32))] [(.int (1 : Int32))])) t_
                refine XS.ifNo X22.here hx rfl (hb hby at_165) rfl ((if0 _ _).trans (feq (by decide : ¬ ((1 : Int32) = (0 : Int32)))).1) ?_
                show Steps p_.tables e_ below (T22.setTop (mkF m_ 168 #[.val (.int xx), .val (.int (own_k xx)), .val (.ref w6), .val (.int (0 : Int32)), .val (.int (0 : Int32)), .val (.int (1 : Int32)), .val (.int (1 : Int32)), .val (.int (1 : Int32)), .val (.int (1 : Int32))] [])) t_
                refine XS.iload X22.here hx rfl (hb hby at_168) rfl ?_
                show Steps p_.tables e_ below (T22.setTop (mkF m_ 170 #[.val (.int xx), .val (.int (own_k xx)), .val (.ref w6), .val (.int (0 : Int32)), .val (.int (0 : Int32)), .val (.int (1 : Int32)), .val (.int (1 : Int32)), .val (.int (1 : Int32)), .val (.int (1 : Int32))] [(.int (1 : Int32))])) t_
                refine XS.ifNo X22.here hx rfl (hb hby at_170) rfl ((if0 _ _).trans (feq (by decide : ¬ ((1 : Int32) = (0 : Int32)))).1) ?_
                show Steps p_.tables e_ below (T22.setTop (mkF m_ 173 #[.val (.int xx), .val (.int (own_k xx)), .val (.ref w6), .val (.int (0 : Int32)), .val (.int (0 : Int32)), .val (.int (1 : Int32)), .val (.int (1 : Int32)), .val (.int (1 : Int32)), .val (.int (1 : Int32))] [])) t_
                refine XS.iload X22.here hx rfl (hb hby at_173) rfl ?_
                show Steps p_.tables e_ below (T22.setTop (mkF m_ 175 #[.val (.int xx), .val (.int (own_k xx)), .val (.ref w6), .val (.int (0 : Int32)), .val (.int (0 : Int32)), .val (.int (1 : Int32)), .val (.int (1 : Int32)), .val (.int (1 : Int32)), .val (.int (1 : Int32))] [(.int (1 : Int32))])) t_
                refine XS.ifNo X22.here hx rfl (hb hby at_175) rfl ((if0 _ _).trans (feq (by decide : ¬ ((1 : Int32) = (0 : Int32)))).1) ?_
                show Steps p_.tables e_ below (T22.setTop (mkF m_ 178 #[.val (.int xx), .val (.int (own_k xx)), .val (.ref w6), .val (.int (0 : Int32)), .val (.int (0 : Int32)), .val (.int (1 : Int32)), .val (.int (1 : Int32)), .val (.int (1 : Int32)), .val (.int (1 : Int32))] [])) t_
                refine XS.iconst X22.here hx rfl (hb hby at_178) ?_
                show Steps p_.tables e_ below (T22.setTop (mkF m_ 179 #[.val (.int xx), .val (.int (own_k xx)), .val (.ref w6), .val (.int (0 : Int32)), .val (.int (0 : Int32)), .val (.int (1 : Int32)), .val (.int (1 : Int32)), .val (.int (1 : Int32)), .val (.int (1 : Int32))] [(.int (1 : Int32))])) t_
                refine XS.goto X22.here hx rfl (pc0 := 179) (pc' := 183) rfl (hb hby at_179) (by decide) (by decide) ?_
                show Steps p_.tables e_ below (T22.setTop (mkF m_ 183 #[.val (.int xx), .val (.int (own_k xx)), .val (.ref w6), .val (.int (0 : Int32)), .val (.int (0 : Int32)), .val (.int (1 : Int32)), .val (.int (1 : Int32)), .val (.int (1 : Int32)), .val (.int (1 : Int32))] [(.int (1 : Int32))])) t_
                exact k_
              refine own_retN X22 hx hlk (t := .boolean) hret (by simp) (hb hby at_183) (by decide) (by decide) ?_
              exact ⟨rfl, N22⟩
set_option maxRecDepth 65536 in
set_option maxHeartbeats 40000000 in
theorem comes_1 {Post : Tables → Env → Array Value → State → Outcome → State → Prop} (hpost : ∀ tb e args s v u, (limb_1_1.after args s (.returned v) u = true ∧ limb_1_2.after args s (.returned v) u = true ∧ True) → FrameEnd s (.returned v) u (Jvm.fieldLocs frame_1_writes args s ++ Jvm.arrayLocs frame_1_arrays args s ++ Jvm.staticLocs frame_1_statics s) 0 0 → Post tb e args s (.returned v) u) :
    ArmFor flags0 classFile x code maxLocals ret World_1 tables_1 room_1 Calls_1 rest_1 Pre_1 Post := by
  intro l hfl _ _ p e ha hc hk s m args below hf hA hF happ hP
  obtain ⟨hcalls, hrest, hpre⟩ := hP
  obtain ⟨-, -, -, hnamed, -, -, -, hat⟩ := (Spec.applies_iff hf).mp happ
  obtain ⟨hg, hn⟩ := and_e (Cond.before_iff.mp (show (Jvm.Cond.and given_1 narrow_1).before args s = true from hpre))
  obtain ⟨c0, r0⟩ := and_e hg
  obtain ⟨w0, rfl⟩ : ∃ w0 : Value, args = #[w0] := by
    have hs : args.size = 1 := by simpa [Cond.value, given_1] using c0
    obtain ⟨L⟩ := args
    match L, hs with
    | [w0], _ => exact ⟨w0, rfl⟩
  have hw := fun d (hd : d ∈ tables_1) => atoms_spec (ws := Jvm.Cond.code x code maxLocals ret :: tables_1) hat d (List.mem_cons_of_mem _ hd)
  have hfit : Fit s := fun {y c} hc i hi => by
    obtain ⟨ha, rfl⟩ := Array.getElem?_eq_some_iff.mp hc
    have q := List.all_eq_true.mp ((Array.all_eq_true_iff_forall_mem.mp hF) _ (Array.getElem_mem ha)) i (List.mem_range.mpr hi)
    simpa [Array.getElem?_eq_getElem hi] using q
  obtain ⟨i0, ei0⟩ := is_v r0
  obtain rfl : w0 = (.int i0) := Option.some.inj ei0
  obtain ⟨e0, t0⟩ := and_e hn
  obtain ⟨e1, t1⟩ := and_e t0
  obtain ⟨o0, t2⟩ := and_e t1
  obtain ⟨o1, t3⟩ := and_e t2
  obtain ⟨e2, t4⟩ := and_e t3
  obtain ⟨o2, t5⟩ := and_e t4
  obtain ⟨e3, t6⟩ := and_e t5
  obtain ⟨o3, t7⟩ := and_e t6
  obtain ⟨e4, t8⟩ := and_e t7
  obtain ⟨o4, t9⟩ := and_e t8
  obtain ⟨e5, t10⟩ := and_e t9
  obtain ⟨o5, t11⟩ := and_e t10
  obtain ⟨e6, t12⟩ := and_e t11
  have o6 := t12
  obtain ⟨w0v, v0⟩ := exa_v e0
  have E0 := Exa.start v0 e0
  have F0 := own_fv o0 v0
  have S0 := Sta.start v0 (Or.inr ⟨(hw _ (List.mem_of_getElem? (i := 2) rfl)), (hw _ (List.mem_of_getElem? (i := 3) rfl))⟩)
  obtain ⟨w1v, v1⟩ := exa_v e1
  have E1 := Exa.start v1 e1
  have F1 := own_fv o1 v1
  have S1 := Sta.start v1 (Or.inr ⟨(hw _ (List.mem_of_getElem? (i := 2) rfl)), (hw _ (List.mem_of_getElem? (i := 10) rfl))⟩)
  obtain ⟨w2v, v2⟩ := exa_v e2
  have E2 := Exa.start v2 e2
  have F2 := own_fv o2 v2
  have S2 := Sta.start v2 (Or.inr ⟨(hw _ (List.mem_of_getElem? (i := 2) rfl)), (hw _ (List.mem_of_getElem? (i := 12) rfl))⟩)
  obtain ⟨w3v, v3⟩ := exa_v e3
  have E3 := Exa.start v3 e3
  have F3 := own_fv o3 v3
  have S3 := Sta.start v3 (Or.inr ⟨(hw _ (List.mem_of_getElem? (i := 2) rfl)), (hw _ (List.mem_of_getElem? (i := 14) rfl))⟩)
  obtain ⟨w4v, v4⟩ := exa_v e4
  have E4 := Exa.start v4 e4
  have F4 := own_fv o4 v4
  have S4 := Sta.start v4 (Or.inr ⟨(hw _ (List.mem_of_getElem? (i := 2) rfl)), (hw _ (List.mem_of_getElem? (i := 16) rfl))⟩)
  obtain ⟨w5v, v5⟩ := exa_v e5
  have E5 := Exa.start v5 e5
  have F5 := own_fv o5 v5
  have S5 := Sta.start v5 (Or.inr ⟨(hw _ (List.mem_of_getElem? (i := 2) rfl)), (hw _ (List.mem_of_getElem? (i := 23) rfl))⟩)
  obtain ⟨w6v, v6⟩ := exa_v e6
  have E6 := Exa.start v6 e6
  have F6 := own_fv o6 v6
  have S6 := Sta.start v6 (Or.inr ⟨(hw _ (List.mem_of_getElem? (i := 2) rfl)), (hw _ (List.mem_of_getElem? (i := 25) rfl))⟩)
  obtain ⟨n, o, h1, h2, h3, _, L, rfl, ⟨rfl, N⟩, hq⟩ := rm0 l s _ hw i0 w0v w1v w2v w3v w4v w5v w6v s.heap s.heap.size (Nat.le_refl _) S0 S1 S2 S3 S4 S5 S6 E0 E1 E2 E3 E4 E5 E6 (F0.ne F1 (by decide)) (F0.ne F2 (by decide)) (F0.ne F3 (by decide)) (F0.ne F4 (by decide)) (F0.ne F5 (by decide)) (F0.ne F6 (by decide)) (F1.ne F2 (by decide)) (F1.ne F3 (by decide)) (F1.ne F4 (by decide)) (F1.ne F5 (by decide)) (F1.ne F6 (by decide)) (F2.ne F3 (by decide)) (F2.ne F4 (by decide)) (F2.ne F5 (by decide)) (F2.ne F6 (by decide)) (F3.ne F4 (by decide)) (F3.ne F5 (by decide)) (F3.ne F6 (by decide)) (F4.ne F5 (by decide)) (F4.ne F6 (by decide)) (F5.ne F6 (by decide)) tables_1 p e ha hc hk s m _ below hf ((Spec.applies_iff_loose hf).mp happ).1 ⟨rfl, State.Warmed39.refl s, rfl⟩ trivial
  refine ⟨n, _, h1, h2, h3, hpost _ _ _ _ _ _ ⟨Cond.after_iff.mpr rfl, Cond.after_iff.mpr (eq_i res_at (Term.int_eval (1)) rfl), trivial⟩ ⟨hq.1, hq.2.1, (hq.2.2.sift fun y hy => Or.inr (N y hy)).mono (by decide) (by decide)⟩⟩
theorem main_1_1 : Claimed_1_1 := comes_1 fun _ _ _ _ _ _ h hF => ⟨h.1, hF⟩
theorem main_1_2 : Claimed_1_2 := comes_1 fun _ _ _ _ _ _ h hF => ⟨h.2.1, hF⟩
end Jvm.Pilot.@@N@@
namespace Jvm.Pilot.@@N@@
open Jvm Jvm.ClassFile Sem Op Lib Jvm.Free Jvm.Stand Jvm.Pilot.@@N@@.Jvm.D
/-! MADE BY PROGRAM (witnessworld.py) out of the Statement's table words and the real class files: 12 classes; the members and pool entries that the words name. The judged class is class 1, her method 1. -/
namespace start1
open Jvm.ClassFile
def u (s : String) : CpInfo := .utf8 (stringToUtf16 s)
/-- a pool by its gaps: so many unusable entries, then the entry; so many at the end -/
def gap : Nat → List CpInfo → List CpInfo
  | 0, r => r
  | n + 1, r => .unusable :: gap n r
def poolList (es : List (Nat × CpInfo)) (last : Nat) : List CpInfo := es.foldr (fun e r => gap e.1 (e.2 :: r)) (gap last [])
def pool (es : List (Nat × CpInfo)) (last : Nat) : Array CpInfo := ⟨poolList es last⟩
def fileOf (pool : Array CpInfo) (this : Nat) (attrs : Array Attribute := #[]) (ms : Array MethodInfo := #[]) (fl : Nat := 33) (sup : Nat := 0) (ifs : Array Nat := #[]) (fds : Array FieldInfo := #[]) : ClassFile where
  minorVersion := 0
  majorVersion := 65
  constantPool := pool
  accessFlags := fl
  thisClass := this
  superClass := sup
  interfaces := ifs
  fields := fds
  methods := ms
  attributes := attrs
def plain (name : String) (sup : Option ClassId) : Class where
  name := name
  kind := .ordinary
  loader := none
  accessFlags := 33
  super := sup
  interfaces := #[]
  cf := none
  fields := #[]
  methods := #[]
  instanceTypes := #[]
  staticTypes := #[]
  resolved := #[]
  callSites := []
  init := .initialized
  statics := none
  mirror := none

def pool0 : Array CpInfo := pool [(5, u "<init>"), (0, u "()V"), (1, .class_ 10), (1, u "java/lang/Object")] 113

def k0m0 : Method := { name := "<init>", desc := "()V", sig := { parameters := [], returnType := none }, accessFlags := 1, code := none }
/-- java/lang/Object -/
def k0 : Class := { plain "java/lang/Object" none with
  accessFlags := 33
  interfaces := #[]
  cf := some (fileOf pool0 8 #[] #[{ accessFlags := 1, nameIndex := 5, descriptorIndex := 6, attributes := #[] }] 33 0 #[] #[])
  fields := #[]
  methods := #[k0m0]
  instanceTypes := #[]
  staticTypes := #[]
  resolved := Array.replicate 124 none
  statics := none }

def pool1 : Array CpInfo := pool [(2, .class_ 4), (1, u "java/lang/Object"), (0, u "<init>"), (0, u "()V"), (0, .integer 2147483647), (0, .fieldref 9 10), (0, .class_ 11), (0, .nameAndType 12 13), (0, u "com/example/refinement_flow_checker/refinementflowchecker/checker/Exploration$Verdict"), (0, u "COMPLETE"), (0, u "Lcom/example/refinement_flow_checker/refinementflowchecker/checker/Exploration$Verdict;"), (0, .fieldref 9 15), (0, .nameAndType 16 13), (0, u "INVARIANT_VIOLATED"), (0, .fieldref 9 18), (0, .nameAndType 19 13), (0, u "DEADLOCK_REACHED"), (0, .fieldref 9 21), (0, .nameAndType 22 13), (0, u "UNDEFINED"), (0, .fieldref 9 24), (0, .nameAndType 25 13), (0, u "REFINEMENT_VIOLATED"), (0, .fieldref 9 27), (0, .nameAndType 28 13), (0, u "STATE_BOUND_REACHED"), (0, .fieldref 9 30), (0, .nameAndType 31 13), (0, u "MEMORY_EXHAUSTED"), (0, .methodref 9 33), (0, .nameAndType 34 35), (0, u "violation"), (0, u "()Z"), (0, .methodref 9 37), (0, .nameAndType 38 35), (0, u "incomplete"), (0, .class_ 40), (0, u "com/example/refinement_flow_checker/refinementflowchecker/checker/VerdictViolationPinLaw"), (2, u "law"), (0, u "(I)Z")] 7

def k1m0 : Method := { name := "<init>", desc := "()V", sig := { parameters := [], returnType := none }, accessFlags := 2, code := none }
def k1c1 : Code := { maxStack := 2, maxLocals := 9, code := code, exceptionTable := #[], attributes := #[] }
def k1m1 : Method := { name := "law", desc := "(I)Z", sig := { parameters := [.int], returnType := some .boolean }, accessFlags := 9, code := some k1c1 }
/-- com/example/refinement_flow_checker/refinementflowchecker/checker/VerdictViolationPinLaw -/
def k1 : Class := { plain "com/example/refinement_flow_checker/refinementflowchecker/checker/VerdictViolationPinLaw" (some 0) with
  accessFlags := 49
  interfaces := #[]
  cf := some (fileOf pool1 39 #[] #[{ accessFlags := 2, nameIndex := 5, descriptorIndex := 6, attributes := #[] }, { accessFlags := 9, nameIndex := 43, descriptorIndex := 44, attributes := #[] }] 49 2 #[] #[])
  fields := #[]
  methods := #[k1m0, k1m1]
  instanceTypes := #[]
  staticTypes := #[]
  resolved := Array.replicate 52 none
  statics := none }

def pool2 : Array CpInfo := pool [(1, .class_ 2), (0, u "java/lang/constant/Constable"), (0, .class_ 4), (0, u "java/lang/Object")] 6

/-- java/lang/constant/Constable -/
def k2 : Class := { plain "java/lang/constant/Constable" (some 0) with
  accessFlags := 1537
  interfaces := #[]
  cf := some (fileOf pool2 1 #[] #[] 1537 3 #[] #[])
  fields := #[]
  methods := #[]
  instanceTypes := #[]
  staticTypes := #[]
  resolved := Array.replicate 11 none
  statics := none }

def pool3 : Array CpInfo := pool [(1, .class_ 2), (0, u "java/lang/Comparable"), (0, .class_ 4), (0, u "java/lang/Object")] 7

/-- java/lang/Comparable -/
def k3 : Class := { plain "java/lang/Comparable" (some 0) with
  accessFlags := 1537
  interfaces := #[]
  cf := some (fileOf pool3 1 #[] #[] 1537 3 #[] #[])
  fields := #[]
  methods := #[]
  instanceTypes := #[]
  staticTypes := #[]
  resolved := Array.replicate 12 none
  statics := none }

def pool4 : Array CpInfo := pool [(1, .class_ 2), (0, u "java/io/Serializable"), (0, .class_ 4), (0, u "java/lang/Object")] 2

/-- java/io/Serializable -/
def k4 : Class := { plain "java/io/Serializable" (some 0) with
  accessFlags := 1537
  interfaces := #[]
  cf := some (fileOf pool4 1 #[] #[] 1537 3 #[] #[])
  fields := #[]
  methods := #[]
  instanceTypes := #[]
  staticTypes := #[]
  resolved := Array.replicate 7 none
  statics := none }

def pool5 : Array CpInfo := pool [(2, .class_ 4), (1, u "java/lang/Enum"), (0, u "name"), (0, u "Ljava/lang/String;"), (2, u "ordinal"), (0, u "I"), (1, .class_ 14), (1, u "java/lang/Object"), (4, u "hash"), (86, .class_ 108), (1, u "java/lang/Enum$EnumDesc"), (2, .class_ 112), (0, u "java/lang/constant/Constable"), (0, .class_ 114), (0, u "java/lang/Comparable"), (0, .class_ 116), (0, u "java/io/Serializable")] 87

/-- java/lang/Enum -/
def k5 : Class := { plain "java/lang/Enum" (some 0) with
  accessFlags := 1057
  interfaces := #[2, 3, 4]
  cf := some (fileOf pool5 2 #[.nestMembers #[106]] #[] 1057 12 #[111, 113, 115] #[{ accessFlags := 18, nameIndex := 5, descriptorIndex := 6, attributes := #[] }, { accessFlags := 18, nameIndex := 9, descriptorIndex := 10, attributes := #[] }, { accessFlags := 2, nameIndex := 19, descriptorIndex := 10, attributes := #[] }])
  fields := #[{ name := "name", type := (.object "java/lang/String"), accessFlags := 18, slot := 0, constantValue := 0 }, { name := "ordinal", type := .int, accessFlags := 18, slot := 1, constantValue := 0 }, { name := "hash", type := .int, accessFlags := 2, slot := 2, constantValue := 0 }]
  methods := #[]
  instanceTypes := #[(.object "java/lang/String"), .int, .int]
  staticTypes := #[]
  resolved := Array.replicate 204 none
  statics := none }

def pool6 : Array CpInfo := pool [(1, .class_ 2), (0, u "com/example/refinement_flow_checker/refinementflowchecker/checker/Exploration$Verdict"), (2, u "COMPLETE"), (0, u "Lcom/example/refinement_flow_checker/refinementflowchecker/checker/Exploration$Verdict;"), (0, .fieldref 1 8), (0, .nameAndType 9 6), (0, u "INVARIANT_VIOLATED"), (0, .fieldref 1 11), (0, .nameAndType 12 6), (0, u "DEADLOCK_REACHED"), (0, .fieldref 1 14), (0, .nameAndType 15 6), (0, u "UNDEFINED"), (0, .fieldref 1 17), (0, .nameAndType 18 6), (0, u "REFINEMENT_VIOLATED"), (0, .fieldref 1 20), (0, .nameAndType 21 6), (0, u "STATE_BOUND_REACHED"), (0, .fieldref 1 23), (0, .nameAndType 24 6), (0, u "MEMORY_EXHAUSTED"), (2, u "$VALUES"), (0, u "[Lcom/example/refinement_flow_checker/refinementflowchecker/checker/Exploration$Verdict;"), (6, .class_ 37), (1, u "java/lang/Enum"), (25, u "incomplete"), (0, u "()Z"), (1, u "violation"), (5, .class_ 73), (0, u "com/example/refinement_flow_checker/refinementflowchecker/checker/Exploration")] 2

def k6c0 : Code := { maxStack := 2, maxLocals := 1, code := prog_18_method_4_code, exceptionTable := #[], attributes := #[] }
def k6m0 : Method := { name := "incomplete", desc := "()Z", sig := { parameters := [], returnType := some .boolean }, accessFlags := 1, code := some k6c0 }
def k6c1 : Code := { maxStack := 2, maxLocals := 1, code := prog_18_method_5_code, exceptionTable := #[], attributes := #[] }
def k6m1 : Method := { name := "violation", desc := "()Z", sig := { parameters := [], returnType := some .boolean }, accessFlags := 1, code := some k6c1 }
/-- com/example/refinement_flow_checker/refinementflowchecker/checker/Exploration$Verdict -/
def k6 : Class := { plain "com/example/refinement_flow_checker/refinementflowchecker/checker/Exploration$Verdict" (some 5) with
  accessFlags := 16433
  interfaces := #[]
  cf := some (fileOf pool6 1 #[.nestHost 72] #[{ accessFlags := 1, nameIndex := 63, descriptorIndex := 64, attributes := #[] }, { accessFlags := 1, nameIndex := 66, descriptorIndex := 64, attributes := #[] }] 16433 35 #[] #[{ accessFlags := 16409, nameIndex := 5, descriptorIndex := 6, attributes := #[] }, { accessFlags := 16409, nameIndex := 9, descriptorIndex := 6, attributes := #[] }, { accessFlags := 16409, nameIndex := 12, descriptorIndex := 6, attributes := #[] }, { accessFlags := 16409, nameIndex := 15, descriptorIndex := 6, attributes := #[] }, { accessFlags := 16409, nameIndex := 18, descriptorIndex := 6, attributes := #[] }, { accessFlags := 16409, nameIndex := 21, descriptorIndex := 6, attributes := #[] }, { accessFlags := 16409, nameIndex := 24, descriptorIndex := 6, attributes := #[] }, { accessFlags := 4122, nameIndex := 27, descriptorIndex := 28, attributes := #[] }])
  fields := #[{ name := "COMPLETE", type := (.object "com/example/refinement_flow_checker/refinementflowchecker/checker/Exploration$Verdict"), accessFlags := 16409, slot := 0, constantValue := 0 }, { name := "INVARIANT_VIOLATED", type := (.object "com/example/refinement_flow_checker/refinementflowchecker/checker/Exploration$Verdict"), accessFlags := 16409, slot := 1, constantValue := 0 }, { name := "DEADLOCK_REACHED", type := (.object "com/example/refinement_flow_checker/refinementflowchecker/checker/Exploration$Verdict"), accessFlags := 16409, slot := 2, constantValue := 0 }, { name := "UNDEFINED", type := (.object "com/example/refinement_flow_checker/refinementflowchecker/checker/Exploration$Verdict"), accessFlags := 16409, slot := 3, constantValue := 0 }, { name := "REFINEMENT_VIOLATED", type := (.object "com/example/refinement_flow_checker/refinementflowchecker/checker/Exploration$Verdict"), accessFlags := 16409, slot := 4, constantValue := 0 }, { name := "STATE_BOUND_REACHED", type := (.object "com/example/refinement_flow_checker/refinementflowchecker/checker/Exploration$Verdict"), accessFlags := 16409, slot := 5, constantValue := 0 }, { name := "MEMORY_EXHAUSTED", type := (.object "com/example/refinement_flow_checker/refinementflowchecker/checker/Exploration$Verdict"), accessFlags := 16409, slot := 6, constantValue := 0 }, { name := "$VALUES", type := (.array (.object "com/example/refinement_flow_checker/refinementflowchecker/checker/Exploration$Verdict")), accessFlags := 4122, slot := 7, constantValue := 0 }]
  methods := #[k6m0, k6m1]
  instanceTypes := #[(.object "java/lang/String"), .int, .int]
  staticTypes := #[(.object "com/example/refinement_flow_checker/refinementflowchecker/checker/Exploration$Verdict"), (.object "com/example/refinement_flow_checker/refinementflowchecker/checker/Exploration$Verdict"), (.object "com/example/refinement_flow_checker/refinementflowchecker/checker/Exploration$Verdict"), (.object "com/example/refinement_flow_checker/refinementflowchecker/checker/Exploration$Verdict"), (.object "com/example/refinement_flow_checker/refinementflowchecker/checker/Exploration$Verdict"), (.object "com/example/refinement_flow_checker/refinementflowchecker/checker/Exploration$Verdict"), (.object "com/example/refinement_flow_checker/refinementflowchecker/checker/Exploration$Verdict"), (.array (.object "com/example/refinement_flow_checker/refinementflowchecker/checker/Exploration$Verdict"))]
  resolved := Array.replicate 76 none
  statics := some 0 }

def pool7 : Array CpInfo := pool [(1, u "java/lang/Cloneable"), (0, .class_ 1), (0, u "java/lang/Object"), (0, .class_ 3)] 3

/-- java/lang/Cloneable -/
def k7 : Class := { plain "java/lang/Cloneable" (some 0) with
  accessFlags := 1537
  interfaces := #[]
  cf := some (fileOf pool7 2 #[] #[] 1537 4 #[] #[])
  fields := #[]
  methods := #[]
  instanceTypes := #[]
  staticTypes := #[]
  resolved := Array.replicate 8 none
  statics := none }

/-- the primitive byte -/
def k8 : Class := { plain "byte" none with kind := .primitive 'B', accessFlags := 0x411 }
/-- [B -/
def k9 : Class := { plain "[B" (some 0) with kind := .array 8 .byte, interfaces := #[7, 4], accessFlags := 1041 }

/-- the primitive int -/
def k10 : Class := { plain "int" none with kind := .primitive 'I', accessFlags := 0x411 }
/-- [I -/
def k11 : Class := { plain "[I" (some 0) with kind := .array 10 .int, interfaces := #[7, 4], accessFlags := 1041 }

def heap : Heap := #[{ cls := 6, slots := #[.ref 1, .ref 2, .ref 3, .ref 4, .ref 5, .ref 6, .ref 7, .null], vm := .statics 6 },
  { cls := 6, slots := #[.null, .int 0, .int 0], vm := .none },
  { cls := 6, slots := #[.null, .int 1, .int 0], vm := .none },
  { cls := 6, slots := #[.null, .int 2, .int 0], vm := .none },
  { cls := 6, slots := #[.null, .int 3, .int 0], vm := .none },
  { cls := 6, slots := #[.null, .int 4, .int 0], vm := .none },
  { cls := 6, slots := #[.null, .int 5, .int 0], vm := .none },
  { cls := 6, slots := #[.null, .int 6, .int 0], vm := .none }]
def classes : Array Class := #[k0, k1, k2, k3, k4, k5, k6, k7, k8, k9, k10, k11]
def interned : List (Array UInt16 × Addr) := []
def slotsUsed : Nat := 29
def theMethod : MethodId := ⟨1, 1⟩
def args0 : Array Value := #[.int 5]
def aboutOver (below : List Frame) : State where
  vm := { classes := classes, interned := interned.toArray }
  heap := heap
  slotsUsed := slotsUsed
  threads := #[{ frames := .invoking theMethod args0 :: below }]
def below0 : List Frame := [.native { method := ⟨0, 0⟩, args := #[] }]
def about1 : State := aboutOver below0
def p0 : Program := .bare "" "" ""
def e0 : Env := launch0.env 0 0 0
theorem w_frames : about1.frames = Frame.invoking theMethod args0 :: below0 := rfl
set_option maxRecDepth 65536 in
theorem w_args : argsFit about1.vm theMethod args0 = true := by decide +kernel
set_option maxRecDepth 65536 in
theorem w_heap : heapFits about1 = true := by decide +kernel
set_option maxRecDepth 65536 in
theorem w_runnable : about1.curStatus? = some .runnable := by decide +kernel
set_option maxRecDepth 65536 in
theorem w_alone : about1.alone = true := by decide +kernel
set_option maxRecDepth 65536 in
theorem w_named : about1.methodNamed? x = some theMethod := by decide +kernel
set_option maxRecDepth 65536 in
theorem w_hears : about1.hears theMethod below0 = true := by decide +kernel
set_option maxRecDepth 65536 in
theorem w_ripe : about1.ripe theMethod args0 below0 = true := by decide +kernel
theorem w_running : about1.status = .running := rfl
set_option maxRecDepth 65536 in
theorem w_room : about1.hasRoom e0.platform room_1 = true :=
  launch0.hasRoom_least _ room_1 (by decide +kernel) (by decide +kernel) (by decide +kernel) (by decide +kernel) (by decide +kernel) (by decide +kernel)
theorem allAtoms_all (ts : List Jvm.Cond) (a : Array Jvm.Value) (st : Jvm.State) : (allAtoms ts).before a st = ts.all (fun c => c.before a st) := by
  induction ts with
  | nil => rfl
  | cons c t ih =>
    show (Jvm.Cond.and c (allAtoms t)).before a st = _
    rw [Jvm.Cond.before_and, ih, List.all_cons]
def words1 : List Jvm.Cond := Jvm.Cond.code x code maxLocals ret :: tables_1
/-- a 'code' word, met by the world's own term for the bytes: nothing is compared byte by byte -/
theorem code_word {y : MethodName} {bytes : ByteArray} {mx : Nat} {rt : Option FieldType} {a : Array Value} {s : State} {m : MethodId} {meth : Method} {c : Code} (h1 : s.methodNamed? y = some m) (h2 : s.vm.method? m = some meth) (h3 : meth.code = some c) (h4 : c.code = bytes)
    (h5 : (c.maxLocals == mx && c.exceptionTable.isEmpty && decide (c.maxStack ≤ mostOperands) && decide (meth.sig.returnType = rt) && !meth.locks && decide (parseMethodDescriptor y.desc = some meth.sig)) = true) : (Jvm.Cond.code y bytes mx rt).before a s = true := by
  simp only [Bool.and_eq_true, beq_iff_eq, Bool.not_eq_true', decide_eq_true_eq] at h5
  obtain ⟨⟨⟨⟨⟨g1, g2⟩, g3⟩, g4⟩, g5⟩, g6⟩ := h5
  simp [Cond.before, Cond.holds, Cond.value, h1, h2, h3, h4, g1, g2, g3, g4, g5, g6]
def isCode : Jvm.Cond → Bool
  | .code _ _ _ _ => true
  | _ => false
theorem all_split {L : List Jvm.Cond} {P : Jvm.Cond → Bool} (h1 : L.all (fun c => isCode c || P c) = true) (h2 : ∀ c ∈ L.filter isCode, P c = true) : L.all P = true := by
  refine List.all_eq_true.mpr fun c hc => ?_
  have h := List.all_eq_true.mp h1 c hc
  rcases Bool.eq_false_or_eq_true (isCode c) with hi | hi
  · exact h2 c (List.mem_filter.mpr ⟨hc, hi⟩)
  · simpa [hi] using h
set_option maxRecDepth 65536 in
theorem w_c0 : (Jvm.Cond.code x code maxLocals ret).before args0 about1 = true := code_word (m := ⟨1, 1⟩) (meth := k1m1) (c := k1c1) (by decide +kernel) rfl rfl rfl (by decide +kernel)
set_option maxRecDepth 65536 in
theorem w_c1 : (Jvm.Cond.code ({ cls := "com/example/refinement_flow_checker/refinementflowchecker/checker/Exploration$Verdict", name := "violation", desc := "()Z" } : Jvm.MethodName) prog_18_method_5_code (1 : Nat) (Option.some Jvm.ClassFile.FieldType.boolean)).before args0 about1 = true := code_word (m := ⟨6, 1⟩) (meth := k6m1) (c := k6c1) (by decide +kernel) rfl rfl rfl (by decide +kernel)
set_option maxRecDepth 65536 in
theorem w_c2 : (Jvm.Cond.code ({ cls := "com/example/refinement_flow_checker/refinementflowchecker/checker/Exploration$Verdict", name := "incomplete", desc := "()Z" } : Jvm.MethodName) prog_18_method_4_code (1 : Nat) (Option.some Jvm.ClassFile.FieldType.boolean)).before args0 about1 = true := code_word (m := ⟨6, 0⟩) (meth := k6m0) (c := k6c0) (by decide +kernel) rfl rfl rfl (by decide +kernel)
def codes1 : List Jvm.Cond := [Jvm.Cond.code x code maxLocals ret, Jvm.Cond.code ({ cls := "com/example/refinement_flow_checker/refinementflowchecker/checker/Exploration$Verdict", name := "violation", desc := "()Z" } : Jvm.MethodName) prog_18_method_5_code (1 : Nat) (Option.some Jvm.ClassFile.FieldType.boolean), Jvm.Cond.code ({ cls := "com/example/refinement_flow_checker/refinementflowchecker/checker/Exploration$Verdict", name := "incomplete", desc := "()Z" } : Jvm.MethodName) prog_18_method_4_code (1 : Nat) (Option.some Jvm.ClassFile.FieldType.boolean)]
set_option maxRecDepth 65536 in
theorem codes_eq : words1.filter isCode = codes1 := rfl
theorem w_codes : ∀ c ∈ words1.filter isCode, c.before args0 about1 = true := by
  rw [codes_eq]
  intro c hc
  simp only [codes1, List.mem_cons, List.not_mem_nil, or_false] at hc
  rcases hc with rfl | rfl | rfl
  · exact w_c0
  · exact w_c1
  · exact w_c2
set_option maxRecDepth 65536 in
theorem w_t1 : (words1.take 24).all (fun c => isCode c || c.before args0 about1) = true := by decide +kernel
set_option maxRecDepth 65536 in
theorem w_t2 : (words1.drop 24).all (fun c => isCode c || c.before args0 about1) = true := by decide +kernel
theorem w_tables : (allAtoms (Jvm.Cond.code x code maxLocals ret :: tables_1)).before args0 about1 = true := by
  rw [allAtoms_all]
  show words1.all (fun c => c.before args0 about1) = true
  refine all_split ?_ w_codes
  rw [← List.take_append_drop 24 words1, List.all_append, w_t1, w_t2]
  rfl
set_option maxRecDepth 65536 in
theorem w_case : (Jvm.Cond.and given_1 narrow_1).before args0 about1 = true := by decide +kernel
theorem w_applies : (headSpec (Jvm.Cond.code x code maxLocals ret :: tables_1) room_1).applies x e0.platform about1 = true :=
  (Spec.applies_iff w_frames).mpr ⟨w_running, w_runnable, w_alone, w_named, w_hears, w_ripe, w_room, w_tables⟩
theorem atStart : AtStart classFile x code maxLocals ret World_1 tables_1 room_1 Calls_1 rest_1 Pre_1 launch0 p0 e0 about1 theMethod args0 below0 :=
  ⟨lists_1, trivial, launch0.admits_env _ _ _, launch0.least_env, fairChoices_fair.cas, fairChoices_fair.clock, w_frames, w_args, w_heap, w_applies, trivial, trivial, w_case⟩
end start1
theorem witness_1 : WitnessClaimed_1 := ⟨start1.p0, start1.e0, start1.about1, start1.theMethod, start1.args0, start1.below0, start1.atStart⟩
end Jvm.Pilot.@@N@@
