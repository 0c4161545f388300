import JvmDerived
import JvmDerived.Pilot.@@N@@Statement
import JvmDerived.Pilot.@@N@@Code
set_option linter.unusedVariables false
set_option linter.unusedSimpArgs false
namespace Jvm.Pilot.@@N@@
open Jvm Jvm.ClassFile Sem Op Lib Jvm.Free Jvm.Stand Jvm.LawKit Jvm.RoadKit Bundle Jvm.Pilot.@@N@@.Jvm.D
/-! own_Out: from the frame g over T the run comes to a return of which Q speaks. A walk is a proof of own_Out from its entry, backwards step by step; so it may fork. -/
section OwnKit
variable {p : Program} {l : Launch} {e : Env} {R : Room} {s : State} {m : MethodId} {args : Array Value} {below : List Frame} {meth : Method} {c : Code} {T : State} {locs : List Loc} {cells slots kc ks : Nat} {Z : State} {a0 : Array Value} {h h' h0 : Heap} {Q : Option Value → Heap → List Loc → Prop} {g : JFrame}
def own_Out (p : Program) (e : Env) (below : List Frame) (s : State) (Q : Option Value → Heap → List Loc → Prop) (kc ks : Nat) (T : State) (g : JFrame) : Prop :=
  ∃ U o, Steps p.tables e below (T.setTop g) U ∧ U.status = .running ∧ Ended U below o ∧ ∃ v L, o = .returned v ∧ Q v U.heap L ∧ FrameEnd s o U L kc ks
theorem own_st (T' : State) (g' : JFrame) (st : ∀ t, Steps p.tables e below (T'.setTop g') t → Steps p.tables e below (T.setTop g) t) (k : own_Out p e below s Q kc ks T' g') : own_Out p e below s Q kc ks T g := by
  obtain ⟨U, o, h1, h2⟩ := k; exact ⟨U, o, st _ h1, h2⟩
theorem own_tr (T' : State) (g' : JFrame) (st : Steps p.tables e below (T.setTop g) (T'.setTop g')) (k : own_Out p e below s Q kc ks T' g') : own_Out p e below s Q kc ks T g := by
  obtain ⟨U, o, h1, h2⟩ := k; exact ⟨U, o, st.trans h1, h2⟩
theorem own_ret (X : Stand p l e R s m args below meth c T locs cells slots) (hx : p.tables.exec = Jvm.exec) (hlk : meth.locks = false) {pc : Nat} {Ls : Array Slot} {w : Value} {t : FieldType} {i : Instr} {rest : List Value} (hret : meth.sig.returnType = some t) (hn : narrow t w = w)
    (hi : (i = .ireturn ∧ (t = .int ∨ t = .boolean ∨ t = .byte ∨ t = .char ∨ t = .short) ∧ ∃ z, w = .int z) ∨ (i = .lreturn ∧ t = .long ∧ ∃ z, w = .long z) ∨ (i = .dreturn ∧ t = .double ∧ ∃ z, w = .double z) ∨ (i = .freturn ∧ t = .float ∧ ∃ z, w = .float z) ∨ (i = .areturn ∧ t.isReference = true ∧ w.isRef = true))
    (hd : decode c.code pc = .ok (i, 1)) (hc : cells ≤ kc) (hs : slots ≤ ks) (hq : Q (some w) T.heap locs) : own_Out p e below s Q kc ks T (mkF m pc Ls (w :: rest)) := by
  obtain ⟨fs, hr, hrun, hended, hW, hsame⟩ := X.leave (v := some w) (fun h => by rw [hret] at h; cases h) hlk
  exact ⟨_, _, retOut X hx hret hn hi hd hr, hrun, hended, _, _, rfl, hq, ⟨_, rfl⟩, hW, hsame.mono hc hs⟩
theorem own_retI (X : Stand p l e R s m args below meth c T locs cells slots) (hx : p.tables.exec = Jvm.exec) (hlk : meth.locks = false) {pc : Nat} {Ls : Array Slot} {z : Int32} {rest : List Value} (hret : meth.sig.returnType = some .int)
    (hd : decode c.code pc = .ok (.ireturn, 1)) (hc : cells ≤ kc) (hs : slots ≤ ks) (hq : Q (some (.int z)) T.heap locs) : own_Out p e below s Q kc ks T (mkF m pc Ls (.int z :: rest)) :=
  own_ret X hx hlk hret rfl (Or.inl ⟨rfl, Or.inl rfl, z, rfl⟩) hd hc hs hq
theorem own_retJ (X : Stand p l e R s m args below meth c T locs cells slots) (hx : p.tables.exec = Jvm.exec) (hlk : meth.locks = false) {pc : Nat} {Ls : Array Slot} {z : Int64} {rest : List Value} (hret : meth.sig.returnType = some .long)
    (hd : decode c.code pc = .ok (.lreturn, 1)) (hc : cells ≤ kc) (hs : slots ≤ ks) (hq : Q (some (.long z)) T.heap locs) : own_Out p e below s Q kc ks T (mkF m pc Ls (.long z :: rest)) :=
  own_ret X hx hlk hret rfl (Or.inr (Or.inl ⟨rfl, rfl, z, rfl⟩)) hd hc hs hq
theorem own_nref {t : FieldType} {w : Value} (ht : t.isReference = true) (hw : w.isRef = true) : narrow t w = w := by
  cases t <;> first | (cases ht; done) | (cases w <;> first | rfl | (cases hw; done))
theorem own_retA (X : Stand p l e R s m args below meth c T locs cells slots) (hx : p.tables.exec = Jvm.exec) (hlk : meth.locks = false) {pc : Nat} {Ls : Array Slot} {w : Value} {t : FieldType} {rest : List Value} (hret : meth.sig.returnType = some t) (ht : t.isReference = true) (hw : w.isRef = true)
    (hd : decode c.code pc = .ok (.areturn, 1)) (hc : cells ≤ kc) (hs : slots ≤ ks) (hq : Q (some w) T.heap locs) : own_Out p e below s Q kc ks T (mkF m pc Ls (w :: rest)) :=
  own_ret X hx hlk hret (own_nref ht hw) (Or.inr (Or.inr (Or.inr (Or.inr ⟨rfl, ht, hw⟩)))) hd hc hs hq
theorem own_retN (X : Stand p l e R s m args below meth c T locs cells slots) (hx : p.tables.exec = Jvm.exec) (hlk : meth.locks = false) {pc : Nat} {Ls : Array Slot} {z : Int32} {t : FieldType} {rest : List Value} (hret : meth.sig.returnType = some t) (ht : t = .boolean ∨ t = .byte ∨ t = .char ∨ t = .short)
    (hd : decode c.code pc = .ok (.ireturn, 1)) (hc : cells ≤ kc) (hs : slots ≤ ks) (hq : Q (some (.int (nar t z))) T.heap locs) : own_Out p e below s Q kc ks T (mkF m pc Ls (.int z :: rest)) := by
  obtain ⟨fs, hr, hrun, hended, hW, hsame⟩ := X.leave (v := some (.int (nar t z))) (fun h => by rw [hret] at h; cases h) hlk
  exact ⟨_, _, retN X hx hret ht hd hr, hrun, hended, _, _, rfl, hq, ⟨_, rfl⟩, hW, hsame.mono hc hs⟩
theorem own_ret0 (X : Stand p l e R s m args below meth c T locs cells slots) (hx : p.tables.exec = Jvm.exec) (hlk : meth.locks = false) {pc : Nat} {Ls : Array Slot} (hret : meth.sig.returnType = none)
    (hd : decode c.code pc = .ok (.return_, 1)) (hc : cells ≤ kc) (hs : slots ≤ ks) (hq : Q none T.heap locs) : own_Out p e below s Q kc ks T (mkF m pc Ls []) := by
  obtain ⟨fs, hr, hrun, hended, hW, hsame⟩ := X.leave (v := none) (fun _ => rfl) hlk
  exact ⟨_, _, X.returnOut hx hret hd hr, hrun, hended, _, _, rfl, hq, ⟨_, rfl⟩, hW, hsame.mono hc hs⟩
/-- a method's contract at the arguments as' over the heap h0 -/
def own_Met (l : Launch) (Z : State) (y : MethodName) (bytes : ByteArray) (maxL : Nat) (ret : Option FieldType) (rm : Room) (as' : Array Value) (h0 : Heap) (Q : Option Value → Heap → List Loc → Prop) : Prop :=
  ∀ ws : List Jvm.Cond, MetFree l y (head1 (Jvm.Cond.code y bytes maxL ret :: ws) rm) (fun a U => a = as' ∧ Z.Warmed39 U.vm ∧ U.heap = h0) (fun _ _ _ _ _ => True) (fun _ U o U' => ∃ v L, o = .returned v ∧ Q v U'.heap L ∧ FrameEnd U o U' L rm.cells rm.slots)
theorem own_body {y : MethodName} {bytes : ByteArray} {maxL : Nat} {ret : Option FieldType} {rm : Room} {as' : Array Value} (Ls : Array Slot) (hp : plainFor y = true) (hef : ∀ m, entryFrame m as' maxL = mkF m 0 Ls [])
    (hbody : ∀ (p : Program) (e : Env) (s : State) (m : MethodId) (below : List Frame) (meth : Method) (c : Code) (s₁ : State), Stand p l e rm s m as' below meth c s₁ [] 0 0 → p.tables.exec = Jvm.exec → c.code = bytes → c.maxLocals = maxL → meth.sig.returnType = ret → meth.locks = false → Z.Warmed39 s.vm → s.vm.findClass y.cls = some m.cls → meth.name = y.name → s₁.heap = h0 →
      own_Out p e below s Q rm.cells rm.slots s₁ (mkF m 0 Ls [])) : own_Met l Z y bytes maxL ret rm as' h0 Q := by
  intro ws
  refine MetFree.of_bodySF hp hisR ?_
  intro p e s m args below meth c s₁ Bd hml0 hP hK
  obtain ⟨rfl, hZ, hh⟩ := hP
  have X0 : Stand p l e rm s m args below meth c s₁ [] 0 0 := Stand.of_body Bd
  have e0 : s₁.heap = h0 := by rw [← hh, Bd.state]; rfl
  obtain ⟨U, o, h1, h2⟩ := hbody p e s m below meth c s₁ X0 Bd.exec Bd.bytes hml0 Bd.returns Bd.notSynchronized hZ (findClass_of_methodNamed Bd.named) (name_of_methodNamed Bd.named Bd.method).1 e0
  exact ⟨U, o, castTop (hef m) h1, h2⟩
theorem own_callS (X : Stand p l e R s m args below meth c T locs cells slots) (hx : p.tables.exec = Jvm.exec) (hZ : Z.Warmed39 s.vm) {own : String} {index : Nat} {y : MethodName} {bytes : ByteArray} {maxL : Nat} {ret : Option FieldType} (hown : s.vm.findClass own = some m.cls)
    (w1 : (Cond.methodLink own index y).before a0 Z = true) (w2 : (Cond.static y).before a0 Z = true) (w3 : (Cond.initialized y.cls).before a0 Z = true) (w4 : (Cond.code y bytes maxL ret).before a0 Z = true) (hy : y.cls ≠ "java/lang/invoke/MethodHandle" ∧ y.cls ≠ "java/lang/invoke/VarHandle")
    {rm : Room} (argsL rest : List Value) {Qc : Option Value → Heap → List Loc → Prop} (M : own_Met l Z y bytes maxL ret rm argsL.toArray h Qc) (W : Nat) (hf : rm.frames + 1 ≤ R.frames) (hl : W + (maxL + 11) + rm.locals ≤ R.locals) (eT : T.heap = h)
    {pc : Nat} {Ls : Array Slot} {st : List Value} (hsize : Ls.size = c.maxLocals) (hlen : ∀ sig, parseMethodDescriptor y.desc = some sig → argsL.length = sig.parameters.length) (hstack : st = argsL.reverse ++ rest) (hW : (rest.map fun v => v.category).sum ≤ W)
    (hd : decode c.code pc = .ok (.invokestatic index, 3)) (hc : cells + rm.cells ≤ R.cells) (hs : slots + rm.slots ≤ R.slots)
    (k : ∀ v T' L, Stand p l e R s m args below meth c T' (locs ++ L) (cells + rm.cells) (slots + rm.slots) → Qc v T'.heap L → own_Out p e below s Q kc ks T' (mkF m (pc + 3) Ls (v.toList ++ rest))) : own_Out p e below s Q kc ks T (mkF m pc Ls st) := by
  obtain ⟨v, vm1, ⟨T', L', c', n'⟩, -, X', ⟨L, hQ, r1, r2, r3⟩, stp⟩ := Jvm.LawKit.callS X hx (y := y) (bytes := bytes) (maxL := maxL) (ret := ret) hown (mvT hZ w1) (mvT hZ w2) (mvT hZ w3) (mvT hZ w4) hy (backOf (W := W) (M []) hZ w4 w3 hf hl) (g := mkF m pc Ls st) rfl hsize (argsL := argsL) (rest := rest) hlen hstack (by show 2 * 0 + _ ≤ _; omega) hd (fun _ _ => ⟨rfl, eT, hc, hs⟩)
  dsimp only [Pt.U, Pt.locs, Pt.cells, Pt.slots] at X' r1 r2 r3 stp hQ
  subst r1 r2 r3
  exact own_st _ _ stp (k v T' L X' hQ)
theorem own_callC (X : Stand p l e R s m args below meth c T locs cells slots) (hx : p.tables.exec = Jvm.exec) (hZ : Z.Warmed39 s.vm) {own : String} {index : Nat} {y : MethodName} {bytes : ByteArray} {maxL : Nat} (hy1 : y.name = "<init>") (hown : s.vm.findClass own = some m.cls)
    (w1 : (Cond.methodLink own index y).before a0 Z = true) (w2 : (Cond.instanceMethod y).before a0 Z = true) (w3 : (Cond.initialized y.cls).before a0 Z = true) (w4 : (Cond.code y bytes maxL none).before a0 Z = true) (hy : y.cls ≠ "java/lang/invoke/MethodHandle" ∧ y.cls ≠ "java/lang/invoke/VarHandle")
    {rm : Room} (a : Addr) (argsL rest : List Value) {Qc : Option Value → Heap → List Loc → Prop} (M : own_Met l Z y bytes maxL none rm (.ref a :: argsL).toArray h Qc) (W : Nat) (hf : rm.frames + 1 ≤ R.frames) (hl : W + (maxL + 11) + rm.locals ≤ R.locals) (eT : T.heap = h)
    {pc : Nat} {Ls : Array Slot} {st : List Value} (hsize : Ls.size = c.maxLocals) (hlen : ∀ sig, parseMethodDescriptor y.desc = some sig → argsL.length = sig.parameters.length) (hstack : st = argsL.reverse ++ .ref a :: rest) (hW : (rest.map fun v => v.category).sum ≤ W)
    (hd : decode c.code pc = .ok (.invokespecial index, 3)) (hc : cells + rm.cells ≤ R.cells) (hs : slots + rm.slots ≤ R.slots)
    (k : ∀ v T' L, Stand p l e R s m args below meth c T' (locs ++ L) (cells + rm.cells) (slots + rm.slots) → Qc v T'.heap L → own_Out p e below s Q kc ks T' (mkF m (pc + 3) Ls (v.toList ++ rest))) : own_Out p e below s Q kc ks T (mkF m pc Ls st) := by
  obtain ⟨v, vm1, ⟨T', L', c', n'⟩, -, X', ⟨L, hQ, r1, r2, r3⟩, stp⟩ := X.specialBack hx (y := y) (bytes := bytes) (maxL := maxL) hy1 hown (mvT hZ w1) (mvT hZ w2) (mvT hZ w4) hy (backOf (W := W) (M []) hZ w4 w3 hf hl) (g := mkF m pc Ls st) rfl hsize (Steps.refl _) (a := a) (argsL := argsL) (rest := rest) hlen hstack (by show 2 * 0 + _ ≤ _; omega) hd (fun _ _ => ⟨rfl, eT, hc, hs⟩)
  dsimp only [Pt.U, Pt.locs, Pt.cells, Pt.slots] at X' r1 r2 r3 stp hQ
  subst r1 r2 r3
  exact own_tr _ _ stp (k v T' L X' hQ)
theorem own_callV (X : Stand p l e R s m args below meth c T locs cells slots) (hx : p.tables.exec = Jvm.exec) (hZ : Z.Warmed39 s.vm) {own C : String} {index : Nat} {y z : MethodName} {bytes : ByteArray} {maxL : Nat} {ret : Option FieldType} (hown : s.vm.findClass own = some m.cls)
    (w1 : (Cond.methodLink own index y).before a0 Z = true) (w2 : (Cond.declares y).before a0 Z = true) (hnf : NotFace s y) (w5 : (Cond.selects C y z).before a0 Z = true) (w6 : (Cond.instanceMethod z).before a0 Z = true) (w3 : (Cond.initialized z.cls).before a0 Z = true) (w4 : (Cond.code z bytes maxL ret).before a0 Z = true) (hy : y.cls ≠ "java/lang/invoke/MethodHandle" ∧ y.cls ≠ "java/lang/invoke/VarHandle")
    {rm : Room} (a : Addr) (argsL rest : List Value) {Qc : Option Value → Heap → List Loc → Prop} (E : Exa Z h a C) (M : own_Met l Z z bytes maxL ret rm (.ref a :: argsL).toArray h Qc) (W : Nat) (hf : rm.frames + 1 ≤ R.frames) (hl : W + (maxL + 11) + rm.locals ≤ R.locals) (eT : T.heap = h)
    {pc : Nat} {Ls : Array Slot} {st : List Value} (hsize : Ls.size = c.maxLocals) (hlen : ∀ sig, parseMethodDescriptor y.desc = some sig → argsL.length = sig.parameters.length) (hstack : st = argsL.reverse ++ .ref a :: rest) (hW : (rest.map fun v => v.category).sum ≤ W)
    (hd : decode c.code pc = .ok (.invokevirtual index, 3)) (hc : cells + rm.cells ≤ R.cells) (hs : slots + rm.slots ≤ R.slots)
    (k : ∀ v T' L, Stand p l e R s m args below meth c T' (locs ++ L) (cells + rm.cells) (slots + rm.slots) → Qc v T'.heap L → own_Out p e below s Q kc ks T' (mkF m (pc + 3) Ls (v.toList ++ rest))) : own_Out p e below s Q kc ks T (mkF m pc Ls st) := by
  obtain ⟨cq, kq, qa, qb, qc⟩ := isOf hZ eT E
  obtain ⟨v, vm1, ⟨T', L', c', n'⟩, -, X', ⟨L, hQ, r1, r2, r3⟩, stp⟩ := X.virtualBack hx (y := y) (z := z) hown (mvT hZ w1) (mvT hZ w2) hnf (mvT hZ w5) (mvT hZ w6) hy (backOf (W := W) (M []) hZ w4 w3 hf hl) qa qc (g := mkF m pc Ls st) rfl hsize (Steps.refl _) (argsL := argsL) (rest := rest) hlen hstack (by show 2 * 0 + _ ≤ _; omega) hd (fun _ _ => ⟨rfl, eT, hc, hs⟩)
  dsimp only [Pt.U, Pt.locs, Pt.cells, Pt.slots] at X' r1 r2 r3 stp hQ
  subst r1 r2 r3
  exact own_tr _ _ stp (k v T' L X' hQ)
theorem own_callI (X : Stand p l e R s m args below meth c T locs cells slots) (hx : p.tables.exec = Jvm.exec) (hZ : Z.Warmed39 s.vm) {own C : String} {index count : Nat} {xi y : MethodName} {bytes : ByteArray} {maxL : Nat} {ret : Option FieldType} (hown : s.vm.findClass own = some m.cls)
    (w1 : (Cond.methodLink own index xi).before args s = true) (w2 : (Cond.declares xi).before args s = true) (w7 : (Cond.interfaceMethod xi.cls xi.cls xi.name xi.desc).before args s = true) (w5 : (Cond.selects C xi y).before args s = true) (w6 : (Cond.instanceMethod y).before args s = true) (w8 : (Cond.publicMethod y).before args s = true) (w9 : (Cond.unhidden C xi.name xi.desc).before args s = true) (w10 : (Cond.castable C xi.cls).before args s = true) (w3 : (Cond.initialized y.cls).before a0 Z = true) (w4 : (Cond.code y bytes maxL ret).before a0 Z = true) (hy : xi.cls ≠ "java/lang/invoke/MethodHandle" ∧ xi.cls ≠ "java/lang/invoke/VarHandle")
    {rm : Room} (a : Addr) (argsL rest : List Value) {Qc : Option Value → Heap → List Loc → Prop} (E : Exa Z h a C) (M : own_Met l Z y bytes maxL ret rm (.ref a :: argsL).toArray h Qc) (W : Nat) (hf : rm.frames + 1 ≤ R.frames) (hl : W + (maxL + 11) + rm.locals ≤ R.locals) (eT : T.heap = h)
    {pc : Nat} {Ls : Array Slot} {st : List Value} (hsize : Ls.size = c.maxLocals) (hlen : ∀ sig, parseMethodDescriptor xi.desc = some sig → argsL.length = sig.parameters.length) (hstack : st = argsL.reverse ++ .ref a :: rest) (hW : (rest.map fun v => v.category).sum ≤ W)
    (hd : decode c.code pc = .ok (.invokeinterface index count, 5)) (hc : cells + rm.cells ≤ R.cells) (hs : slots + rm.slots ≤ R.slots)
    (k : ∀ v T' L, Stand p l e R s m args below meth c T' (locs ++ L) (cells + rm.cells) (slots + rm.slots) → Qc v T'.heap L → own_Out p e below s Q kc ks T' (mkF m (pc + 5) Ls (v.toList ++ rest))) : own_Out p e below s Q kc ks T (mkF m pc Ls st) := by
  obtain ⟨cq, kq, qa, qb, qc⟩ := isOf hZ eT E
  obtain ⟨v, vm1, ⟨T', L', c', n'⟩, -, X', ⟨L, hQ, r1, r2, r3⟩, stp⟩ := X.interfaceBack hx (xi := xi) (y := y) hown w1 w2 w7 w5 w6 w8 w9 w10 hy (backOf (W := W) (M []) hZ w4 w3 hf hl) qa qb qc (g := mkF m pc Ls st) rfl hsize (Steps.refl _) (argsL := argsL) (rest := rest) hlen hstack (by show 2 * 0 + _ ≤ _; omega) hd (fun _ _ => ⟨rfl, eT, hc, hs⟩)
  dsimp only [Pt.U, Pt.locs, Pt.cells, Pt.slots] at X' r1 r2 r3 stp hQ
  subst r1 r2 r3
  exact own_tr _ _ stp (k v T' L X' hQ)
theorem own_callP (X : Stand p l e R s m args below meth c T locs cells slots) (hx : p.tables.exec = Jvm.exec) (hZ : Z.Warmed39 s.vm) {own : String} {index : Nat} {y : MethodName} {bytes : ByteArray} {maxL : Nat} {ret : Option FieldType} (hown : s.vm.findClass own = some m.cls)
    (w1 : (Cond.methodLink own index y).before a0 Z = true) (w2 : (Cond.instanceMethod y).before a0 Z = true) (w5 : (Cond.selects y.cls y y).before a0 Z = true) (w6 : (Cond.privateMethod y).before a0 Z = true) (w3 : (Cond.initialized y.cls).before a0 Z = true) (w4 : (Cond.code y bytes maxL ret).before a0 Z = true) (hy : y.cls ≠ "java/lang/invoke/MethodHandle" ∧ y.cls ≠ "java/lang/invoke/VarHandle")
    {rm : Room} (a : Addr) (argsL rest : List Value) {C : String} {Qc : Option Value → Heap → List Loc → Prop} (E : Exa Z h a C) (M : own_Met l Z y bytes maxL ret rm (.ref a :: argsL).toArray h Qc) (W : Nat) (hf : rm.frames + 1 ≤ R.frames) (hl : W + (maxL + 11) + rm.locals ≤ R.locals) (eT : T.heap = h)
    {pc : Nat} {Ls : Array Slot} {st : List Value} (hsize : Ls.size = c.maxLocals) (hlen : ∀ sig, parseMethodDescriptor y.desc = some sig → argsL.length = sig.parameters.length) (hstack : st = argsL.reverse ++ .ref a :: rest) (hW : (rest.map fun v => v.category).sum ≤ W)
    (hd : decode c.code pc = .ok (.invokevirtual index, 3)) (hc : cells + rm.cells ≤ R.cells) (hs : slots + rm.slots ≤ R.slots)
    (k : ∀ v T' L, Stand p l e R s m args below meth c T' (locs ++ L) (cells + rm.cells) (slots + rm.slots) → Qc v T'.heap L → own_Out p e below s Q kc ks T' (mkF m (pc + 3) Ls (v.toList ++ rest))) : own_Out p e below s Q kc ks T (mkF m pc Ls st) := by
  obtain ⟨cq, qa, qb⟩ := E.cell
  obtain ⟨v, vm1, ⟨T', L', c', n'⟩, -, X', ⟨L, hQ, r1, r2, r3⟩, stp⟩ := X.privateBack hx (y := y) (bytes := bytes) (maxL := maxL) (ret := ret) hown (mvT hZ w1) (mvT hZ w2) (mvT hZ w5) (Cond.privateMethod_at (mvP hZ w6 (args := #[]))) (mvT hZ w4) hy (backOf (W := W) (M []) hZ w4 w3 hf hl) (g := mkF m pc Ls st) rfl hsize (Steps.refl _) (a := a) (by rw [eT]; exact qa) qb (argsL := argsL) (rest := rest) hlen hstack (by show 2 * 0 + _ ≤ _; omega) hd (fun _ _ => ⟨rfl, eT, hc, hs⟩)
  dsimp only [Pt.U, Pt.locs, Pt.cells, Pt.slots] at X' r1 r2 r3 stp hQ
  subst r1 r2 r3
  exact own_tr _ _ stp (k v T' L X' hQ)
/-- an array by its values: n places, place i holds f i -/
def own_A (Z : State) (h : Heap) (a : Addr) (k : ClassId) (ty : FieldType) (n : Nat) (f : Nat → Value) : Prop := ∃ cl : Cell, Arr Z h a cl ty ∧ cl.cls = k ∧ cl.slots.size = n ∧ n < 2 ^ 31 ∧ ∀ i, i < n → cl.slots[i]? = some (f i)
variable {a b : Addr} {k : ClassId} {ty : FieldType} {n : Nat} {f f' : Nat → Value} {sl : Nat} {v : Value} {ws : List Addr}
theorem own_A.lt (F : own_A Z h a k ty n f) : a < h.size := by obtain ⟨c, A, -⟩ := F; exact A.lt
theorem own_A.ext (F : own_A Z h a k ty n f) (E : Ext h h') : own_A Z h' a k ty n f := by obtain ⟨c, A, r⟩ := F; exact ⟨c, A.ext E, r⟩
theorem own_A.other (F : own_A Z h b k ty n f) (W : Wr h h' a sl v) (q : b ≠ a) : own_A Z h' b k ty n f := by obtain ⟨c, A, r⟩ := F; exact ⟨c, A.other W q, r⟩
theorem own_A.keep (F : own_A Z h a k ty n f) (K : Keep h h' ws) (q : a ∉ ws) : own_A Z h' a k ty n f := by obtain ⟨c, A, r⟩ := F; exact ⟨c, ⟨K.2.1 a c A.1 q, A.2⟩, r⟩
theorem own_A.cong (F : own_A Z h a k ty n f) (q : ∀ i, i < n → f i = f' i) : own_A Z h a k ty n f' := by obtain ⟨c, A, r1, r2, r3, r4⟩ := F; exact ⟨c, A, r1, r2, r3, fun i hi => by rw [r4 i hi, q i hi]⟩
theorem own_A.new {z : Int32} (A : Arr Z h a (newA k ty z) ty) (q : ¬ z < 0) : own_A Z h a k ty z.toNatClampNeg (fun _ => defaultValue ty) := ⟨_, A, rfl, sz_new _ _ _, (back32 q).2, fun i hi => by simp [newA, hi]⟩
theorem own_A.newL {z : Int32} (A : Arr Z h a (newA k ty z) ty) (q : ¬ z < 0) (n : Nat) (hn : z.toNatClampNeg = n) (d : Value) (hd : defaultValue ty = d) : own_A Z h a k ty n (fun i => (List.replicate n d).getD i d) := by
  subst hn hd
  refine (own_A.new A q).cong fun i hi => ?_
  simp [List.getD_eq_getElem?_getD, List.getElem?_replicate, hi]
theorem own_jn {j : Int32} {i : Nat} (q : j.toInt = (i : Int)) : j.toNatClampNeg = i := by simp only [Int32.toNatClampNeg]; omega
theorem own_in {j : Int32} {i n : Nat} {cl : Cell} (q : j.toInt = (i : Int)) (hi : i < n) (S : cl.slots.size = n) : ¬ (j < 0 ∨ cl.slots.size ≤ j.toNatClampNeg) := by
  rw [own_jn q, Int32.lt_iff_toInt_lt, q, S]; have : (0 : Int32).toInt = 0 := rfl; omega
theorem own_A.set (F : own_A Z h a k ty n f) {i : Nat} (hi : i < n) (W : Wr h h' a i v) : own_A Z h' a k ty n (fun x => if x = i then v else f x) := by
  obtain ⟨cl, A, r1, r2, r3, r4⟩ := F
  refine ⟨_, A.same W, r1, by rw [sz_set]; exact r2, r3, fun x hx => ?_⟩
  by_cases q : x = i
  · subst q; simp [Cell.setSlot, r2, hi]
  · show (cl.slots.setIfInBounds i v)[x]? = _
    rw [Array.getElem?_setIfInBounds_ne (Ne.symm q)]; simp only [q, if_false]; exact r4 x hx
theorem own_A.setL {L : List Value} {d : Value} (F : own_A Z h a k ty n (fun x => L.getD x d)) {i : Nat} (hi : i < n) (hL : i < L.length) (W : Wr h h' a i v) : own_A Z h' a k ty n (fun x => (L.set i v).getD x d) := by
  refine (F.set hi W).cong fun x hx => ?_
  by_cases q : x = i
  · subst q; simp [List.getD_eq_getElem?_getD, List.getElem?_set, hL]
  · simp [List.getD_eq_getElem?_getD, List.getElem?_set, q, Ne.symm q]
theorem own_A.setI {b : Nat → Int32} {x : Int32} (F : own_A Z h a k ty n (fun y => .int (b y))) {i : Nat} (hi : i < n) (W : Wr h h' a i (.int x)) : own_A Z h' a k ty n (fun y => .int (if y = i then x else b y)) := by
  refine (F.set hi W).cong fun y hy => ?_
  by_cases q : y = i <;> simp [q]
theorem own_A.setLI {L : List Int32} {x : Int32} (F : own_A Z h a k ty n (fun y => .int (L.getD y 0))) {i : Nat} (hi : i < n) (hL : i < L.length) (W : Wr h h' a i (.int x)) : own_A Z h' a k ty n (fun y => .int ((L.set i x).getD y 0)) := by
  refine (F.setI hi W).cong fun y hy => ?_
  by_cases q : y = i
  · subst q; simp [List.getD_eq_getElem?_getD, List.getElem?_set, hL]
  · simp [List.getD_eq_getElem?_getD, List.getElem?_set, q, Ne.symm q]
theorem own_A.snocI {L : List Int32} {x : Int32} (F : own_A Z h a k ty n (fun y => .int (L.getD y 0))) {i : Nat} (hi : i < n) (hL : L.length = i) (W : Wr h h' a i (.int x)) : own_A Z h' a k ty n (fun y => .int ((L ++ [x]).getD y 0)) := by
  refine (F.setI hi W).cong fun y hy => ?_
  by_cases q : y = i
  · subst q; subst hL; simp [List.getD_eq_getElem?_getD]
  · by_cases r : y < L.length
    · simp [List.getD_eq_getElem?_getD, q, List.getElem?_append_left r]
    · have h1 : L[y]? = none := List.getElem?_eq_none (by omega)
      have h2 : (L ++ [x])[y]? = none := List.getElem?_eq_none (by simp; omega)
      simp [List.getD_eq_getElem?_getD, q, h1, h2]
theorem own_A.newI {z : Int32} (A : Arr Z h a (newA k ty z) ty) (q : ¬ z < 0) (n : Nat) (hn : z.toNatClampNeg = n) (hd : defaultValue ty = .int 0) : own_A Z h a k ty n (fun _ => .int 0) := by
  subst hn; rw [← hd]; exact own_A.new A q
theorem own_A.newLI {z : Int32} (A : Arr Z h a (newA k ty z) ty) (q : ¬ z < 0) (n : Nat) (hn : z.toNatClampNeg = n) (hd : defaultValue ty = .int 0) : own_A Z h a k ty n (fun y => .int ((List.replicate n (0 : Int32)).getD y 0)) := by
  refine (own_A.newI A q n hn hd).cong fun i hi => ?_
  simp [List.getD_eq_getElem?_getD, List.getElem?_replicate, hi]
theorem own_stI (X : Stand p l e R s m args below meth c T locs cells slots) (hx : p.tables.exec = Jvm.exec) (hZ : Z.Warmed39 s.vm) (eT : T.heap = h) (F : own_A Z h a k .int n f) {j x : Int32} (i : Nat) (q : j.toInt = (i : Int)) (hi : i < n) {pc : Nat} {Ls : Array Slot} {rest : List Value} (hd : decode c.code pc = .ok (.iastore, 1)) :
    ∃ T' h', Stand p l e R s m args below meth c T' (locs ++ [⟨a, i⟩]) cells slots ∧ T'.heap = h' ∧ Wr h h' a i (.int x) ∧ ∀ t, Steps p.tables e below (T'.setTop (mkF m (pc + 1) Ls rest)) t → Steps p.tables e below (T.setTop (mkF m pc Ls (.int x :: .int j :: .ref a :: rest))) t := by
  obtain ⟨cl, A, r1, r2, r3, r4⟩ := F
  have := stI X hx hZ eT A (j := j) (x := x) (own_in q hi r2) (g := mkF m pc Ls (.int x :: .int j :: .ref a :: rest)) rfl rfl hd
  rw [own_jn q] at this; exact this
theorem own_stB (X : Stand p l e R s m args below meth c T locs cells slots) (hx : p.tables.exec = Jvm.exec) (hZ : Z.Warmed39 s.vm) (eT : T.heap = h) (F : own_A Z h a k .byte n f) {j x : Int32} (x' : Int32) (hx' : nar .byte x = x') (i : Nat) (q : j.toInt = (i : Int)) (hi : i < n) {pc : Nat} {Ls : Array Slot} {rest : List Value} (hd : decode c.code pc = .ok (.bastore, 1)) :
    ∃ T' h', Stand p l e R s m args below meth c T' (locs ++ [⟨a, i⟩]) cells slots ∧ T'.heap = h' ∧ Wr h h' a i (.int x') ∧ ∀ t, Steps p.tables e below (T'.setTop (mkF m (pc + 1) Ls rest)) t → Steps p.tables e below (T.setTop (mkF m pc Ls (.int x :: .int j :: .ref a :: rest))) t := by
  obtain ⟨cl, A, r1, r2, r3, r4⟩ := F
  have := stB X hx hZ eT A (j := j) (x := x) (own_in q hi r2) (g := mkF m pc Ls (.int x :: .int j :: .ref a :: rest)) rfl rfl hd
  rw [own_jn q] at this; subst hx'; exact this
theorem own_stC (X : Stand p l e R s m args below meth c T locs cells slots) (hx : p.tables.exec = Jvm.exec) (hZ : Z.Warmed39 s.vm) (eT : T.heap = h) (F : own_A Z h a k .char n f) {j x : Int32} (x' : Int32) (hx' : nar .char x = x') (i : Nat) (q : j.toInt = (i : Int)) (hi : i < n) {pc : Nat} {Ls : Array Slot} {rest : List Value} (hd : decode c.code pc = .ok (.castore, 1)) :
    ∃ T' h', Stand p l e R s m args below meth c T' (locs ++ [⟨a, i⟩]) cells slots ∧ T'.heap = h' ∧ Wr h h' a i (.int x') ∧ ∀ t, Steps p.tables e below (T'.setTop (mkF m (pc + 1) Ls rest)) t → Steps p.tables e below (T.setTop (mkF m pc Ls (.int x :: .int j :: .ref a :: rest))) t := by
  obtain ⟨cl, A, r1, r2, r3, r4⟩ := F
  have := stC X hx hZ eT A (j := j) (x := x) (own_in q hi r2) (g := mkF m pc Ls (.int x :: .int j :: .ref a :: rest)) rfl rfl hd
  rw [own_jn q] at this; subst hx'; exact this
theorem own_stR (X : Stand p l e R s m args below meth c T locs cells slots) (hx : p.tables.exec = Jvm.exec) (hZ : Z.Warmed39 s.vm) (eT : T.heap = h) {C : String} (F : own_A Z h a k (.object C) n f) {j : Int32} {v : Value} (O : Ovr Z k C) (I : v = .null ∨ ∃ y, v = .ref y ∧ Ins Z h y C true) (i : Nat) (q : j.toInt = (i : Int)) (hi : i < n) {pc : Nat} {Ls : Array Slot} {rest : List Value} (hd : decode c.code pc = .ok (.aastore, 1)) :
    ∃ T' h', Stand p l e R s m args below meth c T' (locs ++ [⟨a, i⟩]) cells slots ∧ T'.heap = h' ∧ Wr h h' a i v ∧ ∀ t, Steps p.tables e below (T'.setTop (mkF m (pc + 1) Ls rest)) t → Steps p.tables e below (T.setTop (mkF m pc Ls (v :: .int j :: .ref a :: rest))) t := by
  obtain ⟨cl, A, r1, r2, r3, r4⟩ := F
  have S : Sto Z h a v := by
    rcases I with rfl | ⟨y, rfl, I⟩
    · exact Or.inl rfl
    · exact Sto.ofV A r1 O I
  have := stR X hx hZ eT A (j := j) (own_in q hi r2) rfl S (g := mkF m pc Ls (v :: .int j :: .ref a :: rest)) rfl rfl hd
  rw [own_jn q] at this; exact this
theorem own_stRA (X : Stand p l e R s m args below meth c T locs cells slots) (hx : p.tables.exec = Jvm.exec) (hZ : Z.Warmed39 s.vm) (eT : T.heap = h) {C : String} {t0 : FieldType} (F : own_A Z h a k (.array t0) n f) {j : Int32} {v : Value} (O : OvrA Z k t0 C) (I : v = .null ∨ ∃ y, v = .ref y ∧ Ins Z h y C true) (i : Nat) (q : j.toInt = (i : Int)) (hi : i < n) {pc : Nat} {Ls : Array Slot} {rest : List Value} (hd : decode c.code pc = .ok (.aastore, 1)) :
    ∃ T' h', Stand p l e R s m args below meth c T' (locs ++ [⟨a, i⟩]) cells slots ∧ T'.heap = h' ∧ Wr h h' a i v ∧ ∀ t, Steps p.tables e below (T'.setTop (mkF m (pc + 1) Ls rest)) t → Steps p.tables e below (T.setTop (mkF m pc Ls (v :: .int j :: .ref a :: rest))) t := by
  obtain ⟨cl, A, r1, r2, r3, r4⟩ := F
  have S : Sto Z h a v := by
    rcases I with rfl | ⟨y, rfl, I⟩
    · exact Or.inl rfl
    · exact Sto.ofVA A r1 O I
  have := stR X hx hZ eT A (j := j) (own_in q hi r2) rfl S (g := mkF m pc Ls (v :: .int j :: .ref a :: rest)) rfl rfl hd
  rw [own_jn q] at this; exact this
theorem own_ldI (X : Stand p l e R s m args below meth c T locs cells slots) (hx : p.tables.exec = Jvm.exec) (hZ : Z.Warmed39 s.vm) (eT : T.heap = h) (F : own_A Z h a k .int n f) {j : Int32} (i : Nat) (q : j.toInt = (i : Int)) (hi : i < n) {pc : Nat} {Ls : Array Slot} {rest : List Value} (hd : decode c.code pc = .ok (.iaload, 1)) :
    ∀ t, Steps p.tables e below (T.setTop (mkF m (pc + 1) Ls (f i :: rest))) t → Steps p.tables e below (T.setTop (mkF m pc Ls (.int j :: .ref a :: rest))) t := fun t kt => by
  obtain ⟨cl, A, r1, r2, r3, r4⟩ := F
  exact X.iaload hx (j := j) (v := f i) (by rw [eT]; exact A.1) (State.isArrayOf_alike hZ.alike A.2.1) A.2.2 (own_in q hi r2) (by rw [own_jn q]; exact r4 i hi) (g := mkF m pc Ls (.int j :: .ref a :: rest)) rfl rfl hd _ kt
theorem own_ldB (X : Stand p l e R s m args below meth c T locs cells slots) (hx : p.tables.exec = Jvm.exec) (hZ : Z.Warmed39 s.vm) (eT : T.heap = h) (F : own_A Z h a k .byte n f) {j : Int32} (i : Nat) (q : j.toInt = (i : Int)) (hi : i < n) {pc : Nat} {Ls : Array Slot} {rest : List Value} (hd : decode c.code pc = .ok (.baload, 1)) :
    ∀ t, Steps p.tables e below (T.setTop (mkF m (pc + 1) Ls (f i :: rest))) t → Steps p.tables e below (T.setTop (mkF m pc Ls (.int j :: .ref a :: rest))) t := fun t kt => by
  obtain ⟨cl, A, r1, r2, r3, r4⟩ := F
  exact X.baloadBytes hx (j := j) (v := f i) (by rw [eT]; exact A.1) (State.isArrayOf_alike hZ.alike A.2.1) A.2.2 (own_in q hi r2) (by rw [own_jn q]; exact r4 i hi) (g := mkF m pc Ls (.int j :: .ref a :: rest)) rfl rfl hd _ kt
theorem own_ldC (X : Stand p l e R s m args below meth c T locs cells slots) (hx : p.tables.exec = Jvm.exec) (hZ : Z.Warmed39 s.vm) (eT : T.heap = h) (F : own_A Z h a k .char n f) {j : Int32} (i : Nat) (q : j.toInt = (i : Int)) (hi : i < n) {pc : Nat} {Ls : Array Slot} {rest : List Value} (hd : decode c.code pc = .ok (.caload, 1)) :
    ∀ t, Steps p.tables e below (T.setTop (mkF m (pc + 1) Ls (f i :: rest))) t → Steps p.tables e below (T.setTop (mkF m pc Ls (.int j :: .ref a :: rest))) t := fun t kt => by
  obtain ⟨cl, A, r1, r2, r3, r4⟩ := F
  exact X.caload hx (j := j) (v := f i) (by rw [eT]; exact A.1) (State.isArrayOf_alike hZ.alike A.2.1) A.2.2 (own_in q hi r2) (by rw [own_jn q]; exact r4 i hi) (g := mkF m pc Ls (.int j :: .ref a :: rest)) rfl rfl hd _ kt
theorem own_ldR (X : Stand p l e R s m args below meth c T locs cells slots) (hx : p.tables.exec = Jvm.exec) (hZ : Z.Warmed39 s.vm) (eT : T.heap = h) (F : own_A Z h a k ty n f) (hty : ty.isReference = true) {j : Int32} (i : Nat) (q : j.toInt = (i : Int)) (hi : i < n) {pc : Nat} {Ls : Array Slot} {rest : List Value} (hd : decode c.code pc = .ok (.aaload, 1)) :
    ∀ t, Steps p.tables e below (T.setTop (mkF m (pc + 1) Ls (f i :: rest))) t → Steps p.tables e below (T.setTop (mkF m pc Ls (.int j :: .ref a :: rest))) t := fun t kt => by
  obtain ⟨cl, A, r1, r2, r3, r4⟩ := F
  exact X.aaload hx (j := j) (v := f i) (by rw [eT]; exact A.1) (State.isArrayOf_alike hZ.alike A.2.1) hty A.2.2 (own_in q hi r2) (by rw [own_jn q]; exact r4 i hi) (g := mkF m pc Ls (.int j :: .ref a :: rest)) rfl rfl hd _ kt
theorem own_len (X : Stand p l e R s m args below meth c T locs cells slots) (hx : p.tables.exec = Jvm.exec) (hZ : Z.Warmed39 s.vm) (eT : T.heap = h) (F : own_A Z h a k ty n f) {pc : Nat} {Ls : Array Slot} {rest : List Value} (hd : decode c.code pc = .ok (.arraylength, 1)) (z : Int32) (hz : z.toInt = (n : Int)) :
    ∀ t, Steps p.tables e below (T.setTop (mkF m (pc + 1) Ls (.int z :: rest))) t → Steps p.tables e below (T.setTop (mkF m pc Ls (.ref a :: rest))) t := fun t kt => by
  obtain ⟨cl, A, r1, r2, r3, r4⟩ := F
  have q : cl.slots.size.toInt32 = z := by
    apply Int32.toInt_inj.mp; rw [r2, hz]; exact len_toInt r3
  exact X.arraylength hx (by rw [eT]; exact A.1) (State.isArrayOf_alike hZ.alike A.2.1) (g := mkF m pc Ls (.ref a :: rest)) rfl rfl hd _ (by rw [q]; exact kt)
theorem own_nb (x : Int32) : nar .byte x.toInt8.toInt32 = x.toInt8.toInt32 := by simp [nar]
theorem own_nc (x : Int32) : nar .char x.toUInt32.toUInt16.toUInt32.toInt32 = x.toUInt32.toUInt16.toUInt32.toInt32 := by
  have := Jvm.Free.XT.narrow_c x
  simpa [nar, narrow] using this
theorem own_nz {z : Int32} (q : z = 0 ∨ z = 1) : nar .boolean z = z := by rcases q with rfl | rfl <;> rfl
theorem own_bt {P : Prop} [Decidable P] (q : P) : ¬ ((if P then (1 : Int32) else 0) = 0) := by simp [q]
theorem own_bf {P : Prop} [Decidable P] (q : ¬ P) : (if P then (1 : Int32) else 0) = 0 := by simp [q]
theorem own_nt {P : Prop} [Decidable P] (q : P) : (if P then (0 : Int32) else 1) = 0 := by simp [q]
theorem own_nf {P : Prop} [Decidable P] (q : ¬ P) : ¬ ((if P then (0 : Int32) else 1) = 0) := by simp [q]
theorem own_lrem {target : State} (X : Stand p l e R s m args below meth c T locs cells slots) (hx : p.tables.exec = Jvm.exec) (hg : g.method = m) {x y : Int64} {rest : List Value} (hd : decode c.code g.pc = .ok (.lrem, 1)) (hs : g.stack = .long y :: .long x :: rest) (hy : y ≠ 0)
    (hr : Steps p.tables e below (T.setTop { g with pc := g.pc + 1, stack := .long (x % y) :: rest }) target) : Steps p.tables e below (T.setTop g) target := XS.lrem X.here hx hg hd hs hy (by rw [lrem_mod]; exact hr)
end OwnKit
theorem djdk_30_method_1_code_0 : decode jdk_30_method_1_code 0 = .ok (.aload_n 0, 1) := by decide +kernel
theorem djdk_30_method_1_code_1 : decode jdk_30_method_1_code 1 = .ok (.invokespecial 1, 3) := by decide +kernel
theorem djdk_30_method_1_code_4 : decode jdk_30_method_1_code 4 = .ok (.return_, 1) := by decide +kernel
theorem ef_rm2 (m_ : MethodId) (a : Addr) : entryFrame m_ #[(.ref a)] 1 = mkF m_ 0 #[.val (.ref a)] [] := by first | (simp [entryFrame, mkF, argsToLocals, Value.category]; done) | rfl
theorem own_pn0 : plainName "java/lang/Record" = true := by first | (simp [plainName, overriddenIn]; done) | decide +kernel
set_option maxRecDepth 65536 in
set_option maxHeartbeats 40000000 in
theorem rm2 (l : Launch) (Z : State) (a0 : Array Value) (hw : ∀ d ∈ tables_1, d.before a0 Z = true) (a : Addr) (h0 : Heap) (n0 : Nat) (Z0 : n0 ≤ h0.size)  :
    own_Met l Z (⟨"java/lang/Record", "<init>", "()V"⟩ : MethodName) jdk_30_method_1_code 1 none ({ frames := 1, cells := 0, slots := 0, locals := 12 } : Room) #[(.ref a)] h0 (fun v h L => v = none ∧ Fr n0 L ∧ h = h0) := by
  refine own_body #[.val (.ref a)] (plainFor_of_name own_pn0) (fun m_ => ef_rm2 m_ a) ?_
  intro p_ e_ s_ m_ below meth c_ s₁ X0 hx hby hml hret hlk hZ hown hnm e0
  have N0 := Fr.nil n0
  show own_Out p_ e_ below s_ _ _ _ s₁ (mkF m_ 0 #[.val (.ref a)] [])
  refine own_st s₁ (mkF m_ 1 #[.val (.ref a)] [(.ref a)]) (fun t_ k_ => ?_) ?_
  · refine XS.aloadN X0.here hx rfl (hb hby djdk_30_method_1_code_0) rfl rfl ?_
    show Steps p_.tables e_ below (s₁.setTop (mkF m_ 1 #[.val (.ref a)] [(.ref a)])) t_
    exact k_
  obtain ⟨T1, X1, e1, st1⟩ := initO X0 hx hZ hown (hw _ (List.mem_of_getElem? (i := 11) rfl)) (hw _ (List.mem_of_getElem? (i := 12) rfl)) (hw _ (List.mem_of_getElem? (i := 13) rfl)) e0 (g := (mkF m_ 1 #[.val (.ref a)] [(.ref a)])) rfl (by rw [hml]; rfl) rfl (hb hby djdk_30_method_1_code_1) (by decide) (W := 0) (by show 2 * 0 + _ ≤ _; exact Nat.le_of_eq rfl) (by decide)
  refine own_st T1 (mkF m_ 4 #[.val (.ref a)] []) st1 ?_
  refine own_ret0 X1 hx hlk hret (hb hby djdk_30_method_1_code_4) (by decide) (by decide) ?_
  rw [e1]
  exact ⟨rfl, N0, rfl⟩
theorem dprog_20_method_1_code_0 : decode prog_20_method_1_code 0 = .ok (.aload_n 0, 1) := by decide +kernel
theorem own_pd0 : parseMethodDescriptor "()V" = some ⟨[], none⟩ := by decide +kernel
theorem dprog_20_method_1_code_1 : decode prog_20_method_1_code 1 = .ok (.invokespecial 1, 3) := by decide +kernel
theorem dprog_20_method_1_code_4 : decode prog_20_method_1_code 4 = .ok (.aload_n 0, 1) := by decide +kernel
theorem dprog_20_method_1_code_5 : decode prog_20_method_1_code 5 = .ok (.iload_n 1, 1) := by decide +kernel
theorem dprog_20_method_1_code_6 : decode prog_20_method_1_code 6 = .ok (.putfield 7, 3) := by decide +kernel
theorem dprog_20_method_1_code_9 : decode prog_20_method_1_code 9 = .ok (.aload_n 0, 1) := by decide +kernel
theorem dprog_20_method_1_code_10 : decode prog_20_method_1_code 10 = .ok (.iload_n 2, 1) := by decide +kernel
theorem dprog_20_method_1_code_11 : decode prog_20_method_1_code 11 = .ok (.putfield 13, 3) := by decide +kernel
theorem dprog_20_method_1_code_14 : decode prog_20_method_1_code 14 = .ok (.return_, 1) := by decide +kernel
theorem ef_rm1 (m_ : MethodId) (a : Addr) (x : Int32) (y : Int32) : entryFrame m_ #[(.ref a), (.int x), (.int y)] 3 = mkF m_ 0 #[.val (.ref a), .val (.int x), .val (.int y)] [] := by first | (simp [entryFrame, mkF, argsToLocals, Value.category]; done) | rfl
theorem own_pn1 : plainName "com/example/tabmod/tabmod/logic/Position" = true := by first | (simp [plainName, overriddenIn]; done) | decide +kernel
set_option maxRecDepth 65536 in
set_option maxHeartbeats 40000000 in
theorem rm1 (l : Launch) (Z : State) (a0 : Array Value) (hw : ∀ d ∈ tables_1, d.before a0 Z = true) (a : Addr) (x : Int32) (y : Int32) (h0 : Heap) (n0 : Nat) (Z0 : n0 ≤ h0.size) (E_a : Exa Z h0 a "com/example/tabmod/tabmod/logic/Position") (F_line_a : Fld Z h0 a "com/example/tabmod/tabmod/logic/Position" "line" "I" (.int (0 : Int32))) (F_column_a : Fld Z h0 a "com/example/tabmod/tabmod/logic/Position" "column" "I" (.int (0 : Int32))) (g_a : n0 ≤ a) :
    own_Met l Z (⟨"com/example/tabmod/tabmod/logic/Position", "<init>", "(II)V"⟩ : MethodName) prog_20_method_1_code 3 none ({ frames := 2, cells := 0, slots := 0, locals := 24 } : Room) #[(.ref a), (.int x), (.int y)] h0 (fun v h L => v = none ∧ Fr n0 L ∧ Keep h0 h [a] ∧ Exa Z h a "com/example/tabmod/tabmod/logic/Position" ∧ Fld Z h a "com/example/tabmod/tabmod/logic/Position" "line" "I" (.int x) ∧ Fld Z h a "com/example/tabmod/tabmod/logic/Position" "column" "I" (.int y)) := by
  refine own_body #[.val (.ref a), .val (.int x), .val (.int y)] (plainFor_of_name own_pn1) (fun m_ => ef_rm1 m_ a x y) ?_
  intro p_ e_ s_ m_ below meth c_ s₁ X0 hx hby hml hret hlk hZ hown hnm e0
  have N0 := Fr.nil n0
  have KP := Keep.refl h0 [a]
  show own_Out p_ e_ below s_ _ _ _ s₁ (mkF m_ 0 #[.val (.ref a), .val (.int x), .val (.int y)] [])
  refine own_st s₁ (mkF m_ 1 #[.val (.ref a), .val (.int x), .val (.int y)] [(.ref a)]) (fun t_ k_ => ?_) ?_
  · refine XS.aloadN X0.here hx rfl (hb hby dprog_20_method_1_code_0) rfl rfl ?_
    show Steps p_.tables e_ below (s₁.setTop (mkF m_ 1 #[.val (.ref a), .val (.int x), .val (.int y)] [(.ref a)])) t_
    exact k_
  refine own_callC X0 hx hZ rfl hown (hw _ (List.mem_of_getElem? (i := 6) rfl)) (hw _ (List.mem_of_getElem? (i := 7) rfl)) (hw _ (List.mem_of_getElem? (i := 9) rfl)) (hw _ (List.mem_of_getElem? (i := 10) rfl)) (by decide) a [] [] (rm2 l Z a0 hw a h0 n0 Z0) 0 (by decide) (by decide) e0 (by rw [hml]; rfl) (lenOf own_pd0 rfl) rfl (Nat.le_of_eq rfl) (hb hby dprog_20_method_1_code_1) (by decide) (by decide) ?_
  intro v1 T1 L1 X1 q1
  obtain ⟨rfl, N1q, e1⟩ := q1
  have N1 := Fr.app N0 N1q
  show own_Out p_ e_ below s_ _ _ _ T1 (mkF m_ 4 #[.val (.ref a), .val (.int x), .val (.int y)] [])
  refine own_st T1 (mkF m_ 6 #[.val (.ref a), .val (.int x), .val (.int y)] [(.int x), (.ref a)]) (fun t_ k_ => ?_) ?_
  · refine XS.aloadN X1.here hx rfl (hb hby dprog_20_method_1_code_4) rfl rfl ?_
    show Steps p_.tables e_ below (T1.setTop (mkF m_ 5 #[.val (.ref a), .val (.int x), .val (.int y)] [(.ref a)])) t_
    refine XS.iloadN X1.here hx rfl (hb hby dprog_20_method_1_code_5) rfl ?_
    show Steps p_.tables e_ below (T1.setTop (mkF m_ 6 #[.val (.ref a), .val (.int x), .val (.int y)] [(.int x), (.ref a)])) t_
    exact k_
  obtain ⟨T2, h2, X2, e2, W2, st2⟩ := putF X1 hx hZ hown (host := "") (Or.inl (hw _ (List.mem_of_getElem? (i := 14) rfl))) Via.refl e1 F_line_a E_a (Or.inr ⟨(hw _ (List.mem_of_getElem? (i := 15) rfl)), rfl, hnm⟩) (hw _ (List.mem_of_getElem? (i := 1) rfl)) (ty := .int) (by decide) rfl rfl (g := (mkF m_ 6 #[.val (.ref a), .val (.int x), .val (.int y)] [(.int x), (.ref a)])) rfl rfl (hb hby dprog_20_method_1_code_6)
  have N2 := Fr.snoc X2 N1 g_a
  replace Z0 : n0 ≤ h2.size := W2.size ▸ Z0
  replace KP := KP.wr W2 (Or.inl (List.mem_of_getElem? (i := 0) rfl))
  replace E_a := E_a.wr W2
  replace F_column_a := F_column_a.other W2 (Or.inr (slot_ne (Or.inr (hw _ (List.mem_of_getElem? (i := 17) rfl))) (Or.inr (hw _ (List.mem_of_getElem? (i := 15) rfl))) (by decide) (t := .int) (t' := .int) (by decide) (by decide)))
  replace F_line_a := F_line_a.same W2
  refine own_st T2 (mkF m_ 9 #[.val (.ref a), .val (.int x), .val (.int y)] []) st2 ?_
  refine own_st T2 (mkF m_ 11 #[.val (.ref a), .val (.int x), .val (.int y)] [(.int y), (.ref a)]) (fun t_ k_ => ?_) ?_
  · refine XS.aloadN X2.here hx rfl (hb hby dprog_20_method_1_code_9) rfl rfl ?_
    show Steps p_.tables e_ below (T2.setTop (mkF m_ 10 #[.val (.ref a), .val (.int x), .val (.int y)] [(.ref a)])) t_
    refine XS.iloadN X2.here hx rfl (hb hby dprog_20_method_1_code_10) rfl ?_
    show Steps p_.tables e_ below (T2.setTop (mkF m_ 11 #[.val (.ref a), .val (.int x), .val (.int y)] [(.int y), (.ref a)])) t_
    exact k_
  obtain ⟨T3, h3, X3, e3, W3, st3⟩ := putF X2 hx hZ hown (host := "") (Or.inl (hw _ (List.mem_of_getElem? (i := 16) rfl))) Via.refl e2 F_column_a E_a (Or.inr ⟨(hw _ (List.mem_of_getElem? (i := 17) rfl)), rfl, hnm⟩) (hw _ (List.mem_of_getElem? (i := 1) rfl)) (ty := .int) (by decide) rfl rfl (g := (mkF m_ 11 #[.val (.ref a), .val (.int x), .val (.int y)] [(.int y), (.ref a)])) rfl rfl (hb hby dprog_20_method_1_code_11)
  have N3 := Fr.snoc X3 N2 g_a
  replace Z0 : n0 ≤ h3.size := W3.size ▸ Z0
  replace KP := KP.wr W3 (Or.inl (List.mem_of_getElem? (i := 0) rfl))
  replace E_a := E_a.wr W3
  replace F_line_a := F_line_a.other W3 (Or.inr (slot_ne (Or.inr (hw _ (List.mem_of_getElem? (i := 15) rfl))) (Or.inr (hw _ (List.mem_of_getElem? (i := 17) rfl))) (by decide) (t := .int) (t' := .int) (by decide) (by decide)))
  replace F_column_a := F_column_a.same W3
  refine own_st T3 (mkF m_ 14 #[.val (.ref a), .val (.int x), .val (.int y)] []) st3 ?_
  refine own_ret0 X3 hx hlk hret (hb hby dprog_20_method_1_code_14) (by decide) (by decide) ?_
  rw [e3]
  exact ⟨rfl, N3, KP, E_a, F_line_a, F_column_a⟩
theorem djdk_33_method_40_code_0 : decode jdk_33_method_40_code 0 = .ok (.iload_n 0, 1) := by decide +kernel
theorem djdk_33_method_40_code_1 : decode jdk_33_method_40_code 1 = .ok (.iload_n 1, 1) := by decide +kernel
theorem djdk_33_method_40_code_2 : decode jdk_33_method_40_code 2 = .ok (.if_icmp .ge 7, 3) := by decide +kernel
theorem djdk_33_method_40_code_5 : decode jdk_33_method_40_code 5 = .ok (.iconst (-1), 1) := by decide +kernel
theorem djdk_33_method_40_code_6 : decode jdk_33_method_40_code 6 = .ok (.goto 13, 3) := by decide +kernel
theorem djdk_33_method_40_code_9 : decode jdk_33_method_40_code 9 = .ok (.iload_n 0, 1) := by decide +kernel
theorem djdk_33_method_40_code_10 : decode jdk_33_method_40_code 10 = .ok (.iload_n 1, 1) := by decide +kernel
theorem djdk_33_method_40_code_11 : decode jdk_33_method_40_code 11 = .ok (.if_icmp .ne 7, 3) := by decide +kernel
theorem djdk_33_method_40_code_14 : decode jdk_33_method_40_code 14 = .ok (.iconst 0, 1) := by decide +kernel
theorem djdk_33_method_40_code_15 : decode jdk_33_method_40_code 15 = .ok (.goto 4, 3) := by decide +kernel
theorem djdk_33_method_40_code_18 : decode jdk_33_method_40_code 18 = .ok (.iconst 1, 1) := by decide +kernel
theorem djdk_33_method_40_code_19 : decode jdk_33_method_40_code 19 = .ok (.ireturn, 1) := by decide +kernel
theorem ef_rm5 (m_ : MethodId) (x : Int32) (y : Int32) : entryFrame m_ #[(.int x), (.int y)] 2 = mkF m_ 0 #[.val (.int x), .val (.int y)] [] := by first | (simp [entryFrame, mkF, argsToLocals, Value.category]; done) | rfl
theorem own_pn2 : plainName "java/lang/Integer" = true := by first | (simp [plainName, overriddenIn]; done) | decide +kernel
def f5 (x : Int32) (y : Int32) : Int32 := (if x < y then (-1 : Int32) else (if x = y then (0 : Int32) else 1))
set_option maxRecDepth 65536 in
set_option maxHeartbeats 40000000 in
theorem rm5 (l : Launch) (Z : State) (a0 : Array Value) (hw : ∀ d ∈ tables_1, d.before a0 Z = true) (x : Int32) (y : Int32) (h0 : Heap) (n0 : Nat) (Z0 : n0 ≤ h0.size)  :
    own_Met l Z (⟨"java/lang/Integer", "compare", "(II)I"⟩ : MethodName) jdk_33_method_40_code 2 (some .int) ({ frames := 0, cells := 0, slots := 0, locals := 0 } : Room) #[(.int x), (.int y)] h0 (fun v h L => v = some (.int (f5 x y)) ∧ Fr n0 L ∧ h = h0) := by
  refine own_body #[.val (.int x), .val (.int y)] (plainFor_of_name own_pn2) (fun m_ => ef_rm5 m_ x y) ?_
  intro p_ e_ s_ m_ below meth c_ s₁ X0 hx hby hml hret hlk hZ hown hnm e0
  have N0 := Fr.nil n0
  show own_Out p_ e_ below s_ _ _ _ s₁ (mkF m_ 0 #[.val (.int x), .val (.int y)] [])
  refine own_st s₁ (mkF m_ 19 #[.val (.int x), .val (.int y)] [(.int (if x < y then (-1 : Int32) else (if x = y then (0 : Int32) else 1)))]) (fun t_ k_ => ?_) ?_
  · refine XS.iloadN X0.here hx rfl (hb hby djdk_33_method_40_code_0) rfl ?_
    show Steps p_.tables e_ below (s₁.setTop (mkF m_ 1 #[.val (.int x), .val (.int y)] [(.int x)])) t_
    refine XS.iloadN X0.here hx rfl (hb hby djdk_33_method_40_code_1) rfl ?_
    show Steps p_.tables e_ below (s₁.setTop (mkF m_ 2 #[.val (.int x), .val (.int y)] [(.int y), (.int x)])) t_
    have jn2 : ∀ t_, Steps p_.tables e_ below (s₁.setTop (mkF m_ 19 #[.val (.int x), .val (.int y)] [(.int (if x < y then (-1 : Int32) else (if x = y then (0 : Int32) else 1)))])) t_ → Steps p_.tables e_ below (s₁.setTop (mkF m_ 2 #[.val (.int x), .val (.int y)] [(.int y), (.int x)])) t_ := by
      intro t_ k_
      by_cases hc2 : x < y
      · refine XS.icmpNo X0.here hx rfl (hb hby djdk_33_method_40_code_2) rfl (tlt hc2).2.1 ?_
        show Steps p_.tables e_ below (s₁.setTop (mkF m_ 5 #[.val (.int x), .val (.int y)] [])) t_
        refine XS.iconst X0.here hx rfl (hb hby djdk_33_method_40_code_5) ?_
        show Steps p_.tables e_ below (s₁.setTop (mkF m_ 6 #[.val (.int x), .val (.int y)] [(.int (-1 : Int32))])) t_
        refine XS.goto X0.here hx rfl (pc0 := 6) (pc' := 19) rfl (hb hby djdk_33_method_40_code_6) (by decide) (by decide) ?_
        show Steps p_.tables e_ below (s₁.setTop (mkF m_ 19 #[.val (.int x), .val (.int y)] [(.int (-1 : Int32))])) t_
        simp only [if_pos hc2] at k_
        exact k_
      · refine XS.icmpYes X0.here hx rfl (pc0 := 2) (pc' := 9) rfl (hb hby djdk_33_method_40_code_2) rfl (flt hc2).2.1 (by decide) (by decide) ?_
        show Steps p_.tables e_ below (s₁.setTop (mkF m_ 9 #[.val (.int x), .val (.int y)] [])) t_
        refine XS.iloadN X0.here hx rfl (hb hby djdk_33_method_40_code_9) rfl ?_
        show Steps p_.tables e_ below (s₁.setTop (mkF m_ 10 #[.val (.int x), .val (.int y)] [(.int x)])) t_
        refine XS.iloadN X0.here hx rfl (hb hby djdk_33_method_40_code_10) rfl ?_
        show Steps p_.tables e_ below (s₁.setTop (mkF m_ 11 #[.val (.int x), .val (.int y)] [(.int y), (.int x)])) t_
        have jn11 : ∀ t_, Steps p_.tables e_ below (s₁.setTop (mkF m_ 19 #[.val (.int x), .val (.int y)] [(.int (if x = y then (0 : Int32) else 1))])) t_ → Steps p_.tables e_ below (s₁.setTop (mkF m_ 11 #[.val (.int x), .val (.int y)] [(.int y), (.int x)])) t_ := by
          intro t_ k_
          by_cases hc11 : x = y
          · refine XS.icmpNo X0.here hx rfl (hb hby djdk_33_method_40_code_11) rfl (teq hc11).2 ?_
            show Steps p_.tables e_ below (s₁.setTop (mkF m_ 14 #[.val (.int x), .val (.int y)] [])) t_
            refine XS.iconst X0.here hx rfl (hb hby djdk_33_method_40_code_14) ?_
            show Steps p_.tables e_ below (s₁.setTop (mkF m_ 15 #[.val (.int x), .val (.int y)] [(.int (0 : Int32))])) t_
            refine XS.goto X0.here hx rfl (pc0 := 15) (pc' := 19) rfl (hb hby djdk_33_method_40_code_15) (by decide) (by decide) ?_
            show Steps p_.tables e_ below (s₁.setTop (mkF m_ 19 #[.val (.int x), .val (.int y)] [(.int (0 : Int32))])) t_
            simp only [if_pos hc11] at k_
            exact k_
          · refine XS.icmpYes X0.here hx rfl (pc0 := 11) (pc' := 18) rfl (hb hby djdk_33_method_40_code_11) rfl (feq hc11).2 (by decide) (by decide) ?_
            show Steps p_.tables e_ below (s₁.setTop (mkF m_ 18 #[.val (.int x), .val (.int y)] [])) t_
            refine XS.iconst X0.here hx rfl (hb hby djdk_33_method_40_code_18) ?_
            show Steps p_.tables e_ below (s₁.setTop (mkF m_ 19 #[.val (.int x), .val (.int y)] [(.int (1 : Int32))])) t_
            simp only [if_neg hc11] at k_
            exact k_
        refine jn11 _ ?_
        show Steps p_.tables e_ below (s₁.setTop (mkF m_ 19 #[.val (.int x), .val (.int y)] [(.int (if x = y then (0 : Int32) else 1))])) t_
        simp only [if_neg hc2] at k_
        exact k_
    refine jn2 _ ?_
    show Steps p_.tables e_ below (s₁.setTop (mkF m_ 19 #[.val (.int x), .val (.int y)] [(.int (if x < y then (-1 : Int32) else (if x = y then (0 : Int32) else 1)))])) t_
    exact k_
  refine own_retI X0 hx hlk hret (hb hby djdk_33_method_40_code_19) (by decide) (by decide) ?_
  rw [e0]
  exact ⟨by simp only [f5], N0, rfl⟩
theorem dmethod_3_code_0 : decode method_3_code 0 = .ok (.iload_n 0, 1) := by decide +kernel
theorem dmethod_3_code_1 : decode method_3_code 1 = .ok (.ifCond .ge 7, 3) := by decide +kernel
theorem dmethod_3_code_4 : decode method_3_code 4 = .ok (.iconst (-1), 1) := by decide +kernel
theorem dmethod_3_code_5 : decode method_3_code 5 = .ok (.goto 12, 3) := by decide +kernel
theorem dmethod_3_code_8 : decode method_3_code 8 = .ok (.iload_n 0, 1) := by decide +kernel
theorem dmethod_3_code_9 : decode method_3_code 9 = .ok (.ifCond .le 7, 3) := by decide +kernel
theorem dmethod_3_code_12 : decode method_3_code 12 = .ok (.iconst 1, 1) := by decide +kernel
theorem dmethod_3_code_13 : decode method_3_code 13 = .ok (.goto 4, 3) := by decide +kernel
theorem dmethod_3_code_16 : decode method_3_code 16 = .ok (.iconst 0, 1) := by decide +kernel
theorem dmethod_3_code_17 : decode method_3_code 17 = .ok (.ireturn, 1) := by decide +kernel
theorem ef_rm6 (m_ : MethodId) (x : Int32) : entryFrame m_ #[(.int x)] 1 = mkF m_ 0 #[.val (.int x)] [] := by first | (simp [entryFrame, mkF, argsToLocals, Value.category]; done) | rfl
theorem own_pn3 : plainName "com/example/tabmod/tabmod/logic/PositionCompareToPinLaw" = true := by first | (simp [plainName, overriddenIn]; done) | decide +kernel
def f6 (x : Int32) : Int32 := (if x < (0 : Int32) then (-1 : Int32) else (if (0 : Int32) < x then (1 : Int32) else 0))
set_option maxRecDepth 65536 in
set_option maxHeartbeats 40000000 in
theorem rm6 (l : Launch) (Z : State) (a0 : Array Value) (hw : ∀ d ∈ tables_1, d.before a0 Z = true) (x : Int32) (h0 : Heap) (n0 : Nat) (Z0 : n0 ≤ h0.size)  :
    own_Met l Z (⟨"com/example/tabmod/tabmod/logic/PositionCompareToPinLaw", "sign", "(I)I"⟩ : MethodName) method_3_code 1 (some .int) ({ frames := 0, cells := 0, slots := 0, locals := 0 } : Room) #[(.int x)] h0 (fun v h L => v = some (.int (f6 x)) ∧ Fr n0 L ∧ h = h0) := by
  refine own_body #[.val (.int x)] (plainFor_of_name own_pn3) (fun m_ => ef_rm6 m_ x) ?_
  intro p_ e_ s_ m_ below meth c_ s₁ X0 hx hby hml hret hlk hZ hown hnm e0
  have N0 := Fr.nil n0
  show own_Out p_ e_ below s_ _ _ _ s₁ (mkF m_ 0 #[.val (.int x)] [])
  refine own_st s₁ (mkF m_ 17 #[.val (.int x)] [(.int (if x < (0 : Int32) then (-1 : Int32) else (if (0 : Int32) < x then (1 : Int32) else 0)))]) (fun t_ k_ => ?_) ?_
  · refine XS.iloadN X0.here hx rfl (hb hby dmethod_3_code_0) rfl ?_
    show Steps p_.tables e_ below (s₁.setTop (mkF m_ 1 #[.val (.int x)] [(.int x)])) t_
    have jn1 : ∀ t_, Steps p_.tables e_ below (s₁.setTop (mkF m_ 17 #[.val (.int x)] [(.int (if x < (0 : Int32) then (-1 : Int32) else (if (0 : Int32) < x then (1 : Int32) else 0)))])) t_ → Steps p_.tables e_ below (s₁.setTop (mkF m_ 1 #[.val (.int x)] [(.int x)])) t_ := by
      intro t_ k_
      by_cases hc1 : x < (0 : Int32)
      · refine XS.ifNo X0.here hx rfl (hb hby dmethod_3_code_1) rfl ((if0 _ _).trans (tlt hc1).2.1) ?_
        show Steps p_.tables e_ below (s₁.setTop (mkF m_ 4 #[.val (.int x)] [])) t_
        refine XS.iconst X0.here hx rfl (hb hby dmethod_3_code_4) ?_
        show Steps p_.tables e_ below (s₁.setTop (mkF m_ 5 #[.val (.int x)] [(.int (-1 : Int32))])) t_
        refine XS.goto X0.here hx rfl (pc0 := 5) (pc' := 17) rfl (hb hby dmethod_3_code_5) (by decide) (by decide) ?_
        show Steps p_.tables e_ below (s₁.setTop (mkF m_ 17 #[.val (.int x)] [(.int (-1 : Int32))])) t_
        simp only [if_pos hc1] at k_
        exact k_
      · refine XS.ifYes X0.here hx rfl (pc0 := 1) (pc' := 8) rfl (hb hby dmethod_3_code_1) rfl ((if0 _ _).trans (flt hc1).2.1) (by decide) (by decide) ?_
        show Steps p_.tables e_ below (s₁.setTop (mkF m_ 8 #[.val (.int x)] [])) t_
        refine XS.iloadN X0.here hx rfl (hb hby dmethod_3_code_8) rfl ?_
        show Steps p_.tables e_ below (s₁.setTop (mkF m_ 9 #[.val (.int x)] [(.int x)])) t_
        have jn9 : ∀ t_, Steps p_.tables e_ below (s₁.setTop (mkF m_ 17 #[.val (.int x)] [(.int (if (0 : Int32) < x then (1 : Int32) else 0))])) t_ → Steps p_.tables e_ below (s₁.setTop (mkF m_ 9 #[.val (.int x)] [(.int x)])) t_ := by
          intro t_ k_
          by_cases hc9 : (0 : Int32) < x
          · refine XS.ifNo X0.here hx rfl (hb hby dmethod_3_code_9) rfl ((if0 _ _).trans (tlt hc9).2.2.2) ?_
            show Steps p_.tables e_ below (s₁.setTop (mkF m_ 12 #[.val (.int x)] [])) t_
            refine XS.iconst X0.here hx rfl (hb hby dmethod_3_code_12) ?_
            show Steps p_.tables e_ below (s₁.setTop (mkF m_ 13 #[.val (.int x)] [(.int (1 : Int32))])) t_
            refine XS.goto X0.here hx rfl (pc0 := 13) (pc' := 17) rfl (hb hby dmethod_3_code_13) (by decide) (by decide) ?_
            show Steps p_.tables e_ below (s₁.setTop (mkF m_ 17 #[.val (.int x)] [(.int (1 : Int32))])) t_
            simp only [if_pos hc9] at k_
            exact k_
          · refine XS.ifYes X0.here hx rfl (pc0 := 9) (pc' := 16) rfl (hb hby dmethod_3_code_9) rfl ((if0 _ _).trans (flt hc9).2.2.2) (by decide) (by decide) ?_
            show Steps p_.tables e_ below (s₁.setTop (mkF m_ 16 #[.val (.int x)] [])) t_
            refine XS.iconst X0.here hx rfl (hb hby dmethod_3_code_16) ?_
            show Steps p_.tables e_ below (s₁.setTop (mkF m_ 17 #[.val (.int x)] [(.int (0 : Int32))])) t_
            simp only [if_neg hc9] at k_
            exact k_
        refine jn9 _ ?_
        show Steps p_.tables e_ below (s₁.setTop (mkF m_ 17 #[.val (.int x)] [(.int (if (0 : Int32) < x then (1 : Int32) else 0))])) t_
        simp only [if_neg hc1] at k_
        exact k_
    refine jn1 _ ?_
    show Steps p_.tables e_ below (s₁.setTop (mkF m_ 17 #[.val (.int x)] [(.int (if x < (0 : Int32) then (-1 : Int32) else (if (0 : Int32) < x then (1 : Int32) else 0)))])) t_
    exact k_
  refine own_retI X0 hx hlk hret (hb hby dmethod_3_code_17) (by decide) (by decide) ?_
  rw [e0]
  exact ⟨by simp only [f6], N0, rfl⟩
def f4 (la ca lb cb : Int32) : Int32 := if la = lb then f5 ca cb else f5 la lb
theorem dprog_20_method_2_code_0 : decode prog_20_method_2_code 0 = .ok (.aload_n 0, 1) := by decide +kernel
theorem dprog_20_method_2_code_1 : decode prog_20_method_2_code 1 = .ok (.getfield 7, 3) := by decide +kernel
theorem dprog_20_method_2_code_4 : decode prog_20_method_2_code 4 = .ok (.aload_n 1, 1) := by decide +kernel
theorem dprog_20_method_2_code_5 : decode prog_20_method_2_code 5 = .ok (.getfield 7, 3) := by decide +kernel
theorem dprog_20_method_2_code_8 : decode prog_20_method_2_code 8 = .ok (.if_icmp .eq 17, 3) := by decide +kernel
theorem dprog_20_method_2_code_25 : decode prog_20_method_2_code 25 = .ok (.aload_n 0, 1) := by decide +kernel
theorem dprog_20_method_2_code_26 : decode prog_20_method_2_code 26 = .ok (.getfield 13, 3) := by decide +kernel
theorem dprog_20_method_2_code_29 : decode prog_20_method_2_code 29 = .ok (.aload_n 1, 1) := by decide +kernel
theorem dprog_20_method_2_code_30 : decode prog_20_method_2_code 30 = .ok (.getfield 13, 3) := by decide +kernel
theorem own_pd1 : parseMethodDescriptor "(II)I" = some ⟨[.int, .int], some .int⟩ := by decide +kernel
theorem dprog_20_method_2_code_33 : decode prog_20_method_2_code 33 = .ok (.invokestatic 16, 3) := by decide +kernel
theorem dprog_20_method_2_code_36 : decode prog_20_method_2_code 36 = .ok (.ireturn, 1) := by decide +kernel
theorem dprog_20_method_2_code_11 : decode prog_20_method_2_code 11 = .ok (.aload_n 0, 1) := by decide +kernel
theorem dprog_20_method_2_code_12 : decode prog_20_method_2_code 12 = .ok (.getfield 7, 3) := by decide +kernel
theorem dprog_20_method_2_code_15 : decode prog_20_method_2_code 15 = .ok (.aload_n 1, 1) := by decide +kernel
theorem dprog_20_method_2_code_16 : decode prog_20_method_2_code 16 = .ok (.getfield 7, 3) := by decide +kernel
theorem dprog_20_method_2_code_19 : decode prog_20_method_2_code 19 = .ok (.invokestatic 16, 3) := by decide +kernel
theorem dprog_20_method_2_code_22 : decode prog_20_method_2_code 22 = .ok (.goto 14, 3) := by decide +kernel
theorem ef_rm4 (m_ : MethodId) (a : Addr) (b : Addr) : entryFrame m_ #[(.ref a), (.ref b)] 2 = mkF m_ 0 #[.val (.ref a), .val (.ref b)] [] := by first | (simp [entryFrame, mkF, argsToLocals, Value.category]; done) | rfl
set_option maxRecDepth 65536 in
set_option maxHeartbeats 40000000 in
theorem rm4 (l : Launch) (Z : State) (a0 : Array Value) (hw : ∀ d ∈ tables_1, d.before a0 Z = true) (a : Addr) (b : Addr) (la ca lb cb : Int32) (h0 : Heap) (n0 : Nat) (Z0 : n0 ≤ h0.size) (F_line_a : Fld Z h0 a "com/example/tabmod/tabmod/logic/Position" "line" "I" (.int la)) (F_column_a : Fld Z h0 a "com/example/tabmod/tabmod/logic/Position" "column" "I" (.int ca)) (F_line_b : Fld Z h0 b "com/example/tabmod/tabmod/logic/Position" "line" "I" (.int lb)) (F_column_b : Fld Z h0 b "com/example/tabmod/tabmod/logic/Position" "column" "I" (.int cb)) :
    own_Met l Z (⟨"com/example/tabmod/tabmod/logic/Position", "compareTo", "(Lcom/example/tabmod/tabmod/logic/Position;)I"⟩ : MethodName) prog_20_method_2_code 2 (some .int) ({ frames := 1, cells := 0, slots := 0, locals := 13 } : Room) #[(.ref a), (.ref b)] h0 (fun v h L => v = some (.int (f4 la ca lb cb)) ∧ Fr n0 L ∧ h = h0) := by
  refine own_body #[.val (.ref a), .val (.ref b)] (plainFor_of_name own_pn1) (fun m_ => ef_rm4 m_ a b) ?_
  intro p_ e_ s_ m_ below meth c_ s₁ X0 hx hby hml hret hlk hZ hown hnm e0
  have N0 := Fr.nil n0
  show own_Out p_ e_ below s_ _ _ _ s₁ (mkF m_ 0 #[.val (.ref a), .val (.ref b)] [])
  refine own_st s₁ (mkF m_ 1 #[.val (.ref a), .val (.ref b)] [(.ref a)]) (fun t_ k_ => ?_) ?_
  · refine XS.aloadN X0.here hx rfl (hb hby dprog_20_method_2_code_0) rfl rfl ?_
    show Steps p_.tables e_ below (s₁.setTop (mkF m_ 1 #[.val (.ref a), .val (.ref b)] [(.ref a)])) t_
    exact k_
  obtain ⟨T1, X1, e1, st1⟩ := getF X0 hx hZ hown (host := "") (Or.inl (hw _ (List.mem_of_getElem? (i := 14) rfl))) Via.refl e0 F_line_a (g := (mkF m_ 1 #[.val (.ref a), .val (.ref b)] [(.ref a)])) rfl rfl (hb hby dprog_20_method_2_code_1)
  refine own_st T1 (mkF m_ 4 #[.val (.ref a), .val (.ref b)] [(.int la)]) st1 ?_
  refine own_st T1 (mkF m_ 5 #[.val (.ref a), .val (.ref b)] [(.ref b), (.int la)]) (fun t_ k_ => ?_) ?_
  · refine XS.aloadN X1.here hx rfl (hb hby dprog_20_method_2_code_4) rfl rfl ?_
    show Steps p_.tables e_ below (T1.setTop (mkF m_ 5 #[.val (.ref a), .val (.ref b)] [(.ref b), (.int la)])) t_
    exact k_
  obtain ⟨T2, X2, e2, st2⟩ := getF X1 hx hZ hown (host := "") (Or.inl (hw _ (List.mem_of_getElem? (i := 14) rfl))) Via.refl e1 F_line_b (g := (mkF m_ 5 #[.val (.ref a), .val (.ref b)] [(.ref b), (.int la)])) rfl rfl (hb hby dprog_20_method_2_code_5)
  refine own_st T2 (mkF m_ 8 #[.val (.ref a), .val (.ref b)] [(.int lb), (.int la)]) st2 ?_
  by_cases hc8 : la = lb
  · refine own_st T2 (mkF m_ 25 #[.val (.ref a), .val (.ref b)] []) (fun t_ k_ => XS.icmpYes X2.here hx rfl (pc0 := 8) (pc' := 25) rfl (hb hby dprog_20_method_2_code_8) rfl (teq hc8).1 (by decide) (by decide) k_) ?_
    refine own_st T2 (mkF m_ 26 #[.val (.ref a), .val (.ref b)] [(.ref a)]) (fun t_ k_ => ?_) ?_
    · refine XS.aloadN X2.here hx rfl (hb hby dprog_20_method_2_code_25) rfl rfl ?_
      show Steps p_.tables e_ below (T2.setTop (mkF m_ 26 #[.val (.ref a), .val (.ref b)] [(.ref a)])) t_
      exact k_
    obtain ⟨T3, X3, e3, st3⟩ := getF X2 hx hZ hown (host := "") (Or.inl (hw _ (List.mem_of_getElem? (i := 16) rfl))) Via.refl e2 F_column_a (g := (mkF m_ 26 #[.val (.ref a), .val (.ref b)] [(.ref a)])) rfl rfl (hb hby dprog_20_method_2_code_26)
    refine own_st T3 (mkF m_ 29 #[.val (.ref a), .val (.ref b)] [(.int ca)]) st3 ?_
    refine own_st T3 (mkF m_ 30 #[.val (.ref a), .val (.ref b)] [(.ref b), (.int ca)]) (fun t_ k_ => ?_) ?_
    · refine XS.aloadN X3.here hx rfl (hb hby dprog_20_method_2_code_29) rfl rfl ?_
      show Steps p_.tables e_ below (T3.setTop (mkF m_ 30 #[.val (.ref a), .val (.ref b)] [(.ref b), (.int ca)])) t_
      exact k_
    obtain ⟨T4, X4, e4, st4⟩ := getF X3 hx hZ hown (host := "") (Or.inl (hw _ (List.mem_of_getElem? (i := 16) rfl))) Via.refl e3 F_column_b (g := (mkF m_ 30 #[.val (.ref a), .val (.ref b)] [(.ref b), (.int ca)])) rfl rfl (hb hby dprog_20_method_2_code_30)
    refine own_st T4 (mkF m_ 33 #[.val (.ref a), .val (.ref b)] [(.int cb), (.int ca)]) st4 ?_
    refine own_callS X4 hx hZ hown (hw _ (List.mem_of_getElem? (i := 23) rfl)) (hw _ (List.mem_of_getElem? (i := 24) rfl)) (hw _ (List.mem_of_getElem? (i := 25) rfl)) (hw _ (List.mem_of_getElem? (i := 26) rfl)) (by decide) [(.int ca), (.int cb)] [] (rm5 l Z a0 hw ca cb h0 n0 Z0) 0 (by decide) (by decide) e4 (by rw [hml]; rfl) (lenOf own_pd1 rfl) rfl (Nat.le_of_eq rfl) (hb hby dprog_20_method_2_code_33) (by decide) (by decide) ?_
    intro v5 T5 L5 X5 q5
    obtain ⟨rfl, N5q, e5⟩ := q5
    have N5 := Fr.app N0 N5q
    show own_Out p_ e_ below s_ _ _ _ T5 (mkF m_ 36 #[.val (.ref a), .val (.ref b)] [(.int (f5 ca cb))])
    refine own_retI X5 hx hlk hret (hb hby dprog_20_method_2_code_36) (by decide) (by decide) ?_
    rw [e5]
    exact ⟨by simp only [f4, if_pos hc8], N5, rfl⟩
  · refine own_st T2 (mkF m_ 11 #[.val (.ref a), .val (.ref b)] []) (fun t_ k_ => XS.icmpNo X2.here hx rfl (hb hby dprog_20_method_2_code_8) rfl (feq hc8).1 k_) ?_
    refine own_st T2 (mkF m_ 12 #[.val (.ref a), .val (.ref b)] [(.ref a)]) (fun t_ k_ => ?_) ?_
    · refine XS.aloadN X2.here hx rfl (hb hby dprog_20_method_2_code_11) rfl rfl ?_
      show Steps p_.tables e_ below (T2.setTop (mkF m_ 12 #[.val (.ref a), .val (.ref b)] [(.ref a)])) t_
      exact k_
    obtain ⟨T6, X6, e6, st6⟩ := getF X2 hx hZ hown (host := "") (Or.inl (hw _ (List.mem_of_getElem? (i := 14) rfl))) Via.refl e2 F_line_a (g := (mkF m_ 12 #[.val (.ref a), .val (.ref b)] [(.ref a)])) rfl rfl (hb hby dprog_20_method_2_code_12)
    refine own_st T6 (mkF m_ 15 #[.val (.ref a), .val (.ref b)] [(.int la)]) st6 ?_
    refine own_st T6 (mkF m_ 16 #[.val (.ref a), .val (.ref b)] [(.ref b), (.int la)]) (fun t_ k_ => ?_) ?_
    · refine XS.aloadN X6.here hx rfl (hb hby dprog_20_method_2_code_15) rfl rfl ?_
      show Steps p_.tables e_ below (T6.setTop (mkF m_ 16 #[.val (.ref a), .val (.ref b)] [(.ref b), (.int la)])) t_
      exact k_
    obtain ⟨T7, X7, e7, st7⟩ := getF X6 hx hZ hown (host := "") (Or.inl (hw _ (List.mem_of_getElem? (i := 14) rfl))) Via.refl e6 F_line_b (g := (mkF m_ 16 #[.val (.ref a), .val (.ref b)] [(.ref b), (.int la)])) rfl rfl (hb hby dprog_20_method_2_code_16)
    refine own_st T7 (mkF m_ 19 #[.val (.ref a), .val (.ref b)] [(.int lb), (.int la)]) st7 ?_
    refine own_callS X7 hx hZ hown (hw _ (List.mem_of_getElem? (i := 23) rfl)) (hw _ (List.mem_of_getElem? (i := 24) rfl)) (hw _ (List.mem_of_getElem? (i := 25) rfl)) (hw _ (List.mem_of_getElem? (i := 26) rfl)) (by decide) [(.int la), (.int lb)] [] (rm5 l Z a0 hw la lb h0 n0 Z0) 0 (by decide) (by decide) e7 (by rw [hml]; rfl) (lenOf own_pd1 rfl) rfl (Nat.le_of_eq rfl) (hb hby dprog_20_method_2_code_19) (by decide) (by decide) ?_
    intro v8 T8 L8 X8 q8
    obtain ⟨rfl, N8q, e8⟩ := q8
    have N8 := Fr.app N0 N8q
    show own_Out p_ e_ below s_ _ _ _ T8 (mkF m_ 22 #[.val (.ref a), .val (.ref b)] [(.int (f5 la lb))])
    refine own_st T8 (mkF m_ 36 #[.val (.ref a), .val (.ref b)] [(.int (f5 la lb))]) (fun t_ k_ => ?_) ?_
    · refine XS.goto X8.here hx rfl (pc0 := 22) (pc' := 36) rfl (hb hby dprog_20_method_2_code_22) (by decide) (by decide) ?_
      show Steps p_.tables e_ below (T8.setTop (mkF m_ 36 #[.val (.ref a), .val (.ref b)] [(.int (f5 la lb))])) t_
      exact k_
    refine own_retI X8 hx hlk hret (hb hby dprog_20_method_2_code_36) (by decide) (by decide) ?_
    rw [e8]
    exact ⟨by simp only [f4, if_neg hc8], N8, rfl⟩
def own_e (l1 c1 l2 c2 : Int32) : Int32 := if l1 < l2 then -1 else if l2 < l1 then 1 else if c1 < c2 then -1 else if c2 < c1 then 1 else 0
theorem own_k1 (l1 c1 l2 c2 : Int32) : f6 (f4 l1 c1 l2 c2) = own_e l1 c1 l2 c2 := by
  have t1 : f6 (-1) = -1 := by decide
  have t2 : f6 1 = 1 := by decide
  have t3 : f6 0 = 0 := by decide
  have i1 : l1 = l2 ↔ l1.toInt = l2.toInt := Int32.toInt_inj.symm
  have i2 : c1 = c2 ↔ c1.toInt = c2.toInt := Int32.toInt_inj.symm
  unfold f4 f5 own_e
  simp only [Int32.lt_iff_toInt_lt, i1, i2]
  repeat' split
  all_goals first | exact t1 | exact t2 | exact t3 | omega
theorem own_k2 (l1 c1 l2 c2 : Int32) : f6 (f4 l2 c2 l1 c1) = -(own_e l1 c1 l2 c2) := by
  have t1 : f6 (-1) = -(1 : Int32) := by decide
  have t2 : f6 1 = -(-1 : Int32) := by decide
  have t3 : f6 0 = -(0 : Int32) := by decide
  have i1 : l2 = l1 ↔ l2.toInt = l1.toInt := Int32.toInt_inj.symm
  have i2 : c2 = c1 ↔ c2.toInt = c1.toInt := Int32.toInt_inj.symm
  unfold f4 f5 own_e
  simp only [Int32.lt_iff_toInt_lt, i1, i2]
  repeat' split
  all_goals first | exact t1 | exact t2 | exact t3 | omega

def own_l2 (l1 : Int32) (l2 : Int32) (mode : Int32) : Int32 := (if (mode &&& (1 : Int32)) = (0 : Int32) then l2 else l1)
def own_c2 (c1 : Int32) (c2 : Int32) (mode : Int32) : Int32 := (if (mode &&& (2 : Int32)) = (0 : Int32) then c2 else c1)
theorem own_pd2 : parseMethodDescriptor "(II)V" = some ⟨[.int, .int], none⟩ := by decide +kernel
def own_ex (l1 : Int32) (c1 : Int32) (l2 : Int32) (c2 : Int32) (mode : Int32) : Int32 := (if l1 < (own_l2 l1 l2 mode) then (-1 : Int32) else (if (own_l2 l1 l2 mode) < l1 then (1 : Int32) else (if c1 < (own_c2 c1 c2 mode) then (-1 : Int32) else (if (own_c2 c1 c2 mode) < c1 then (1 : Int32) else 0))))
theorem own_pd3 : parseMethodDescriptor "(Lcom/example/tabmod/tabmod/logic/Position;)I" = some ⟨[(.object "com/example/tabmod/tabmod/logic/Position")], some .int⟩ := by decide +kernel
theorem own_pd4 : parseMethodDescriptor "(I)I" = some ⟨[.int], some .int⟩ := by decide +kernel
theorem ef_rm0 (m_ : MethodId) (l1 : Int32) (c1 : Int32) (l2 : Int32) (c2 : Int32) (mode : Int32) : entryFrame m_ #[(.int l1), (.int c1), (.int l2), (.int c2), (.int mode)] maxLocals = mkF m_ 0 #[.val (.int l1), .val (.int c1), .val (.int l2), .val (.int c2), .val (.int mode), .unset, .unset, .unset, .unset, .unset] [] := by first | (simp [entryFrame, mkF, argsToLocals, Value.category, maxLocals]; done) | rfl
set_option maxRecDepth 65536 in
set_option maxHeartbeats 40000000 in
theorem rm0 (l : Launch) (Z : State) (a0 : Array Value) (hw : ∀ d ∈ tables_1, d.before a0 Z = true) (l1 : Int32) (c1 : Int32) (l2 : Int32) (c2 : Int32) (mode : Int32) (h0 : Heap) (n0 : Nat) (Z0 : n0 ≤ h0.size)  :
    own_Met l Z x code maxLocals ret room_1 #[(.int l1), (.int c1), (.int l2), (.int c2), (.int mode)] h0 (fun v h L => v = some (.int 1) ∧ Fr n0 L) := by
  refine own_body #[.val (.int l1), .val (.int c1), .val (.int l2), .val (.int c2), .val (.int mode), .unset, .unset, .unset, .unset, .unset] (plainFor_of_name own_pn3) (fun m_ => ef_rm0 m_ l1 c1 l2 c2 mode) ?_
  intro p_ e_ s_ m_ below meth c_ s₁ X0 hx hby hml hret hlk hZ hown hnm e0
  have N0 := Fr.nil n0
  show own_Out p_ e_ below s_ _ _ _ s₁ (mkF m_ 0 #[.val (.int l1), .val (.int c1), .val (.int l2), .val (.int c2), .val (.int mode), .unset, .unset, .unset, .unset, .unset] [])
  refine own_st s₁ (mkF m_ 28 #[.val (.int l1), .val (.int c1), .val (.int l2), .val (.int c2), .val (.int mode), .val (.int (own_l2 l1 l2 mode)), .val (.int (own_c2 c1 c2 mode)), .unset, .unset, .unset] []) (fun t_ k_ => ?_) ?_
  · refine XS.iload X0.here hx rfl (hb hby at_0) rfl ?_
    show Steps p_.tables e_ below (s₁.setTop (mkF m_ 2 #[.val (.int l1), .val (.int c1), .val (.int l2), .val (.int c2), .val (.int mode), .unset, .unset, .unset, .unset, .unset] [(.int mode)])) t_
    refine XS.iconst X0.here hx rfl (hb hby at_2) ?_
    show Steps p_.tables e_ below (s₁.setTop (mkF m_ 3 #[.val (.int l1), .val (.int c1), .val (.int l2), .val (.int c2), .val (.int mode), .unset, .unset, .unset, .unset, .unset] [(.int (1 : Int32)), (.int mode)])) t_
    refine XS.iand X0.here hx rfl (hb hby at_3) rfl ?_
    show Steps p_.tables e_ below (s₁.setTop (mkF m_ 4 #[.val (.int l1), .val (.int c1), .val (.int l2), .val (.int c2), .val (.int mode), .unset, .unset, .unset, .unset, .unset] [(.int (mode &&& (1 : Int32)))])) t_
    have jn4 : ∀ t_, Steps p_.tables e_ below (s₁.setTop (mkF m_ 12 #[.val (.int l1), .val (.int c1), .val (.int l2), .val (.int c2), .val (.int mode), .unset, .unset, .unset, .unset, .unset] [(.int (own_l2 l1 l2 mode))])) t_ → Steps p_.tables e_ below (s₁.setTop (mkF m_ 4 #[.val (.int l1), .val (.int c1), .val (.int l2), .val (.int c2), .val (.int mode), .unset, .unset, .unset, .unset, .unset] [(.int (mode &&& (1 : Int32)))])) t_ := by
      intro t_ k_
      by_cases hc4 : (mode &&& (1 : Int32)) = (0 : Int32)
      · refine XS.ifYes X0.here hx rfl (pc0 := 4) (pc' := 11) rfl (hb hby at_4) rfl ((if0 _ _).trans (teq hc4).1) (by decide) (by decide) ?_
        show Steps p_.tables e_ below (s₁.setTop (mkF m_ 11 #[.val (.int l1), .val (.int c1), .val (.int l2), .val (.int c2), .val (.int mode), .unset, .unset, .unset, .unset, .unset] [])) t_
        refine XS.iloadN X0.here hx rfl (hb hby at_11) rfl ?_
        show Steps p_.tables e_ below (s₁.setTop (mkF m_ 12 #[.val (.int l1), .val (.int c1), .val (.int l2), .val (.int c2), .val (.int mode), .unset, .unset, .unset, .unset, .unset] [(.int l2)])) t_
        simp only [own_l2, if_pos hc4] at k_
        exact k_
      · refine XS.ifNo X0.here hx rfl (hb hby at_4) rfl ((if0 _ _).trans (feq hc4).1) ?_
        show Steps p_.tables e_ below (s₁.setTop (mkF m_ 7 #[.val (.int l1), .val (.int c1), .val (.int l2), .val (.int c2), .val (.int mode), .unset, .unset, .unset, .unset, .unset] [])) t_
        refine XS.iloadN X0.here hx rfl (hb hby at_7) rfl ?_
        show Steps p_.tables e_ below (s₁.setTop (mkF m_ 8 #[.val (.int l1), .val (.int c1), .val (.int l2), .val (.int c2), .val (.int mode), .unset, .unset, .unset, .unset, .unset] [(.int l1)])) t_
        refine XS.goto X0.here hx rfl (pc0 := 8) (pc' := 12) rfl (hb hby at_8) (by decide) (by decide) ?_
        show Steps p_.tables e_ below (s₁.setTop (mkF m_ 12 #[.val (.int l1), .val (.int c1), .val (.int l2), .val (.int c2), .val (.int mode), .unset, .unset, .unset, .unset, .unset] [(.int l1)])) t_
        simp only [own_l2, if_neg hc4] at k_
        exact k_
    refine jn4 _ ?_
    show Steps p_.tables e_ below (s₁.setTop (mkF m_ 12 #[.val (.int l1), .val (.int c1), .val (.int l2), .val (.int c2), .val (.int mode), .unset, .unset, .unset, .unset, .unset] [(.int (own_l2 l1 l2 mode))])) t_
    refine XS.istore X0.here hx rfl (hb hby at_12) rfl (l' := #[.val (.int l1), .val (.int c1), .val (.int l2), .val (.int c2), .val (.int mode), .val (.int (own_l2 l1 l2 mode)), .unset, .unset, .unset, .unset]) rfl ?_
    show Steps p_.tables e_ below (s₁.setTop (mkF m_ 14 #[.val (.int l1), .val (.int c1), .val (.int l2), .val (.int c2), .val (.int mode), .val (.int (own_l2 l1 l2 mode)), .unset, .unset, .unset, .unset] [])) t_
    refine XS.iload X0.here hx rfl (hb hby at_14) rfl ?_
    show Steps p_.tables e_ below (s₁.setTop (mkF m_ 16 #[.val (.int l1), .val (.int c1), .val (.int l2), .val (.int c2), .val (.int mode), .val (.int (own_l2 l1 l2 mode)), .unset, .unset, .unset, .unset] [(.int mode)])) t_
    refine XS.iconst X0.here hx rfl (hb hby at_16) ?_
    show Steps p_.tables e_ below (s₁.setTop (mkF m_ 17 #[.val (.int l1), .val (.int c1), .val (.int l2), .val (.int c2), .val (.int mode), .val (.int (own_l2 l1 l2 mode)), .unset, .unset, .unset, .unset] [(.int (2 : Int32)), (.int mode)])) t_
    refine XS.iand X0.here hx rfl (hb hby at_17) rfl ?_
    show Steps p_.tables e_ below (s₁.setTop (mkF m_ 18 #[.val (.int l1), .val (.int c1), .val (.int l2), .val (.int c2), .val (.int mode), .val (.int (own_l2 l1 l2 mode)), .unset, .unset, .unset, .unset] [(.int (mode &&& (2 : Int32)))])) t_
    have jn18 : ∀ t_, Steps p_.tables e_ below (s₁.setTop (mkF m_ 26 #[.val (.int l1), .val (.int c1), .val (.int l2), .val (.int c2), .val (.int mode), .val (.int (own_l2 l1 l2 mode)), .unset, .unset, .unset, .unset] [(.int (own_c2 c1 c2 mode))])) t_ → Steps p_.tables e_ below (s₁.setTop (mkF m_ 18 #[.val (.int l1), .val (.int c1), .val (.int l2), .val (.int c2), .val (.int mode), .val (.int (own_l2 l1 l2 mode)), .unset, .unset, .unset, .unset] [(.int (mode &&& (2 : Int32)))])) t_ := by
      intro t_ k_
      by_cases hc18 : (mode &&& (2 : Int32)) = (0 : Int32)
      · refine XS.ifYes X0.here hx rfl (pc0 := 18) (pc' := 25) rfl (hb hby at_18) rfl ((if0 _ _).trans (teq hc18).1) (by decide) (by decide) ?_
        show Steps p_.tables e_ below (s₁.setTop (mkF m_ 25 #[.val (.int l1), .val (.int c1), .val (.int l2), .val (.int c2), .val (.int mode), .val (.int (own_l2 l1 l2 mode)), .unset, .unset, .unset, .unset] [])) t_
        refine XS.iloadN X0.here hx rfl (hb hby at_25) rfl ?_
        show Steps p_.tables e_ below (s₁.setTop (mkF m_ 26 #[.val (.int l1), .val (.int c1), .val (.int l2), .val (.int c2), .val (.int mode), .val (.int (own_l2 l1 l2 mode)), .unset, .unset, .unset, .unset] [(.int c2)])) t_
        simp only [own_c2, if_pos hc18] at k_
        exact k_
      · refine XS.ifNo X0.here hx rfl (hb hby at_18) rfl ((if0 _ _).trans (feq hc18).1) ?_
        show Steps p_.tables e_ below (s₁.setTop (mkF m_ 21 #[.val (.int l1), .val (.int c1), .val (.int l2), .val (.int c2), .val (.int mode), .val (.int (own_l2 l1 l2 mode)), .unset, .unset, .unset, .unset] [])) t_
        refine XS.iloadN X0.here hx rfl (hb hby at_21) rfl ?_
        show Steps p_.tables e_ below (s₁.setTop (mkF m_ 22 #[.val (.int l1), .val (.int c1), .val (.int l2), .val (.int c2), .val (.int mode), .val (.int (own_l2 l1 l2 mode)), .unset, .unset, .unset, .unset] [(.int c1)])) t_
        refine XS.goto X0.here hx rfl (pc0 := 22) (pc' := 26) rfl (hb hby at_22) (by decide) (by decide) ?_
        show Steps p_.tables e_ below (s₁.setTop (mkF m_ 26 #[.val (.int l1), .val (.int c1), .val (.int l2), .val (.int c2), .val (.int mode), .val (.int (own_l2 l1 l2 mode)), .unset, .unset, .unset, .unset] [(.int c1)])) t_
        simp only [own_c2, if_neg hc18] at k_
        exact k_
    refine jn18 _ ?_
    show Steps p_.tables e_ below (s₁.setTop (mkF m_ 26 #[.val (.int l1), .val (.int c1), .val (.int l2), .val (.int c2), .val (.int mode), .val (.int (own_l2 l1 l2 mode)), .unset, .unset, .unset, .unset] [(.int (own_c2 c1 c2 mode))])) t_
    refine XS.istore X0.here hx rfl (hb hby at_26) rfl (l' := #[.val (.int l1), .val (.int c1), .val (.int l2), .val (.int c2), .val (.int mode), .val (.int (own_l2 l1 l2 mode)), .val (.int (own_c2 c1 c2 mode)), .unset, .unset, .unset]) rfl ?_
    show Steps p_.tables e_ below (s₁.setTop (mkF m_ 28 #[.val (.int l1), .val (.int c1), .val (.int l2), .val (.int c2), .val (.int mode), .val (.int (own_l2 l1 l2 mode)), .val (.int (own_c2 c1 c2 mode)), .unset, .unset, .unset] [])) t_
    exact k_
  obtain ⟨T1, h1, X1, e1, E1, A1, D1, -, st1⟩ := newO X0 hx hZ hown (hw _ (List.mem_of_getElem? (i := 0) rfl)) (hw _ (List.mem_of_getElem? (i := 1) rfl)) (hw _ (List.mem_of_getElem? (i := 2) rfl)) e0 (g := (mkF m_ 28 #[.val (.int l1), .val (.int c1), .val (.int l2), .val (.int c2), .val (.int mode), .val (.int (own_l2 l1 l2 mode)), .val (.int (own_c2 c1 c2 mode)), .unset, .unset, .unset] [])) rfl (hb hby at_28) (by decide) (by decide)
  obtain ⟨b1, g1⟩ : ∃ z, z = h0.size := ⟨_, rfl⟩
  rw [← g1] at A1 D1 st1
  have g_b1 : n0 ≤ b1 := g1 ▸ Z0
  replace Z0 : n0 ≤ h1.size := Nat.le_trans Z0 E1.1
  have F_line_b1 : Fld Z h1 b1 "com/example/tabmod/tabmod/logic/Position" "line" "I" (.int (0 : Int32)) := D1 (Or.inr (hw _ (List.mem_of_getElem? (i := 15) rfl))) (ty := .int) (by decide)
  have F_column_b1 : Fld Z h1 b1 "com/example/tabmod/tabmod/logic/Position" "column" "I" (.int (0 : Int32)) := D1 (Or.inr (hw _ (List.mem_of_getElem? (i := 17) rfl))) (ty := .int) (by decide)
  have E_b1 := A1
  refine own_st T1 (mkF m_ 31 #[.val (.int l1), .val (.int c1), .val (.int l2), .val (.int c2), .val (.int mode), .val (.int (own_l2 l1 l2 mode)), .val (.int (own_c2 c1 c2 mode)), .unset, .unset, .unset] [(.ref b1)]) st1 ?_
  refine own_st T1 (mkF m_ 34 #[.val (.int l1), .val (.int c1), .val (.int l2), .val (.int c2), .val (.int mode), .val (.int (own_l2 l1 l2 mode)), .val (.int (own_c2 c1 c2 mode)), .unset, .unset, .unset] [(.int c1), (.int l1), (.ref b1), (.ref b1)]) (fun t_ k_ => ?_) ?_
  · refine XS.dup X1.here hx rfl (hb hby at_31) rfl rfl ?_
    show Steps p_.tables e_ below (T1.setTop (mkF m_ 32 #[.val (.int l1), .val (.int c1), .val (.int l2), .val (.int c2), .val (.int mode), .val (.int (own_l2 l1 l2 mode)), .val (.int (own_c2 c1 c2 mode)), .unset, .unset, .unset] [(.ref b1), (.ref b1)])) t_
    refine XS.iloadN X1.here hx rfl (hb hby at_32) rfl ?_
    show Steps p_.tables e_ below (T1.setTop (mkF m_ 33 #[.val (.int l1), .val (.int c1), .val (.int l2), .val (.int c2), .val (.int mode), .val (.int (own_l2 l1 l2 mode)), .val (.int (own_c2 c1 c2 mode)), .unset, .unset, .unset] [(.int l1), (.ref b1), (.ref b1)])) t_
    refine XS.iloadN X1.here hx rfl (hb hby at_33) rfl ?_
    show Steps p_.tables e_ below (T1.setTop (mkF m_ 34 #[.val (.int l1), .val (.int c1), .val (.int l2), .val (.int c2), .val (.int mode), .val (.int (own_l2 l1 l2 mode)), .val (.int (own_c2 c1 c2 mode)), .unset, .unset, .unset] [(.int c1), (.int l1), (.ref b1), (.ref b1)])) t_
    exact k_
  refine own_callC X1 hx hZ rfl hown (hw _ (List.mem_of_getElem? (i := 3) rfl)) (hw _ (List.mem_of_getElem? (i := 4) rfl)) (hw _ (List.mem_of_getElem? (i := 2) rfl)) (hw _ (List.mem_of_getElem? (i := 5) rfl)) (by decide) b1 [(.int l1), (.int c1)] [(.ref b1)] (rm1 l Z a0 hw b1 l1 c1 h1 n0 Z0 E_b1 F_line_b1 F_column_b1 g_b1) 1 (by decide) (by decide) e1 (by rw [hml]; rfl) (lenOf own_pd2 rfl) rfl (Nat.le_of_eq rfl) (hb hby at_34) (by decide) (by decide) ?_
  intro v2 T2 L2 X2 q2
  obtain ⟨rfl, N2q, K2, Eq2, Fq2_line, Fq2_column⟩ := q2
  have N2 := Fr.app N0 N2q
  -- F_line_b1 is dropped: written by the callee
  -- F_column_b1 is dropped: written by the callee
  replace E_b1 := E_b1.keep K2
  replace Z0 : n0 ≤ T2.heap.size := Nat.le_trans Z0 K2.1
  have F_line_b1 := Fq2_line
  have F_column_b1 := Fq2_column
  show own_Out p_ e_ below s_ _ _ _ T2 (mkF m_ 37 #[.val (.int l1), .val (.int c1), .val (.int l2), .val (.int c2), .val (.int mode), .val (.int (own_l2 l1 l2 mode)), .val (.int (own_c2 c1 c2 mode)), .unset, .unset, .unset] [(.ref b1)])
  refine own_st T2 (mkF m_ 39 #[.val (.int l1), .val (.int c1), .val (.int l2), .val (.int c2), .val (.int mode), .val (.int (own_l2 l1 l2 mode)), .val (.int (own_c2 c1 c2 mode)), .val (.ref b1), .unset, .unset] []) (fun t_ k_ => ?_) ?_
  · refine XS.astore X2.here hx rfl (hb hby at_37) rfl rfl (l' := #[.val (.int l1), .val (.int c1), .val (.int l2), .val (.int c2), .val (.int mode), .val (.int (own_l2 l1 l2 mode)), .val (.int (own_c2 c1 c2 mode)), .val (.ref b1), .unset, .unset]) rfl ?_
    show Steps p_.tables e_ below (T2.setTop (mkF m_ 39 #[.val (.int l1), .val (.int c1), .val (.int l2), .val (.int c2), .val (.int mode), .val (.int (own_l2 l1 l2 mode)), .val (.int (own_c2 c1 c2 mode)), .val (.ref b1), .unset, .unset] [])) t_
    exact k_
  obtain ⟨T3, h3, X3, e3, E3, A3, D3, -, st3⟩ := newO X2 hx hZ hown (hw _ (List.mem_of_getElem? (i := 0) rfl)) (hw _ (List.mem_of_getElem? (i := 1) rfl)) (hw _ (List.mem_of_getElem? (i := 2) rfl)) rfl (g := (mkF m_ 39 #[.val (.int l1), .val (.int c1), .val (.int l2), .val (.int c2), .val (.int mode), .val (.int (own_l2 l1 l2 mode)), .val (.int (own_c2 c1 c2 mode)), .val (.ref b1), .unset, .unset] [])) rfl (hb hby at_39) (by decide) (by decide)
  obtain ⟨b3, g3⟩ : ∃ z, z = T2.heap.size := ⟨_, rfl⟩
  rw [← g3] at A3 D3 st3
  have g_b3 : n0 ≤ b3 := g3 ▸ Z0
  have ne_b1_b3 : b1 ≠ b3 := Nat.ne_of_lt (Nat.lt_of_lt_of_le E_b1.lt (Nat.le_of_eq g3.symm))
  replace E_b1 := E_b1.ext E3
  replace F_line_b1 := F_line_b1.ext E3
  replace F_column_b1 := F_column_b1.ext E3
  replace Z0 : n0 ≤ h3.size := Nat.le_trans Z0 E3.1
  have F_line_b3 : Fld Z h3 b3 "com/example/tabmod/tabmod/logic/Position" "line" "I" (.int (0 : Int32)) := D3 (Or.inr (hw _ (List.mem_of_getElem? (i := 15) rfl))) (ty := .int) (by decide)
  have F_column_b3 : Fld Z h3 b3 "com/example/tabmod/tabmod/logic/Position" "column" "I" (.int (0 : Int32)) := D3 (Or.inr (hw _ (List.mem_of_getElem? (i := 17) rfl))) (ty := .int) (by decide)
  have E_b3 := A3
  refine own_st T3 (mkF m_ 42 #[.val (.int l1), .val (.int c1), .val (.int l2), .val (.int c2), .val (.int mode), .val (.int (own_l2 l1 l2 mode)), .val (.int (own_c2 c1 c2 mode)), .val (.ref b1), .unset, .unset] [(.ref b3)]) st3 ?_
  refine own_st T3 (mkF m_ 47 #[.val (.int l1), .val (.int c1), .val (.int l2), .val (.int c2), .val (.int mode), .val (.int (own_l2 l1 l2 mode)), .val (.int (own_c2 c1 c2 mode)), .val (.ref b1), .unset, .unset] [(.int (own_c2 c1 c2 mode)), (.int (own_l2 l1 l2 mode)), (.ref b3), (.ref b3)]) (fun t_ k_ => ?_) ?_
  · refine XS.dup X3.here hx rfl (hb hby at_42) rfl rfl ?_
    show Steps p_.tables e_ below (T3.setTop (mkF m_ 43 #[.val (.int l1), .val (.int c1), .val (.int l2), .val (.int c2), .val (.int mode), .val (.int (own_l2 l1 l2 mode)), .val (.int (own_c2 c1 c2 mode)), .val (.ref b1), .unset, .unset] [(.ref b3), (.ref b3)])) t_
    refine XS.iload X3.here hx rfl (hb hby at_43) rfl ?_
    show Steps p_.tables e_ below (T3.setTop (mkF m_ 45 #[.val (.int l1), .val (.int c1), .val (.int l2), .val (.int c2), .val (.int mode), .val (.int (own_l2 l1 l2 mode)), .val (.int (own_c2 c1 c2 mode)), .val (.ref b1), .unset, .unset] [(.int (own_l2 l1 l2 mode)), (.ref b3), (.ref b3)])) t_
    refine XS.iload X3.here hx rfl (hb hby at_45) rfl ?_
    show Steps p_.tables e_ below (T3.setTop (mkF m_ 47 #[.val (.int l1), .val (.int c1), .val (.int l2), .val (.int c2), .val (.int mode), .val (.int (own_l2 l1 l2 mode)), .val (.int (own_c2 c1 c2 mode)), .val (.ref b1), .unset, .unset] [(.int (own_c2 c1 c2 mode)), (.int (own_l2 l1 l2 mode)), (.ref b3), (.ref b3)])) t_
    exact k_
  refine own_callC X3 hx hZ rfl hown (hw _ (List.mem_of_getElem? (i := 3) rfl)) (hw _ (List.mem_of_getElem? (i := 4) rfl)) (hw _ (List.mem_of_getElem? (i := 2) rfl)) (hw _ (List.mem_of_getElem? (i := 5) rfl)) (by decide) b3 [(.int (own_l2 l1 l2 mode)), (.int (own_c2 c1 c2 mode))] [(.ref b3)] (rm1 l Z a0 hw b3 (own_l2 l1 l2 mode) (own_c2 c1 c2 mode) h3 n0 Z0 E_b3 F_line_b3 F_column_b3 g_b3) 1 (by decide) (by decide) e3 (by rw [hml]; rfl) (lenOf own_pd2 rfl) rfl (Nat.le_of_eq rfl) (hb hby at_47) (by decide) (by decide) ?_
  intro v4 T4 L4 X4 q4
  obtain ⟨rfl, N4q, K4, Eq4, Fq4_line, Fq4_column⟩ := q4
  have N4 := Fr.app N2 N4q
  replace E_b1 := E_b1.keep K4
  replace F_line_b1 := F_line_b1.keep K4 (ninS ne_b1_b3 nin0)
  replace F_column_b1 := F_column_b1.keep K4 (ninS ne_b1_b3 nin0)
  -- F_line_b3 is dropped: written by the callee
  -- F_column_b3 is dropped: written by the callee
  replace E_b3 := E_b3.keep K4
  replace Z0 : n0 ≤ T4.heap.size := Nat.le_trans Z0 K4.1
  have F_line_b3 := Fq4_line
  have F_column_b3 := Fq4_column
  show own_Out p_ e_ below s_ _ _ _ T4 (mkF m_ 50 #[.val (.int l1), .val (.int c1), .val (.int l2), .val (.int c2), .val (.int mode), .val (.int (own_l2 l1 l2 mode)), .val (.int (own_c2 c1 c2 mode)), .val (.ref b1), .unset, .unset] [(.ref b3)])
  refine own_st T4 (mkF m_ 107 #[.val (.int l1), .val (.int c1), .val (.int l2), .val (.int c2), .val (.int mode), .val (.int (own_l2 l1 l2 mode)), .val (.int (own_c2 c1 c2 mode)), .val (.ref b1), .val (.ref b3), .val (.int (own_ex l1 c1 l2 c2 mode))] [(.ref b3), (.ref b1)]) (fun t_ k_ => ?_) ?_
  · refine XS.astore X4.here hx rfl (hb hby at_50) rfl rfl (l' := #[.val (.int l1), .val (.int c1), .val (.int l2), .val (.int c2), .val (.int mode), .val (.int (own_l2 l1 l2 mode)), .val (.int (own_c2 c1 c2 mode)), .val (.ref b1), .val (.ref b3), .unset]) rfl ?_
    show Steps p_.tables e_ below (T4.setTop (mkF m_ 52 #[.val (.int l1), .val (.int c1), .val (.int l2), .val (.int c2), .val (.int mode), .val (.int (own_l2 l1 l2 mode)), .val (.int (own_c2 c1 c2 mode)), .val (.ref b1), .val (.ref b3), .unset] [])) t_
    refine XS.iloadN X4.here hx rfl (hb hby at_52) rfl ?_
    show Steps p_.tables e_ below (T4.setTop (mkF m_ 53 #[.val (.int l1), .val (.int c1), .val (.int l2), .val (.int c2), .val (.int mode), .val (.int (own_l2 l1 l2 mode)), .val (.int (own_c2 c1 c2 mode)), .val (.ref b1), .val (.ref b3), .unset] [(.int l1)])) t_
    refine XS.iload X4.here hx rfl (hb hby at_53) rfl ?_
    show Steps p_.tables e_ below (T4.setTop (mkF m_ 55 #[.val (.int l1), .val (.int c1), .val (.int l2), .val (.int c2), .val (.int mode), .val (.int (own_l2 l1 l2 mode)), .val (.int (own_c2 c1 c2 mode)), .val (.ref b1), .val (.ref b3), .unset] [(.int (own_l2 l1 l2 mode)), (.int l1)])) t_
    have jn55 : ∀ t_, Steps p_.tables e_ below (T4.setTop (mkF m_ 103 #[.val (.int l1), .val (.int c1), .val (.int l2), .val (.int c2), .val (.int mode), .val (.int (own_l2 l1 l2 mode)), .val (.int (own_c2 c1 c2 mode)), .val (.ref b1), .val (.ref b3), .val (.int (own_ex l1 c1 l2 c2 mode))] [])) t_ → Steps p_.tables e_ below (T4.setTop (mkF m_ 55 #[.val (.int l1), .val (.int c1), .val (.int l2), .val (.int c2), .val (.int mode), .val (.int (own_l2 l1 l2 mode)), .val (.int (own_c2 c1 c2 mode)), .val (.ref b1), .val (.ref b3), .unset] [(.int (own_l2 l1 l2 mode)), (.int l1)])) t_ := by
      intro t_ k_
      by_cases hc55 : l1 < (own_l2 l1 l2 mode)
      · refine XS.icmpNo X4.here hx rfl (hb hby at_55) rfl (tlt hc55).2.1 ?_
        show Steps p_.tables e_ below (T4.setTop (mkF m_ 58 #[.val (.int l1), .val (.int c1), .val (.int l2), .val (.int c2), .val (.int mode), .val (.int (own_l2 l1 l2 mode)), .val (.int (own_c2 c1 c2 mode)), .val (.ref b1), .val (.ref b3), .unset] [])) t_
        refine XS.iconst X4.here hx rfl (hb hby at_58) ?_
        show Steps p_.tables e_ below (T4.setTop (mkF m_ 59 #[.val (.int l1), .val (.int c1), .val (.int l2), .val (.int c2), .val (.int mode), .val (.int (own_l2 l1 l2 mode)), .val (.int (own_c2 c1 c2 mode)), .val (.ref b1), .val (.ref b3), .unset] [(.int (-1 : Int32))])) t_
        refine XS.istore X4.here hx rfl (hb hby at_59) rfl (l' := #[.val (.int l1), .val (.int c1), .val (.int l2), .val (.int c2), .val (.int mode), .val (.int (own_l2 l1 l2 mode)), .val (.int (own_c2 c1 c2 mode)), .val (.ref b1), .val (.ref b3), .val (.int (-1 : Int32))]) rfl ?_
        show Steps p_.tables e_ below (T4.setTop (mkF m_ 61 #[.val (.int l1), .val (.int c1), .val (.int l2), .val (.int c2), .val (.int mode), .val (.int (own_l2 l1 l2 mode)), .val (.int (own_c2 c1 c2 mode)), .val (.ref b1), .val (.ref b3), .val (.int (-1 : Int32))] [])) t_
        refine XS.goto X4.here hx rfl (pc0 := 61) (pc' := 103) rfl (hb hby at_61) (by decide) (by decide) ?_
        show Steps p_.tables e_ below (T4.setTop (mkF m_ 103 #[.val (.int l1), .val (.int c1), .val (.int l2), .val (.int c2), .val (.int mode), .val (.int (own_l2 l1 l2 mode)), .val (.int (own_c2 c1 c2 mode)), .val (.ref b1), .val (.ref b3), .val (.int (-1 : Int32))] [])) t_
        simp only [own_ex, if_pos hc55] at k_
        exact k_
      · refine XS.icmpYes X4.here hx rfl (pc0 := 55) (pc' := 64) rfl (hb hby at_55) rfl (flt hc55).2.1 (by decide) (by decide) ?_
        show Steps p_.tables e_ below (T4.setTop (mkF m_ 64 #[.val (.int l1), .val (.int c1), .val (.int l2), .val (.int c2), .val (.int mode), .val (.int (own_l2 l1 l2 mode)), .val (.int (own_c2 c1 c2 mode)), .val (.ref b1), .val (.ref b3), .unset] [])) t_
        refine XS.iloadN X4.here hx rfl (hb hby at_64) rfl ?_
        show Steps p_.tables e_ below (T4.setTop (mkF m_ 65 #[.val (.int l1), .val (.int c1), .val (.int l2), .val (.int c2), .val (.int mode), .val (.int (own_l2 l1 l2 mode)), .val (.int (own_c2 c1 c2 mode)), .val (.ref b1), .val (.ref b3), .unset] [(.int l1)])) t_
        refine XS.iload X4.here hx rfl (hb hby at_65) rfl ?_
        show Steps p_.tables e_ below (T4.setTop (mkF m_ 67 #[.val (.int l1), .val (.int c1), .val (.int l2), .val (.int c2), .val (.int mode), .val (.int (own_l2 l1 l2 mode)), .val (.int (own_c2 c1 c2 mode)), .val (.ref b1), .val (.ref b3), .unset] [(.int (own_l2 l1 l2 mode)), (.int l1)])) t_
        have jn67 : ∀ t_, Steps p_.tables e_ below (T4.setTop (mkF m_ 103 #[.val (.int l1), .val (.int c1), .val (.int l2), .val (.int c2), .val (.int mode), .val (.int (own_l2 l1 l2 mode)), .val (.int (own_c2 c1 c2 mode)), .val (.ref b1), .val (.ref b3), .val (.int (if (own_l2 l1 l2 mode) < l1 then (1 : Int32) else (if c1 < (own_c2 c1 c2 mode) then (-1 : Int32) else (if (own_c2 c1 c2 mode) < c1 then (1 : Int32) else 0))))] [])) t_ → Steps p_.tables e_ below (T4.setTop (mkF m_ 67 #[.val (.int l1), .val (.int c1), .val (.int l2), .val (.int c2), .val (.int mode), .val (.int (own_l2 l1 l2 mode)), .val (.int (own_c2 c1 c2 mode)), .val (.ref b1), .val (.ref b3), .unset] [(.int (own_l2 l1 l2 mode)), (.int l1)])) t_ := by
          intro t_ k_
          by_cases hc67 : (own_l2 l1 l2 mode) < l1
          · refine XS.icmpNo X4.here hx rfl (hb hby at_67) rfl (tlt hc67).2.2.2 ?_
            show Steps p_.tables e_ below (T4.setTop (mkF m_ 70 #[.val (.int l1), .val (.int c1), .val (.int l2), .val (.int c2), .val (.int mode), .val (.int (own_l2 l1 l2 mode)), .val (.int (own_c2 c1 c2 mode)), .val (.ref b1), .val (.ref b3), .unset] [])) t_
            refine XS.iconst X4.here hx rfl (hb hby at_70) ?_
            show Steps p_.tables e_ below (T4.setTop (mkF m_ 71 #[.val (.int l1), .val (.int c1), .val (.int l2), .val (.int c2), .val (.int mode), .val (.int (own_l2 l1 l2 mode)), .val (.int (own_c2 c1 c2 mode)), .val (.ref b1), .val (.ref b3), .unset] [(.int (1 : Int32))])) t_
            refine XS.istore X4.here hx rfl (hb hby at_71) rfl (l' := #[.val (.int l1), .val (.int c1), .val (.int l2), .val (.int c2), .val (.int mode), .val (.int (own_l2 l1 l2 mode)), .val (.int (own_c2 c1 c2 mode)), .val (.ref b1), .val (.ref b3), .val (.int (1 : Int32))]) rfl ?_
            show Steps p_.tables e_ below (T4.setTop (mkF m_ 73 #[.val (.int l1), .val (.int c1), .val (.int l2), .val (.int c2), .val (.int mode), .val (.int (own_l2 l1 l2 mode)), .val (.int (own_c2 c1 c2 mode)), .val (.ref b1), .val (.ref b3), .val (.int (1 : Int32))] [])) t_
            refine XS.goto X4.here hx rfl (pc0 := 73) (pc' := 103) rfl (hb hby at_73) (by decide) (by decide) ?_
            show Steps p_.tables e_ below (T4.setTop (mkF m_ 103 #[.val (.int l1), .val (.int c1), .val (.int l2), .val (.int c2), .val (.int mode), .val (.int (own_l2 l1 l2 mode)), .val (.int (own_c2 c1 c2 mode)), .val (.ref b1), .val (.ref b3), .val (.int (1 : Int32))] [])) t_
            simp only [if_pos hc67] at k_
            exact k_
          · refine XS.icmpYes X4.here hx rfl (pc0 := 67) (pc' := 76) rfl (hb hby at_67) rfl (flt hc67).2.2.2 (by decide) (by decide) ?_
            show Steps p_.tables e_ below (T4.setTop (mkF m_ 76 #[.val (.int l1), .val (.int c1), .val (.int l2), .val (.int c2), .val (.int mode), .val (.int (own_l2 l1 l2 mode)), .val (.int (own_c2 c1 c2 mode)), .val (.ref b1), .val (.ref b3), .unset] [])) t_
            refine XS.iloadN X4.here hx rfl (hb hby at_76) rfl ?_
            show Steps p_.tables e_ below (T4.setTop (mkF m_ 77 #[.val (.int l1), .val (.int c1), .val (.int l2), .val (.int c2), .val (.int mode), .val (.int (own_l2 l1 l2 mode)), .val (.int (own_c2 c1 c2 mode)), .val (.ref b1), .val (.ref b3), .unset] [(.int c1)])) t_
            refine XS.iload X4.here hx rfl (hb hby at_77) rfl ?_
            show Steps p_.tables e_ below (T4.setTop (mkF m_ 79 #[.val (.int l1), .val (.int c1), .val (.int l2), .val (.int c2), .val (.int mode), .val (.int (own_l2 l1 l2 mode)), .val (.int (own_c2 c1 c2 mode)), .val (.ref b1), .val (.ref b3), .unset] [(.int (own_c2 c1 c2 mode)), (.int c1)])) t_
            have jn79 : ∀ t_, Steps p_.tables e_ below (T4.setTop (mkF m_ 103 #[.val (.int l1), .val (.int c1), .val (.int l2), .val (.int c2), .val (.int mode), .val (.int (own_l2 l1 l2 mode)), .val (.int (own_c2 c1 c2 mode)), .val (.ref b1), .val (.ref b3), .val (.int (if c1 < (own_c2 c1 c2 mode) then (-1 : Int32) else (if (own_c2 c1 c2 mode) < c1 then (1 : Int32) else 0)))] [])) t_ → Steps p_.tables e_ below (T4.setTop (mkF m_ 79 #[.val (.int l1), .val (.int c1), .val (.int l2), .val (.int c2), .val (.int mode), .val (.int (own_l2 l1 l2 mode)), .val (.int (own_c2 c1 c2 mode)), .val (.ref b1), .val (.ref b3), .unset] [(.int (own_c2 c1 c2 mode)), (.int c1)])) t_ := by
              intro t_ k_
              by_cases hc79 : c1 < (own_c2 c1 c2 mode)
              · refine XS.icmpNo X4.here hx rfl (hb hby at_79) rfl (tlt hc79).2.1 ?_
                show Steps p_.tables e_ below (T4.setTop (mkF m_ 82 #[.val (.int l1), .val (.int c1), .val (.int l2), .val (.int c2), .val (.int mode), .val (.int (own_l2 l1 l2 mode)), .val (.int (own_c2 c1 c2 mode)), .val (.ref b1), .val (.ref b3), .unset] [])) t_
                refine XS.iconst X4.here hx rfl (hb hby at_82) ?_
                show Steps p_.tables e_ below (T4.setTop (mkF m_ 83 #[.val (.int l1), .val (.int c1), .val (.int l2), .val (.int c2), .val (.int mode), .val (.int (own_l2 l1 l2 mode)), .val (.int (own_c2 c1 c2 mode)), .val (.ref b1), .val (.ref b3), .unset] [(.int (-1 : Int32))])) t_
                refine XS.istore X4.here hx rfl (hb hby at_83) rfl (l' := #[.val (.int l1), .val (.int c1), .val (.int l2), .val (.int c2), .val (.int mode), .val (.int (own_l2 l1 l2 mode)), .val (.int (own_c2 c1 c2 mode)), .val (.ref b1), .val (.ref b3), .val (.int (-1 : Int32))]) rfl ?_
                show Steps p_.tables e_ below (T4.setTop (mkF m_ 85 #[.val (.int l1), .val (.int c1), .val (.int l2), .val (.int c2), .val (.int mode), .val (.int (own_l2 l1 l2 mode)), .val (.int (own_c2 c1 c2 mode)), .val (.ref b1), .val (.ref b3), .val (.int (-1 : Int32))] [])) t_
                refine XS.goto X4.here hx rfl (pc0 := 85) (pc' := 103) rfl (hb hby at_85) (by decide) (by decide) ?_
                show Steps p_.tables e_ below (T4.setTop (mkF m_ 103 #[.val (.int l1), .val (.int c1), .val (.int l2), .val (.int c2), .val (.int mode), .val (.int (own_l2 l1 l2 mode)), .val (.int (own_c2 c1 c2 mode)), .val (.ref b1), .val (.ref b3), .val (.int (-1 : Int32))] [])) t_
                simp only [if_pos hc79] at k_
                exact k_
              · refine XS.icmpYes X4.here hx rfl (pc0 := 79) (pc' := 88) rfl (hb hby at_79) rfl (flt hc79).2.1 (by decide) (by decide) ?_
                show Steps p_.tables e_ below (T4.setTop (mkF m_ 88 #[.val (.int l1), .val (.int c1), .val (.int l2), .val (.int c2), .val (.int mode), .val (.int (own_l2 l1 l2 mode)), .val (.int (own_c2 c1 c2 mode)), .val (.ref b1), .val (.ref b3), .unset] [])) t_
                refine XS.iloadN X4.here hx rfl (hb hby at_88) rfl ?_
                show Steps p_.tables e_ below (T4.setTop (mkF m_ 89 #[.val (.int l1), .val (.int c1), .val (.int l2), .val (.int c2), .val (.int mode), .val (.int (own_l2 l1 l2 mode)), .val (.int (own_c2 c1 c2 mode)), .val (.ref b1), .val (.ref b3), .unset] [(.int c1)])) t_
                refine XS.iload X4.here hx rfl (hb hby at_89) rfl ?_
                show Steps p_.tables e_ below (T4.setTop (mkF m_ 91 #[.val (.int l1), .val (.int c1), .val (.int l2), .val (.int c2), .val (.int mode), .val (.int (own_l2 l1 l2 mode)), .val (.int (own_c2 c1 c2 mode)), .val (.ref b1), .val (.ref b3), .unset] [(.int (own_c2 c1 c2 mode)), (.int c1)])) t_
                have jn91 : ∀ t_, Steps p_.tables e_ below (T4.setTop (mkF m_ 103 #[.val (.int l1), .val (.int c1), .val (.int l2), .val (.int c2), .val (.int mode), .val (.int (own_l2 l1 l2 mode)), .val (.int (own_c2 c1 c2 mode)), .val (.ref b1), .val (.ref b3), .val (.int (if (own_c2 c1 c2 mode) < c1 then (1 : Int32) else 0))] [])) t_ → Steps p_.tables e_ below (T4.setTop (mkF m_ 91 #[.val (.int l1), .val (.int c1), .val (.int l2), .val (.int c2), .val (.int mode), .val (.int (own_l2 l1 l2 mode)), .val (.int (own_c2 c1 c2 mode)), .val (.ref b1), .val (.ref b3), .unset] [(.int (own_c2 c1 c2 mode)), (.int c1)])) t_ := by
                  intro t_ k_
                  by_cases hc91 : (own_c2 c1 c2 mode) < c1
                  · refine XS.icmpNo X4.here hx rfl (hb hby at_91) rfl (tlt hc91).2.2.2 ?_
                    show Steps p_.tables e_ below (T4.setTop (mkF m_ 94 #[.val (.int l1), .val (.int c1), .val (.int l2), .val (.int c2), .val (.int mode), .val (.int (own_l2 l1 l2 mode)), .val (.int (own_c2 c1 c2 mode)), .val (.ref b1), .val (.ref b3), .unset] [])) t_
                    refine XS.iconst X4.here hx rfl (hb hby at_94) ?_
                    show Steps p_.tables e_ below (T4.setTop (mkF m_ 95 #[.val (.int l1), .val (.int c1), .val (.int l2), .val (.int c2), .val (.int mode), .val (.int (own_l2 l1 l2 mode)), .val (.int (own_c2 c1 c2 mode)), .val (.ref b1), .val (.ref b3), .unset] [(.int (1 : Int32))])) t_
                    refine XS.istore X4.here hx rfl (hb hby at_95) rfl (l' := #[.val (.int l1), .val (.int c1), .val (.int l2), .val (.int c2), .val (.int mode), .val (.int (own_l2 l1 l2 mode)), .val (.int (own_c2 c1 c2 mode)), .val (.ref b1), .val (.ref b3), .val (.int (1 : Int32))]) rfl ?_
                    show Steps p_.tables e_ below (T4.setTop (mkF m_ 97 #[.val (.int l1), .val (.int c1), .val (.int l2), .val (.int c2), .val (.int mode), .val (.int (own_l2 l1 l2 mode)), .val (.int (own_c2 c1 c2 mode)), .val (.ref b1), .val (.ref b3), .val (.int (1 : Int32))] [])) t_
                    refine XS.goto X4.here hx rfl (pc0 := 97) (pc' := 103) rfl (hb hby at_97) (by decide) (by decide) ?_
                    show Steps p_.tables e_ below (T4.setTop (mkF m_ 103 #[.val (.int l1), .val (.int c1), .val (.int l2), .val (.int c2), .val (.int mode), .val (.int (own_l2 l1 l2 mode)), .val (.int (own_c2 c1 c2 mode)), .val (.ref b1), .val (.ref b3), .val (.int (1 : Int32))] [])) t_
                    simp only [if_pos hc91] at k_
                    exact k_
                  · refine XS.icmpYes X4.here hx rfl (pc0 := 91) (pc' := 100) rfl (hb hby at_91) rfl (flt hc91).2.2.2 (by decide) (by decide) ?_
                    show Steps p_.tables e_ below (T4.setTop (mkF m_ 100 #[.val (.int l1), .val (.int c1), .val (.int l2), .val (.int c2), .val (.int mode), .val (.int (own_l2 l1 l2 mode)), .val (.int (own_c2 c1 c2 mode)), .val (.ref b1), .val (.ref b3), .unset] [])) t_
                    refine XS.iconst X4.here hx rfl (hb hby at_100) ?_
                    show Steps p_.tables e_ below (T4.setTop (mkF m_ 101 #[.val (.int l1), .val (.int c1), .val (.int l2), .val (.int c2), .val (.int mode), .val (.int (own_l2 l1 l2 mode)), .val (.int (own_c2 c1 c2 mode)), .val (.ref b1), .val (.ref b3), .unset] [(.int (0 : Int32))])) t_
                    refine XS.istore X4.here hx rfl (hb hby at_101) rfl (l' := #[.val (.int l1), .val (.int c1), .val (.int l2), .val (.int c2), .val (.int mode), .val (.int (own_l2 l1 l2 mode)), .val (.int (own_c2 c1 c2 mode)), .val (.ref b1), .val (.ref b3), .val (.int (0 : Int32))]) rfl ?_
                    show Steps p_.tables e_ below (T4.setTop (mkF m_ 103 #[.val (.int l1), .val (.int c1), .val (.int l2), .val (.int c2), .val (.int mode), .val (.int (own_l2 l1 l2 mode)), .val (.int (own_c2 c1 c2 mode)), .val (.ref b1), .val (.ref b3), .val (.int (0 : Int32))] [])) t_
                    simp only [if_neg hc91] at k_
                    exact k_
                refine jn91 _ ?_
                show Steps p_.tables e_ below (T4.setTop (mkF m_ 103 #[.val (.int l1), .val (.int c1), .val (.int l2), .val (.int c2), .val (.int mode), .val (.int (own_l2 l1 l2 mode)), .val (.int (own_c2 c1 c2 mode)), .val (.ref b1), .val (.ref b3), .val (.int (if (own_c2 c1 c2 mode) < c1 then (1 : Int32) else 0))] [])) t_
                simp only [if_neg hc79] at k_
                exact k_
            refine jn79 _ ?_
            show Steps p_.tables e_ below (T4.setTop (mkF m_ 103 #[.val (.int l1), .val (.int c1), .val (.int l2), .val (.int c2), .val (.int mode), .val (.int (own_l2 l1 l2 mode)), .val (.int (own_c2 c1 c2 mode)), .val (.ref b1), .val (.ref b3), .val (.int (if c1 < (own_c2 c1 c2 mode) then (-1 : Int32) else (if (own_c2 c1 c2 mode) < c1 then (1 : Int32) else 0)))] [])) t_
            simp only [if_neg hc67] at k_
            exact k_
        refine jn67 _ ?_
        show Steps p_.tables e_ below (T4.setTop (mkF m_ 103 #[.val (.int l1), .val (.int c1), .val (.int l2), .val (.int c2), .val (.int mode), .val (.int (own_l2 l1 l2 mode)), .val (.int (own_c2 c1 c2 mode)), .val (.ref b1), .val (.ref b3), .val (.int (if (own_l2 l1 l2 mode) < l1 then (1 : Int32) else (if c1 < (own_c2 c1 c2 mode) then (-1 : Int32) else (if (own_c2 c1 c2 mode) < c1 then (1 : Int32) else 0))))] [])) t_
        simp only [own_ex, if_neg hc55] at k_
        exact k_
    refine jn55 _ ?_
    show Steps p_.tables e_ below (T4.setTop (mkF m_ 103 #[.val (.int l1), .val (.int c1), .val (.int l2), .val (.int c2), .val (.int mode), .val (.int (own_l2 l1 l2 mode)), .val (.int (own_c2 c1 c2 mode)), .val (.ref b1), .val (.ref b3), .val (.int (own_ex l1 c1 l2 c2 mode))] [])) t_
    refine XS.aload X4.here hx rfl (hb hby at_103) rfl rfl ?_
    show Steps p_.tables e_ below (T4.setTop (mkF m_ 105 #[.val (.int l1), .val (.int c1), .val (.int l2), .val (.int c2), .val (.int mode), .val (.int (own_l2 l1 l2 mode)), .val (.int (own_c2 c1 c2 mode)), .val (.ref b1), .val (.ref b3), .val (.int (own_ex l1 c1 l2 c2 mode))] [(.ref b1)])) t_
    refine XS.aload X4.here hx rfl (hb hby at_105) rfl rfl ?_
    show Steps p_.tables e_ below (T4.setTop (mkF m_ 107 #[.val (.int l1), .val (.int c1), .val (.int l2), .val (.int c2), .val (.int mode), .val (.int (own_l2 l1 l2 mode)), .val (.int (own_c2 c1 c2 mode)), .val (.ref b1), .val (.ref b3), .val (.int (own_ex l1 c1 l2 c2 mode))] [(.ref b3), (.ref b1)])) t_
    exact k_
  refine own_callV X4 hx hZ (y := (⟨"com/example/tabmod/tabmod/logic/Position", "compareTo", "(Lcom/example/tabmod/tabmod/logic/Position;)I"⟩ : MethodName)) (z := (⟨"com/example/tabmod/tabmod/logic/Position", "compareTo", "(Lcom/example/tabmod/tabmod/logic/Position;)I"⟩ : MethodName)) hown (hw _ (List.mem_of_getElem? (i := 18) rfl)) (hw _ (List.mem_of_getElem? (i := 19) rfl)) (notFace_of_selects (args := #[]) (mvT hZ (hw _ (List.mem_of_getElem? (i := 21) rfl)))) (hw _ (List.mem_of_getElem? (i := 21) rfl)) (hw _ (List.mem_of_getElem? (i := 20) rfl)) (hw _ (List.mem_of_getElem? (i := 2) rfl)) (hw _ (List.mem_of_getElem? (i := 22) rfl)) (by decide) b1 [(.ref b3)] [] E_b1 (rm4 l Z a0 hw b1 b3 l1 c1 (own_l2 l1 l2 mode) (own_c2 c1 c2 mode) T4.heap n0 Z0 F_line_b1 F_column_b1 F_line_b3 F_column_b3) 0 (by decide) (by decide) rfl (by rw [hml]; rfl) (lenOf own_pd3 rfl) rfl (Nat.le_of_eq rfl) (hb hby at_107) (by decide) (by decide) ?_
  intro v5 T5 L5 X5 q5
  obtain ⟨rfl, N5q, e5⟩ := q5
  have N5 := Fr.app N4 N5q
  show own_Out p_ e_ below s_ _ _ _ T5 (mkF m_ 110 #[.val (.int l1), .val (.int c1), .val (.int l2), .val (.int c2), .val (.int mode), .val (.int (own_l2 l1 l2 mode)), .val (.int (own_c2 c1 c2 mode)), .val (.ref b1), .val (.ref b3), .val (.int (own_ex l1 c1 l2 c2 mode))] [(.int (f4 l1 c1 (own_l2 l1 l2 mode) (own_c2 c1 c2 mode)))])
  refine own_callS X5 hx hZ hown (hw _ (List.mem_of_getElem? (i := 27) rfl)) (hw _ (List.mem_of_getElem? (i := 28) rfl)) (hw _ (List.mem_of_getElem? (i := 29) rfl)) (hw _ (List.mem_of_getElem? (i := 30) rfl)) (by decide) [(.int (f4 l1 c1 (own_l2 l1 l2 mode) (own_c2 c1 c2 mode)))] [] (rm6 l Z a0 hw (f4 l1 c1 (own_l2 l1 l2 mode) (own_c2 c1 c2 mode)) T4.heap n0 Z0) 0 (by decide) (by decide) e5 (by rw [hml]; rfl) (lenOf own_pd4 rfl) rfl (Nat.le_of_eq rfl) (hb hby at_110) (by decide) (by decide) ?_
  intro v6 T6 L6 X6 q6
  obtain ⟨rfl, N6q, e6⟩ := q6
  have N6 := Fr.app N5 N6q
  show own_Out p_ e_ below s_ _ _ _ T6 (mkF m_ 113 #[.val (.int l1), .val (.int c1), .val (.int l2), .val (.int c2), .val (.int mode), .val (.int (own_l2 l1 l2 mode)), .val (.int (own_c2 c1 c2 mode)), .val (.ref b1), .val (.ref b3), .val (.int (own_ex l1 c1 l2 c2 mode))] [(.int (f6 (f4 l1 c1 (own_l2 l1 l2 mode) (own_c2 c1 c2 mode))))])
  refine own_st T6 (mkF m_ 122 #[.val (.int l1), .val (.int c1), .val (.int l2), .val (.int c2), .val (.int mode), .val (.int (own_l2 l1 l2 mode)), .val (.int (own_c2 c1 c2 mode)), .val (.ref b1), .val (.ref b3), .val (.int (own_ex l1 c1 l2 c2 mode))] [(.ref b1), (.ref b3)]) (fun t_ k_ => ?_) ?_
  · refine XS.iload X6.here hx rfl (hb hby at_113) rfl ?_
    show Steps p_.tables e_ below (T6.setTop (mkF m_ 115 #[.val (.int l1), .val (.int c1), .val (.int l2), .val (.int c2), .val (.int mode), .val (.int (own_l2 l1 l2 mode)), .val (.int (own_c2 c1 c2 mode)), .val (.ref b1), .val (.ref b3), .val (.int (own_ex l1 c1 l2 c2 mode))] [(.int (own_ex l1 c1 l2 c2 mode)), (.int (f6 (f4 l1 c1 (own_l2 l1 l2 mode) (own_c2 c1 c2 mode))))])) t_
    refine XS.icmpNo X6.here hx rfl (hb hby at_115) rfl (teq (own_k1 l1 c1 (own_l2 l1 l2 mode) (own_c2 c1 c2 mode) : (f6 (f4 l1 c1 (own_l2 l1 l2 mode) (own_c2 c1 c2 mode))) = (own_ex l1 c1 l2 c2 mode))).2 ?_
    show Steps p_.tables e_ below (T6.setTop (mkF m_ 118 #[.val (.int l1), .val (.int c1), .val (.int l2), .val (.int c2), .val (.int mode), .val (.int (own_l2 l1 l2 mode)), .val (.int (own_c2 c1 c2 mode)), .val (.ref b1), .val (.ref b3), .val (.int (own_ex l1 c1 l2 c2 mode))] [])) t_
    refine XS.aload X6.here hx rfl (hb hby at_118) rfl rfl ?_
    show Steps p_.tables e_ below (T6.setTop (mkF m_ 120 #[.val (.int l1), .val (.int c1), .val (.int l2), .val (.int c2), .val (.int mode), .val (.int (own_l2 l1 l2 mode)), .val (.int (own_c2 c1 c2 mode)), .val (.ref b1), .val (.ref b3), .val (.int (own_ex l1 c1 l2 c2 mode))] [(.ref b3)])) t_
    refine XS.aload X6.here hx rfl (hb hby at_120) rfl rfl ?_
    show Steps p_.tables e_ below (T6.setTop (mkF m_ 122 #[.val (.int l1), .val (.int c1), .val (.int l2), .val (.int c2), .val (.int mode), .val (.int (own_l2 l1 l2 mode)), .val (.int (own_c2 c1 c2 mode)), .val (.ref b1), .val (.ref b3), .val (.int (own_ex l1 c1 l2 c2 mode))] [(.ref b1), (.ref b3)])) t_
    exact k_
  refine own_callV X6 hx hZ (y := (⟨"com/example/tabmod/tabmod/logic/Position", "compareTo", "(Lcom/example/tabmod/tabmod/logic/Position;)I"⟩ : MethodName)) (z := (⟨"com/example/tabmod/tabmod/logic/Position", "compareTo", "(Lcom/example/tabmod/tabmod/logic/Position;)I"⟩ : MethodName)) hown (hw _ (List.mem_of_getElem? (i := 18) rfl)) (hw _ (List.mem_of_getElem? (i := 19) rfl)) (notFace_of_selects (args := #[]) (mvT hZ (hw _ (List.mem_of_getElem? (i := 21) rfl)))) (hw _ (List.mem_of_getElem? (i := 21) rfl)) (hw _ (List.mem_of_getElem? (i := 20) rfl)) (hw _ (List.mem_of_getElem? (i := 2) rfl)) (hw _ (List.mem_of_getElem? (i := 22) rfl)) (by decide) b3 [(.ref b1)] [] E_b3 (rm4 l Z a0 hw b3 b1 (own_l2 l1 l2 mode) (own_c2 c1 c2 mode) l1 c1 T4.heap n0 Z0 F_line_b3 F_column_b3 F_line_b1 F_column_b1) 0 (by decide) (by decide) e6 (by rw [hml]; rfl) (lenOf own_pd3 rfl) rfl (Nat.le_of_eq rfl) (hb hby at_122) (by decide) (by decide) ?_
  intro v7 T7 L7 X7 q7
  obtain ⟨rfl, N7q, e7⟩ := q7
  have N7 := Fr.app N6 N7q
  show own_Out p_ e_ below s_ _ _ _ T7 (mkF m_ 125 #[.val (.int l1), .val (.int c1), .val (.int l2), .val (.int c2), .val (.int mode), .val (.int (own_l2 l1 l2 mode)), .val (.int (own_c2 c1 c2 mode)), .val (.ref b1), .val (.ref b3), .val (.int (own_ex l1 c1 l2 c2 mode))] [(.int (f4 (own_l2 l1 l2 mode) (own_c2 c1 c2 mode) l1 c1))])
  refine own_callS X7 hx hZ hown (hw _ (List.mem_of_getElem? (i := 27) rfl)) (hw _ (List.mem_of_getElem? (i := 28) rfl)) (hw _ (List.mem_of_getElem? (i := 29) rfl)) (hw _ (List.mem_of_getElem? (i := 30) rfl)) (by decide) [(.int (f4 (own_l2 l1 l2 mode) (own_c2 c1 c2 mode) l1 c1))] [] (rm6 l Z a0 hw (f4 (own_l2 l1 l2 mode) (own_c2 c1 c2 mode) l1 c1) T4.heap n0 Z0) 0 (by decide) (by decide) e7 (by rw [hml]; rfl) (lenOf own_pd4 rfl) rfl (Nat.le_of_eq rfl) (hb hby at_125) (by decide) (by decide) ?_
  intro v8 T8 L8 X8 q8
  obtain ⟨rfl, N8q, e8⟩ := q8
  have N8 := Fr.app N7 N8q
  show own_Out p_ e_ below s_ _ _ _ T8 (mkF m_ 128 #[.val (.int l1), .val (.int c1), .val (.int l2), .val (.int c2), .val (.int mode), .val (.int (own_l2 l1 l2 mode)), .val (.int (own_c2 c1 c2 mode)), .val (.ref b1), .val (.ref b3), .val (.int (own_ex l1 c1 l2 c2 mode))] [(.int (f6 (f4 (own_l2 l1 l2 mode) (own_c2 c1 c2 mode) l1 c1)))])
  refine own_st T8 (mkF m_ 139 #[.val (.int l1), .val (.int c1), .val (.int l2), .val (.int c2), .val (.int mode), .val (.int (own_l2 l1 l2 mode)), .val (.int (own_c2 c1 c2 mode)), .val (.ref b1), .val (.ref b3), .val (.int (own_ex l1 c1 l2 c2 mode))] [(.int (1 : Int32))]) (fun t_ k_ => ?_) ?_
  · refine XS.iload X8.here hx rfl (hb hby at_128) rfl ?_
    show Steps p_.tables e_ below (T8.setTop (mkF m_ 130 #[.val (.int l1), .val (.int c1), .val (.int l2), .val (.int c2), .val (.int mode), .val (.int (own_l2 l1 l2 mode)), .val (.int (own_c2 c1 c2 mode)), .val (.ref b1), .val (.ref b3), .val (.int (own_ex l1 c1 l2 c2 mode))] [(.int (own_ex l1 c1 l2 c2 mode)), (.int (f6 (f4 (own_l2 l1 l2 mode) (own_c2 c1 c2 mode) l1 c1)))])) t_
    refine XS.ineg X8.here hx rfl (hb hby at_130) rfl ?_
    show Steps p_.tables e_ below (T8.setTop (mkF m_ 131 #[.val (.int l1), .val (.int c1), .val (.int l2), .val (.int c2), .val (.int mode), .val (.int (own_l2 l1 l2 mode)), .val (.int (own_c2 c1 c2 mode)), .val (.ref b1), .val (.ref b3), .val (.int (own_ex l1 c1 l2 c2 mode))] [(.int (-(own_ex l1 c1 l2 c2 mode))), (.int (f6 (f4 (own_l2 l1 l2 mode) (own_c2 c1 c2 mode) l1 c1)))])) t_
    refine XS.icmpNo X8.here hx rfl (hb hby at_131) rfl (teq (own_k2 l1 c1 (own_l2 l1 l2 mode) (own_c2 c1 c2 mode) : (f6 (f4 (own_l2 l1 l2 mode) (own_c2 c1 c2 mode) l1 c1)) = (-(own_ex l1 c1 l2 c2 mode)))).2 ?_
    show Steps p_.tables e_ below (T8.setTop (mkF m_ 134 #[.val (.int l1), .val (.int c1), .val (.int l2), .val (.int c2), .val (.int mode), .val (.int (own_l2 l1 l2 mode)), .val (.int (own_c2 c1 c2 mode)), .val (.ref b1), .val (.ref b3), .val (.int (own_ex l1 c1 l2 c2 mode))] [])) t_
    refine XS.iconst X8.here hx rfl (hb hby at_134) ?_
    show Steps p_.tables e_ below (T8.setTop (mkF m_ 135 #[.val (.int l1), .val (.int c1), .val (.int l2), .val (.int c2), .val (.int mode), .val (.int (own_l2 l1 l2 mode)), .val (.int (own_c2 c1 c2 mode)), .val (.ref b1), .val (.ref b3), .val (.int (own_ex l1 c1 l2 c2 mode))] [(.int (1 : Int32))])) t_
    refine XS.goto X8.here hx rfl (pc0 := 135) (pc' := 139) rfl (hb hby at_135) (by decide) (by decide) ?_
    show Steps p_.tables e_ below (T8.setTop (mkF m_ 139 #[.val (.int l1), .val (.int c1), .val (.int l2), .val (.int c2), .val (.int mode), .val (.int (own_l2 l1 l2 mode)), .val (.int (own_c2 c1 c2 mode)), .val (.ref b1), .val (.ref b3), .val (.int (own_ex l1 c1 l2 c2 mode))] [(.int (1 : Int32))])) t_
    exact k_
  refine own_retN X8 hx hlk (t := .boolean) hret (by simp) (hb hby at_139) (by decide) (by decide) ?_
  exact ⟨rfl, N8⟩
set_option maxRecDepth 65536 in
set_option maxHeartbeats 40000000 in
theorem comes_1 {Post : Tables → Env → Array Value → State → Outcome → State → Prop} (hpost : ∀ tb e args s v u, (limb_1_1.after args s (.returned v) u = true ∧ limb_1_2.after args s (.returned v) u = true ∧ True) → FrameEnd s (.returned v) u (Jvm.fieldLocs frame_1_writes args s ++ Jvm.arrayLocs frame_1_arrays args s ++ Jvm.staticLocs frame_1_statics s) 16 128 → Post tb e args s (.returned v) u) :
    ArmFor flags0 classFile x code maxLocals ret World_1 tables_1 room_1 Calls_1 rest_1 Pre_1 Post := by
  intro l hfl _ _ p e ha hc hk s m args below hf hA hF happ hP
  obtain ⟨hcalls, hrest, hpre⟩ := hP
  obtain ⟨-, -, -, hnamed, -, -, -, hat⟩ := (Spec.applies_iff hf).mp happ
  obtain ⟨hg, hn⟩ := and_e (Cond.before_iff.mp (show (Jvm.Cond.and given_1 narrow_1).before args s = true from hpre))
  obtain ⟨c0, r0⟩ := and_e hg
  obtain ⟨k0, r1⟩ := and_e r0
  obtain ⟨k1, r2⟩ := and_e r1
  obtain ⟨k2, r3⟩ := and_e r2
  obtain ⟨k3, r4⟩ := and_e r3
  obtain ⟨w0, w1, w2, w3, w4, rfl⟩ : ∃ w0 w1 w2 w3 w4 : Value, args = #[w0, w1, w2, w3, w4] := by
    have hs : args.size = 5 := by simpa [Cond.value, given_1] using c0
    obtain ⟨L⟩ := args
    match L, hs with
    | [w0, w1, w2, w3, w4], _ => exact ⟨w0, w1, w2, w3, w4, rfl⟩
  have hw := fun d (hd : d ∈ tables_1) => atoms_spec (ws := Jvm.Cond.code x code maxLocals ret :: tables_1) hat d (List.mem_cons_of_mem _ hd)
  have hfit : Fit s := fun {y c} hc i hi => by
    obtain ⟨ha, rfl⟩ := Array.getElem?_eq_some_iff.mp hc
    have q := List.all_eq_true.mp ((Array.all_eq_true_iff_forall_mem.mp hF) _ (Array.getElem_mem ha)) i (List.mem_range.mpr hi)
    simpa [Array.getElem?_eq_getElem hi] using q
  obtain ⟨i0, ei0⟩ := is_v k0
  obtain rfl : w0 = (.int i0) := Option.some.inj ei0
  obtain ⟨i1, ei1⟩ := is_v k1
  obtain rfl : w1 = (.int i1) := Option.some.inj ei1
  obtain ⟨i2, ei2⟩ := is_v k2
  obtain rfl : w2 = (.int i2) := Option.some.inj ei2
  obtain ⟨i3, ei3⟩ := is_v k3
  obtain rfl : w3 = (.int i3) := Option.some.inj ei3
  obtain ⟨i4, ei4⟩ := is_v r4
  obtain rfl : w4 = (.int i4) := Option.some.inj ei4
  obtain ⟨n, o, h1, h2, h3, _, L, rfl, ⟨rfl, N⟩, hq⟩ := rm0 l s _ hw i0 i1 i2 i3 i4 s.heap s.heap.size (Nat.le_refl _)  tables_1 p e ha hc hk s m _ below hf ((Spec.applies_iff_loose hf).mp happ).1 ⟨rfl, State.Warmed39.refl s, rfl⟩ trivial
  refine ⟨n, _, h1, h2, h3, hpost _ _ _ _ _ _ ⟨Cond.after_iff.mpr rfl, Cond.after_iff.mpr (eq_i res_at (Term.int_eval (1)) rfl), trivial⟩ ⟨hq.1, hq.2.1, (hq.2.2.sift fun y hy => Or.inr (N y hy)).mono (by decide) (by decide)⟩⟩
theorem main_1_1 : Claimed_1_1 := comes_1 fun _ _ _ _ _ _ h hF => ⟨h.1, hF⟩
theorem main_1_2 : Claimed_1_2 := comes_1 fun _ _ _ _ _ _ h hF => ⟨h.2.1, hF⟩
end Jvm.Pilot.@@N@@
namespace Jvm.Pilot.@@N@@
open Jvm Jvm.ClassFile Sem Op Lib Jvm.Free Jvm.Stand Jvm.Pilot.@@N@@.Jvm.D
/-! MADE BY PROGRAM (witnessworld.py) out of the Statement's table words and the real class files: 15 classes; the members and pool entries that the words name. The judged class is class 1, her method 1. -/
namespace start1
open Jvm.ClassFile
def u (s : String) : CpInfo := .utf8 (stringToUtf16 s)
/-- a pool by its gaps: so many unusable entries, then the entry; so many at the end -/
def gap : Nat → List CpInfo → List CpInfo
  | 0, r => r
  | n + 1, r => .unusable :: gap n r
def poolList (es : List (Nat × CpInfo)) (last : Nat) : List CpInfo := es.foldr (fun e r => gap e.1 (e.2 :: r)) (gap last [])
def pool (es : List (Nat × CpInfo)) (last : Nat) : Array CpInfo := ⟨poolList es last⟩
def fileOf (pool : Array CpInfo) (this : Nat) (attrs : Array Attribute := #[]) (ms : Array MethodInfo := #[]) (fl : Nat := 33) (sup : Nat := 0) (ifs : Array Nat := #[]) (fds : Array FieldInfo := #[]) : ClassFile where
  minorVersion := 0
  majorVersion := 65
  constantPool := pool
  accessFlags := fl
  thisClass := this
  superClass := sup
  interfaces := ifs
  fields := fds
  methods := ms
  attributes := attrs
def plain (name : String) (sup : Option ClassId) : Class where
  name := name
  kind := .ordinary
  loader := none
  accessFlags := 33
  super := sup
  interfaces := #[]
  cf := none
  fields := #[]
  methods := #[]
  instanceTypes := #[]
  staticTypes := #[]
  resolved := #[]
  callSites := []
  init := .initialized
  statics := none
  mirror := none

def pool0 : Array CpInfo := pool [(5, u "<init>"), (0, u "()V"), (1, .class_ 10), (1, u "java/lang/Object")] 113

def k0c0 : Code := { maxStack := 0, maxLocals := 1, code := object_method_1_code, exceptionTable := #[], attributes := #[] }
def k0m0 : Method := { name := "<init>", desc := "()V", sig := { parameters := [], returnType := none }, accessFlags := 1, code := some k0c0 }
/-- java/lang/Object -/
def k0 : Class := { plain "java/lang/Object" none with
  accessFlags := 33
  interfaces := #[]
  cf := some (fileOf pool0 8 #[] #[{ accessFlags := 1, nameIndex := 5, descriptorIndex := 6, attributes := #[] }] 33 0 #[] #[])
  fields := #[]
  methods := #[k0m0]
  instanceTypes := #[]
  staticTypes := #[]
  resolved := Array.replicate 124 none
  statics := none }

def pool1 : Array CpInfo := pool [(2, .class_ 4), (1, u "java/lang/Object"), (0, u "<init>"), (0, u "()V"), (0, .class_ 8), (0, u "com/example/tabmod/tabmod/logic/Position"), (0, .methodref 7 10), (0, .nameAndType 5 11), (0, u "(II)V"), (0, .methodref 7 13), (0, .nameAndType 14 15), (0, u "compareTo"), (0, u "(Lcom/example/tabmod/tabmod/logic/Position;)I"), (0, .methodref 17 18), (0, .class_ 19), (0, .nameAndType 20 21), (0, u "com/example/tabmod/tabmod/logic/PositionCompareToPinLaw"), (0, u "sign"), (0, u "(I)I"), (2, u "law"), (0, u "(IIIII)Z")] 3

def k1m0 : Method := { name := "<init>", desc := "()V", sig := { parameters := [], returnType := none }, accessFlags := 1, code := none }
def k1c1 : Code := { maxStack := 4, maxLocals := 10, code := code, exceptionTable := #[], attributes := #[] }
def k1m1 : Method := { name := "law", desc := "(IIIII)Z", sig := { parameters := [.int, .int, .int, .int, .int], returnType := some .boolean }, accessFlags := 9, code := some k1c1 }
def k1c2 : Code := { maxStack := 1, maxLocals := 1, code := method_3_code, exceptionTable := #[], attributes := #[] }
def k1m2 : Method := { name := "sign", desc := "(I)I", sig := { parameters := [.int], returnType := some .int }, accessFlags := 10, code := some k1c2 }
/-- com/example/tabmod/tabmod/logic/PositionCompareToPinLaw -/
def k1 : Class := { plain "com/example/tabmod/tabmod/logic/PositionCompareToPinLaw" (some 0) with
  accessFlags := 49
  interfaces := #[]
  cf := some (fileOf pool1 17 #[] #[{ accessFlags := 1, nameIndex := 5, descriptorIndex := 6, attributes := #[] }, { accessFlags := 9, nameIndex := 24, descriptorIndex := 25, attributes := #[] }, { accessFlags := 10, nameIndex := 20, descriptorIndex := 21, attributes := #[] }] 49 2 #[] #[])
  fields := #[]
  methods := #[k1m0, k1m1, k1m2]
  instanceTypes := #[]
  staticTypes := #[]
  resolved := Array.replicate 29 none
  statics := none }

def pool2 : Array CpInfo := pool [(1, .methodref 2 3), (0, .class_ 4), (0, .nameAndType 5 6), (0, u "java/lang/Object"), (0, u "<init>"), (0, u "()V"), (0, .class_ 8), (0, u "java/lang/Record")] 13

def k2c0 : Code := { maxStack := 1, maxLocals := 1, code := jdk_30_method_1_code, exceptionTable := #[], attributes := #[] }
def k2m0 : Method := { name := "<init>", desc := "()V", sig := { parameters := [], returnType := none }, accessFlags := 4, code := some k2c0 }
/-- java/lang/Record -/
def k2 : Class := { plain "java/lang/Record" (some 0) with
  accessFlags := 1057
  interfaces := #[]
  cf := some (fileOf pool2 7 #[] #[{ accessFlags := 4, nameIndex := 5, descriptorIndex := 6, attributes := #[] }] 1057 2 #[] #[])
  fields := #[]
  methods := #[k2m0]
  instanceTypes := #[]
  staticTypes := #[]
  resolved := Array.replicate 22 none
  statics := none }

def pool3 : Array CpInfo := pool [(1, .class_ 2), (0, u "java/lang/Comparable"), (0, .class_ 4), (0, u "java/lang/Object")] 7

/-- java/lang/Comparable -/
def k3 : Class := { plain "java/lang/Comparable" (some 0) with
  accessFlags := 1537
  interfaces := #[]
  cf := some (fileOf pool3 1 #[] #[] 1537 3 #[] #[])
  fields := #[]
  methods := #[]
  instanceTypes := #[]
  staticTypes := #[]
  resolved := Array.replicate 12 none
  statics := none }

def pool4 : Array CpInfo := pool [(1, .methodref 2 3), (0, .class_ 4), (0, .nameAndType 5 6), (0, u "java/lang/Record"), (0, u "<init>"), (0, u "()V"), (0, .fieldref 8 9), (0, .class_ 10), (0, .nameAndType 11 12), (0, u "com/example/tabmod/tabmod/logic/Position"), (0, u "line"), (0, u "I"), (0, .fieldref 8 14), (0, .nameAndType 15 12), (0, u "column"), (0, .methodref 17 18), (0, .class_ 19), (0, .nameAndType 20 21), (0, u "java/lang/Integer"), (0, u "compare"), (0, u "(II)I"), (2, u "compareTo"), (0, u "(Lcom/example/tabmod/tabmod/logic/Position;)I"), (11, .class_ 38), (0, u "java/lang/Comparable"), (0, u "(II)V")] 31

def k4c0 : Code := { maxStack := 2, maxLocals := 3, code := prog_20_method_1_code, exceptionTable := #[], attributes := #[] }
def k4m0 : Method := { name := "<init>", desc := "(II)V", sig := { parameters := [.int, .int], returnType := none }, accessFlags := 1, code := some k4c0 }
def k4c1 : Code := { maxStack := 2, maxLocals := 2, code := prog_20_method_2_code, exceptionTable := #[], attributes := #[] }
def k4m1 : Method := { name := "compareTo", desc := "(Lcom/example/tabmod/tabmod/logic/Position;)I", sig := { parameters := [(.object "com/example/tabmod/tabmod/logic/Position")], returnType := some .int }, accessFlags := 1, code := some k4c1 }
/-- com/example/tabmod/tabmod/logic/Position -/
def k4 : Class := { plain "com/example/tabmod/tabmod/logic/Position" (some 2) with
  accessFlags := 49
  interfaces := #[3]
  cf := some (fileOf pool4 8 #[] #[{ accessFlags := 1, nameIndex := 5, descriptorIndex := 39, attributes := #[] }, { accessFlags := 1, nameIndex := 24, descriptorIndex := 25, attributes := #[] }] 49 2 #[37] #[{ accessFlags := 18, nameIndex := 11, descriptorIndex := 12, attributes := #[] }, { accessFlags := 18, nameIndex := 15, descriptorIndex := 12, attributes := #[] }])
  fields := #[{ name := "line", type := .int, accessFlags := 18, slot := 0, constantValue := 0 }, { name := "column", type := .int, accessFlags := 18, slot := 1, constantValue := 0 }]
  methods := #[k4m0, k4m1]
  instanceTypes := #[.int, .int]
  staticTypes := #[]
  resolved := Array.replicate 71 none
  statics := none }

def pool5 : Array CpInfo := pool [(1, .class_ 2), (0, u "java/io/Serializable"), (0, .class_ 4), (0, u "java/lang/Object")] 2

/-- java/io/Serializable -/
def k5 : Class := { plain "java/io/Serializable" (some 0) with
  accessFlags := 1537
  interfaces := #[]
  cf := some (fileOf pool5 1 #[] #[] 1537 3 #[] #[])
  fields := #[]
  methods := #[]
  instanceTypes := #[]
  staticTypes := #[]
  resolved := Array.replicate 7 none
  statics := none }

def pool6 : Array CpInfo := pool [(2, .class_ 4), (1, u "java/lang/Object"), (0, u "<init>"), (0, u "()V"), (1, .class_ 10), (1, u "java/lang/Number"), (2, .class_ 14), (0, u "java/io/Serializable"), (0, u "serialVersionUID"), (0, u "J")] 20

def k6m0 : Method := { name := "<init>", desc := "()V", sig := { parameters := [], returnType := none }, accessFlags := 1, code := none }
/-- java/lang/Number -/
def k6 : Class := { plain "java/lang/Number" (some 0) with
  accessFlags := 1057
  interfaces := #[5]
  cf := some (fileOf pool6 8 #[] #[{ accessFlags := 1, nameIndex := 5, descriptorIndex := 6, attributes := #[] }] 1057 2 #[13] #[{ accessFlags := 26, nameIndex := 15, descriptorIndex := 16, attributes := #[] }])
  fields := #[{ name := "serialVersionUID", type := .long, accessFlags := 26, slot := 0, constantValue := 0 }]
  methods := #[k6m0]
  instanceTypes := #[]
  staticTypes := #[.long]
  resolved := Array.replicate 37 none
  statics := none }

def pool7 : Array CpInfo := pool [(1, .class_ 2), (0, u "java/lang/constant/Constable"), (0, .class_ 4), (0, u "java/lang/Object")] 6

/-- java/lang/constant/Constable -/
def k7 : Class := { plain "java/lang/constant/Constable" (some 0) with
  accessFlags := 1537
  interfaces := #[]
  cf := some (fileOf pool7 1 #[] #[] 1537 3 #[] #[])
  fields := #[]
  methods := #[]
  instanceTypes := #[]
  staticTypes := #[]
  resolved := Array.replicate 11 none
  statics := none }

def pool8 : Array CpInfo := pool [(1, .class_ 2), (0, u "java/lang/constant/ConstantDesc"), (0, .class_ 4), (0, u "java/lang/Object")] 32

/-- java/lang/constant/ConstantDesc -/
def k8 : Class := { plain "java/lang/constant/ConstantDesc" (some 0) with
  accessFlags := 1537
  interfaces := #[]
  cf := some (fileOf pool8 1 #[] #[] 1537 3 #[] #[])
  fields := #[]
  methods := #[]
  instanceTypes := #[]
  staticTypes := #[]
  resolved := Array.replicate 37 none
  statics := none }

def pool9 : Array CpInfo := pool [(1, .class_ 2), (0, u "java/lang/Integer"), (16, u "digits"), (0, u "[C"), (39, u "(II)I"), (24, u "DigitOnes"), (0, u "[B"), (2, u "DigitTens"), (99, .class_ 190), (0, u "java/lang/Integer$IntegerCache"), (3, u "I"), (8, .class_ 204), (0, u "java/lang/Number"), (2, u "value"), (53, u "compare"), (40, u "TYPE"), (0, u "Ljava/lang/Class;"), (0, .class_ 305), (0, u "java/lang/Comparable"), (0, .class_ 307), (0, u "java/lang/constant/Constable"), (0, .class_ 309), (0, u "java/lang/constant/ConstantDesc"), (0, u "MIN_VALUE"), (1, u "MAX_VALUE"), (3, u "SIZE"), (1, u "BYTES"), (1, u "serialVersionUID"), (0, u "J")] 131

def k9c0 : Code := { maxStack := 2, maxLocals := 2, code := jdk_33_method_40_code, exceptionTable := #[], attributes := #[] }
def k9m0 : Method := { name := "compare", desc := "(II)I", sig := { parameters := [.int, .int], returnType := some .int }, accessFlags := 9, code := some k9c0 }
/-- java/lang/Integer -/
def k9 : Class := { plain "java/lang/Integer" (some 6) with
  accessFlags := 49
  interfaces := #[3, 7, 8]
  cf := some (fileOf pool9 1 #[.nestMembers #[189]] #[{ accessFlags := 9, nameIndex := 261, descriptorIndex := 60, attributes := #[] }] 49 203 #[304, 306, 308] #[{ accessFlags := 25, nameIndex := 310, descriptorIndex := 194, attributes := #[] }, { accessFlags := 25, nameIndex := 312, descriptorIndex := 194, attributes := #[] }, { accessFlags := 25, nameIndex := 302, descriptorIndex := 303, attributes := #[] }, { accessFlags := 24, nameIndex := 19, descriptorIndex := 20, attributes := #[] }, { accessFlags := 24, nameIndex := 89, descriptorIndex := 86, attributes := #[] }, { accessFlags := 24, nameIndex := 85, descriptorIndex := 86, attributes := #[] }, { accessFlags := 18, nameIndex := 207, descriptorIndex := 194, attributes := #[] }, { accessFlags := 25, nameIndex := 316, descriptorIndex := 194, attributes := #[] }, { accessFlags := 25, nameIndex := 318, descriptorIndex := 194, attributes := #[] }, { accessFlags := 26, nameIndex := 320, descriptorIndex := 321, attributes := #[] }])
  fields := #[{ name := "MIN_VALUE", type := .int, accessFlags := 25, slot := 0, constantValue := 0 }, { name := "MAX_VALUE", type := .int, accessFlags := 25, slot := 1, constantValue := 0 }, { name := "TYPE", type := (.object "java/lang/Class"), accessFlags := 25, slot := 2, constantValue := 0 }, { name := "digits", type := (.array .char), accessFlags := 24, slot := 3, constantValue := 0 }, { name := "DigitTens", type := (.array .byte), accessFlags := 24, slot := 4, constantValue := 0 }, { name := "DigitOnes", type := (.array .byte), accessFlags := 24, slot := 5, constantValue := 0 }, { name := "value", type := .int, accessFlags := 18, slot := 0, constantValue := 0 }, { name := "SIZE", type := .int, accessFlags := 25, slot := 6, constantValue := 0 }, { name := "BYTES", type := .int, accessFlags := 25, slot := 7, constantValue := 0 }, { name := "serialVersionUID", type := .long, accessFlags := 26, slot := 8, constantValue := 0 }]
  methods := #[k9m0]
  instanceTypes := #[.int]
  staticTypes := #[.int, .int, (.object "java/lang/Class"), (.array .char), (.array .byte), (.array .byte), .int, .int, .long]
  resolved := Array.replicate 453 none
  statics := none }

def pool10 : Array CpInfo := pool [(1, u "java/lang/Cloneable"), (0, .class_ 1), (0, u "java/lang/Object"), (0, .class_ 3)] 3

/-- java/lang/Cloneable -/
def k10 : Class := { plain "java/lang/Cloneable" (some 0) with
  accessFlags := 1537
  interfaces := #[]
  cf := some (fileOf pool10 2 #[] #[] 1537 4 #[] #[])
  fields := #[]
  methods := #[]
  instanceTypes := #[]
  staticTypes := #[]
  resolved := Array.replicate 8 none
  statics := none }

/-- the primitive byte -/
def k11 : Class := { plain "byte" none with kind := .primitive 'B', accessFlags := 0x411 }
/-- [B -/
def k12 : Class := { plain "[B" (some 0) with kind := .array 11 .byte, interfaces := #[10, 5], accessFlags := 1041 }

/-- the primitive int -/
def k13 : Class := { plain "int" none with kind := .primitive 'I', accessFlags := 0x411 }
/-- [I -/
def k14 : Class := { plain "[I" (some 0) with kind := .array 13 .int, interfaces := #[10, 5], accessFlags := 1041 }

def heap : Heap := #[]
def classes : Array Class := #[k0, k1, k2, k3, k4, k5, k6, k7, k8, k9, k10, k11, k12, k13, k14]
def interned : List (Array UInt16 × Addr) := []
def slotsUsed : Nat := 0
def theMethod : MethodId := ⟨1, 1⟩
def args0 : Array Value := #[.int 5, .int 300, .int 7, .int 3, .int 1]
def aboutOver (below : List Frame) : State where
  vm := { classes := classes, interned := interned.toArray }
  heap := heap
  slotsUsed := slotsUsed
  threads := #[{ frames := .invoking theMethod args0 :: below }]
def below0 : List Frame := [.native { method := ⟨0, 0⟩, args := #[] }]
def about1 : State := aboutOver below0
def p0 : Program := .bare "" "" ""
def e0 : Env := launch0.env 0 0 0
theorem w_frames : about1.frames = Frame.invoking theMethod args0 :: below0 := rfl
set_option maxRecDepth 65536 in
theorem w_args : argsFit about1.vm theMethod args0 = true := by decide +kernel
set_option maxRecDepth 65536 in
theorem w_heap : heapFits about1 = true := by decide +kernel
set_option maxRecDepth 65536 in
theorem w_runnable : about1.curStatus? = some .runnable := by decide +kernel
set_option maxRecDepth 65536 in
theorem w_alone : about1.alone = true := by decide +kernel
set_option maxRecDepth 65536 in
theorem w_named : about1.methodNamed? x = some theMethod := by decide +kernel
set_option maxRecDepth 65536 in
theorem w_hears : about1.hears theMethod below0 = true := by decide +kernel
set_option maxRecDepth 65536 in
theorem w_ripe : about1.ripe theMethod args0 below0 = true := by decide +kernel
theorem w_running : about1.status = .running := rfl
set_option maxRecDepth 65536 in
theorem w_room : about1.hasRoom e0.platform room_1 = true :=
  launch0.hasRoom_least _ room_1 (by decide +kernel) (by decide +kernel) (by decide +kernel) (by decide +kernel) (by decide +kernel) (by decide +kernel)
theorem allAtoms_all (ts : List Jvm.Cond) (a : Array Jvm.Value) (st : Jvm.State) : (allAtoms ts).before a st = ts.all (fun c => c.before a st) := by
  induction ts with
  | nil => rfl
  | cons c t ih =>
    show (Jvm.Cond.and c (allAtoms t)).before a st = _
    rw [Jvm.Cond.before_and, ih, List.all_cons]
def words1 : List Jvm.Cond := Jvm.Cond.code x code maxLocals ret :: tables_1
/-- a 'code' word, met by the world's own term for the bytes: nothing is compared byte by byte -/
theorem code_word {y : MethodName} {bytes : ByteArray} {mx : Nat} {rt : Option FieldType} {a : Array Value} {s : State} {m : MethodId} {meth : Method} {c : Code} (h1 : s.methodNamed? y = some m) (h2 : s.vm.method? m = some meth) (h3 : meth.code = some c) (h4 : c.code = bytes)
    (h5 : (c.maxLocals == mx && c.exceptionTable.isEmpty && decide (c.maxStack ≤ mostOperands) && decide (meth.sig.returnType = rt) && !meth.locks && decide (parseMethodDescriptor y.desc = some meth.sig)) = true) : (Jvm.Cond.code y bytes mx rt).before a s = true := by
  simp only [Bool.and_eq_true, beq_iff_eq, Bool.not_eq_true', decide_eq_true_eq] at h5
  obtain ⟨⟨⟨⟨⟨g1, g2⟩, g3⟩, g4⟩, g5⟩, g6⟩ := h5
  simp [Cond.before, Cond.holds, Cond.value, h1, h2, h3, h4, g1, g2, g3, g4, g5, g6]
def isCode : Jvm.Cond → Bool
  | .code _ _ _ _ => true
  | _ => false
theorem all_split {L : List Jvm.Cond} {P : Jvm.Cond → Bool} (h1 : L.all (fun c => isCode c || P c) = true) (h2 : ∀ c ∈ L.filter isCode, P c = true) : L.all P = true := by
  refine List.all_eq_true.mpr fun c hc => ?_
  have h := List.all_eq_true.mp h1 c hc
  rcases Bool.eq_false_or_eq_true (isCode c) with hi | hi
  · exact h2 c (List.mem_filter.mpr ⟨hc, hi⟩)
  · simpa [hi] using h
set_option maxRecDepth 65536 in
theorem w_c0 : (Jvm.Cond.code x code maxLocals ret).before args0 about1 = true := code_word (m := ⟨1, 1⟩) (meth := k1m1) (c := k1c1) (by decide +kernel) rfl rfl rfl (by decide +kernel)
set_option maxRecDepth 65536 in
theorem w_c1 : (Jvm.Cond.code ({ cls := "com/example/tabmod/tabmod/logic/Position", name := "<init>", desc := "(II)V" } : Jvm.MethodName) prog_20_method_1_code (3 : Nat) (Option.none : Option Jvm.ClassFile.FieldType)).before args0 about1 = true := code_word (m := ⟨4, 0⟩) (meth := k4m0) (c := k4c0) (by decide +kernel) rfl rfl rfl (by decide +kernel)
set_option maxRecDepth 65536 in
theorem w_c2 : (Jvm.Cond.code ({ cls := "java/lang/Record", name := "<init>", desc := "()V" } : Jvm.MethodName) jdk_30_method_1_code (1 : Nat) (Option.none : Option Jvm.ClassFile.FieldType)).before args0 about1 = true := code_word (m := ⟨2, 0⟩) (meth := k2m0) (c := k2c0) (by decide +kernel) rfl rfl rfl (by decide +kernel)
set_option maxRecDepth 65536 in
theorem w_c3 : (Jvm.Cond.code ({ cls := "java/lang/Object", name := "<init>", desc := "()V" } : Jvm.MethodName) object_method_1_code (1 : Nat) (Option.none : Option Jvm.ClassFile.FieldType)).before args0 about1 = true := code_word (m := ⟨0, 0⟩) (meth := k0m0) (c := k0c0) (by decide +kernel) rfl rfl rfl (by decide +kernel)
set_option maxRecDepth 65536 in
theorem w_c4 : (Jvm.Cond.code ({ cls := "com/example/tabmod/tabmod/logic/Position", name := "compareTo", desc := "(Lcom/example/tabmod/tabmod/logic/Position;)I" } : Jvm.MethodName) prog_20_method_2_code (2 : Nat) (Option.some Jvm.ClassFile.FieldType.int)).before args0 about1 = true := code_word (m := ⟨4, 1⟩) (meth := k4m1) (c := k4c1) (by decide +kernel) rfl rfl rfl (by decide +kernel)
set_option maxRecDepth 65536 in
theorem w_c5 : (Jvm.Cond.code ({ cls := "java/lang/Integer", name := "compare", desc := "(II)I" } : Jvm.MethodName) jdk_33_method_40_code (2 : Nat) (Option.some Jvm.ClassFile.FieldType.int)).before args0 about1 = true := code_word (m := ⟨9, 0⟩) (meth := k9m0) (c := k9c0) (by decide +kernel) rfl rfl rfl (by decide +kernel)
set_option maxRecDepth 65536 in
theorem w_c6 : (Jvm.Cond.code ({ cls := "com/example/tabmod/tabmod/logic/PositionCompareToPinLaw", name := "sign", desc := "(I)I" } : Jvm.MethodName) method_3_code (1 : Nat) (Option.some Jvm.ClassFile.FieldType.int)).before args0 about1 = true := code_word (m := ⟨1, 2⟩) (meth := k1m2) (c := k1c2) (by decide +kernel) rfl rfl rfl (by decide +kernel)
def codes1 : List Jvm.Cond := [Jvm.Cond.code x code maxLocals ret, Jvm.Cond.code ({ cls := "com/example/tabmod/tabmod/logic/Position", name := "<init>", desc := "(II)V" } : Jvm.MethodName) prog_20_method_1_code (3 : Nat) (Option.none : Option Jvm.ClassFile.FieldType), Jvm.Cond.code ({ cls := "java/lang/Record", name := "<init>", desc := "()V" } : Jvm.MethodName) jdk_30_method_1_code (1 : Nat) (Option.none : Option Jvm.ClassFile.FieldType), Jvm.Cond.code ({ cls := "java/lang/Object", name := "<init>", desc := "()V" } : Jvm.MethodName) object_method_1_code (1 : Nat) (Option.none : Option Jvm.ClassFile.FieldType), Jvm.Cond.code ({ cls := "com/example/tabmod/tabmod/logic/Position", name := "compareTo", desc := "(Lcom/example/tabmod/tabmod/logic/Position;)I" } : Jvm.MethodName) prog_20_method_2_code (2 : Nat) (Option.some Jvm.ClassFile.FieldType.int), Jvm.Cond.code ({ cls := "java/lang/Integer", name := "compare", desc := "(II)I" } : Jvm.MethodName) jdk_33_method_40_code (2 : Nat) (Option.some Jvm.ClassFile.FieldType.int), Jvm.Cond.code ({ cls := "com/example/tabmod/tabmod/logic/PositionCompareToPinLaw", name := "sign", desc := "(I)I" } : Jvm.MethodName) method_3_code (1 : Nat) (Option.some Jvm.ClassFile.FieldType.int)]
set_option maxRecDepth 65536 in
theorem codes_eq : words1.filter isCode = codes1 := rfl
theorem w_codes : ∀ c ∈ words1.filter isCode, c.before args0 about1 = true := by
  rw [codes_eq]
  intro c hc
  simp only [codes1, List.mem_cons, List.not_mem_nil, or_false] at hc
  rcases hc with rfl | rfl | rfl | rfl | rfl | rfl | rfl
  · exact w_c0
  · exact w_c1
  · exact w_c2
  · exact w_c3
  · exact w_c4
  · exact w_c5
  · exact w_c6
set_option maxRecDepth 65536 in
theorem w_t1 : (words1.take 24).all (fun c => isCode c || c.before args0 about1) = true := by decide +kernel
set_option maxRecDepth 65536 in
theorem w_t2 : (words1.drop 24).all (fun c => isCode c || c.before args0 about1) = true := by decide +kernel
theorem w_tables : (allAtoms (Jvm.Cond.code x code maxLocals ret :: tables_1)).before args0 about1 = true := by
  rw [allAtoms_all]
  show words1.all (fun c => c.before args0 about1) = true
  refine all_split ?_ w_codes
  rw [← List.take_append_drop 24 words1, List.all_append, w_t1, w_t2]
  rfl
set_option maxRecDepth 65536 in
theorem w_case : (Jvm.Cond.and given_1 narrow_1).before args0 about1 = true := by decide +kernel
theorem w_applies : (headSpec (Jvm.Cond.code x code maxLocals ret :: tables_1) room_1).applies x e0.platform about1 = true :=
  (Spec.applies_iff w_frames).mpr ⟨w_running, w_runnable, w_alone, w_named, w_hears, w_ripe, w_room, w_tables⟩
theorem atStart : AtStart classFile x code maxLocals ret World_1 tables_1 room_1 Calls_1 rest_1 Pre_1 launch0 p0 e0 about1 theMethod args0 below0 :=
  ⟨lists_1, trivial, launch0.admits_env _ _ _, launch0.least_env, fairChoices_fair.cas, fairChoices_fair.clock, w_frames, w_args, w_heap, w_applies, trivial, trivial, w_case⟩
end start1
theorem witness_1 : WitnessClaimed_1 := ⟨start1.p0, start1.e0, start1.about1, start1.theMethod, start1.args0, start1.below0, start1.atStart⟩
end Jvm.Pilot.@@N@@
