import JvmDerived
import JvmDerived.Pilot.@@N@@Statement
import JvmDerived.Pilot.@@N@@Code
set_option linter.unusedVariables false
set_option linter.unusedSimpArgs false
namespace Jvm.Pilot.@@N@@
open Jvm Jvm.ClassFile Sem Op Lib Jvm.Free Jvm.Stand Jvm.LawKit Jvm.RoadKit Bundle Jvm.Pilot.@@N@@.Jvm.D
/-! own_Out: from the frame g over T the run comes to a return of which Q speaks. A walk is a proof of own_Out from its entry, backwards step by step; so it may fork. -/
section OwnKit
variable {p : Program} {l : Launch} {e : Env} {R : Room} {s : State} {m : MethodId} {args : Array Value} {below : List Frame} {meth : Method} {c : Code} {T : State} {locs : List Loc} {cells slots kc ks : Nat} {Z : State} {a0 : Array Value} {h h' h0 : Heap} {Q : Option Value → Heap → List Loc → Prop} {g : JFrame}
def own_Out (p : Program) (e : Env) (below : List Frame) (s : State) (Q : Option Value → Heap → List Loc → Prop) (kc ks : Nat) (T : State) (g : JFrame) : Prop :=
  ∃ U o, Steps p.tables e below (T.setTop g) U ∧ U.status = .running ∧ Ended U below o ∧ ∃ v L, o = .returned v ∧ Q v U.heap L ∧ FrameEnd s o U L kc ks
theorem own_st (T' : State) (g' : JFrame) (st : ∀ t, Steps p.tables e below (T'.setTop g') t → Steps p.tables e below (T.setTop g) t) (k : own_Out p e below s Q kc ks T' g') : own_Out p e below s Q kc ks T g := by
  obtain ⟨U, o, h1, h2⟩ := k; exact ⟨U, o, st _ h1, h2⟩
theorem own_tr (T' : State) (g' : JFrame) (st : Steps p.tables e below (T.setTop g) (T'.setTop g')) (k : own_Out p e below s Q kc ks T' g') : own_Out p e below s Q kc ks T g := by
  obtain ⟨U, o, h1, h2⟩ := k; exact ⟨U, o, st.trans h1, h2⟩
theorem own_ret (X : Stand p l e R s m args below meth c T locs cells slots) (hx : p.tables.exec = Jvm.exec) (hlk : meth.locks = false) {pc : Nat} {Ls : Array Slot} {w : Value} {t : FieldType} {i : Instr} {rest : List Value} (hret : meth.sig.returnType = some t) (hn : narrow t w = w)
    (hi : (i = .ireturn ∧ (t = .int ∨ t = .boolean ∨ t = .byte ∨ t = .char ∨ t = .short) ∧ ∃ z, w = .int z) ∨ (i = .lreturn ∧ t = .long ∧ ∃ z, w = .long z) ∨ (i = .dreturn ∧ t = .double ∧ ∃ z, w = .double z) ∨ (i = .freturn ∧ t = .float ∧ ∃ z, w = .float z) ∨ (i = .areturn ∧ t.isReference = true ∧ w.isRef = true))
    (hd : decode c.code pc = .ok (i, 1)) (hc : cells ≤ kc) (hs : slots ≤ ks) (hq : Q (some w) T.heap locs) : own_Out p e below s Q kc ks T (mkF m pc Ls (w :: rest)) := by
  obtain ⟨fs, hr, hrun, hended, hW, hsame⟩ := X.leave (v := some w) (fun h => by rw [hret] at h; cases h) hlk
  exact ⟨_, _, retOut X hx hret hn hi hd hr, hrun, hended, _, _, rfl, hq, ⟨_, rfl⟩, hW, hsame.mono hc hs⟩
theorem own_retI (X : Stand p l e R s m args below meth c T locs cells slots) (hx : p.tables.exec = Jvm.exec) (hlk : meth.locks = false) {pc : Nat} {Ls : Array Slot} {z : Int32} {rest : List Value} (hret : meth.sig.returnType = some .int)
    (hd : decode c.code pc = .ok (.ireturn, 1)) (hc : cells ≤ kc) (hs : slots ≤ ks) (hq : Q (some (.int z)) T.heap locs) : own_Out p e below s Q kc ks T (mkF m pc Ls (.int z :: rest)) :=
  own_ret X hx hlk hret rfl (Or.inl ⟨rfl, Or.inl rfl, z, rfl⟩) hd hc hs hq
theorem own_retJ (X : Stand p l e R s m args below meth c T locs cells slots) (hx : p.tables.exec = Jvm.exec) (hlk : meth.locks = false) {pc : Nat} {Ls : Array Slot} {z : Int64} {rest : List Value} (hret : meth.sig.returnType = some .long)
    (hd : decode c.code pc = .ok (.lreturn, 1)) (hc : cells ≤ kc) (hs : slots ≤ ks) (hq : Q (some (.long z)) T.heap locs) : own_Out p e below s Q kc ks T (mkF m pc Ls (.long z :: rest)) :=
  own_ret X hx hlk hret rfl (Or.inr (Or.inl ⟨rfl, rfl, z, rfl⟩)) hd hc hs hq
theorem own_nref {t : FieldType} {w : Value} (ht : t.isReference = true) (hw : w.isRef = true) : narrow t w = w := by
  cases t <;> first | (cases ht; done) | (cases w <;> first | rfl | (cases hw; done))
theorem own_retA (X : Stand p l e R s m args below meth c T locs cells slots) (hx : p.tables.exec = Jvm.exec) (hlk : meth.locks = false) {pc : Nat} {Ls : Array Slot} {w : Value} {t : FieldType} {rest : List Value} (hret : meth.sig.returnType = some t) (ht : t.isReference = true) (hw : w.isRef = true)
    (hd : decode c.code pc = .ok (.areturn, 1)) (hc : cells ≤ kc) (hs : slots ≤ ks) (hq : Q (some w) T.heap locs) : own_Out p e below s Q kc ks T (mkF m pc Ls (w :: rest)) :=
  own_ret X hx hlk hret (own_nref ht hw) (Or.inr (Or.inr (Or.inr (Or.inr ⟨rfl, ht, hw⟩)))) hd hc hs hq
theorem own_retN (X : Stand p l e R s m args below meth c T locs cells slots) (hx : p.tables.exec = Jvm.exec) (hlk : meth.locks = false) {pc : Nat} {Ls : Array Slot} {z : Int32} {t : FieldType} {rest : List Value} (hret : meth.sig.returnType = some t) (ht : t = .boolean ∨ t = .byte ∨ t = .char ∨ t = .short)
    (hd : decode c.code pc = .ok (.ireturn, 1)) (hc : cells ≤ kc) (hs : slots ≤ ks) (hq : Q (some (.int (nar t z))) T.heap locs) : own_Out p e below s Q kc ks T (mkF m pc Ls (.int z :: rest)) := by
  obtain ⟨fs, hr, hrun, hended, hW, hsame⟩ := X.leave (v := some (.int (nar t z))) (fun h => by rw [hret] at h; cases h) hlk
  exact ⟨_, _, retN X hx hret ht hd hr, hrun, hended, _, _, rfl, hq, ⟨_, rfl⟩, hW, hsame.mono hc hs⟩
theorem own_ret0 (X : Stand p l e R s m args below meth c T locs cells slots) (hx : p.tables.exec = Jvm.exec) (hlk : meth.locks = false) {pc : Nat} {Ls : Array Slot} (hret : meth.sig.returnType = none)
    (hd : decode c.code pc = .ok (.return_, 1)) (hc : cells ≤ kc) (hs : slots ≤ ks) (hq : Q none T.heap locs) : own_Out p e below s Q kc ks T (mkF m pc Ls []) := by
  obtain ⟨fs, hr, hrun, hended, hW, hsame⟩ := X.leave (v := none) (fun _ => rfl) hlk
  exact ⟨_, _, X.returnOut hx hret hd hr, hrun, hended, _, _, rfl, hq, ⟨_, rfl⟩, hW, hsame.mono hc hs⟩
/-- a method's contract at the arguments as' over the heap h0 -/
def own_Met (l : Launch) (Z : State) (y : MethodName) (bytes : ByteArray) (maxL : Nat) (ret : Option FieldType) (rm : Room) (as' : Array Value) (h0 : Heap) (Q : Option Value → Heap → List Loc → Prop) : Prop :=
  ∀ ws : List Jvm.Cond, MetFree l y (head1 (Jvm.Cond.code y bytes maxL ret :: ws) rm) (fun a U => a = as' ∧ Z.Warmed39 U.vm ∧ U.heap = h0) (fun _ _ _ _ _ => True) (fun _ U o U' => ∃ v L, o = .returned v ∧ Q v U'.heap L ∧ FrameEnd U o U' L rm.cells rm.slots)
theorem own_body {y : MethodName} {bytes : ByteArray} {maxL : Nat} {ret : Option FieldType} {rm : Room} {as' : Array Value} (Ls : Array Slot) (hp : plainFor y = true) (hef : ∀ m, entryFrame m as' maxL = mkF m 0 Ls [])
    (hbody : ∀ (p : Program) (e : Env) (s : State) (m : MethodId) (below : List Frame) (meth : Method) (c : Code) (s₁ : State), Stand p l e rm s m as' below meth c s₁ [] 0 0 → p.tables.exec = Jvm.exec → c.code = bytes → c.maxLocals = maxL → meth.sig.returnType = ret → meth.locks = false → Z.Warmed39 s.vm → s.vm.findClass y.cls = some m.cls → meth.name = y.name → s₁.heap = h0 →
      own_Out p e below s Q rm.cells rm.slots s₁ (mkF m 0 Ls [])) : own_Met l Z y bytes maxL ret rm as' h0 Q := by
  intro ws
  refine MetFree.of_bodySF hp hisR ?_
  intro p e s m args below meth c s₁ Bd hml0 hP hK
  obtain ⟨rfl, hZ, hh⟩ := hP
  have X0 : Stand p l e rm s m args below meth c s₁ [] 0 0 := Stand.of_body Bd
  have e0 : s₁.heap = h0 := by rw [← hh, Bd.state]; rfl
  obtain ⟨U, o, h1, h2⟩ := hbody p e s m below meth c s₁ X0 Bd.exec Bd.bytes hml0 Bd.returns Bd.notSynchronized hZ (findClass_of_methodNamed Bd.named) (name_of_methodNamed Bd.named Bd.method).1 e0
  exact ⟨U, o, castTop (hef m) h1, h2⟩
theorem own_callS (X : Stand p l e R s m args below meth c T locs cells slots) (hx : p.tables.exec = Jvm.exec) (hZ : Z.Warmed39 s.vm) {own : String} {index : Nat} {y : MethodName} {bytes : ByteArray} {maxL : Nat} {ret : Option FieldType} (hown : s.vm.findClass own = some m.cls)
    (w1 : (Cond.methodLink own index y).before a0 Z = true) (w2 : (Cond.static y).before a0 Z = true) (w3 : (Cond.initialized y.cls).before a0 Z = true) (w4 : (Cond.code y bytes maxL ret).before a0 Z = true) (hy : y.cls ≠ "java/lang/invoke/MethodHandle" ∧ y.cls ≠ "java/lang/invoke/VarHandle")
    {rm : Room} (argsL rest : List Value) {Qc : Option Value → Heap → List Loc → Prop} (M : own_Met l Z y bytes maxL ret rm argsL.toArray h Qc) (W : Nat) (hf : rm.frames + 1 ≤ R.frames) (hl : W + (maxL + 11) + rm.locals ≤ R.locals) (eT : T.heap = h)
    {pc : Nat} {Ls : Array Slot} {st : List Value} (hsize : Ls.size = c.maxLocals) (hlen : ∀ sig, parseMethodDescriptor y.desc = some sig → argsL.length = sig.parameters.length) (hstack : st = argsL.reverse ++ rest) (hW : (rest.map fun v => v.category).sum ≤ W)
    (hd : decode c.code pc = .ok (.invokestatic index, 3)) (hc : cells + rm.cells ≤ R.cells) (hs : slots + rm.slots ≤ R.slots)
    (k : ∀ v T' L, Stand p l e R s m args below meth c T' (locs ++ L) (cells + rm.cells) (slots + rm.slots) → Qc v T'.heap L → own_Out p e below s Q kc ks T' (mkF m (pc + 3) Ls (v.toList ++ rest))) : own_Out p e below s Q kc ks T (mkF m pc Ls st) := by
  obtain ⟨v, vm1, ⟨T', L', c', n'⟩, -, X', ⟨L, hQ, r1, r2, r3⟩, stp⟩ := Jvm.LawKit.callS X hx (y := y) (bytes := bytes) (maxL := maxL) (ret := ret) hown (mvT hZ w1) (mvT hZ w2) (mvT hZ w3) (mvT hZ w4) hy (backOf (W := W) (M []) hZ w4 w3 hf hl) (g := mkF m pc Ls st) rfl hsize (argsL := argsL) (rest := rest) hlen hstack (by show 2 * 0 + _ ≤ _; omega) hd (fun _ _ => ⟨rfl, eT, hc, hs⟩)
  dsimp only [Pt.U, Pt.locs, Pt.cells, Pt.slots] at X' r1 r2 r3 stp hQ
  subst r1 r2 r3
  exact own_st _ _ stp (k v T' L X' hQ)
theorem own_callC (X : Stand p l e R s m args below meth c T locs cells slots) (hx : p.tables.exec = Jvm.exec) (hZ : Z.Warmed39 s.vm) {own : String} {index : Nat} {y : MethodName} {bytes : ByteArray} {maxL : Nat} (hy1 : y.name = "<init>") (hown : s.vm.findClass own = some m.cls)
    (w1 : (Cond.methodLink own index y).before a0 Z = true) (w2 : (Cond.instanceMethod y).before a0 Z = true) (w3 : (Cond.initialized y.cls).before a0 Z = true) (w4 : (Cond.code y bytes maxL none).before a0 Z = true) (hy : y.cls ≠ "java/lang/invoke/MethodHandle" ∧ y.cls ≠ "java/lang/invoke/VarHandle")
    {rm : Room} (a : Addr) (argsL rest : List Value) {Qc : Option Value → Heap → List Loc → Prop} (M : own_Met l Z y bytes maxL none rm (.ref a :: argsL).toArray h Qc) (W : Nat) (hf : rm.frames + 1 ≤ R.frames) (hl : W + (maxL + 11) + rm.locals ≤ R.locals) (eT : T.heap = h)
    {pc : Nat} {Ls : Array Slot} {st : List Value} (hsize : Ls.size = c.maxLocals) (hlen : ∀ sig, parseMethodDescriptor y.desc = some sig → argsL.length = sig.parameters.length) (hstack : st = argsL.reverse ++ .ref a :: rest) (hW : (rest.map fun v => v.category).sum ≤ W)
    (hd : decode c.code pc = .ok (.invokespecial index, 3)) (hc : cells + rm.cells ≤ R.cells) (hs : slots + rm.slots ≤ R.slots)
    (k : ∀ v T' L, Stand p l e R s m args below meth c T' (locs ++ L) (cells + rm.cells) (slots + rm.slots) → Qc v T'.heap L → own_Out p e below s Q kc ks T' (mkF m (pc + 3) Ls (v.toList ++ rest))) : own_Out p e below s Q kc ks T (mkF m pc Ls st) := by
  obtain ⟨v, vm1, ⟨T', L', c', n'⟩, -, X', ⟨L, hQ, r1, r2, r3⟩, stp⟩ := X.specialBack hx (y := y) (bytes := bytes) (maxL := maxL) hy1 hown (mvT hZ w1) (mvT hZ w2) (mvT hZ w4) hy (backOf (W := W) (M []) hZ w4 w3 hf hl) (g := mkF m pc Ls st) rfl hsize (Steps.refl _) (a := a) (argsL := argsL) (rest := rest) hlen hstack (by show 2 * 0 + _ ≤ _; omega) hd (fun _ _ => ⟨rfl, eT, hc, hs⟩)
  dsimp only [Pt.U, Pt.locs, Pt.cells, Pt.slots] at X' r1 r2 r3 stp hQ
  subst r1 r2 r3
  exact own_tr _ _ stp (k v T' L X' hQ)
theorem own_callV (X : Stand p l e R s m args below meth c T locs cells slots) (hx : p.tables.exec = Jvm.exec) (hZ : Z.Warmed39 s.vm) {own C : String} {index : Nat} {y z : MethodName} {bytes : ByteArray} {maxL : Nat} {ret : Option FieldType} (hown : s.vm.findClass own = some m.cls)
    (w1 : (Cond.methodLink own index y).before a0 Z = true) (w2 : (Cond.declares y).before a0 Z = true) (hnf : NotFace s y) (w5 : (Cond.selects C y z).before a0 Z = true) (w6 : (Cond.instanceMethod z).before a0 Z = true) (w3 : (Cond.initialized z.cls).before a0 Z = true) (w4 : (Cond.code z bytes maxL ret).before a0 Z = true) (hy : y.cls ≠ "java/lang/invoke/MethodHandle" ∧ y.cls ≠ "java/lang/invoke/VarHandle")
    {rm : Room} (a : Addr) (argsL rest : List Value) {Qc : Option Value → Heap → List Loc → Prop} (E : Exa Z h a C) (M : own_Met l Z z bytes maxL ret rm (.ref a :: argsL).toArray h Qc) (W : Nat) (hf : rm.frames + 1 ≤ R.frames) (hl : W + (maxL + 11) + rm.locals ≤ R.locals) (eT : T.heap = h)
    {pc : Nat} {Ls : Array Slot} {st : List Value} (hsize : Ls.size = c.maxLocals) (hlen : ∀ sig, parseMethodDescriptor y.desc = some sig → argsL.length = sig.parameters.length) (hstack : st = argsL.reverse ++ .ref a :: rest) (hW : (rest.map fun v => v.category).sum ≤ W)
    (hd : decode c.code pc = .ok (.invokevirtual index, 3)) (hc : cells + rm.cells ≤ R.cells) (hs : slots + rm.slots ≤ R.slots)
    (k : ∀ v T' L, Stand p l e R s m args below meth c T' (locs ++ L) (cells + rm.cells) (slots + rm.slots) → Qc v T'.heap L → own_Out p e below s Q kc ks T' (mkF m (pc + 3) Ls (v.toList ++ rest))) : own_Out p e below s Q kc ks T (mkF m pc Ls st) := by
  obtain ⟨cq, kq, qa, qb, qc⟩ := isOf hZ eT E
  obtain ⟨v, vm1, ⟨T', L', c', n'⟩, -, X', ⟨L, hQ, r1, r2, r3⟩, stp⟩ := X.virtualBack hx (y := y) (z := z) hown (mvT hZ w1) (mvT hZ w2) hnf (mvT hZ w5) (mvT hZ w6) hy (backOf (W := W) (M []) hZ w4 w3 hf hl) qa qc (g := mkF m pc Ls st) rfl hsize (Steps.refl _) (argsL := argsL) (rest := rest) hlen hstack (by show 2 * 0 + _ ≤ _; omega) hd (fun _ _ => ⟨rfl, eT, hc, hs⟩)
  dsimp only [Pt.U, Pt.locs, Pt.cells, Pt.slots] at X' r1 r2 r3 stp hQ
  subst r1 r2 r3
  exact own_tr _ _ stp (k v T' L X' hQ)
theorem own_callI (X : Stand p l e R s m args below meth c T locs cells slots) (hx : p.tables.exec = Jvm.exec) (hZ : Z.Warmed39 s.vm) {own C : String} {index count : Nat} {xi y : MethodName} {bytes : ByteArray} {maxL : Nat} {ret : Option FieldType} (hown : s.vm.findClass own = some m.cls)
    (w1 : (Cond.methodLink own index xi).before args s = true) (w2 : (Cond.declares xi).before args s = true) (w7 : (Cond.interfaceMethod xi.cls xi.cls xi.name xi.desc).before args s = true) (w5 : (Cond.selects C xi y).before args s = true) (w6 : (Cond.instanceMethod y).before args s = true) (w8 : (Cond.publicMethod y).before args s = true) (w9 : (Cond.unhidden C xi.name xi.desc).before args s = true) (w10 : (Cond.castable C xi.cls).before args s = true) (w3 : (Cond.initialized y.cls).before a0 Z = true) (w4 : (Cond.code y bytes maxL ret).before a0 Z = true) (hy : xi.cls ≠ "java/lang/invoke/MethodHandle" ∧ xi.cls ≠ "java/lang/invoke/VarHandle")
    {rm : Room} (a : Addr) (argsL rest : List Value) {Qc : Option Value → Heap → List Loc → Prop} (E : Exa Z h a C) (M : own_Met l Z y bytes maxL ret rm (.ref a :: argsL).toArray h Qc) (W : Nat) (hf : rm.frames + 1 ≤ R.frames) (hl : W + (maxL + 11) + rm.locals ≤ R.locals) (eT : T.heap = h)
    {pc : Nat} {Ls : Array Slot} {st : List Value} (hsize : Ls.size = c.maxLocals) (hlen : ∀ sig, parseMethodDescriptor xi.desc = some sig → argsL.length = sig.parameters.length) (hstack : st = argsL.reverse ++ .ref a :: rest) (hW : (rest.map fun v => v.category).sum ≤ W)
    (hd : decode c.code pc = .ok (.invokeinterface index count, 5)) (hc : cells + rm.cells ≤ R.cells) (hs : slots + rm.slots ≤ R.slots)
    (k : ∀ v T' L, Stand p l e R s m args below meth c T' (locs ++ L) (cells + rm.cells) (slots + rm.slots) → Qc v T'.heap L → own_Out p e below s Q kc ks T' (mkF m (pc + 5) Ls (v.toList ++ rest))) : own_Out p e below s Q kc ks T (mkF m pc Ls st) := by
  obtain ⟨cq, kq, qa, qb, qc⟩ := isOf hZ eT E
  obtain ⟨v, vm1, ⟨T', L', c', n'⟩, -, X', ⟨L, hQ, r1, r2, r3⟩, stp⟩ := X.interfaceBack hx (xi := xi) (y := y) hown w1 w2 w7 w5 w6 w8 w9 w10 hy (backOf (W := W) (M []) hZ w4 w3 hf hl) qa qb qc (g := mkF m pc Ls st) rfl hsize (Steps.refl _) (argsL := argsL) (rest := rest) hlen hstack (by show 2 * 0 + _ ≤ _; omega) hd (fun _ _ => ⟨rfl, eT, hc, hs⟩)
  dsimp only [Pt.U, Pt.locs, Pt.cells, Pt.slots] at X' r1 r2 r3 stp hQ
  subst r1 r2 r3
  exact own_tr _ _ stp (k v T' L X' hQ)
theorem own_callP (X : Stand p l e R s m args below meth c T locs cells slots) (hx : p.tables.exec = Jvm.exec) (hZ : Z.Warmed39 s.vm) {own : String} {index : Nat} {y : MethodName} {bytes : ByteArray} {maxL : Nat} {ret : Option FieldType} (hown : s.vm.findClass own = some m.cls)
    (w1 : (Cond.methodLink own index y).before a0 Z = true) (w2 : (Cond.instanceMethod y).before a0 Z = true) (w5 : (Cond.selects y.cls y y).before a0 Z = true) (w6 : (Cond.privateMethod y).before a0 Z = true) (w3 : (Cond.initialized y.cls).before a0 Z = true) (w4 : (Cond.code y bytes maxL ret).before a0 Z = true) (hy : y.cls ≠ "java/lang/invoke/MethodHandle" ∧ y.cls ≠ "java/lang/invoke/VarHandle")
    {rm : Room} (a : Addr) (argsL rest : List Value) {C : String} {Qc : Option Value → Heap → List Loc → Prop} (E : Exa Z h a C) (M : own_Met l Z y bytes maxL ret rm (.ref a :: argsL).toArray h Qc) (W : Nat) (hf : rm.frames + 1 ≤ R.frames) (hl : W + (maxL + 11) + rm.locals ≤ R.locals) (eT : T.heap = h)
    {pc : Nat} {Ls : Array Slot} {st : List Value} (hsize : Ls.size = c.maxLocals) (hlen : ∀ sig, parseMethodDescriptor y.desc = some sig → argsL.length = sig.parameters.length) (hstack : st = argsL.reverse ++ .ref a :: rest) (hW : (rest.map fun v => v.category).sum ≤ W)
    (hd : decode c.code pc = .ok (.invokevirtual index, 3)) (hc : cells + rm.cells ≤ R.cells) (hs : slots + rm.slots ≤ R.slots)
    (k : ∀ v T' L, Stand p l e R s m args below meth c T' (locs ++ L) (cells + rm.cells) (slots + rm.slots) → Qc v T'.heap L → own_Out p e below s Q kc ks T' (mkF m (pc + 3) Ls (v.toList ++ rest))) : own_Out p e below s Q kc ks T (mkF m pc Ls st) := by
  obtain ⟨cq, qa, qb⟩ := E.cell
  obtain ⟨v, vm1, ⟨T', L', c', n'⟩, -, X', ⟨L, hQ, r1, r2, r3⟩, stp⟩ := X.privateBack hx (y := y) (bytes := bytes) (maxL := maxL) (ret := ret) hown (mvT hZ w1) (mvT hZ w2) (mvT hZ w5) (Cond.privateMethod_at (mvP hZ w6 (args := #[]))) (mvT hZ w4) hy (backOf (W := W) (M []) hZ w4 w3 hf hl) (g := mkF m pc Ls st) rfl hsize (Steps.refl _) (a := a) (by rw [eT]; exact qa) qb (argsL := argsL) (rest := rest) hlen hstack (by show 2 * 0 + _ ≤ _; omega) hd (fun _ _ => ⟨rfl, eT, hc, hs⟩)
  dsimp only [Pt.U, Pt.locs, Pt.cells, Pt.slots] at X' r1 r2 r3 stp hQ
  subst r1 r2 r3
  exact own_tr _ _ stp (k v T' L X' hQ)
/-- an array by its values: n places, place i holds f i -/
def own_A (Z : State) (h : Heap) (a : Addr) (k : ClassId) (ty : FieldType) (n : Nat) (f : Nat → Value) : Prop := ∃ cl : Cell, Arr Z h a cl ty ∧ cl.cls = k ∧ cl.slots.size = n ∧ n < 2 ^ 31 ∧ ∀ i, i < n → cl.slots[i]? = some (f i)
variable {a b : Addr} {k : ClassId} {ty : FieldType} {n : Nat} {f f' : Nat → Value} {sl : Nat} {v : Value} {ws : List Addr}
theorem own_A.lt (F : own_A Z h a k ty n f) : a < h.size := by obtain ⟨c, A, -⟩ := F; exact A.lt
theorem own_A.ext (F : own_A Z h a k ty n f) (E : Ext h h') : own_A Z h' a k ty n f := by obtain ⟨c, A, r⟩ := F; exact ⟨c, A.ext E, r⟩
theorem own_A.other (F : own_A Z h b k ty n f) (W : Wr h h' a sl v) (q : b ≠ a) : own_A Z h' b k ty n f := by obtain ⟨c, A, r⟩ := F; exact ⟨c, A.other W q, r⟩
theorem own_A.keep (F : own_A Z h a k ty n f) (K : Keep h h' ws) (q : a ∉ ws) : own_A Z h' a k ty n f := by obtain ⟨c, A, r⟩ := F; exact ⟨c, ⟨K.2.1 a c A.1 q, A.2⟩, r⟩
theorem own_A.cong (F : own_A Z h a k ty n f) (q : ∀ i, i < n → f i = f' i) : own_A Z h a k ty n f' := by obtain ⟨c, A, r1, r2, r3, r4⟩ := F; exact ⟨c, A, r1, r2, r3, fun i hi => by rw [r4 i hi, q i hi]⟩
theorem own_A.new {z : Int32} (A : Arr Z h a (newA k ty z) ty) (q : ¬ z < 0) : own_A Z h a k ty z.toNatClampNeg (fun _ => defaultValue ty) := ⟨_, A, rfl, sz_new _ _ _, (back32 q).2, fun i hi => by simp [newA, hi]⟩
theorem own_A.newL {z : Int32} (A : Arr Z h a (newA k ty z) ty) (q : ¬ z < 0) (n : Nat) (hn : z.toNatClampNeg = n) (d : Value) (hd : defaultValue ty = d) : own_A Z h a k ty n (fun i => (List.replicate n d).getD i d) := by
  subst hn hd
  refine (own_A.new A q).cong fun i hi => ?_
  simp [List.getD_eq_getElem?_getD, List.getElem?_replicate, hi]
theorem own_jn {j : Int32} {i : Nat} (q : j.toInt = (i : Int)) : j.toNatClampNeg = i := by simp only [Int32.toNatClampNeg]; omega
theorem own_in {j : Int32} {i n : Nat} {cl : Cell} (q : j.toInt = (i : Int)) (hi : i < n) (S : cl.slots.size = n) : ¬ (j < 0 ∨ cl.slots.size ≤ j.toNatClampNeg) := by
  rw [own_jn q, Int32.lt_iff_toInt_lt, q, S]; have : (0 : Int32).toInt = 0 := rfl; omega
theorem own_A.set (F : own_A Z h a k ty n f) {i : Nat} (hi : i < n) (W : Wr h h' a i v) : own_A Z h' a k ty n (fun x => if x = i then v else f x) := by
  obtain ⟨cl, A, r1, r2, r3, r4⟩ := F
  refine ⟨_, A.same W, r1, by rw [sz_set]; exact r2, r3, fun x hx => ?_⟩
  by_cases q : x = i
  · subst q; simp [Cell.setSlot, r2, hi]
  · show (cl.slots.setIfInBounds i v)[x]? = _
    rw [Array.getElem?_setIfInBounds_ne (Ne.symm q)]; simp only [q, if_false]; exact r4 x hx
theorem own_A.setL {L : List Value} {d : Value} (F : own_A Z h a k ty n (fun x => L.getD x d)) {i : Nat} (hi : i < n) (hL : i < L.length) (W : Wr h h' a i v) : own_A Z h' a k ty n (fun x => (L.set i v).getD x d) := by
  refine (F.set hi W).cong fun x hx => ?_
  by_cases q : x = i
  · subst q; simp [List.getD_eq_getElem?_getD, List.getElem?_set, hL]
  · simp [List.getD_eq_getElem?_getD, List.getElem?_set, q, Ne.symm q]
theorem own_A.setI {b : Nat → Int32} {x : Int32} (F : own_A Z h a k ty n (fun y => .int (b y))) {i : Nat} (hi : i < n) (W : Wr h h' a i (.int x)) : own_A Z h' a k ty n (fun y => .int (if y = i then x else b y)) := by
  refine (F.set hi W).cong fun y hy => ?_
  by_cases q : y = i <;> simp [q]
theorem own_A.setLI {L : List Int32} {x : Int32} (F : own_A Z h a k ty n (fun y => .int (L.getD y 0))) {i : Nat} (hi : i < n) (hL : i < L.length) (W : Wr h h' a i (.int x)) : own_A Z h' a k ty n (fun y => .int ((L.set i x).getD y 0)) := by
  refine (F.setI hi W).cong fun y hy => ?_
  by_cases q : y = i
  · subst q; simp [List.getD_eq_getElem?_getD, List.getElem?_set, hL]
  · simp [List.getD_eq_getElem?_getD, List.getElem?_set, q, Ne.symm q]
theorem own_A.snocI {L : List Int32} {x : Int32} (F : own_A Z h a k ty n (fun y => .int (L.getD y 0))) {i : Nat} (hi : i < n) (hL : L.length = i) (W : Wr h h' a i (.int x)) : own_A Z h' a k ty n (fun y => .int ((L ++ [x]).getD y 0)) := by
  refine (F.setI hi W).cong fun y hy => ?_
  by_cases q : y = i
  · subst q; subst hL; simp [List.getD_eq_getElem?_getD]
  · by_cases r : y < L.length
    · simp [List.getD_eq_getElem?_getD, q, List.getElem?_append_left r]
    · have h1 : L[y]? = none := List.getElem?_eq_none (by omega)
      have h2 : (L ++ [x])[y]? = none := List.getElem?_eq_none (by simp; omega)
      simp [List.getD_eq_getElem?_getD, q, h1, h2]
theorem own_A.newI {z : Int32} (A : Arr Z h a (newA k ty z) ty) (q : ¬ z < 0) (n : Nat) (hn : z.toNatClampNeg = n) (hd : defaultValue ty = .int 0) : own_A Z h a k ty n (fun _ => .int 0) := by
  subst hn; rw [← hd]; exact own_A.new A q
theorem own_A.newLI {z : Int32} (A : Arr Z h a (newA k ty z) ty) (q : ¬ z < 0) (n : Nat) (hn : z.toNatClampNeg = n) (hd : defaultValue ty = .int 0) : own_A Z h a k ty n (fun y => .int ((List.replicate n (0 : Int32)).getD y 0)) := by
  refine (own_A.newI A q n hn hd).cong fun i hi => ?_
  simp [List.getD_eq_getElem?_getD, List.getElem?_replicate, hi]
theorem own_stI (X : Stand p l e R s m args below meth c T locs cells slots) (hx : p.tables.exec = Jvm.exec) (hZ : Z.Warmed39 s.vm) (eT : T.heap = h) (F : own_A Z h a k .int n f) {j x : Int32} (i : Nat) (q : j.toInt = (i : Int)) (hi : i < n) {pc : Nat} {Ls : Array Slot} {rest : List Value} (hd : decode c.code pc = .ok (.iastore, 1)) :
    ∃ T' h', Stand p l e R s m args below meth c T' (locs ++ [⟨a, i⟩]) cells slots ∧ T'.heap = h' ∧ Wr h h' a i (.int x) ∧ ∀ t, Steps p.tables e below (T'.setTop (mkF m (pc + 1) Ls rest)) t → Steps p.tables e below (T.setTop (mkF m pc Ls (.int x :: .int j :: .ref a :: rest))) t := by
  obtain ⟨cl, A, r1, r2, r3, r4⟩ := F
  have := stI X hx hZ eT A (j := j) (x := x) (own_in q hi r2) (g := mkF m pc Ls (.int x :: .int j :: .ref a :: rest)) rfl rfl hd
  rw [own_jn q] at this; exact this
theorem own_stB (X : Stand p l e R s m args below meth c T locs cells slots) (hx : p.tables.exec = Jvm.exec) (hZ : Z.Warmed39 s.vm) (eT : T.heap = h) (F : own_A Z h a k .byte n f) {j x : Int32} (x' : Int32) (hx' : nar .byte x = x') (i : Nat) (q : j.toInt = (i : Int)) (hi : i < n) {pc : Nat} {Ls : Array Slot} {rest : List Value} (hd : decode c.code pc = .ok (.bastore, 1)) :
    ∃ T' h', Stand p l e R s m args below meth c T' (locs ++ [⟨a, i⟩]) cells slots ∧ T'.heap = h' ∧ Wr h h' a i (.int x') ∧ ∀ t, Steps p.tables e below (T'.setTop (mkF m (pc + 1) Ls rest)) t → Steps p.tables e below (T.setTop (mkF m pc Ls (.int x :: .int j :: .ref a :: rest))) t := by
  obtain ⟨cl, A, r1, r2, r3, r4⟩ := F
  have := stB X hx hZ eT A (j := j) (x := x) (own_in q hi r2) (g := mkF m pc Ls (.int x :: .int j :: .ref a :: rest)) rfl rfl hd
  rw [own_jn q] at this; subst hx'; exact this
theorem own_stC (X : Stand p l e R s m args below meth c T locs cells slots) (hx : p.tables.exec = Jvm.exec) (hZ : Z.Warmed39 s.vm) (eT : T.heap = h) (F : own_A Z h a k .char n f) {j x : Int32} (x' : Int32) (hx' : nar .char x = x') (i : Nat) (q : j.toInt = (i : Int)) (hi : i < n) {pc : Nat} {Ls : Array Slot} {rest : List Value} (hd : decode c.code pc = .ok (.castore, 1)) :
    ∃ T' h', Stand p l e R s m args below meth c T' (locs ++ [⟨a, i⟩]) cells slots ∧ T'.heap = h' ∧ Wr h h' a i (.int x') ∧ ∀ t, Steps p.tables e below (T'.setTop (mkF m (pc + 1) Ls rest)) t → Steps p.tables e below (T.setTop (mkF m pc Ls (.int x :: .int j :: .ref a :: rest))) t := by
  obtain ⟨cl, A, r1, r2, r3, r4⟩ := F
  have := stC X hx hZ eT A (j := j) (x := x) (own_in q hi r2) (g := mkF m pc Ls (.int x :: .int j :: .ref a :: rest)) rfl rfl hd
  rw [own_jn q] at this; subst hx'; exact this
theorem own_stR (X : Stand p l e R s m args below meth c T locs cells slots) (hx : p.tables.exec = Jvm.exec) (hZ : Z.Warmed39 s.vm) (eT : T.heap = h) {C : String} (F : own_A Z h a k (.object C) n f) {j : Int32} {v : Value} (O : Ovr Z k C) (I : v = .null ∨ ∃ y, v = .ref y ∧ Ins Z h y C true) (i : Nat) (q : j.toInt = (i : Int)) (hi : i < n) {pc : Nat} {Ls : Array Slot} {rest : List Value} (hd : decode c.code pc = .ok (.aastore, 1)) :
    ∃ T' h', Stand p l e R s m args below meth c T' (locs ++ [⟨a, i⟩]) cells slots ∧ T'.heap = h' ∧ Wr h h' a i v ∧ ∀ t, Steps p.tables e below (T'.setTop (mkF m (pc + 1) Ls rest)) t → Steps p.tables e below (T.setTop (mkF m pc Ls (v :: .int j :: .ref a :: rest))) t := by
  obtain ⟨cl, A, r1, r2, r3, r4⟩ := F
  have S : Sto Z h a v := by
    rcases I with rfl | ⟨y, rfl, I⟩
    · exact Or.inl rfl
    · exact Sto.ofV A r1 O I
  have := stR X hx hZ eT A (j := j) (own_in q hi r2) rfl S (g := mkF m pc Ls (v :: .int j :: .ref a :: rest)) rfl rfl hd
  rw [own_jn q] at this; exact this
theorem own_stRA (X : Stand p l e R s m args below meth c T locs cells slots) (hx : p.tables.exec = Jvm.exec) (hZ : Z.Warmed39 s.vm) (eT : T.heap = h) {C : String} {t0 : FieldType} (F : own_A Z h a k (.array t0) n f) {j : Int32} {v : Value} (O : OvrA Z k t0 C) (I : v = .null ∨ ∃ y, v = .ref y ∧ Ins Z h y C true) (i : Nat) (q : j.toInt = (i : Int)) (hi : i < n) {pc : Nat} {Ls : Array Slot} {rest : List Value} (hd : decode c.code pc = .ok (.aastore, 1)) :
    ∃ T' h', Stand p l e R s m args below meth c T' (locs ++ [⟨a, i⟩]) cells slots ∧ T'.heap = h' ∧ Wr h h' a i v ∧ ∀ t, Steps p.tables e below (T'.setTop (mkF m (pc + 1) Ls rest)) t → Steps p.tables e below (T.setTop (mkF m pc Ls (v :: .int j :: .ref a :: rest))) t := by
  obtain ⟨cl, A, r1, r2, r3, r4⟩ := F
  have S : Sto Z h a v := by
    rcases I with rfl | ⟨y, rfl, I⟩
    · exact Or.inl rfl
    · exact Sto.ofVA A r1 O I
  have := stR X hx hZ eT A (j := j) (own_in q hi r2) rfl S (g := mkF m pc Ls (v :: .int j :: .ref a :: rest)) rfl rfl hd
  rw [own_jn q] at this; exact this
theorem own_ldI (X : Stand p l e R s m args below meth c T locs cells slots) (hx : p.tables.exec = Jvm.exec) (hZ : Z.Warmed39 s.vm) (eT : T.heap = h) (F : own_A Z h a k .int n f) {j : Int32} (i : Nat) (q : j.toInt = (i : Int)) (hi : i < n) {pc : Nat} {Ls : Array Slot} {rest : List Value} (hd : decode c.code pc = .ok (.iaload, 1)) :
    ∀ t, Steps p.tables e below (T.setTop (mkF m (pc + 1) Ls (f i :: rest))) t → Steps p.tables e below (T.setTop (mkF m pc Ls (.int j :: .ref a :: rest))) t := fun t kt => by
  obtain ⟨cl, A, r1, r2, r3, r4⟩ := F
  exact X.iaload hx (j := j) (v := f i) (by rw [eT]; exact A.1) (State.isArrayOf_alike hZ.alike A.2.1) A.2.2 (own_in q hi r2) (by rw [own_jn q]; exact r4 i hi) (g := mkF m pc Ls (.int j :: .ref a :: rest)) rfl rfl hd _ kt
theorem own_ldB (X : Stand p l e R s m args below meth c T locs cells slots) (hx : p.tables.exec = Jvm.exec) (hZ : Z.Warmed39 s.vm) (eT : T.heap = h) (F : own_A Z h a k .byte n f) {j : Int32} (i : Nat) (q : j.toInt = (i : Int)) (hi : i < n) {pc : Nat} {Ls : Array Slot} {rest : List Value} (hd : decode c.code pc = .ok (.baload, 1)) :
    ∀ t, Steps p.tables e below (T.setTop (mkF m (pc + 1) Ls (f i :: rest))) t → Steps p.tables e below (T.setTop (mkF m pc Ls (.int j :: .ref a :: rest))) t := fun t kt => by
  obtain ⟨cl, A, r1, r2, r3, r4⟩ := F
  exact X.baloadBytes hx (j := j) (v := f i) (by rw [eT]; exact A.1) (State.isArrayOf_alike hZ.alike A.2.1) A.2.2 (own_in q hi r2) (by rw [own_jn q]; exact r4 i hi) (g := mkF m pc Ls (.int j :: .ref a :: rest)) rfl rfl hd _ kt
theorem own_ldC (X : Stand p l e R s m args below meth c T locs cells slots) (hx : p.tables.exec = Jvm.exec) (hZ : Z.Warmed39 s.vm) (eT : T.heap = h) (F : own_A Z h a k .char n f) {j : Int32} (i : Nat) (q : j.toInt = (i : Int)) (hi : i < n) {pc : Nat} {Ls : Array Slot} {rest : List Value} (hd : decode c.code pc = .ok (.caload, 1)) :
    ∀ t, Steps p.tables e below (T.setTop (mkF m (pc + 1) Ls (f i :: rest))) t → Steps p.tables e below (T.setTop (mkF m pc Ls (.int j :: .ref a :: rest))) t := fun t kt => by
  obtain ⟨cl, A, r1, r2, r3, r4⟩ := F
  exact X.caload hx (j := j) (v := f i) (by rw [eT]; exact A.1) (State.isArrayOf_alike hZ.alike A.2.1) A.2.2 (own_in q hi r2) (by rw [own_jn q]; exact r4 i hi) (g := mkF m pc Ls (.int j :: .ref a :: rest)) rfl rfl hd _ kt
theorem own_ldR (X : Stand p l e R s m args below meth c T locs cells slots) (hx : p.tables.exec = Jvm.exec) (hZ : Z.Warmed39 s.vm) (eT : T.heap = h) (F : own_A Z h a k ty n f) (hty : ty.isReference = true) {j : Int32} (i : Nat) (q : j.toInt = (i : Int)) (hi : i < n) {pc : Nat} {Ls : Array Slot} {rest : List Value} (hd : decode c.code pc = .ok (.aaload, 1)) :
    ∀ t, Steps p.tables e below (T.setTop (mkF m (pc + 1) Ls (f i :: rest))) t → Steps p.tables e below (T.setTop (mkF m pc Ls (.int j :: .ref a :: rest))) t := fun t kt => by
  obtain ⟨cl, A, r1, r2, r3, r4⟩ := F
  exact X.aaload hx (j := j) (v := f i) (by rw [eT]; exact A.1) (State.isArrayOf_alike hZ.alike A.2.1) hty A.2.2 (own_in q hi r2) (by rw [own_jn q]; exact r4 i hi) (g := mkF m pc Ls (.int j :: .ref a :: rest)) rfl rfl hd _ kt
theorem own_len (X : Stand p l e R s m args below meth c T locs cells slots) (hx : p.tables.exec = Jvm.exec) (hZ : Z.Warmed39 s.vm) (eT : T.heap = h) (F : own_A Z h a k ty n f) {pc : Nat} {Ls : Array Slot} {rest : List Value} (hd : decode c.code pc = .ok (.arraylength, 1)) (z : Int32) (hz : z.toInt = (n : Int)) :
    ∀ t, Steps p.tables e below (T.setTop (mkF m (pc + 1) Ls (.int z :: rest))) t → Steps p.tables e below (T.setTop (mkF m pc Ls (.ref a :: rest))) t := fun t kt => by
  obtain ⟨cl, A, r1, r2, r3, r4⟩ := F
  have q : cl.slots.size.toInt32 = z := by
    apply Int32.toInt_inj.mp; rw [r2, hz]; exact len_toInt r3
  exact X.arraylength hx (by rw [eT]; exact A.1) (State.isArrayOf_alike hZ.alike A.2.1) (g := mkF m pc Ls (.ref a :: rest)) rfl rfl hd _ (by rw [q]; exact kt)
theorem own_nb (x : Int32) : nar .byte x.toInt8.toInt32 = x.toInt8.toInt32 := by simp [nar]
theorem own_nc (x : Int32) : nar .char x.toUInt32.toUInt16.toUInt32.toInt32 = x.toUInt32.toUInt16.toUInt32.toInt32 := by
  have := Jvm.Free.XT.narrow_c x
  simpa [nar, narrow] using this
theorem own_nz {z : Int32} (q : z = 0 ∨ z = 1) : nar .boolean z = z := by rcases q with rfl | rfl <;> rfl
theorem own_bt {P : Prop} [Decidable P] (q : P) : ¬ ((if P then (1 : Int32) else 0) = 0) := by simp [q]
theorem own_bf {P : Prop} [Decidable P] (q : ¬ P) : (if P then (1 : Int32) else 0) = 0 := by simp [q]
theorem own_nt {P : Prop} [Decidable P] (q : P) : (if P then (0 : Int32) else 1) = 0 := by simp [q]
theorem own_nf {P : Prop} [Decidable P] (q : ¬ P) : ¬ ((if P then (0 : Int32) else 1) = 0) := by simp [q]
theorem own_lrem {target : State} (X : Stand p l e R s m args below meth c T locs cells slots) (hx : p.tables.exec = Jvm.exec) (hg : g.method = m) {x y : Int64} {rest : List Value} (hd : decode c.code g.pc = .ok (.lrem, 1)) (hs : g.stack = .long y :: .long x :: rest) (hy : y ≠ 0)
    (hr : Steps p.tables e below (T.setTop { g with pc := g.pc + 1, stack := .long (x % y) :: rest }) target) : Steps p.tables e below (T.setTop g) target := XS.lrem X.here hx hg hd hs hy (by rw [lrem_mod]; exact hr)
end OwnKit
theorem dmethod_2_code_0 : decode method_2_code 0 = .ok (.lload_n 0, 1) := by decide +kernel
theorem dmethod_2_code_1 : decode method_2_code 1 = .ok (.iload_n 2, 1) := by decide +kernel
theorem dmethod_2_code_2 : decode method_2_code 2 = .ok (.i2l, 1) := by decide +kernel
theorem dmethod_2_code_3 : decode method_2_code 3 = .ok (.ldiv, 1) := by decide +kernel
theorem dmethod_2_code_4 : decode method_2_code 4 = .ok (.lstore_n 3, 1) := by decide +kernel
theorem dmethod_2_code_5 : decode method_2_code 5 = .ok (.lload_n 0, 1) := by decide +kernel
theorem dmethod_2_code_6 : decode method_2_code 6 = .ok (.iload_n 2, 1) := by decide +kernel
theorem dmethod_2_code_7 : decode method_2_code 7 = .ok (.i2l, 1) := by decide +kernel
theorem dmethod_2_code_8 : decode method_2_code 8 = .ok (.lrem, 1) := by decide +kernel
theorem dmethod_2_code_9 : decode method_2_code 9 = .ok (.lconst 0, 1) := by decide +kernel
theorem dmethod_2_code_10 : decode method_2_code 10 = .ok (.lcmp, 1) := by decide +kernel
theorem dmethod_2_code_11 : decode method_2_code 11 = .ok (.ifCond .eq 13, 3) := by decide +kernel
theorem dmethod_2_code_14 : decode method_2_code 14 = .ok (.lload_n 0, 1) := by decide +kernel
theorem dmethod_2_code_15 : decode method_2_code 15 = .ok (.lconst 0, 1) := by decide +kernel
theorem dmethod_2_code_16 : decode method_2_code 16 = .ok (.lcmp, 1) := by decide +kernel
theorem dmethod_2_code_17 : decode method_2_code 17 = .ok (.ifCond .ge 7, 3) := by decide +kernel
theorem dmethod_2_code_20 : decode method_2_code 20 = .ok (.lload_n 3, 1) := by decide +kernel
theorem dmethod_2_code_21 : decode method_2_code 21 = .ok (.lconst 1, 1) := by decide +kernel
theorem dmethod_2_code_22 : decode method_2_code 22 = .ok (.lsub, 1) := by decide +kernel
theorem dmethod_2_code_23 : decode method_2_code 23 = .ok (.lstore_n 3, 1) := by decide +kernel
theorem dmethod_2_code_24 : decode method_2_code 24 = .ok (.lload_n 3, 1) := by decide +kernel
theorem dmethod_2_code_25 : decode method_2_code 25 = .ok (.lreturn, 1) := by decide +kernel
theorem ef_rm1 (m_ : MethodId) (x : Int64) (d : Int32) : entryFrame m_ #[(.long x), (.int d)] 5 = mkF m_ 0 #[.val (.long x), .second, .val (.int d), .unset, .unset] [] := by first | (simp [entryFrame, mkF, argsToLocals, Value.category]; done) | rfl
theorem own_pn0 : plainName "com/example/mustr/mustr/rules/DpAtLeastPinLaw" = true := by first | (simp [plainName, overriddenIn]; done) | decide +kernel
def f1 (x : Int64) (d : Int32) : Int64 := (if (x % (d.toInt64)) = (0 : Int64) then (x / (d.toInt64)) else (if x < (0 : Int64) then ((x / (d.toInt64)) - (1 : Int64)) else (x / (d.toInt64))))
set_option maxRecDepth 65536 in
set_option maxHeartbeats 40000000 in
theorem rm1 (l : Launch) (Z : State) (a0 : Array Value) (hw : ∀ d ∈ tables_1, d.before a0 Z = true) (x : Int64) (d : Int32) (h0 : Heap) (n0 : Nat) (Z0 : n0 ≤ h0.size) (hd : ¬ d.toInt64 = 0) :
    own_Met l Z (⟨"com/example/mustr/mustr/rules/DpAtLeastPinLaw", "floorDivPos", "(JI)J"⟩ : MethodName) method_2_code 5 (some .long) ({ frames := 0, cells := 0, slots := 0, locals := 0 } : Room) #[(.long x), (.int d)] h0 (fun v h L => v = some (.long (f1 x d)) ∧ Fr n0 L ∧ h = h0) := by
  refine own_body #[.val (.long x), .second, .val (.int d), .unset, .unset] (plainFor_of_name own_pn0) (fun m_ => ef_rm1 m_ x d) ?_
  intro p_ e_ s_ m_ below meth c_ s₁ X0 hx hby hml hret hlk hZ hown hnm e0
  have N0 := Fr.nil n0
  show own_Out p_ e_ below s_ _ _ _ s₁ (mkF m_ 0 #[.val (.long x), .second, .val (.int d), .unset, .unset] [])
  refine own_st s₁ (mkF m_ 25 #[.val (.long x), .second, .val (.int d), .val (.long (if (x % (d.toInt64)) = (0 : Int64) then (x / (d.toInt64)) else (if x < (0 : Int64) then ((x / (d.toInt64)) - (1 : Int64)) else (x / (d.toInt64))))), .second] [(.long (if (x % (d.toInt64)) = (0 : Int64) then (x / (d.toInt64)) else (if x < (0 : Int64) then ((x / (d.toInt64)) - (1 : Int64)) else (x / (d.toInt64)))))]) (fun t_ k_ => ?_) ?_
  · refine XS.lloadN X0.here hx rfl (hb hby dmethod_2_code_0) rfl ?_
    show Steps p_.tables e_ below (s₁.setTop (mkF m_ 1 #[.val (.long x), .second, .val (.int d), .unset, .unset] [(.long x)])) t_
    refine XS.iloadN X0.here hx rfl (hb hby dmethod_2_code_1) rfl ?_
    show Steps p_.tables e_ below (s₁.setTop (mkF m_ 2 #[.val (.long x), .second, .val (.int d), .unset, .unset] [(.int d), (.long x)])) t_
    refine XS.i2l X0.here hx rfl (hb hby dmethod_2_code_2) rfl ?_
    show Steps p_.tables e_ below (s₁.setTop (mkF m_ 3 #[.val (.long x), .second, .val (.int d), .unset, .unset] [(.long (d.toInt64)), (.long x)])) t_
    refine XS.ldiv X0.here hx rfl (hb hby dmethod_2_code_3) rfl hd ?_
    show Steps p_.tables e_ below (s₁.setTop (mkF m_ 4 #[.val (.long x), .second, .val (.int d), .unset, .unset] [(.long (x / (d.toInt64)))])) t_
    refine XS.lstoreN X0.here hx rfl (hb hby dmethod_2_code_4) rfl (l' := #[.val (.long x), .second, .val (.int d), .val (.long (x / (d.toInt64))), .second]) rfl ?_
    show Steps p_.tables e_ below (s₁.setTop (mkF m_ 5 #[.val (.long x), .second, .val (.int d), .val (.long (x / (d.toInt64))), .second] [])) t_
    refine XS.lloadN X0.here hx rfl (hb hby dmethod_2_code_5) rfl ?_
    show Steps p_.tables e_ below (s₁.setTop (mkF m_ 6 #[.val (.long x), .second, .val (.int d), .val (.long (x / (d.toInt64))), .second] [(.long x)])) t_
    refine XS.iloadN X0.here hx rfl (hb hby dmethod_2_code_6) rfl ?_
    show Steps p_.tables e_ below (s₁.setTop (mkF m_ 7 #[.val (.long x), .second, .val (.int d), .val (.long (x / (d.toInt64))), .second] [(.int d), (.long x)])) t_
    refine XS.i2l X0.here hx rfl (hb hby dmethod_2_code_7) rfl ?_
    show Steps p_.tables e_ below (s₁.setTop (mkF m_ 8 #[.val (.long x), .second, .val (.int d), .val (.long (x / (d.toInt64))), .second] [(.long (d.toInt64)), (.long x)])) t_
    refine own_lrem X0 hx rfl (hb hby dmethod_2_code_8) rfl hd ?_
    show Steps p_.tables e_ below (s₁.setTop (mkF m_ 9 #[.val (.long x), .second, .val (.int d), .val (.long (x / (d.toInt64))), .second] [(.long (x % (d.toInt64)))])) t_
    refine XS.lconst X0.here hx rfl (hb hby dmethod_2_code_9) ?_
    show Steps p_.tables e_ below (s₁.setTop (mkF m_ 10 #[.val (.long x), .second, .val (.int d), .val (.long (x / (d.toInt64))), .second] [(.long (0 : Int64)), (.long (x % (d.toInt64)))])) t_
    refine XS.lcmp X0.here hx rfl (hb hby dmethod_2_code_10) rfl ?_
    show Steps p_.tables e_ below (s₁.setTop (mkF m_ 11 #[.val (.long x), .second, .val (.int d), .val (.long (x / (d.toInt64))), .second] [(.int (lcmpW (x % (d.toInt64)) (0 : Int64)))])) t_
    have jn11 : ∀ t_, Steps p_.tables e_ below (s₁.setTop (mkF m_ 24 #[.val (.long x), .second, .val (.int d), .val (.long (if (x % (d.toInt64)) = (0 : Int64) then (x / (d.toInt64)) else (if x < (0 : Int64) then ((x / (d.toInt64)) - (1 : Int64)) else (x / (d.toInt64))))), .second] [])) t_ → Steps p_.tables e_ below (s₁.setTop (mkF m_ 11 #[.val (.long x), .second, .val (.int d), .val (.long (x / (d.toInt64))), .second] [(.int (lcmpW (x % (d.toInt64)) (0 : Int64)))])) t_ := by
      intro t_ k_
      by_cases hc11 : (x % (d.toInt64)) = (0 : Int64)
      · refine XS.ifYes X0.here hx rfl (pc0 := 11) (pc' := 24) rfl (hb hby dmethod_2_code_11) rfl ((if0 _ _).trans (teq ((lw_eq (x % (d.toInt64)) (0 : Int64)).mpr hc11)).1) (by decide) (by decide) ?_
        show Steps p_.tables e_ below (s₁.setTop (mkF m_ 24 #[.val (.long x), .second, .val (.int d), .val (.long (x / (d.toInt64))), .second] [])) t_
        simp only [if_pos hc11] at k_
        exact k_
      · refine XS.ifNo X0.here hx rfl (hb hby dmethod_2_code_11) rfl ((if0 _ _).trans (feq (fun q => hc11 ((lw_eq (x % (d.toInt64)) (0 : Int64)).mp q))).1) ?_
        show Steps p_.tables e_ below (s₁.setTop (mkF m_ 14 #[.val (.long x), .second, .val (.int d), .val (.long (x / (d.toInt64))), .second] [])) t_
        refine XS.lloadN X0.here hx rfl (hb hby dmethod_2_code_14) rfl ?_
        show Steps p_.tables e_ below (s₁.setTop (mkF m_ 15 #[.val (.long x), .second, .val (.int d), .val (.long (x / (d.toInt64))), .second] [(.long x)])) t_
        refine XS.lconst X0.here hx rfl (hb hby dmethod_2_code_15) ?_
        show Steps p_.tables e_ below (s₁.setTop (mkF m_ 16 #[.val (.long x), .second, .val (.int d), .val (.long (x / (d.toInt64))), .second] [(.long (0 : Int64)), (.long x)])) t_
        refine XS.lcmp X0.here hx rfl (hb hby dmethod_2_code_16) rfl ?_
        show Steps p_.tables e_ below (s₁.setTop (mkF m_ 17 #[.val (.long x), .second, .val (.int d), .val (.long (x / (d.toInt64))), .second] [(.int (lcmpW x (0 : Int64)))])) t_
        have jn17 : ∀ t_, Steps p_.tables e_ below (s₁.setTop (mkF m_ 24 #[.val (.long x), .second, .val (.int d), .val (.long (if x < (0 : Int64) then ((x / (d.toInt64)) - (1 : Int64)) else (x / (d.toInt64)))), .second] [])) t_ → Steps p_.tables e_ below (s₁.setTop (mkF m_ 17 #[.val (.long x), .second, .val (.int d), .val (.long (x / (d.toInt64))), .second] [(.int (lcmpW x (0 : Int64)))])) t_ := by
          intro t_ k_
          by_cases hc17 : x < (0 : Int64)
          · refine XS.ifNo X0.here hx rfl (hb hby dmethod_2_code_17) rfl ((if0 _ _).trans (tlt ((lw_lt x (0 : Int64)).mpr hc17)).2.1) ?_
            show Steps p_.tables e_ below (s₁.setTop (mkF m_ 20 #[.val (.long x), .second, .val (.int d), .val (.long (x / (d.toInt64))), .second] [])) t_
            refine XS.lloadN X0.here hx rfl (hb hby dmethod_2_code_20) rfl ?_
            show Steps p_.tables e_ below (s₁.setTop (mkF m_ 21 #[.val (.long x), .second, .val (.int d), .val (.long (x / (d.toInt64))), .second] [(.long (x / (d.toInt64)))])) t_
            refine XS.lconst X0.here hx rfl (hb hby dmethod_2_code_21) ?_
            show Steps p_.tables e_ below (s₁.setTop (mkF m_ 22 #[.val (.long x), .second, .val (.int d), .val (.long (x / (d.toInt64))), .second] [(.long (1 : Int64)), (.long (x / (d.toInt64)))])) t_
            refine XS.lsub X0.here hx rfl (hb hby dmethod_2_code_22) rfl ?_
            show Steps p_.tables e_ below (s₁.setTop (mkF m_ 23 #[.val (.long x), .second, .val (.int d), .val (.long (x / (d.toInt64))), .second] [(.long ((x / (d.toInt64)) - (1 : Int64)))])) t_
            refine XS.lstoreN X0.here hx rfl (hb hby dmethod_2_code_23) rfl (l' := #[.val (.long x), .second, .val (.int d), .val (.long ((x / (d.toInt64)) - (1 : Int64))), .second]) rfl ?_
            show Steps p_.tables e_ below (s₁.setTop (mkF m_ 24 #[.val (.long x), .second, .val (.int d), .val (.long ((x / (d.toInt64)) - (1 : Int64))), .second] [])) t_
            simp only [if_pos hc17] at k_
            exact k_
          · refine XS.ifYes X0.here hx rfl (pc0 := 17) (pc' := 24) rfl (hb hby dmethod_2_code_17) rfl ((if0 _ _).trans (flt (fun q => hc17 ((lw_lt x (0 : Int64)).mp q))).2.1) (by decide) (by decide) ?_
            show Steps p_.tables e_ below (s₁.setTop (mkF m_ 24 #[.val (.long x), .second, .val (.int d), .val (.long (x / (d.toInt64))), .second] [])) t_
            simp only [if_neg hc17] at k_
            exact k_
        refine jn17 _ ?_
        show Steps p_.tables e_ below (s₁.setTop (mkF m_ 24 #[.val (.long x), .second, .val (.int d), .val (.long (if x < (0 : Int64) then ((x / (d.toInt64)) - (1 : Int64)) else (x / (d.toInt64)))), .second] [])) t_
        simp only [if_neg hc11] at k_
        exact k_
    refine jn11 _ ?_
    show Steps p_.tables e_ below (s₁.setTop (mkF m_ 24 #[.val (.long x), .second, .val (.int d), .val (.long (if (x % (d.toInt64)) = (0 : Int64) then (x / (d.toInt64)) else (if x < (0 : Int64) then ((x / (d.toInt64)) - (1 : Int64)) else (x / (d.toInt64))))), .second] [])) t_
    refine XS.lloadN X0.here hx rfl (hb hby dmethod_2_code_24) rfl ?_
    show Steps p_.tables e_ below (s₁.setTop (mkF m_ 25 #[.val (.long x), .second, .val (.int d), .val (.long (if (x % (d.toInt64)) = (0 : Int64) then (x / (d.toInt64)) else (if x < (0 : Int64) then ((x / (d.toInt64)) - (1 : Int64)) else (x / (d.toInt64))))), .second] [(.long (if (x % (d.toInt64)) = (0 : Int64) then (x / (d.toInt64)) else (if x < (0 : Int64) then ((x / (d.toInt64)) - (1 : Int64)) else (x / (d.toInt64)))))])) t_
    exact k_
  refine own_retJ X0 hx hlk hret (hb hby dmethod_2_code_25) (by decide) (by decide) ?_
  rw [e0]
  exact ⟨by simp only [f1], N0, rfl⟩
theorem dprog_64_method_2_code_0 : decode prog_64_method_2_code 0 = .ok (.iload_n 0, 1) := by decide +kernel
theorem dprog_64_method_2_code_1 : decode prog_64_method_2_code 1 = .ok (.i2l, 1) := by decide +kernel
theorem dprog_64_method_2_code_2 : decode prog_64_method_2_code 2 = .ok (.ldc2_w 9, 3) := by decide +kernel
theorem dprog_64_method_2_code_5 : decode prog_64_method_2_code 5 = .ok (.lmul, 1) := by decide +kernel
theorem dprog_64_method_2_code_6 : decode prog_64_method_2_code 6 = .ok (.iload_n 2, 1) := by decide +kernel
theorem dprog_64_method_2_code_7 : decode prog_64_method_2_code 7 = .ok (.i2l, 1) := by decide +kernel
theorem dprog_64_method_2_code_8 : decode prog_64_method_2_code 8 = .ok (.iload_n 1, 1) := by decide +kernel
theorem dprog_64_method_2_code_9 : decode prog_64_method_2_code 9 = .ok (.i2l, 1) := by decide +kernel
theorem dprog_64_method_2_code_10 : decode prog_64_method_2_code 10 = .ok (.lmul, 1) := by decide +kernel
theorem dprog_64_method_2_code_11 : decode prog_64_method_2_code 11 = .ok (.lcmp, 1) := by decide +kernel
theorem dprog_64_method_2_code_12 : decode prog_64_method_2_code 12 = .ok (.ifCond .lt 7, 3) := by decide +kernel
theorem dprog_64_method_2_code_19 : decode prog_64_method_2_code 19 = .ok (.iconst 0, 1) := by decide +kernel
theorem dprog_64_method_2_code_15 : decode prog_64_method_2_code 15 = .ok (.iconst 1, 1) := by decide +kernel
theorem dprog_64_method_2_code_16 : decode prog_64_method_2_code 16 = .ok (.goto 4, 3) := by decide +kernel
theorem dprog_64_method_2_code_20 : decode prog_64_method_2_code 20 = .ok (.ireturn, 1) := by decide +kernel
theorem ef_rm2 (m_ : MethodId) (px : Int32) (de : Int32) (dp : Int32) : entryFrame m_ #[(.int px), (.int de), (.int dp)] 3 = mkF m_ 0 #[.val (.int px), .val (.int de), .val (.int dp)] [] := by first | (simp [entryFrame, mkF, argsToLocals, Value.category]; done) | rfl
theorem own_pn1 : plainName "com/example/mustr/mustr/rules/Dp" = true := by first | (simp [plainName, overriddenIn]; done) | decide +kernel
def f2 (px : Int32) (de : Int32) (dp : Int32) : Int32 := (if ((px.toInt64) * (160 : Int64)) < ((dp.toInt64) * (de.toInt64)) then (0 : Int32) else 1)
set_option maxRecDepth 65536 in
set_option maxHeartbeats 40000000 in
theorem rm2 (l : Launch) (Z : State) (a0 : Array Value) (hw : ∀ d ∈ tables_1, d.before a0 Z = true) (px : Int32) (de : Int32) (dp : Int32) (h0 : Heap) (n0 : Nat) (Z0 : n0 ≤ h0.size)  :
    own_Met l Z (⟨"com/example/mustr/mustr/rules/Dp", "atLeast", "(III)Z"⟩ : MethodName) prog_64_method_2_code 3 (some .boolean) ({ frames := 0, cells := 0, slots := 0, locals := 0 } : Room) #[(.int px), (.int de), (.int dp)] h0 (fun v h L => v = some (.int (f2 px de dp)) ∧ Fr n0 L ∧ h = h0) := by
  refine own_body #[.val (.int px), .val (.int de), .val (.int dp)] (plainFor_of_name own_pn1) (fun m_ => ef_rm2 m_ px de dp) ?_
  intro p_ e_ s_ m_ below meth c_ s₁ X0 hx hby hml hret hlk hZ hown hnm e0
  have N0 := Fr.nil n0
  show own_Out p_ e_ below s_ _ _ _ s₁ (mkF m_ 0 #[.val (.int px), .val (.int de), .val (.int dp)] [])
  refine own_st s₁ (mkF m_ 20 #[.val (.int px), .val (.int de), .val (.int dp)] [(.int (if ((px.toInt64) * (160 : Int64)) < ((dp.toInt64) * (de.toInt64)) then (0 : Int32) else 1))]) (fun t_ k_ => ?_) ?_
  · refine XS.iloadN X0.here hx rfl (hb hby dprog_64_method_2_code_0) rfl ?_
    show Steps p_.tables e_ below (s₁.setTop (mkF m_ 1 #[.val (.int px), .val (.int de), .val (.int dp)] [(.int px)])) t_
    refine XS.i2l X0.here hx rfl (hb hby dprog_64_method_2_code_1) rfl ?_
    show Steps p_.tables e_ below (s₁.setTop (mkF m_ 2 #[.val (.int px), .val (.int de), .val (.int dp)] [(.long (px.toInt64))])) t_
    refine X0.ldc2Long hx hown (mvT hZ (hw _ (List.mem_of_getElem? (i := 12) rfl))) (g := (mkF m_ 2 #[.val (.int px), .val (.int de), .val (.int dp)] [(.long (px.toInt64))])) rfl (hb hby dprog_64_method_2_code_2) _ ?_
    show Steps p_.tables e_ below (s₁.setTop (mkF m_ 5 #[.val (.int px), .val (.int de), .val (.int dp)] [(.long (160 : Int64)), (.long (px.toInt64))])) t_
    refine XS.lmul X0.here hx rfl (hb hby dprog_64_method_2_code_5) rfl ?_
    show Steps p_.tables e_ below (s₁.setTop (mkF m_ 6 #[.val (.int px), .val (.int de), .val (.int dp)] [(.long ((px.toInt64) * (160 : Int64)))])) t_
    refine XS.iloadN X0.here hx rfl (hb hby dprog_64_method_2_code_6) rfl ?_
    show Steps p_.tables e_ below (s₁.setTop (mkF m_ 7 #[.val (.int px), .val (.int de), .val (.int dp)] [(.int dp), (.long ((px.toInt64) * (160 : Int64)))])) t_
    refine XS.i2l X0.here hx rfl (hb hby dprog_64_method_2_code_7) rfl ?_
    show Steps p_.tables e_ below (s₁.setTop (mkF m_ 8 #[.val (.int px), .val (.int de), .val (.int dp)] [(.long (dp.toInt64)), (.long ((px.toInt64) * (160 : Int64)))])) t_
    refine XS.iloadN X0.here hx rfl (hb hby dprog_64_method_2_code_8) rfl ?_
    show Steps p_.tables e_ below (s₁.setTop (mkF m_ 9 #[.val (.int px), .val (.int de), .val (.int dp)] [(.int de), (.long (dp.toInt64)), (.long ((px.toInt64) * (160 : Int64)))])) t_
    refine XS.i2l X0.here hx rfl (hb hby dprog_64_method_2_code_9) rfl ?_
    show Steps p_.tables e_ below (s₁.setTop (mkF m_ 10 #[.val (.int px), .val (.int de), .val (.int dp)] [(.long (de.toInt64)), (.long (dp.toInt64)), (.long ((px.toInt64) * (160 : Int64)))])) t_
    refine XS.lmul X0.here hx rfl (hb hby dprog_64_method_2_code_10) rfl ?_
    show Steps p_.tables e_ below (s₁.setTop (mkF m_ 11 #[.val (.int px), .val (.int de), .val (.int dp)] [(.long ((dp.toInt64) * (de.toInt64))), (.long ((px.toInt64) * (160 : Int64)))])) t_
    refine XS.lcmp X0.here hx rfl (hb hby dprog_64_method_2_code_11) rfl ?_
    show Steps p_.tables e_ below (s₁.setTop (mkF m_ 12 #[.val (.int px), .val (.int de), .val (.int dp)] [(.int (lcmpW ((px.toInt64) * (160 : Int64)) ((dp.toInt64) * (de.toInt64))))])) t_
    have jn12 : ∀ t_, Steps p_.tables e_ below (s₁.setTop (mkF m_ 20 #[.val (.int px), .val (.int de), .val (.int dp)] [(.int (if ((px.toInt64) * (160 : Int64)) < ((dp.toInt64) * (de.toInt64)) then (0 : Int32) else 1))])) t_ → Steps p_.tables e_ below (s₁.setTop (mkF m_ 12 #[.val (.int px), .val (.int de), .val (.int dp)] [(.int (lcmpW ((px.toInt64) * (160 : Int64)) ((dp.toInt64) * (de.toInt64))))])) t_ := by
      intro t_ k_
      by_cases hc12 : ((px.toInt64) * (160 : Int64)) < ((dp.toInt64) * (de.toInt64))
      · refine XS.ifYes X0.here hx rfl (pc0 := 12) (pc' := 19) rfl (hb hby dprog_64_method_2_code_12) rfl ((if0 _ _).trans (tlt ((lw_lt ((px.toInt64) * (160 : Int64)) ((dp.toInt64) * (de.toInt64))).mpr hc12)).1) (by decide) (by decide) ?_
        show Steps p_.tables e_ below (s₁.setTop (mkF m_ 19 #[.val (.int px), .val (.int de), .val (.int dp)] [])) t_
        refine XS.iconst X0.here hx rfl (hb hby dprog_64_method_2_code_19) ?_
        show Steps p_.tables e_ below (s₁.setTop (mkF m_ 20 #[.val (.int px), .val (.int de), .val (.int dp)] [(.int (0 : Int32))])) t_
        simp only [if_pos hc12] at k_
        exact k_
      · refine XS.ifNo X0.here hx rfl (hb hby dprog_64_method_2_code_12) rfl ((if0 _ _).trans (flt (fun q => hc12 ((lw_lt ((px.toInt64) * (160 : Int64)) ((dp.toInt64) * (de.toInt64))).mp q))).1) ?_
        show Steps p_.tables e_ below (s₁.setTop (mkF m_ 15 #[.val (.int px), .val (.int de), .val (.int dp)] [])) t_
        refine XS.iconst X0.here hx rfl (hb hby dprog_64_method_2_code_15) ?_
        show Steps p_.tables e_ below (s₁.setTop (mkF m_ 16 #[.val (.int px), .val (.int de), .val (.int dp)] [(.int (1 : Int32))])) t_
        refine XS.goto X0.here hx rfl (pc0 := 16) (pc' := 20) rfl (hb hby dprog_64_method_2_code_16) (by decide) (by decide) ?_
        show Steps p_.tables e_ below (s₁.setTop (mkF m_ 20 #[.val (.int px), .val (.int de), .val (.int dp)] [(.int (1 : Int32))])) t_
        simp only [if_neg hc12] at k_
        exact k_
    refine jn12 _ ?_
    show Steps p_.tables e_ below (s₁.setTop (mkF m_ 20 #[.val (.int px), .val (.int de), .val (.int dp)] [(.int (if ((px.toInt64) * (160 : Int64)) < ((dp.toInt64) * (de.toInt64)) then (0 : Int32) else 1))])) t_
    exact k_
  refine own_retN X0 hx hlk (t := .boolean) hret (by simp) (hb hby dprog_64_method_2_code_20) (by decide) (by decide) ?_
  rw [e0]
  have hz : nar .boolean (if ((px.toInt64) * (160 : Int64)) < ((dp.toInt64) * (de.toInt64)) then (0 : Int32) else 1) = (if ((px.toInt64) * (160 : Int64)) < ((dp.toInt64) * (de.toInt64)) then (0 : Int32) else 1) := own_nz (by first | exact Or.inl rfl | exact Or.inr rfl | (repeat' split) <;> first | exact Or.inl rfl | exact Or.inr rfl)
  rw [hz]
  exact ⟨by simp only [f2], N0, rfl⟩
def own_d (density : Int32) : Int32 := (if (density &&& (2147483647 : Int32)) = (0 : Int32) then (1 : Int32) else (density &&& (2147483647 : Int32)))
theorem own_pd0 : parseMethodDescriptor "(JI)J" = some ⟨[.long, .int], some .long⟩ := by decide +kernel
def own_tg (pixels : Int32) (density : Int32) (dp : Int32) (mode : Int32) : Int32 := (if (mode &&& (1 : Int32)) = (0 : Int32) then dp else (if ((f1 ((pixels.toInt64) * (160 : Int64)) (own_d density)) + (((mode >>> ((1 : Int32) &&& 31)) &&& (1 : Int32)).toInt64)) < (-2147483648 : Int64) then dp else (if (2147483647 : Int64) < ((f1 ((pixels.toInt64) * (160 : Int64)) (own_d density)) + (((mode >>> ((1 : Int32) &&& 31)) &&& (1 : Int32)).toInt64)) then dp else (((f1 ((pixels.toInt64) * (160 : Int64)) (own_d density)) + (((mode >>> ((1 : Int32) &&& 31)) &&& (1 : Int32)).toInt64)).toInt32))))
theorem own_pd1 : parseMethodDescriptor "(III)Z" = some ⟨[.int, .int, .int], some .boolean⟩ := by decide +kernel
/-! the plain law -/
theorem own_dpos (density : Int32) : 0 < (own_d density).toInt := by
  have h1 := c_and density 2147483647 (by decide)
  unfold own_d
  split
  · decide
  · rename_i h
    have : (density &&& 2147483647).toInt ≠ 0 := fun q => h (Int32.toInt_inj.mp q)
    omega
theorem own_dnz (density : Int32) : ¬ (own_d density).toInt64 = 0 := fun h => by
  have h1 := own_dpos density
  have h2 := c_i2l (own_d density)
  rw [h] at h2
  have : (0 : Int64).toInt = 0 := rfl
  omega
theorem own_fl (x : Int64) (d : Int32) (hd : 0 < d.toInt) : (f1 x d).toInt * d.toInt ≤ x.toInt ∧ x.toInt < ((f1 x d).toInt + 1) * d.toInt := by
  have hy : d.toInt64.toInt = d.toInt := c_i2l d
  have hne : d.toInt64 ≠ -1 := fun h => by
    have : d.toInt64.toInt = -1 := by rw [h]; rfl
    omega
  obtain ⟨p1, p2⟩ := c_ldiv x d.toInt64 d.toInt hy hne
  have hm : (x % d.toInt64).toInt = x.toInt.tmod d.toInt := by rw [Int64.toInt_mod, hy]
  obtain ⟨t1, t2⟩ := tr x.toInt d.toInt
  have hr := rng64 x
  have l0 : (0 : Int64).toInt = 0 := rfl
  have hz : x % d.toInt64 = 0 ↔ x.toInt.tmod d.toInt = 0 := by
    rw [← hm]; exact ⟨fun h => by rw [h]; rfl, fun h => Int64.toInt_inj.mp h⟩
  have hl : x < 0 ↔ x.toInt < 0 := by rw [Int64.lt_iff_toInt_lt, l0]
  generalize hD : d.toInt = D at *
  generalize hX : x.toInt = X at *
  by_cases h0 : 0 ≤ X
  · have ef : f1 x d = x / d.toInt64 := by
      unfold f1; rw [if_neg (show ¬ x < 0 by rw [hl]; omega)]; split <;> rfl
    rw [ef, p1 h0]
    exact ⟨Int.ediv_mul_le X (by omega), Int.lt_ediv_add_one_mul_self X hd⟩
  · have h0' : X < 0 := by omega
    have e1 := p2 h0'
    have e2 := t2 h0'
    have m1 := Int.mul_ediv_add_emod (-X) D
    have m2 := Int.emod_nonneg (-X) (show D ≠ 0 by omega)
    have m3 := Int.emod_lt_of_pos (-X) hd
    have m4 : 0 ≤ (-X) / D := Int.ediv_nonneg (by omega) (by omega)
    have m5 : (-X) / D * 1 ≤ (-X) / D * D := Int.mul_le_mul_of_nonneg_left (by omega) m4
    rw [Int.mul_comm D] at m1
    generalize (-X) / D = k at *
    generalize (-X) % D = r at *
    generalize hP : k * D = P at *
    by_cases r0 : r = 0
    · have ef : f1 x d = x / d.toInt64 := by
        unfold f1; rw [if_pos (hz.mpr (by omega))]
      rw [ef, e1, Int.add_mul, Int.neg_mul, hP]
      omega
    · have ef : f1 x d = x / d.toInt64 - 1 := by
        unfold f1; rw [if_neg (fun q => r0 (by have := hz.mp q; omega)), if_pos (hl.mpr h0')]
      have s1 := c_lsub (x / d.toInt64) 1
      have s2 := rng64 (x / d.toInt64 - 1)
      have l1 : (1 : Int64).toInt = 1 := rfl
      have e3 : (x / d.toInt64 - 1).toInt = -k - 1 := by omega
      rw [ef, e3, Int.add_mul, Int.sub_mul, Int.neg_mul, hP]
      omega
theorem own_fin (pixels density t : Int32) : (if (f2 pixels (own_d density) t) = (if (f1 ((pixels.toInt64) * (160 : Int64)) (own_d density)) < (t.toInt64) then (0 : Int32) else 1) then (1 : Int32) else 0) = 1 := by
  have hd := own_dpos density
  generalize own_d density = d at *
  obtain ⟨q1, q2⟩ := own_fl ((pixels.toInt64) * (160 : Int64)) d hd
  have hw : (t.toInt64 * d.toInt64).toInt = t.toInt * d.toInt := Jvm.Free.XT.wideMul t d
  have ht := c_i2l t
  have key : (pixels.toInt64 * 160 < t.toInt64 * d.toInt64) ↔ (f1 ((pixels.toInt64) * (160 : Int64)) d < t.toInt64) := by
    rw [Int64.lt_iff_toInt_lt, Int64.lt_iff_toInt_lt, hw, ht]
    generalize (pixels.toInt64 * (160 : Int64)).toInt = X at *
    generalize (f1 ((pixels.toInt64) * (160 : Int64)) d).toInt = q at *
    constructor
    · intro h
      rcases Int.lt_or_le q t.toInt with g | g
      · exact g
      · have := Int.mul_le_mul_of_nonneg_right g (Int.le_of_lt hd); omega
    · intro h
      have := Int.mul_le_mul_of_nonneg_right (show q + 1 ≤ t.toInt by omega) (Int.le_of_lt hd); omega
  have : f2 pixels d t = (if (f1 ((pixels.toInt64) * (160 : Int64)) d) < (t.toInt64) then (0 : Int32) else 1) := by
    unfold f2
    by_cases h : pixels.toInt64 * 160 < t.toInt64 * d.toInt64
    · rw [if_pos h, if_pos (key.mp h)]
    · rw [if_neg h, if_neg (fun g => h (key.mpr g))]
  rw [if_pos this]

theorem own_law (pixels density dp mode : Int32) : (if (f2 pixels (own_d density) (own_tg pixels density dp mode)) = (if (f1 ((pixels.toInt64) * (160 : Int64)) (own_d density)) < ((own_tg pixels density dp mode).toInt64) then (0 : Int32) else 1) then (1 : Int32) else 0) = 1 := own_fin pixels density _
theorem ef_rm0 (m_ : MethodId) (pixels : Int32) (density : Int32) (dp : Int32) (mode : Int32) : entryFrame m_ #[(.int pixels), (.int density), (.int dp), (.int mode)] maxLocals = mkF m_ 0 #[.val (.int pixels), .val (.int density), .val (.int dp), .val (.int mode), .unset, .unset, .unset, .unset, .unset, .unset, .unset, .unset] [] := by first | (simp [entryFrame, mkF, argsToLocals, Value.category, maxLocals]; done) | rfl
set_option maxRecDepth 65536 in
set_option maxHeartbeats 40000000 in
theorem rm0 (l : Launch) (Z : State) (a0 : Array Value) (hw : ∀ d ∈ tables_1, d.before a0 Z = true) (pixels : Int32) (density : Int32) (dp : Int32) (mode : Int32) (h0 : Heap) (n0 : Nat) (Z0 : n0 ≤ h0.size)  :
    own_Met l Z x code maxLocals ret room_1 #[(.int pixels), (.int density), (.int dp), (.int mode)] h0 (fun v h L => v = some (.int 1) ∧ Fr n0 L) := by
  refine own_body #[.val (.int pixels), .val (.int density), .val (.int dp), .val (.int mode), .unset, .unset, .unset, .unset, .unset, .unset, .unset, .unset] (plainFor_of_name own_pn0) (fun m_ => ef_rm0 m_ pixels density dp mode) ?_
  intro p_ e_ s_ m_ below meth c_ s₁ X0 hx hby hml hret hlk hZ hown hnm e0
  have N0 := Fr.nil n0
  show own_Out p_ e_ below s_ _ _ _ s₁ (mkF m_ 0 #[.val (.int pixels), .val (.int density), .val (.int dp), .val (.int mode), .unset, .unset, .unset, .unset, .unset, .unset, .unset, .unset] [])
  refine own_st s₁ (mkF m_ 26 #[.val (.int pixels), .val (.int density), .val (.int dp), .val (.int mode), .val (.int (own_d density)), .val (.long ((pixels.toInt64) * (160 : Int64))), .second, .unset, .unset, .unset, .unset, .unset] [(.int (own_d density)), (.long ((pixels.toInt64) * (160 : Int64)))]) (fun t_ k_ => ?_) ?_
  · refine XS.iloadN X0.here hx rfl (hb hby at_0) rfl ?_
    show Steps p_.tables e_ below (s₁.setTop (mkF m_ 1 #[.val (.int pixels), .val (.int density), .val (.int dp), .val (.int mode), .unset, .unset, .unset, .unset, .unset, .unset, .unset, .unset] [(.int density)])) t_
    refine X0.ldcInt hx hown (mvT hZ (hw _ (List.mem_of_getElem? (i := 0) rfl))) (g := (mkF m_ 1 #[.val (.int pixels), .val (.int density), .val (.int dp), .val (.int mode), .unset, .unset, .unset, .unset, .unset, .unset, .unset, .unset] [(.int density)])) rfl (hb hby at_1) _ ?_
    show Steps p_.tables e_ below (s₁.setTop (mkF m_ 3 #[.val (.int pixels), .val (.int density), .val (.int dp), .val (.int mode), .unset, .unset, .unset, .unset, .unset, .unset, .unset, .unset] [(.int (2147483647 : Int32)), (.int density)])) t_
    refine XS.iand X0.here hx rfl (hb hby at_3) rfl ?_
    show Steps p_.tables e_ below (s₁.setTop (mkF m_ 4 #[.val (.int pixels), .val (.int density), .val (.int dp), .val (.int mode), .unset, .unset, .unset, .unset, .unset, .unset, .unset, .unset] [(.int (density &&& (2147483647 : Int32)))])) t_
    refine XS.istore X0.here hx rfl (hb hby at_4) rfl (l' := #[.val (.int pixels), .val (.int density), .val (.int dp), .val (.int mode), .val (.int (density &&& (2147483647 : Int32))), .unset, .unset, .unset, .unset, .unset, .unset, .unset]) rfl ?_
    show Steps p_.tables e_ below (s₁.setTop (mkF m_ 6 #[.val (.int pixels), .val (.int density), .val (.int dp), .val (.int mode), .val (.int (density &&& (2147483647 : Int32))), .unset, .unset, .unset, .unset, .unset, .unset, .unset] [])) t_
    refine XS.iload X0.here hx rfl (hb hby at_6) rfl ?_
    show Steps p_.tables e_ below (s₁.setTop (mkF m_ 8 #[.val (.int pixels), .val (.int density), .val (.int dp), .val (.int mode), .val (.int (density &&& (2147483647 : Int32))), .unset, .unset, .unset, .unset, .unset, .unset, .unset] [(.int (density &&& (2147483647 : Int32)))])) t_
    have jn8 : ∀ t_, Steps p_.tables e_ below (s₁.setTop (mkF m_ 14 #[.val (.int pixels), .val (.int density), .val (.int dp), .val (.int mode), .val (.int (own_d density)), .unset, .unset, .unset, .unset, .unset, .unset, .unset] [])) t_ → Steps p_.tables e_ below (s₁.setTop (mkF m_ 8 #[.val (.int pixels), .val (.int density), .val (.int dp), .val (.int mode), .val (.int (density &&& (2147483647 : Int32))), .unset, .unset, .unset, .unset, .unset, .unset, .unset] [(.int (density &&& (2147483647 : Int32)))])) t_ := by
      intro t_ k_
      by_cases hc8 : (density &&& (2147483647 : Int32)) = (0 : Int32)
      · refine XS.ifNo X0.here hx rfl (hb hby at_8) rfl ((if0 _ _).trans (teq hc8).2) ?_
        show Steps p_.tables e_ below (s₁.setTop (mkF m_ 11 #[.val (.int pixels), .val (.int density), .val (.int dp), .val (.int mode), .val (.int (density &&& (2147483647 : Int32))), .unset, .unset, .unset, .unset, .unset, .unset, .unset] [])) t_
        refine XS.iconst X0.here hx rfl (hb hby at_11) ?_
        show Steps p_.tables e_ below (s₁.setTop (mkF m_ 12 #[.val (.int pixels), .val (.int density), .val (.int dp), .val (.int mode), .val (.int (density &&& (2147483647 : Int32))), .unset, .unset, .unset, .unset, .unset, .unset, .unset] [(.int (1 : Int32))])) t_
        refine XS.istore X0.here hx rfl (hb hby at_12) rfl (l' := #[.val (.int pixels), .val (.int density), .val (.int dp), .val (.int mode), .val (.int (1 : Int32)), .unset, .unset, .unset, .unset, .unset, .unset, .unset]) rfl ?_
        show Steps p_.tables e_ below (s₁.setTop (mkF m_ 14 #[.val (.int pixels), .val (.int density), .val (.int dp), .val (.int mode), .val (.int (1 : Int32)), .unset, .unset, .unset, .unset, .unset, .unset, .unset] [])) t_
        simp only [own_d, if_pos hc8] at k_
        exact k_
      · refine XS.ifYes X0.here hx rfl (pc0 := 8) (pc' := 14) rfl (hb hby at_8) rfl ((if0 _ _).trans (feq hc8).2) (by decide) (by decide) ?_
        show Steps p_.tables e_ below (s₁.setTop (mkF m_ 14 #[.val (.int pixels), .val (.int density), .val (.int dp), .val (.int mode), .val (.int (density &&& (2147483647 : Int32))), .unset, .unset, .unset, .unset, .unset, .unset, .unset] [])) t_
        simp only [own_d, if_neg hc8] at k_
        exact k_
    refine jn8 _ ?_
    show Steps p_.tables e_ below (s₁.setTop (mkF m_ 14 #[.val (.int pixels), .val (.int density), .val (.int dp), .val (.int mode), .val (.int (own_d density)), .unset, .unset, .unset, .unset, .unset, .unset, .unset] [])) t_
    refine XS.iloadN X0.here hx rfl (hb hby at_14) rfl ?_
    show Steps p_.tables e_ below (s₁.setTop (mkF m_ 15 #[.val (.int pixels), .val (.int density), .val (.int dp), .val (.int mode), .val (.int (own_d density)), .unset, .unset, .unset, .unset, .unset, .unset, .unset] [(.int pixels)])) t_
    refine XS.i2l X0.here hx rfl (hb hby at_15) rfl ?_
    show Steps p_.tables e_ below (s₁.setTop (mkF m_ 16 #[.val (.int pixels), .val (.int density), .val (.int dp), .val (.int mode), .val (.int (own_d density)), .unset, .unset, .unset, .unset, .unset, .unset, .unset] [(.long (pixels.toInt64))])) t_
    refine X0.ldc2Long hx hown (mvT hZ (hw _ (List.mem_of_getElem? (i := 1) rfl))) (g := (mkF m_ 16 #[.val (.int pixels), .val (.int density), .val (.int dp), .val (.int mode), .val (.int (own_d density)), .unset, .unset, .unset, .unset, .unset, .unset, .unset] [(.long (pixels.toInt64))])) rfl (hb hby at_16) _ ?_
    show Steps p_.tables e_ below (s₁.setTop (mkF m_ 19 #[.val (.int pixels), .val (.int density), .val (.int dp), .val (.int mode), .val (.int (own_d density)), .unset, .unset, .unset, .unset, .unset, .unset, .unset] [(.long (160 : Int64)), (.long (pixels.toInt64))])) t_
    refine XS.lmul X0.here hx rfl (hb hby at_19) rfl ?_
    show Steps p_.tables e_ below (s₁.setTop (mkF m_ 20 #[.val (.int pixels), .val (.int density), .val (.int dp), .val (.int mode), .val (.int (own_d density)), .unset, .unset, .unset, .unset, .unset, .unset, .unset] [(.long ((pixels.toInt64) * (160 : Int64)))])) t_
    refine XS.lstore X0.here hx rfl (hb hby at_20) rfl (l' := #[.val (.int pixels), .val (.int density), .val (.int dp), .val (.int mode), .val (.int (own_d density)), .val (.long ((pixels.toInt64) * (160 : Int64))), .second, .unset, .unset, .unset, .unset, .unset]) rfl ?_
    show Steps p_.tables e_ below (s₁.setTop (mkF m_ 22 #[.val (.int pixels), .val (.int density), .val (.int dp), .val (.int mode), .val (.int (own_d density)), .val (.long ((pixels.toInt64) * (160 : Int64))), .second, .unset, .unset, .unset, .unset, .unset] [])) t_
    refine XS.lload X0.here hx rfl (hb hby at_22) rfl ?_
    show Steps p_.tables e_ below (s₁.setTop (mkF m_ 24 #[.val (.int pixels), .val (.int density), .val (.int dp), .val (.int mode), .val (.int (own_d density)), .val (.long ((pixels.toInt64) * (160 : Int64))), .second, .unset, .unset, .unset, .unset, .unset] [(.long ((pixels.toInt64) * (160 : Int64)))])) t_
    refine XS.iload X0.here hx rfl (hb hby at_24) rfl ?_
    show Steps p_.tables e_ below (s₁.setTop (mkF m_ 26 #[.val (.int pixels), .val (.int density), .val (.int dp), .val (.int mode), .val (.int (own_d density)), .val (.long ((pixels.toInt64) * (160 : Int64))), .second, .unset, .unset, .unset, .unset, .unset] [(.int (own_d density)), (.long ((pixels.toInt64) * (160 : Int64)))])) t_
    exact k_
  refine own_callS X0 hx hZ hown (hw _ (List.mem_of_getElem? (i := 2) rfl)) (hw _ (List.mem_of_getElem? (i := 3) rfl)) (hw _ (List.mem_of_getElem? (i := 4) rfl)) (hw _ (List.mem_of_getElem? (i := 5) rfl)) (by decide) [(.long ((pixels.toInt64) * (160 : Int64))), (.int (own_d density))] [] (rm1 l Z a0 hw ((pixels.toInt64) * (160 : Int64)) (own_d density) h0 n0 Z0 (own_dnz density)) 0 (by decide) (by decide) e0 (by rw [hml]; rfl) (lenOf own_pd0 rfl) rfl (Nat.le_of_eq rfl) (hb hby at_26) (by decide) (by decide) ?_
  intro v1 T1 L1 X1 q1
  obtain ⟨rfl, N1q, e1⟩ := q1
  have N1 := Fr.app N0 N1q
  show own_Out p_ e_ below s_ _ _ _ T1 (mkF m_ 29 #[.val (.int pixels), .val (.int density), .val (.int dp), .val (.int mode), .val (.int (own_d density)), .val (.long ((pixels.toInt64) * (160 : Int64))), .second, .unset, .unset, .unset, .unset, .unset] [(.long (f1 ((pixels.toInt64) * (160 : Int64)) (own_d density)))])
  refine own_st T1 (mkF m_ 95 #[.val (.int pixels), .val (.int density), .val (.int dp), .val (.int mode), .val (.int (own_d density)), .val (.long ((pixels.toInt64) * (160 : Int64))), .second, .val (.long (f1 ((pixels.toInt64) * (160 : Int64)) (own_d density))), .second, .val (.int (own_tg pixels density dp mode)), .val (.int (if (f1 ((pixels.toInt64) * (160 : Int64)) (own_d density)) < ((own_tg pixels density dp mode).toInt64) then (0 : Int32) else 1)), .unset] [(.int (own_tg pixels density dp mode)), (.int (own_d density)), (.int pixels)]) (fun t_ k_ => ?_) ?_
  · refine XS.lstore X1.here hx rfl (hb hby at_29) rfl (l' := #[.val (.int pixels), .val (.int density), .val (.int dp), .val (.int mode), .val (.int (own_d density)), .val (.long ((pixels.toInt64) * (160 : Int64))), .second, .val (.long (f1 ((pixels.toInt64) * (160 : Int64)) (own_d density))), .second, .unset, .unset, .unset]) rfl ?_
    show Steps p_.tables e_ below (T1.setTop (mkF m_ 31 #[.val (.int pixels), .val (.int density), .val (.int dp), .val (.int mode), .val (.int (own_d density)), .val (.long ((pixels.toInt64) * (160 : Int64))), .second, .val (.long (f1 ((pixels.toInt64) * (160 : Int64)) (own_d density))), .second, .unset, .unset, .unset] [])) t_
    refine XS.iloadN X1.here hx rfl (hb hby at_31) rfl ?_
    show Steps p_.tables e_ below (T1.setTop (mkF m_ 32 #[.val (.int pixels), .val (.int density), .val (.int dp), .val (.int mode), .val (.int (own_d density)), .val (.long ((pixels.toInt64) * (160 : Int64))), .second, .val (.long (f1 ((pixels.toInt64) * (160 : Int64)) (own_d density))), .second, .unset, .unset, .unset] [(.int dp)])) t_
    refine XS.istore X1.here hx rfl (hb hby at_32) rfl (l' := #[.val (.int pixels), .val (.int density), .val (.int dp), .val (.int mode), .val (.int (own_d density)), .val (.long ((pixels.toInt64) * (160 : Int64))), .second, .val (.long (f1 ((pixels.toInt64) * (160 : Int64)) (own_d density))), .second, .val (.int dp), .unset, .unset]) rfl ?_
    show Steps p_.tables e_ below (T1.setTop (mkF m_ 34 #[.val (.int pixels), .val (.int density), .val (.int dp), .val (.int mode), .val (.int (own_d density)), .val (.long ((pixels.toInt64) * (160 : Int64))), .second, .val (.long (f1 ((pixels.toInt64) * (160 : Int64)) (own_d density))), .second, .val (.int dp), .unset, .unset] [])) t_
    refine XS.iloadN X1.here hx rfl (hb hby at_34) rfl ?_
    show Steps p_.tables e_ below (T1.setTop (mkF m_ 35 #[.val (.int pixels), .val (.int density), .val (.int dp), .val (.int mode), .val (.int (own_d density)), .val (.long ((pixels.toInt64) * (160 : Int64))), .second, .val (.long (f1 ((pixels.toInt64) * (160 : Int64)) (own_d density))), .second, .val (.int dp), .unset, .unset] [(.int mode)])) t_
    refine XS.iconst X1.here hx rfl (hb hby at_35) ?_
    show Steps p_.tables e_ below (T1.setTop (mkF m_ 36 #[.val (.int pixels), .val (.int density), .val (.int dp), .val (.int mode), .val (.int (own_d density)), .val (.long ((pixels.toInt64) * (160 : Int64))), .second, .val (.long (f1 ((pixels.toInt64) * (160 : Int64)) (own_d density))), .second, .val (.int dp), .unset, .unset] [(.int (1 : Int32)), (.int mode)])) t_
    refine XS.iand X1.here hx rfl (hb hby at_36) rfl ?_
    show Steps p_.tables e_ below (T1.setTop (mkF m_ 37 #[.val (.int pixels), .val (.int density), .val (.int dp), .val (.int mode), .val (.int (own_d density)), .val (.long ((pixels.toInt64) * (160 : Int64))), .second, .val (.long (f1 ((pixels.toInt64) * (160 : Int64)) (own_d density))), .second, .val (.int dp), .unset, .unset] [(.int (mode &&& (1 : Int32)))])) t_
    have jn37 : ∀ t_, Steps p_.tables e_ below (T1.setTop (mkF m_ 74 #[.val (.int pixels), .val (.int density), .val (.int dp), .val (.int mode), .val (.int (own_d density)), .val (.long ((pixels.toInt64) * (160 : Int64))), .second, .val (.long (f1 ((pixels.toInt64) * (160 : Int64)) (own_d density))), .second, .val (.int (own_tg pixels density dp mode)), (if (mode &&& (1 : Int32)) = (0 : Int32) then Slot.unset else Slot.val (.long ((f1 ((pixels.toInt64) * (160 : Int64)) (own_d density)) + (((mode >>> ((1 : Int32) &&& 31)) &&& (1 : Int32)).toInt64)))), (if (mode &&& (1 : Int32)) = (0 : Int32) then Slot.unset else Slot.second)] [])) t_ → Steps p_.tables e_ below (T1.setTop (mkF m_ 37 #[.val (.int pixels), .val (.int density), .val (.int dp), .val (.int mode), .val (.int (own_d density)), .val (.long ((pixels.toInt64) * (160 : Int64))), .second, .val (.long (f1 ((pixels.toInt64) * (160 : Int64)) (own_d density))), .second, .val (.int dp), .unset, .unset] [(.int (mode &&& (1 : Int32)))])) t_ := by
      intro t_ k_
      by_cases hc37 : (mode &&& (1 : Int32)) = (0 : Int32)
      · refine XS.ifYes X1.here hx rfl (pc0 := 37) (pc' := 74) rfl (hb hby at_37) rfl ((if0 _ _).trans (teq hc37).1) (by decide) (by decide) ?_
        show Steps p_.tables e_ below (T1.setTop (mkF m_ 74 #[.val (.int pixels), .val (.int density), .val (.int dp), .val (.int mode), .val (.int (own_d density)), .val (.long ((pixels.toInt64) * (160 : Int64))), .second, .val (.long (f1 ((pixels.toInt64) * (160 : Int64)) (own_d density))), .second, .val (.int dp), .unset, .unset] [])) t_
        simp only [own_tg, if_pos hc37] at k_
        exact k_
      · refine XS.ifNo X1.here hx rfl (hb hby at_37) rfl ((if0 _ _).trans (feq hc37).1) ?_
        show Steps p_.tables e_ below (T1.setTop (mkF m_ 40 #[.val (.int pixels), .val (.int density), .val (.int dp), .val (.int mode), .val (.int (own_d density)), .val (.long ((pixels.toInt64) * (160 : Int64))), .second, .val (.long (f1 ((pixels.toInt64) * (160 : Int64)) (own_d density))), .second, .val (.int dp), .unset, .unset] [])) t_
        refine XS.lload X1.here hx rfl (hb hby at_40) rfl ?_
        show Steps p_.tables e_ below (T1.setTop (mkF m_ 42 #[.val (.int pixels), .val (.int density), .val (.int dp), .val (.int mode), .val (.int (own_d density)), .val (.long ((pixels.toInt64) * (160 : Int64))), .second, .val (.long (f1 ((pixels.toInt64) * (160 : Int64)) (own_d density))), .second, .val (.int dp), .unset, .unset] [(.long (f1 ((pixels.toInt64) * (160 : Int64)) (own_d density)))])) t_
        refine XS.iloadN X1.here hx rfl (hb hby at_42) rfl ?_
        show Steps p_.tables e_ below (T1.setTop (mkF m_ 43 #[.val (.int pixels), .val (.int density), .val (.int dp), .val (.int mode), .val (.int (own_d density)), .val (.long ((pixels.toInt64) * (160 : Int64))), .second, .val (.long (f1 ((pixels.toInt64) * (160 : Int64)) (own_d density))), .second, .val (.int dp), .unset, .unset] [(.int mode), (.long (f1 ((pixels.toInt64) * (160 : Int64)) (own_d density)))])) t_
        refine XS.iconst X1.here hx rfl (hb hby at_43) ?_
        show Steps p_.tables e_ below (T1.setTop (mkF m_ 44 #[.val (.int pixels), .val (.int density), .val (.int dp), .val (.int mode), .val (.int (own_d density)), .val (.long ((pixels.toInt64) * (160 : Int64))), .second, .val (.long (f1 ((pixels.toInt64) * (160 : Int64)) (own_d density))), .second, .val (.int dp), .unset, .unset] [(.int (1 : Int32)), (.int mode), (.long (f1 ((pixels.toInt64) * (160 : Int64)) (own_d density)))])) t_
        refine XS.ishr X1.here hx rfl (hb hby at_44) rfl ?_
        show Steps p_.tables e_ below (T1.setTop (mkF m_ 45 #[.val (.int pixels), .val (.int density), .val (.int dp), .val (.int mode), .val (.int (own_d density)), .val (.long ((pixels.toInt64) * (160 : Int64))), .second, .val (.long (f1 ((pixels.toInt64) * (160 : Int64)) (own_d density))), .second, .val (.int dp), .unset, .unset] [(.int (mode >>> ((1 : Int32) &&& 31))), (.long (f1 ((pixels.toInt64) * (160 : Int64)) (own_d density)))])) t_
        refine XS.iconst X1.here hx rfl (hb hby at_45) ?_
        show Steps p_.tables e_ below (T1.setTop (mkF m_ 46 #[.val (.int pixels), .val (.int density), .val (.int dp), .val (.int mode), .val (.int (own_d density)), .val (.long ((pixels.toInt64) * (160 : Int64))), .second, .val (.long (f1 ((pixels.toInt64) * (160 : Int64)) (own_d density))), .second, .val (.int dp), .unset, .unset] [(.int (1 : Int32)), (.int (mode >>> ((1 : Int32) &&& 31))), (.long (f1 ((pixels.toInt64) * (160 : Int64)) (own_d density)))])) t_
        refine XS.iand X1.here hx rfl (hb hby at_46) rfl ?_
        show Steps p_.tables e_ below (T1.setTop (mkF m_ 47 #[.val (.int pixels), .val (.int density), .val (.int dp), .val (.int mode), .val (.int (own_d density)), .val (.long ((pixels.toInt64) * (160 : Int64))), .second, .val (.long (f1 ((pixels.toInt64) * (160 : Int64)) (own_d density))), .second, .val (.int dp), .unset, .unset] [(.int ((mode >>> ((1 : Int32) &&& 31)) &&& (1 : Int32))), (.long (f1 ((pixels.toInt64) * (160 : Int64)) (own_d density)))])) t_
        refine XS.i2l X1.here hx rfl (hb hby at_47) rfl ?_
        show Steps p_.tables e_ below (T1.setTop (mkF m_ 48 #[.val (.int pixels), .val (.int density), .val (.int dp), .val (.int mode), .val (.int (own_d density)), .val (.long ((pixels.toInt64) * (160 : Int64))), .second, .val (.long (f1 ((pixels.toInt64) * (160 : Int64)) (own_d density))), .second, .val (.int dp), .unset, .unset] [(.long (((mode >>> ((1 : Int32) &&& 31)) &&& (1 : Int32)).toInt64)), (.long (f1 ((pixels.toInt64) * (160 : Int64)) (own_d density)))])) t_
        refine XS.ladd X1.here hx rfl (hb hby at_48) rfl ?_
        show Steps p_.tables e_ below (T1.setTop (mkF m_ 49 #[.val (.int pixels), .val (.int density), .val (.int dp), .val (.int mode), .val (.int (own_d density)), .val (.long ((pixels.toInt64) * (160 : Int64))), .second, .val (.long (f1 ((pixels.toInt64) * (160 : Int64)) (own_d density))), .second, .val (.int dp), .unset, .unset] [(.long ((f1 ((pixels.toInt64) * (160 : Int64)) (own_d density)) + (((mode >>> ((1 : Int32) &&& 31)) &&& (1 : Int32)).toInt64)))])) t_
        refine XS.lstore X1.here hx rfl (hb hby at_49) rfl (l' := #[.val (.int pixels), .val (.int density), .val (.int dp), .val (.int mode), .val (.int (own_d density)), .val (.long ((pixels.toInt64) * (160 : Int64))), .second, .val (.long (f1 ((pixels.toInt64) * (160 : Int64)) (own_d density))), .second, .val (.int dp), .val (.long ((f1 ((pixels.toInt64) * (160 : Int64)) (own_d density)) + (((mode >>> ((1 : Int32) &&& 31)) &&& (1 : Int32)).toInt64))), .second]) rfl ?_
        show Steps p_.tables e_ below (T1.setTop (mkF m_ 51 #[.val (.int pixels), .val (.int density), .val (.int dp), .val (.int mode), .val (.int (own_d density)), .val (.long ((pixels.toInt64) * (160 : Int64))), .second, .val (.long (f1 ((pixels.toInt64) * (160 : Int64)) (own_d density))), .second, .val (.int dp), .val (.long ((f1 ((pixels.toInt64) * (160 : Int64)) (own_d density)) + (((mode >>> ((1 : Int32) &&& 31)) &&& (1 : Int32)).toInt64))), .second] [])) t_
        refine XS.lload X1.here hx rfl (hb hby at_51) rfl ?_
        show Steps p_.tables e_ below (T1.setTop (mkF m_ 53 #[.val (.int pixels), .val (.int density), .val (.int dp), .val (.int mode), .val (.int (own_d density)), .val (.long ((pixels.toInt64) * (160 : Int64))), .second, .val (.long (f1 ((pixels.toInt64) * (160 : Int64)) (own_d density))), .second, .val (.int dp), .val (.long ((f1 ((pixels.toInt64) * (160 : Int64)) (own_d density)) + (((mode >>> ((1 : Int32) &&& 31)) &&& (1 : Int32)).toInt64))), .second] [(.long ((f1 ((pixels.toInt64) * (160 : Int64)) (own_d density)) + (((mode >>> ((1 : Int32) &&& 31)) &&& (1 : Int32)).toInt64)))])) t_
        refine X1.ldc2Long hx hown (mvT hZ (hw _ (List.mem_of_getElem? (i := 6) rfl))) (g := (mkF m_ 53 #[.val (.int pixels), .val (.int density), .val (.int dp), .val (.int mode), .val (.int (own_d density)), .val (.long ((pixels.toInt64) * (160 : Int64))), .second, .val (.long (f1 ((pixels.toInt64) * (160 : Int64)) (own_d density))), .second, .val (.int dp), .val (.long ((f1 ((pixels.toInt64) * (160 : Int64)) (own_d density)) + (((mode >>> ((1 : Int32) &&& 31)) &&& (1 : Int32)).toInt64))), .second] [(.long ((f1 ((pixels.toInt64) * (160 : Int64)) (own_d density)) + (((mode >>> ((1 : Int32) &&& 31)) &&& (1 : Int32)).toInt64)))])) rfl (hb hby at_53) _ ?_
        show Steps p_.tables e_ below (T1.setTop (mkF m_ 56 #[.val (.int pixels), .val (.int density), .val (.int dp), .val (.int mode), .val (.int (own_d density)), .val (.long ((pixels.toInt64) * (160 : Int64))), .second, .val (.long (f1 ((pixels.toInt64) * (160 : Int64)) (own_d density))), .second, .val (.int dp), .val (.long ((f1 ((pixels.toInt64) * (160 : Int64)) (own_d density)) + (((mode >>> ((1 : Int32) &&& 31)) &&& (1 : Int32)).toInt64))), .second] [(.long (-2147483648 : Int64)), (.long ((f1 ((pixels.toInt64) * (160 : Int64)) (own_d density)) + (((mode >>> ((1 : Int32) &&& 31)) &&& (1 : Int32)).toInt64)))])) t_
        refine XS.lcmp X1.here hx rfl (hb hby at_56) rfl ?_
        show Steps p_.tables e_ below (T1.setTop (mkF m_ 57 #[.val (.int pixels), .val (.int density), .val (.int dp), .val (.int mode), .val (.int (own_d density)), .val (.long ((pixels.toInt64) * (160 : Int64))), .second, .val (.long (f1 ((pixels.toInt64) * (160 : Int64)) (own_d density))), .second, .val (.int dp), .val (.long ((f1 ((pixels.toInt64) * (160 : Int64)) (own_d density)) + (((mode >>> ((1 : Int32) &&& 31)) &&& (1 : Int32)).toInt64))), .second] [(.int (lcmpW ((f1 ((pixels.toInt64) * (160 : Int64)) (own_d density)) + (((mode >>> ((1 : Int32) &&& 31)) &&& (1 : Int32)).toInt64)) (-2147483648 : Int64)))])) t_
        have jn57 : ∀ t_, Steps p_.tables e_ below (T1.setTop (mkF m_ 74 #[.val (.int pixels), .val (.int density), .val (.int dp), .val (.int mode), .val (.int (own_d density)), .val (.long ((pixels.toInt64) * (160 : Int64))), .second, .val (.long (f1 ((pixels.toInt64) * (160 : Int64)) (own_d density))), .second, .val (.int (if ((f1 ((pixels.toInt64) * (160 : Int64)) (own_d density)) + (((mode >>> ((1 : Int32) &&& 31)) &&& (1 : Int32)).toInt64)) < (-2147483648 : Int64) then dp else (if (2147483647 : Int64) < ((f1 ((pixels.toInt64) * (160 : Int64)) (own_d density)) + (((mode >>> ((1 : Int32) &&& 31)) &&& (1 : Int32)).toInt64)) then dp else (((f1 ((pixels.toInt64) * (160 : Int64)) (own_d density)) + (((mode >>> ((1 : Int32) &&& 31)) &&& (1 : Int32)).toInt64)).toInt32)))), .val (.long ((f1 ((pixels.toInt64) * (160 : Int64)) (own_d density)) + (((mode >>> ((1 : Int32) &&& 31)) &&& (1 : Int32)).toInt64))), .second] [])) t_ → Steps p_.tables e_ below (T1.setTop (mkF m_ 57 #[.val (.int pixels), .val (.int density), .val (.int dp), .val (.int mode), .val (.int (own_d density)), .val (.long ((pixels.toInt64) * (160 : Int64))), .second, .val (.long (f1 ((pixels.toInt64) * (160 : Int64)) (own_d density))), .second, .val (.int dp), .val (.long ((f1 ((pixels.toInt64) * (160 : Int64)) (own_d density)) + (((mode >>> ((1 : Int32) &&& 31)) &&& (1 : Int32)).toInt64))), .second] [(.int (lcmpW ((f1 ((pixels.toInt64) * (160 : Int64)) (own_d density)) + (((mode >>> ((1 : Int32) &&& 31)) &&& (1 : Int32)).toInt64)) (-2147483648 : Int64)))])) t_ := by
          intro t_ k_
          by_cases hc57 : ((f1 ((pixels.toInt64) * (160 : Int64)) (own_d density)) + (((mode >>> ((1 : Int32) &&& 31)) &&& (1 : Int32)).toInt64)) < (-2147483648 : Int64)
          · refine XS.ifYes X1.here hx rfl (pc0 := 57) (pc' := 74) rfl (hb hby at_57) rfl ((if0 _ _).trans (tlt ((lw_lt ((f1 ((pixels.toInt64) * (160 : Int64)) (own_d density)) + (((mode >>> ((1 : Int32) &&& 31)) &&& (1 : Int32)).toInt64)) (-2147483648 : Int64)).mpr hc57)).1) (by decide) (by decide) ?_
            show Steps p_.tables e_ below (T1.setTop (mkF m_ 74 #[.val (.int pixels), .val (.int density), .val (.int dp), .val (.int mode), .val (.int (own_d density)), .val (.long ((pixels.toInt64) * (160 : Int64))), .second, .val (.long (f1 ((pixels.toInt64) * (160 : Int64)) (own_d density))), .second, .val (.int dp), .val (.long ((f1 ((pixels.toInt64) * (160 : Int64)) (own_d density)) + (((mode >>> ((1 : Int32) &&& 31)) &&& (1 : Int32)).toInt64))), .second] [])) t_
            simp only [if_pos hc57] at k_
            exact k_
          · refine XS.ifNo X1.here hx rfl (hb hby at_57) rfl ((if0 _ _).trans (flt (fun q => hc57 ((lw_lt ((f1 ((pixels.toInt64) * (160 : Int64)) (own_d density)) + (((mode >>> ((1 : Int32) &&& 31)) &&& (1 : Int32)).toInt64)) (-2147483648 : Int64)).mp q))).1) ?_
            show Steps p_.tables e_ below (T1.setTop (mkF m_ 60 #[.val (.int pixels), .val (.int density), .val (.int dp), .val (.int mode), .val (.int (own_d density)), .val (.long ((pixels.toInt64) * (160 : Int64))), .second, .val (.long (f1 ((pixels.toInt64) * (160 : Int64)) (own_d density))), .second, .val (.int dp), .val (.long ((f1 ((pixels.toInt64) * (160 : Int64)) (own_d density)) + (((mode >>> ((1 : Int32) &&& 31)) &&& (1 : Int32)).toInt64))), .second] [])) t_
            refine XS.lload X1.here hx rfl (hb hby at_60) rfl ?_
            show Steps p_.tables e_ below (T1.setTop (mkF m_ 62 #[.val (.int pixels), .val (.int density), .val (.int dp), .val (.int mode), .val (.int (own_d density)), .val (.long ((pixels.toInt64) * (160 : Int64))), .second, .val (.long (f1 ((pixels.toInt64) * (160 : Int64)) (own_d density))), .second, .val (.int dp), .val (.long ((f1 ((pixels.toInt64) * (160 : Int64)) (own_d density)) + (((mode >>> ((1 : Int32) &&& 31)) &&& (1 : Int32)).toInt64))), .second] [(.long ((f1 ((pixels.toInt64) * (160 : Int64)) (own_d density)) + (((mode >>> ((1 : Int32) &&& 31)) &&& (1 : Int32)).toInt64)))])) t_
            refine X1.ldc2Long hx hown (mvT hZ (hw _ (List.mem_of_getElem? (i := 7) rfl))) (g := (mkF m_ 62 #[.val (.int pixels), .val (.int density), .val (.int dp), .val (.int mode), .val (.int (own_d density)), .val (.long ((pixels.toInt64) * (160 : Int64))), .second, .val (.long (f1 ((pixels.toInt64) * (160 : Int64)) (own_d density))), .second, .val (.int dp), .val (.long ((f1 ((pixels.toInt64) * (160 : Int64)) (own_d density)) + (((mode >>> ((1 : Int32) &&& 31)) &&& (1 : Int32)).toInt64))), .second] [(.long ((f1 ((pixels.toInt64) * (160 : Int64)) (own_d density)) + (((mode >>> ((1 : Int32) &&& 31)) &&& (1 : Int32)).toInt64)))])) rfl (hb hby at_62) _ ?_
            show Steps p_.tables e_ below (T1.setTop (mkF m_ 65 #[.val (.int pixels), .val (.int density), .val (.int dp), .val (.int mode), .val (.int (own_d density)), .val (.long ((pixels.toInt64) * (160 : Int64))), .second, .val (.long (f1 ((pixels.toInt64) * (160 : Int64)) (own_d density))), .second, .val (.int dp), .val (.long ((f1 ((pixels.toInt64) * (160 : Int64)) (own_d density)) + (((mode >>> ((1 : Int32) &&& 31)) &&& (1 : Int32)).toInt64))), .second] [(.long (2147483647 : Int64)), (.long ((f1 ((pixels.toInt64) * (160 : Int64)) (own_d density)) + (((mode >>> ((1 : Int32) &&& 31)) &&& (1 : Int32)).toInt64)))])) t_
            refine XS.lcmp X1.here hx rfl (hb hby at_65) rfl ?_
            show Steps p_.tables e_ below (T1.setTop (mkF m_ 66 #[.val (.int pixels), .val (.int density), .val (.int dp), .val (.int mode), .val (.int (own_d density)), .val (.long ((pixels.toInt64) * (160 : Int64))), .second, .val (.long (f1 ((pixels.toInt64) * (160 : Int64)) (own_d density))), .second, .val (.int dp), .val (.long ((f1 ((pixels.toInt64) * (160 : Int64)) (own_d density)) + (((mode >>> ((1 : Int32) &&& 31)) &&& (1 : Int32)).toInt64))), .second] [(.int (lcmpW ((f1 ((pixels.toInt64) * (160 : Int64)) (own_d density)) + (((mode >>> ((1 : Int32) &&& 31)) &&& (1 : Int32)).toInt64)) (2147483647 : Int64)))])) t_
            have jn66 : ∀ t_, Steps p_.tables e_ below (T1.setTop (mkF m_ 74 #[.val (.int pixels), .val (.int density), .val (.int dp), .val (.int mode), .val (.int (own_d density)), .val (.long ((pixels.toInt64) * (160 : Int64))), .second, .val (.long (f1 ((pixels.toInt64) * (160 : Int64)) (own_d density))), .second, .val (.int (if (2147483647 : Int64) < ((f1 ((pixels.toInt64) * (160 : Int64)) (own_d density)) + (((mode >>> ((1 : Int32) &&& 31)) &&& (1 : Int32)).toInt64)) then dp else (((f1 ((pixels.toInt64) * (160 : Int64)) (own_d density)) + (((mode >>> ((1 : Int32) &&& 31)) &&& (1 : Int32)).toInt64)).toInt32))), .val (.long ((f1 ((pixels.toInt64) * (160 : Int64)) (own_d density)) + (((mode >>> ((1 : Int32) &&& 31)) &&& (1 : Int32)).toInt64))), .second] [])) t_ → Steps p_.tables e_ below (T1.setTop (mkF m_ 66 #[.val (.int pixels), .val (.int density), .val (.int dp), .val (.int mode), .val (.int (own_d density)), .val (.long ((pixels.toInt64) * (160 : Int64))), .second, .val (.long (f1 ((pixels.toInt64) * (160 : Int64)) (own_d density))), .second, .val (.int dp), .val (.long ((f1 ((pixels.toInt64) * (160 : Int64)) (own_d density)) + (((mode >>> ((1 : Int32) &&& 31)) &&& (1 : Int32)).toInt64))), .second] [(.int (lcmpW ((f1 ((pixels.toInt64) * (160 : Int64)) (own_d density)) + (((mode >>> ((1 : Int32) &&& 31)) &&& (1 : Int32)).toInt64)) (2147483647 : Int64)))])) t_ := by
              intro t_ k_
              by_cases hc66 : (2147483647 : Int64) < ((f1 ((pixels.toInt64) * (160 : Int64)) (own_d density)) + (((mode >>> ((1 : Int32) &&& 31)) &&& (1 : Int32)).toInt64))
              · refine XS.ifYes X1.here hx rfl (pc0 := 66) (pc' := 74) rfl (hb hby at_66) rfl ((if0 _ _).trans (tlt ((lw_gt ((f1 ((pixels.toInt64) * (160 : Int64)) (own_d density)) + (((mode >>> ((1 : Int32) &&& 31)) &&& (1 : Int32)).toInt64)) (2147483647 : Int64)).mpr hc66)).2.2.1) (by decide) (by decide) ?_
                show Steps p_.tables e_ below (T1.setTop (mkF m_ 74 #[.val (.int pixels), .val (.int density), .val (.int dp), .val (.int mode), .val (.int (own_d density)), .val (.long ((pixels.toInt64) * (160 : Int64))), .second, .val (.long (f1 ((pixels.toInt64) * (160 : Int64)) (own_d density))), .second, .val (.int dp), .val (.long ((f1 ((pixels.toInt64) * (160 : Int64)) (own_d density)) + (((mode >>> ((1 : Int32) &&& 31)) &&& (1 : Int32)).toInt64))), .second] [])) t_
                simp only [if_pos hc66] at k_
                exact k_
              · refine XS.ifNo X1.here hx rfl (hb hby at_66) rfl ((if0 _ _).trans (flt (fun q => hc66 ((lw_gt ((f1 ((pixels.toInt64) * (160 : Int64)) (own_d density)) + (((mode >>> ((1 : Int32) &&& 31)) &&& (1 : Int32)).toInt64)) (2147483647 : Int64)).mp q))).2.2.1) ?_
                show Steps p_.tables e_ below (T1.setTop (mkF m_ 69 #[.val (.int pixels), .val (.int density), .val (.int dp), .val (.int mode), .val (.int (own_d density)), .val (.long ((pixels.toInt64) * (160 : Int64))), .second, .val (.long (f1 ((pixels.toInt64) * (160 : Int64)) (own_d density))), .second, .val (.int dp), .val (.long ((f1 ((pixels.toInt64) * (160 : Int64)) (own_d density)) + (((mode >>> ((1 : Int32) &&& 31)) &&& (1 : Int32)).toInt64))), .second] [])) t_
                refine XS.lload X1.here hx rfl (hb hby at_69) rfl ?_
                show Steps p_.tables e_ below (T1.setTop (mkF m_ 71 #[.val (.int pixels), .val (.int density), .val (.int dp), .val (.int mode), .val (.int (own_d density)), .val (.long ((pixels.toInt64) * (160 : Int64))), .second, .val (.long (f1 ((pixels.toInt64) * (160 : Int64)) (own_d density))), .second, .val (.int dp), .val (.long ((f1 ((pixels.toInt64) * (160 : Int64)) (own_d density)) + (((mode >>> ((1 : Int32) &&& 31)) &&& (1 : Int32)).toInt64))), .second] [(.long ((f1 ((pixels.toInt64) * (160 : Int64)) (own_d density)) + (((mode >>> ((1 : Int32) &&& 31)) &&& (1 : Int32)).toInt64)))])) t_
                refine XS.l2i X1.here hx rfl (hb hby at_71) rfl ?_
                show Steps p_.tables e_ below (T1.setTop (mkF m_ 72 #[.val (.int pixels), .val (.int density), .val (.int dp), .val (.int mode), .val (.int (own_d density)), .val (.long ((pixels.toInt64) * (160 : Int64))), .second, .val (.long (f1 ((pixels.toInt64) * (160 : Int64)) (own_d density))), .second, .val (.int dp), .val (.long ((f1 ((pixels.toInt64) * (160 : Int64)) (own_d density)) + (((mode >>> ((1 : Int32) &&& 31)) &&& (1 : Int32)).toInt64))), .second] [(.int (((f1 ((pixels.toInt64) * (160 : Int64)) (own_d density)) + (((mode >>> ((1 : Int32) &&& 31)) &&& (1 : Int32)).toInt64)).toInt32))])) t_
                refine XS.istore X1.here hx rfl (hb hby at_72) rfl (l' := #[.val (.int pixels), .val (.int density), .val (.int dp), .val (.int mode), .val (.int (own_d density)), .val (.long ((pixels.toInt64) * (160 : Int64))), .second, .val (.long (f1 ((pixels.toInt64) * (160 : Int64)) (own_d density))), .second, .val (.int (((f1 ((pixels.toInt64) * (160 : Int64)) (own_d density)) + (((mode >>> ((1 : Int32) &&& 31)) &&& (1 : Int32)).toInt64)).toInt32)), .val (.long ((f1 ((pixels.toInt64) * (160 : Int64)) (own_d density)) + (((mode >>> ((1 : Int32) &&& 31)) &&& (1 : Int32)).toInt64))), .second]) rfl ?_
                show Steps p_.tables e_ below (T1.setTop (mkF m_ 74 #[.val (.int pixels), .val (.int density), .val (.int dp), .val (.int mode), .val (.int (own_d density)), .val (.long ((pixels.toInt64) * (160 : Int64))), .second, .val (.long (f1 ((pixels.toInt64) * (160 : Int64)) (own_d density))), .second, .val (.int (((f1 ((pixels.toInt64) * (160 : Int64)) (own_d density)) + (((mode >>> ((1 : Int32) &&& 31)) &&& (1 : Int32)).toInt64)).toInt32)), .val (.long ((f1 ((pixels.toInt64) * (160 : Int64)) (own_d density)) + (((mode >>> ((1 : Int32) &&& 31)) &&& (1 : Int32)).toInt64))), .second] [])) t_
                simp only [if_neg hc66] at k_
                exact k_
            refine jn66 _ ?_
            show Steps p_.tables e_ below (T1.setTop (mkF m_ 74 #[.val (.int pixels), .val (.int density), .val (.int dp), .val (.int mode), .val (.int (own_d density)), .val (.long ((pixels.toInt64) * (160 : Int64))), .second, .val (.long (f1 ((pixels.toInt64) * (160 : Int64)) (own_d density))), .second, .val (.int (if (2147483647 : Int64) < ((f1 ((pixels.toInt64) * (160 : Int64)) (own_d density)) + (((mode >>> ((1 : Int32) &&& 31)) &&& (1 : Int32)).toInt64)) then dp else (((f1 ((pixels.toInt64) * (160 : Int64)) (own_d density)) + (((mode >>> ((1 : Int32) &&& 31)) &&& (1 : Int32)).toInt64)).toInt32))), .val (.long ((f1 ((pixels.toInt64) * (160 : Int64)) (own_d density)) + (((mode >>> ((1 : Int32) &&& 31)) &&& (1 : Int32)).toInt64))), .second] [])) t_
            simp only [if_neg hc57] at k_
            exact k_
        refine jn57 _ ?_
        show Steps p_.tables e_ below (T1.setTop (mkF m_ 74 #[.val (.int pixels), .val (.int density), .val (.int dp), .val (.int mode), .val (.int (own_d density)), .val (.long ((pixels.toInt64) * (160 : Int64))), .second, .val (.long (f1 ((pixels.toInt64) * (160 : Int64)) (own_d density))), .second, .val (.int (if ((f1 ((pixels.toInt64) * (160 : Int64)) (own_d density)) + (((mode >>> ((1 : Int32) &&& 31)) &&& (1 : Int32)).toInt64)) < (-2147483648 : Int64) then dp else (if (2147483647 : Int64) < ((f1 ((pixels.toInt64) * (160 : Int64)) (own_d density)) + (((mode >>> ((1 : Int32) &&& 31)) &&& (1 : Int32)).toInt64)) then dp else (((f1 ((pixels.toInt64) * (160 : Int64)) (own_d density)) + (((mode >>> ((1 : Int32) &&& 31)) &&& (1 : Int32)).toInt64)).toInt32)))), .val (.long ((f1 ((pixels.toInt64) * (160 : Int64)) (own_d density)) + (((mode >>> ((1 : Int32) &&& 31)) &&& (1 : Int32)).toInt64))), .second] [])) t_
        simp only [own_tg, if_neg hc37] at k_
        exact k_
    refine jn37 _ ?_
    show Steps p_.tables e_ below (T1.setTop (mkF m_ 74 #[.val (.int pixels), .val (.int density), .val (.int dp), .val (.int mode), .val (.int (own_d density)), .val (.long ((pixels.toInt64) * (160 : Int64))), .second, .val (.long (f1 ((pixels.toInt64) * (160 : Int64)) (own_d density))), .second, .val (.int (own_tg pixels density dp mode)), (if (mode &&& (1 : Int32)) = (0 : Int32) then Slot.unset else Slot.val (.long ((f1 ((pixels.toInt64) * (160 : Int64)) (own_d density)) + (((mode >>> ((1 : Int32) &&& 31)) &&& (1 : Int32)).toInt64)))), (if (mode &&& (1 : Int32)) = (0 : Int32) then Slot.unset else Slot.second)] [])) t_
    refine XS.lload X1.here hx rfl (hb hby at_74) rfl ?_
    show Steps p_.tables e_ below (T1.setTop (mkF m_ 76 #[.val (.int pixels), .val (.int density), .val (.int dp), .val (.int mode), .val (.int (own_d density)), .val (.long ((pixels.toInt64) * (160 : Int64))), .second, .val (.long (f1 ((pixels.toInt64) * (160 : Int64)) (own_d density))), .second, .val (.int (own_tg pixels density dp mode)), (if (mode &&& (1 : Int32)) = (0 : Int32) then Slot.unset else Slot.val (.long ((f1 ((pixels.toInt64) * (160 : Int64)) (own_d density)) + (((mode >>> ((1 : Int32) &&& 31)) &&& (1 : Int32)).toInt64)))), (if (mode &&& (1 : Int32)) = (0 : Int32) then Slot.unset else Slot.second)] [(.long (f1 ((pixels.toInt64) * (160 : Int64)) (own_d density)))])) t_
    refine XS.iload X1.here hx rfl (hb hby at_76) rfl ?_
    show Steps p_.tables e_ below (T1.setTop (mkF m_ 78 #[.val (.int pixels), .val (.int density), .val (.int dp), .val (.int mode), .val (.int (own_d density)), .val (.long ((pixels.toInt64) * (160 : Int64))), .second, .val (.long (f1 ((pixels.toInt64) * (160 : Int64)) (own_d density))), .second, .val (.int (own_tg pixels density dp mode)), (if (mode &&& (1 : Int32)) = (0 : Int32) then Slot.unset else Slot.val (.long ((f1 ((pixels.toInt64) * (160 : Int64)) (own_d density)) + (((mode >>> ((1 : Int32) &&& 31)) &&& (1 : Int32)).toInt64)))), (if (mode &&& (1 : Int32)) = (0 : Int32) then Slot.unset else Slot.second)] [(.int (own_tg pixels density dp mode)), (.long (f1 ((pixels.toInt64) * (160 : Int64)) (own_d density)))])) t_
    refine XS.i2l X1.here hx rfl (hb hby at_78) rfl ?_
    show Steps p_.tables e_ below (T1.setTop (mkF m_ 79 #[.val (.int pixels), .val (.int density), .val (.int dp), .val (.int mode), .val (.int (own_d density)), .val (.long ((pixels.toInt64) * (160 : Int64))), .second, .val (.long (f1 ((pixels.toInt64) * (160 : Int64)) (own_d density))), .second, .val (.int (own_tg pixels density dp mode)), (if (mode &&& (1 : Int32)) = (0 : Int32) then Slot.unset else Slot.val (.long ((f1 ((pixels.toInt64) * (160 : Int64)) (own_d density)) + (((mode >>> ((1 : Int32) &&& 31)) &&& (1 : Int32)).toInt64)))), (if (mode &&& (1 : Int32)) = (0 : Int32) then Slot.unset else Slot.second)] [(.long ((own_tg pixels density dp mode).toInt64)), (.long (f1 ((pixels.toInt64) * (160 : Int64)) (own_d density)))])) t_
    refine XS.lcmp X1.here hx rfl (hb hby at_79) rfl ?_
    show Steps p_.tables e_ below (T1.setTop (mkF m_ 80 #[.val (.int pixels), .val (.int density), .val (.int dp), .val (.int mode), .val (.int (own_d density)), .val (.long ((pixels.toInt64) * (160 : Int64))), .second, .val (.long (f1 ((pixels.toInt64) * (160 : Int64)) (own_d density))), .second, .val (.int (own_tg pixels density dp mode)), (if (mode &&& (1 : Int32)) = (0 : Int32) then Slot.unset else Slot.val (.long ((f1 ((pixels.toInt64) * (160 : Int64)) (own_d density)) + (((mode >>> ((1 : Int32) &&& 31)) &&& (1 : Int32)).toInt64)))), (if (mode &&& (1 : Int32)) = (0 : Int32) then Slot.unset else Slot.second)] [(.int (lcmpW (f1 ((pixels.toInt64) * (160 : Int64)) (own_d density)) ((own_tg pixels density dp mode).toInt64)))])) t_
    have jn80 : ∀ t_, Steps p_.tables e_ below (T1.setTop (mkF m_ 88 #[.val (.int pixels), .val (.int density), .val (.int dp), .val (.int mode), .val (.int (own_d density)), .val (.long ((pixels.toInt64) * (160 : Int64))), .second, .val (.long (f1 ((pixels.toInt64) * (160 : Int64)) (own_d density))), .second, .val (.int (own_tg pixels density dp mode)), (if (mode &&& (1 : Int32)) = (0 : Int32) then Slot.unset else Slot.val (.long ((f1 ((pixels.toInt64) * (160 : Int64)) (own_d density)) + (((mode >>> ((1 : Int32) &&& 31)) &&& (1 : Int32)).toInt64)))), (if (mode &&& (1 : Int32)) = (0 : Int32) then Slot.unset else Slot.second)] [(.int (if (f1 ((pixels.toInt64) * (160 : Int64)) (own_d density)) < ((own_tg pixels density dp mode).toInt64) then (0 : Int32) else 1))])) t_ → Steps p_.tables e_ below (T1.setTop (mkF m_ 80 #[.val (.int pixels), .val (.int density), .val (.int dp), .val (.int mode), .val (.int (own_d density)), .val (.long ((pixels.toInt64) * (160 : Int64))), .second, .val (.long (f1 ((pixels.toInt64) * (160 : Int64)) (own_d density))), .second, .val (.int (own_tg pixels density dp mode)), (if (mode &&& (1 : Int32)) = (0 : Int32) then Slot.unset else Slot.val (.long ((f1 ((pixels.toInt64) * (160 : Int64)) (own_d density)) + (((mode >>> ((1 : Int32) &&& 31)) &&& (1 : Int32)).toInt64)))), (if (mode &&& (1 : Int32)) = (0 : Int32) then Slot.unset else Slot.second)] [(.int (lcmpW (f1 ((pixels.toInt64) * (160 : Int64)) (own_d density)) ((own_tg pixels density dp mode).toInt64)))])) t_ := by
      intro t_ k_
      by_cases hc80 : (f1 ((pixels.toInt64) * (160 : Int64)) (own_d density)) < ((own_tg pixels density dp mode).toInt64)
      · refine XS.ifYes X1.here hx rfl (pc0 := 80) (pc' := 87) rfl (hb hby at_80) rfl ((if0 _ _).trans (tlt ((lw_lt (f1 ((pixels.toInt64) * (160 : Int64)) (own_d density)) ((own_tg pixels density dp mode).toInt64)).mpr hc80)).1) (by decide) (by decide) ?_
        show Steps p_.tables e_ below (T1.setTop (mkF m_ 87 #[.val (.int pixels), .val (.int density), .val (.int dp), .val (.int mode), .val (.int (own_d density)), .val (.long ((pixels.toInt64) * (160 : Int64))), .second, .val (.long (f1 ((pixels.toInt64) * (160 : Int64)) (own_d density))), .second, .val (.int (own_tg pixels density dp mode)), (if (mode &&& (1 : Int32)) = (0 : Int32) then Slot.unset else Slot.val (.long ((f1 ((pixels.toInt64) * (160 : Int64)) (own_d density)) + (((mode >>> ((1 : Int32) &&& 31)) &&& (1 : Int32)).toInt64)))), (if (mode &&& (1 : Int32)) = (0 : Int32) then Slot.unset else Slot.second)] [])) t_
        refine XS.iconst X1.here hx rfl (hb hby at_87) ?_
        show Steps p_.tables e_ below (T1.setTop (mkF m_ 88 #[.val (.int pixels), .val (.int density), .val (.int dp), .val (.int mode), .val (.int (own_d density)), .val (.long ((pixels.toInt64) * (160 : Int64))), .second, .val (.long (f1 ((pixels.toInt64) * (160 : Int64)) (own_d density))), .second, .val (.int (own_tg pixels density dp mode)), (if (mode &&& (1 : Int32)) = (0 : Int32) then Slot.unset else Slot.val (.long ((f1 ((pixels.toInt64) * (160 : Int64)) (own_d density)) + (((mode >>> ((1 : Int32) &&& 31)) &&& (1 : Int32)).toInt64)))), (if (mode &&& (1 : Int32)) = (0 : Int32) then Slot.unset else Slot.second)] [(.int (0 : Int32))])) t_
        simp only [if_pos hc80] at k_
        exact k_
      · refine XS.ifNo X1.here hx rfl (hb hby at_80) rfl ((if0 _ _).trans (flt (fun q => hc80 ((lw_lt (f1 ((pixels.toInt64) * (160 : Int64)) (own_d density)) ((own_tg pixels density dp mode).toInt64)).mp q))).1) ?_
        show Steps p_.tables e_ below (T1.setTop (mkF m_ 83 #[.val (.int pixels), .val (.int density), .val (.int dp), .val (.int mode), .val (.int (own_d density)), .val (.long ((pixels.toInt64) * (160 : Int64))), .second, .val (.long (f1 ((pixels.toInt64) * (160 : Int64)) (own_d density))), .second, .val (.int (own_tg pixels density dp mode)), (if (mode &&& (1 : Int32)) = (0 : Int32) then Slot.unset else Slot.val (.long ((f1 ((pixels.toInt64) * (160 : Int64)) (own_d density)) + (((mode >>> ((1 : Int32) &&& 31)) &&& (1 : Int32)).toInt64)))), (if (mode &&& (1 : Int32)) = (0 : Int32) then Slot.unset else Slot.second)] [])) t_
        refine XS.iconst X1.here hx rfl (hb hby at_83) ?_
        show Steps p_.tables e_ below (T1.setTop (mkF m_ 84 #[.val (.int pixels), .val (.int density), .val (.int dp), .val (.int mode), .val (.int (own_d density)), .val (.long ((pixels.toInt64) * (160 : Int64))), .second, .val (.long (f1 ((pixels.toInt64) * (160 : Int64)) (own_d density))), .second, .val (.int (own_tg pixels density dp mode)), (if (mode &&& (1 : Int32)) = (0 : Int32) then Slot.unset else Slot.val (.long ((f1 ((pixels.toInt64) * (160 : Int64)) (own_d density)) + (((mode >>> ((1 : Int32) &&& 31)) &&& (1 : Int32)).toInt64)))), (if (mode &&& (1 : Int32)) = (0 : Int32) then Slot.unset else Slot.second)] [(.int (1 : Int32))])) t_
        refine XS.goto X1.here hx rfl (pc0 := 84) (pc' := 88) rfl (hb hby at_84) (by decide) (by decide) ?_
        show Steps p_.tables e_ below (T1.setTop (mkF m_ 88 #[.val (.int pixels), .val (.int density), .val (.int dp), .val (.int mode), .val (.int (own_d density)), .val (.long ((pixels.toInt64) * (160 : Int64))), .second, .val (.long (f1 ((pixels.toInt64) * (160 : Int64)) (own_d density))), .second, .val (.int (own_tg pixels density dp mode)), (if (mode &&& (1 : Int32)) = (0 : Int32) then Slot.unset else Slot.val (.long ((f1 ((pixels.toInt64) * (160 : Int64)) (own_d density)) + (((mode >>> ((1 : Int32) &&& 31)) &&& (1 : Int32)).toInt64)))), (if (mode &&& (1 : Int32)) = (0 : Int32) then Slot.unset else Slot.second)] [(.int (1 : Int32))])) t_
        simp only [if_neg hc80] at k_
        exact k_
    refine jn80 _ ?_
    show Steps p_.tables e_ below (T1.setTop (mkF m_ 88 #[.val (.int pixels), .val (.int density), .val (.int dp), .val (.int mode), .val (.int (own_d density)), .val (.long ((pixels.toInt64) * (160 : Int64))), .second, .val (.long (f1 ((pixels.toInt64) * (160 : Int64)) (own_d density))), .second, .val (.int (own_tg pixels density dp mode)), (if (mode &&& (1 : Int32)) = (0 : Int32) then Slot.unset else Slot.val (.long ((f1 ((pixels.toInt64) * (160 : Int64)) (own_d density)) + (((mode >>> ((1 : Int32) &&& 31)) &&& (1 : Int32)).toInt64)))), (if (mode &&& (1 : Int32)) = (0 : Int32) then Slot.unset else Slot.second)] [(.int (if (f1 ((pixels.toInt64) * (160 : Int64)) (own_d density)) < ((own_tg pixels density dp mode).toInt64) then (0 : Int32) else 1))])) t_
    refine XS.istore X1.here hx rfl (hb hby at_88) rfl (l' := #[.val (.int pixels), .val (.int density), .val (.int dp), .val (.int mode), .val (.int (own_d density)), .val (.long ((pixels.toInt64) * (160 : Int64))), .second, .val (.long (f1 ((pixels.toInt64) * (160 : Int64)) (own_d density))), .second, .val (.int (own_tg pixels density dp mode)), .val (.int (if (f1 ((pixels.toInt64) * (160 : Int64)) (own_d density)) < ((own_tg pixels density dp mode).toInt64) then (0 : Int32) else 1)), .unset]) (by by_cases q : ((mode &&& (1 : Int32)) = (0 : Int32)) <;> simp only [q, if_true, if_false] <;> rfl) ?_
    show Steps p_.tables e_ below (T1.setTop (mkF m_ 90 #[.val (.int pixels), .val (.int density), .val (.int dp), .val (.int mode), .val (.int (own_d density)), .val (.long ((pixels.toInt64) * (160 : Int64))), .second, .val (.long (f1 ((pixels.toInt64) * (160 : Int64)) (own_d density))), .second, .val (.int (own_tg pixels density dp mode)), .val (.int (if (f1 ((pixels.toInt64) * (160 : Int64)) (own_d density)) < ((own_tg pixels density dp mode).toInt64) then (0 : Int32) else 1)), .unset] [])) t_
    refine XS.iloadN X1.here hx rfl (hb hby at_90) rfl ?_
    show Steps p_.tables e_ below (T1.setTop (mkF m_ 91 #[.val (.int pixels), .val (.int density), .val (.int dp), .val (.int mode), .val (.int (own_d density)), .val (.long ((pixels.toInt64) * (160 : Int64))), .second, .val (.long (f1 ((pixels.toInt64) * (160 : Int64)) (own_d density))), .second, .val (.int (own_tg pixels density dp mode)), .val (.int (if (f1 ((pixels.toInt64) * (160 : Int64)) (own_d density)) < ((own_tg pixels density dp mode).toInt64) then (0 : Int32) else 1)), .unset] [(.int pixels)])) t_
    refine XS.iload X1.here hx rfl (hb hby at_91) rfl ?_
    show Steps p_.tables e_ below (T1.setTop (mkF m_ 93 #[.val (.int pixels), .val (.int density), .val (.int dp), .val (.int mode), .val (.int (own_d density)), .val (.long ((pixels.toInt64) * (160 : Int64))), .second, .val (.long (f1 ((pixels.toInt64) * (160 : Int64)) (own_d density))), .second, .val (.int (own_tg pixels density dp mode)), .val (.int (if (f1 ((pixels.toInt64) * (160 : Int64)) (own_d density)) < ((own_tg pixels density dp mode).toInt64) then (0 : Int32) else 1)), .unset] [(.int (own_d density)), (.int pixels)])) t_
    refine XS.iload X1.here hx rfl (hb hby at_93) rfl ?_
    show Steps p_.tables e_ below (T1.setTop (mkF m_ 95 #[.val (.int pixels), .val (.int density), .val (.int dp), .val (.int mode), .val (.int (own_d density)), .val (.long ((pixels.toInt64) * (160 : Int64))), .second, .val (.long (f1 ((pixels.toInt64) * (160 : Int64)) (own_d density))), .second, .val (.int (own_tg pixels density dp mode)), .val (.int (if (f1 ((pixels.toInt64) * (160 : Int64)) (own_d density)) < ((own_tg pixels density dp mode).toInt64) then (0 : Int32) else 1)), .unset] [(.int (own_tg pixels density dp mode)), (.int (own_d density)), (.int pixels)])) t_
    exact k_
  refine own_callS X1 hx hZ hown (hw _ (List.mem_of_getElem? (i := 8) rfl)) (hw _ (List.mem_of_getElem? (i := 9) rfl)) (hw _ (List.mem_of_getElem? (i := 10) rfl)) (hw _ (List.mem_of_getElem? (i := 11) rfl)) (by decide) [(.int pixels), (.int (own_d density)), (.int (own_tg pixels density dp mode))] [] (rm2 l Z a0 hw pixels (own_d density) (own_tg pixels density dp mode) h0 n0 Z0) 0 (by decide) (by decide) e1 (by rw [hml]; rfl) (lenOf own_pd1 rfl) rfl (Nat.le_of_eq rfl) (hb hby at_95) (by decide) (by decide) ?_
  intro v2 T2 L2 X2 q2
  obtain ⟨rfl, N2q, e2⟩ := q2
  have N2 := Fr.app N1 N2q
  show own_Out p_ e_ below s_ _ _ _ T2 (mkF m_ 98 #[.val (.int pixels), .val (.int density), .val (.int dp), .val (.int mode), .val (.int (own_d density)), .val (.long ((pixels.toInt64) * (160 : Int64))), .second, .val (.long (f1 ((pixels.toInt64) * (160 : Int64)) (own_d density))), .second, .val (.int (own_tg pixels density dp mode)), .val (.int (if (f1 ((pixels.toInt64) * (160 : Int64)) (own_d density)) < ((own_tg pixels density dp mode).toInt64) then (0 : Int32) else 1)), .unset] [(.int (f2 pixels (own_d density) (own_tg pixels density dp mode)))])
  refine own_st T2 (mkF m_ 108 #[.val (.int pixels), .val (.int density), .val (.int dp), .val (.int mode), .val (.int (own_d density)), .val (.long ((pixels.toInt64) * (160 : Int64))), .second, .val (.long (f1 ((pixels.toInt64) * (160 : Int64)) (own_d density))), .second, .val (.int (own_tg pixels density dp mode)), .val (.int (if (f1 ((pixels.toInt64) * (160 : Int64)) (own_d density)) < ((own_tg pixels density dp mode).toInt64) then (0 : Int32) else 1)), .unset] [(.int (if (f2 pixels (own_d density) (own_tg pixels density dp mode)) = (if (f1 ((pixels.toInt64) * (160 : Int64)) (own_d density)) < ((own_tg pixels density dp mode).toInt64) then (0 : Int32) else 1) then (1 : Int32) else 0))]) (fun t_ k_ => ?_) ?_
  · refine XS.iload X2.here hx rfl (hb hby at_98) rfl ?_
    show Steps p_.tables e_ below (T2.setTop (mkF m_ 100 #[.val (.int pixels), .val (.int density), .val (.int dp), .val (.int mode), .val (.int (own_d density)), .val (.long ((pixels.toInt64) * (160 : Int64))), .second, .val (.long (f1 ((pixels.toInt64) * (160 : Int64)) (own_d density))), .second, .val (.int (own_tg pixels density dp mode)), .val (.int (if (f1 ((pixels.toInt64) * (160 : Int64)) (own_d density)) < ((own_tg pixels density dp mode).toInt64) then (0 : Int32) else 1)), .unset] [(.int (if (f1 ((pixels.toInt64) * (160 : Int64)) (own_d density)) < ((own_tg pixels density dp mode).toInt64) then (0 : Int32) else 1)), (.int (f2 pixels (own_d density) (own_tg pixels density dp mode)))])) t_
    have jn100 : ∀ t_, Steps p_.tables e_ below (T2.setTop (mkF m_ 108 #[.val (.int pixels), .val (.int density), .val (.int dp), .val (.int mode), .val (.int (own_d density)), .val (.long ((pixels.toInt64) * (160 : Int64))), .second, .val (.long (f1 ((pixels.toInt64) * (160 : Int64)) (own_d density))), .second, .val (.int (own_tg pixels density dp mode)), .val (.int (if (f1 ((pixels.toInt64) * (160 : Int64)) (own_d density)) < ((own_tg pixels density dp mode).toInt64) then (0 : Int32) else 1)), .unset] [(.int (if (f2 pixels (own_d density) (own_tg pixels density dp mode)) = (if (f1 ((pixels.toInt64) * (160 : Int64)) (own_d density)) < ((own_tg pixels density dp mode).toInt64) then (0 : Int32) else 1) then (1 : Int32) else 0))])) t_ → Steps p_.tables e_ below (T2.setTop (mkF m_ 100 #[.val (.int pixels), .val (.int density), .val (.int dp), .val (.int mode), .val (.int (own_d density)), .val (.long ((pixels.toInt64) * (160 : Int64))), .second, .val (.long (f1 ((pixels.toInt64) * (160 : Int64)) (own_d density))), .second, .val (.int (own_tg pixels density dp mode)), .val (.int (if (f1 ((pixels.toInt64) * (160 : Int64)) (own_d density)) < ((own_tg pixels density dp mode).toInt64) then (0 : Int32) else 1)), .unset] [(.int (if (f1 ((pixels.toInt64) * (160 : Int64)) (own_d density)) < ((own_tg pixels density dp mode).toInt64) then (0 : Int32) else 1)), (.int (f2 pixels (own_d density) (own_tg pixels density dp mode)))])) t_ := by
      intro t_ k_
      by_cases hc100 : (f2 pixels (own_d density) (own_tg pixels density dp mode)) = (if (f1 ((pixels.toInt64) * (160 : Int64)) (own_d density)) < ((own_tg pixels density dp mode).toInt64) then (0 : Int32) else 1)
      · refine XS.icmpNo X2.here hx rfl (hb hby at_100) rfl (teq hc100).2 ?_
        show Steps p_.tables e_ below (T2.setTop (mkF m_ 103 #[.val (.int pixels), .val (.int density), .val (.int dp), .val (.int mode), .val (.int (own_d density)), .val (.long ((pixels.toInt64) * (160 : Int64))), .second, .val (.long (f1 ((pixels.toInt64) * (160 : Int64)) (own_d density))), .second, .val (.int (own_tg pixels density dp mode)), .val (.int (if (f1 ((pixels.toInt64) * (160 : Int64)) (own_d density)) < ((own_tg pixels density dp mode).toInt64) then (0 : Int32) else 1)), .unset] [])) t_
        refine XS.iconst X2.here hx rfl (hb hby at_103) ?_
        show Steps p_.tables e_ below (T2.setTop (mkF m_ 104 #[.val (.int pixels), .val (.int density), .val (.int dp), .val (.int mode), .val (.int (own_d density)), .val (.long ((pixels.toInt64) * (160 : Int64))), .second, .val (.long (f1 ((pixels.toInt64) * (160 : Int64)) (own_d density))), .second, .val (.int (own_tg pixels density dp mode)), .val (.int (if (f1 ((pixels.toInt64) * (160 : Int64)) (own_d density)) < ((own_tg pixels density dp mode).toInt64) then (0 : Int32) else 1)), .unset] [(.int (1 : Int32))])) t_
        refine XS.goto X2.here hx rfl (pc0 := 104) (pc' := 108) rfl (hb hby at_104) (by decide) (by decide) ?_
        show Steps p_.tables e_ below (T2.setTop (mkF m_ 108 #[.val (.int pixels), .val (.int density), .val (.int dp), .val (.int mode), .val (.int (own_d density)), .val (.long ((pixels.toInt64) * (160 : Int64))), .second, .val (.long (f1 ((pixels.toInt64) * (160 : Int64)) (own_d density))), .second, .val (.int (own_tg pixels density dp mode)), .val (.int (if (f1 ((pixels.toInt64) * (160 : Int64)) (own_d density)) < ((own_tg pixels density dp mode).toInt64) then (0 : Int32) else 1)), .unset] [(.int (1 : Int32))])) t_
        simp only [if_pos hc100] at k_
        exact k_
      · refine XS.icmpYes X2.here hx rfl (pc0 := 100) (pc' := 107) rfl (hb hby at_100) rfl (feq hc100).2 (by decide) (by decide) ?_
        show Steps p_.tables e_ below (T2.setTop (mkF m_ 107 #[.val (.int pixels), .val (.int density), .val (.int dp), .val (.int mode), .val (.int (own_d density)), .val (.long ((pixels.toInt64) * (160 : Int64))), .second, .val (.long (f1 ((pixels.toInt64) * (160 : Int64)) (own_d density))), .second, .val (.int (own_tg pixels density dp mode)), .val (.int (if (f1 ((pixels.toInt64) * (160 : Int64)) (own_d density)) < ((own_tg pixels density dp mode).toInt64) then (0 : Int32) else 1)), .unset] [])) t_
        refine XS.iconst X2.here hx rfl (hb hby at_107) ?_
        show Steps p_.tables e_ below (T2.setTop (mkF m_ 108 #[.val (.int pixels), .val (.int density), .val (.int dp), .val (.int mode), .val (.int (own_d density)), .val (.long ((pixels.toInt64) * (160 : Int64))), .second, .val (.long (f1 ((pixels.toInt64) * (160 : Int64)) (own_d density))), .second, .val (.int (own_tg pixels density dp mode)), .val (.int (if (f1 ((pixels.toInt64) * (160 : Int64)) (own_d density)) < ((own_tg pixels density dp mode).toInt64) then (0 : Int32) else 1)), .unset] [(.int (0 : Int32))])) t_
        simp only [if_neg hc100] at k_
        exact k_
    refine jn100 _ ?_
    show Steps p_.tables e_ below (T2.setTop (mkF m_ 108 #[.val (.int pixels), .val (.int density), .val (.int dp), .val (.int mode), .val (.int (own_d density)), .val (.long ((pixels.toInt64) * (160 : Int64))), .second, .val (.long (f1 ((pixels.toInt64) * (160 : Int64)) (own_d density))), .second, .val (.int (own_tg pixels density dp mode)), .val (.int (if (f1 ((pixels.toInt64) * (160 : Int64)) (own_d density)) < ((own_tg pixels density dp mode).toInt64) then (0 : Int32) else 1)), .unset] [(.int (if (f2 pixels (own_d density) (own_tg pixels density dp mode)) = (if (f1 ((pixels.toInt64) * (160 : Int64)) (own_d density)) < ((own_tg pixels density dp mode).toInt64) then (0 : Int32) else 1) then (1 : Int32) else 0))])) t_
    exact k_
  refine own_retN X2 hx hlk (t := .boolean) hret (by simp) (hb hby at_108) (by decide) (by decide) ?_
  exact ⟨by rw [own_law pixels density dp mode]; rfl, N2⟩
set_option maxRecDepth 65536 in
set_option maxHeartbeats 40000000 in
theorem comes_1 {Post : Tables → Env → Array Value → State → Outcome → State → Prop} (hpost : ∀ tb e args s v u, (limb_1_1.after args s (.returned v) u = true ∧ limb_1_2.after args s (.returned v) u = true ∧ True) → FrameEnd s (.returned v) u (Jvm.fieldLocs frame_1_writes args s ++ Jvm.arrayLocs frame_1_arrays args s ++ Jvm.staticLocs frame_1_statics s) 0 0 → Post tb e args s (.returned v) u) :
    ArmFor flags0 classFile x code maxLocals ret World_1 tables_1 room_1 Calls_1 rest_1 Pre_1 Post := by
  intro l hfl _ _ p e ha hc hk s m args below hf hA hF happ hP
  obtain ⟨hcalls, hrest, hpre⟩ := hP
  obtain ⟨-, -, -, hnamed, -, -, -, hat⟩ := (Spec.applies_iff hf).mp happ
  obtain ⟨hg, hn⟩ := and_e (Cond.before_iff.mp (show (Jvm.Cond.and given_1 narrow_1).before args s = true from hpre))
  obtain ⟨c0, r0⟩ := and_e hg
  obtain ⟨k0, r1⟩ := and_e r0
  obtain ⟨k1, r2⟩ := and_e r1
  obtain ⟨k2, r3⟩ := and_e r2
  obtain ⟨w0, w1, w2, w3, rfl⟩ : ∃ w0 w1 w2 w3 : Value, args = #[w0, w1, w2, w3] := by
    have hs : args.size = 4 := by simpa [Cond.value, given_1] using c0
    obtain ⟨L⟩ := args
    match L, hs with
    | [w0, w1, w2, w3], _ => exact ⟨w0, w1, w2, w3, rfl⟩
  have hw := fun d (hd : d ∈ tables_1) => atoms_spec (ws := Jvm.Cond.code x code maxLocals ret :: tables_1) hat d (List.mem_cons_of_mem _ hd)
  have hfit : Fit s := fun {y c} hc i hi => by
    obtain ⟨ha, rfl⟩ := Array.getElem?_eq_some_iff.mp hc
    have q := List.all_eq_true.mp ((Array.all_eq_true_iff_forall_mem.mp hF) _ (Array.getElem_mem ha)) i (List.mem_range.mpr hi)
    simpa [Array.getElem?_eq_getElem hi] using q
  obtain ⟨i0, ei0⟩ := is_v k0
  obtain rfl : w0 = (.int i0) := Option.some.inj ei0
  obtain ⟨i1, ei1⟩ := is_v k1
  obtain rfl : w1 = (.int i1) := Option.some.inj ei1
  obtain ⟨i2, ei2⟩ := is_v k2
  obtain rfl : w2 = (.int i2) := Option.some.inj ei2
  obtain ⟨i3, ei3⟩ := is_v r3
  obtain rfl : w3 = (.int i3) := Option.some.inj ei3
  obtain ⟨n, o, h1, h2, h3, _, L, rfl, ⟨rfl, N⟩, hq⟩ := rm0 l s _ hw i0 i1 i2 i3 s.heap s.heap.size (Nat.le_refl _)  tables_1 p e ha hc hk s m _ below hf ((Spec.applies_iff_loose hf).mp happ).1 ⟨rfl, State.Warmed39.refl s, rfl⟩ trivial
  refine ⟨n, _, h1, h2, h3, hpost _ _ _ _ _ _ ⟨Cond.after_iff.mpr rfl, Cond.after_iff.mpr (eq_i res_at (Term.int_eval (1)) rfl), trivial⟩ ⟨hq.1, hq.2.1, (hq.2.2.sift fun y hy => Or.inr (N y hy)).mono (by decide) (by decide)⟩⟩
theorem main_1_1 : Claimed_1_1 := comes_1 fun _ _ _ _ _ _ h hF => ⟨h.1, hF⟩
theorem main_1_2 : Claimed_1_2 := comes_1 fun _ _ _ _ _ _ h hF => ⟨h.2.1, hF⟩
end Jvm.Pilot.@@N@@
namespace Jvm.Pilot.@@N@@
open Jvm Jvm.ClassFile Sem Op Lib Jvm.Free Jvm.Stand Jvm.Pilot.@@N@@.Jvm.D
/-! MADE BY PROGRAM (witnessworld.py) out of the Statement's table words and the real class files: 9 classes; the members and pool entries that the words name. The judged class is class 1, her method 2. -/
namespace start1
open Jvm.ClassFile
def u (s : String) : CpInfo := .utf8 (stringToUtf16 s)
/-- a pool by its gaps: so many unusable entries, then the entry; so many at the end -/
def gap : Nat → List CpInfo → List CpInfo
  | 0, r => r
  | n + 1, r => .unusable :: gap n r
def poolList (es : List (Nat × CpInfo)) (last : Nat) : List CpInfo := es.foldr (fun e r => gap e.1 (e.2 :: r)) (gap last [])
def pool (es : List (Nat × CpInfo)) (last : Nat) : Array CpInfo := ⟨poolList es last⟩
def fileOf (pool : Array CpInfo) (this : Nat) (attrs : Array Attribute := #[]) (ms : Array MethodInfo := #[]) (fl : Nat := 33) (sup : Nat := 0) (ifs : Array Nat := #[]) (fds : Array FieldInfo := #[]) : ClassFile where
  minorVersion := 0
  majorVersion := 65
  constantPool := pool
  accessFlags := fl
  thisClass := this
  superClass := sup
  interfaces := ifs
  fields := fds
  methods := ms
  attributes := attrs
def plain (name : String) (sup : Option ClassId) : Class where
  name := name
  kind := .ordinary
  loader := none
  accessFlags := 33
  super := sup
  interfaces := #[]
  cf := none
  fields := #[]
  methods := #[]
  instanceTypes := #[]
  staticTypes := #[]
  resolved := #[]
  callSites := []
  init := .initialized
  statics := none
  mirror := none

def pool0 : Array CpInfo := pool [(5, u "<init>"), (0, u "()V"), (1, .class_ 10), (1, u "java/lang/Object")] 113

def k0m0 : Method := { name := "<init>", desc := "()V", sig := { parameters := [], returnType := none }, accessFlags := 1, code := none }
/-- java/lang/Object -/
def k0 : Class := { plain "java/lang/Object" none with
  accessFlags := 33
  interfaces := #[]
  cf := some (fileOf pool0 8 #[] #[{ accessFlags := 1, nameIndex := 5, descriptorIndex := 6, attributes := #[] }] 33 0 #[] #[])
  fields := #[]
  methods := #[k0m0]
  instanceTypes := #[]
  staticTypes := #[]
  resolved := Array.replicate 124 none
  statics := none }

def pool1 : Array CpInfo := pool [(2, .class_ 4), (1, u "java/lang/Object"), (0, u "<init>"), (0, u "()V"), (0, .integer 2147483647), (0, .long 160), (1, .methodref 11 12), (0, .class_ 13), (0, .nameAndType 14 15), (0, u "com/example/mustr/mustr/rules/DpAtLeastPinLaw"), (0, u "floorDivPos"), (0, u "(JI)J"), (0, .long 18446744071562067968), (1, .long 2147483647), (1, .methodref 21 22), (0, .class_ 23), (0, .nameAndType 24 25), (0, u "com/example/mustr/mustr/rules/Dp"), (0, u "atLeast"), (0, u "(III)Z"), (3, u "law"), (0, u "(IIII)Z")] 2

def k1m0 : Method := { name := "<init>", desc := "()V", sig := { parameters := [], returnType := none }, accessFlags := 2, code := none }
def k1c1 : Code := { maxStack := 4, maxLocals := 5, code := method_2_code, exceptionTable := #[], attributes := #[] }
def k1m1 : Method := { name := "floorDivPos", desc := "(JI)J", sig := { parameters := [.long, .int], returnType := some .long }, accessFlags := 10, code := some k1c1 }
def k1c2 : Code := { maxStack := 4, maxLocals := 12, code := code, exceptionTable := #[], attributes := #[] }
def k1m2 : Method := { name := "law", desc := "(IIII)Z", sig := { parameters := [.int, .int, .int, .int], returnType := some .boolean }, accessFlags := 9, code := some k1c2 }
/-- com/example/mustr/mustr/rules/DpAtLeastPinLaw -/
def k1 : Class := { plain "com/example/mustr/mustr/rules/DpAtLeastPinLaw" (some 0) with
  accessFlags := 49
  interfaces := #[]
  cf := some (fileOf pool1 11 #[] #[{ accessFlags := 2, nameIndex := 5, descriptorIndex := 6, attributes := #[] }, { accessFlags := 10, nameIndex := 14, descriptorIndex := 15, attributes := #[] }, { accessFlags := 9, nameIndex := 29, descriptorIndex := 30, attributes := #[] }] 49 2 #[] #[])
  fields := #[]
  methods := #[k1m0, k1m1, k1m2]
  instanceTypes := #[]
  staticTypes := #[]
  resolved := Array.replicate 33 none
  statics := none }

def pool2 : Array CpInfo := pool [(2, .class_ 4), (1, u "java/lang/Object"), (0, u "<init>"), (0, u "()V"), (0, .class_ 8), (0, u "com/example/mustr/mustr/rules/Dp"), (0, .long 160), (1, u "BASELINE_DENSITY"), (0, u "J"), (3, u "atLeast"), (0, u "(III)Z")] 3

def k2m0 : Method := { name := "<init>", desc := "()V", sig := { parameters := [], returnType := none }, accessFlags := 2, code := none }
def k2c1 : Code := { maxStack := 6, maxLocals := 3, code := prog_64_method_2_code, exceptionTable := #[], attributes := #[] }
def k2m1 : Method := { name := "atLeast", desc := "(III)Z", sig := { parameters := [.int, .int, .int], returnType := some .boolean }, accessFlags := 8, code := some k2c1 }
/-- com/example/mustr/mustr/rules/Dp -/
def k2 : Class := { plain "com/example/mustr/mustr/rules/Dp" (some 0) with
  accessFlags := 48
  interfaces := #[]
  cf := some (fileOf pool2 7 #[] #[{ accessFlags := 2, nameIndex := 5, descriptorIndex := 6, attributes := #[] }, { accessFlags := 8, nameIndex := 16, descriptorIndex := 17, attributes := #[] }] 48 2 #[] #[{ accessFlags := 26, nameIndex := 11, descriptorIndex := 12, attributes := #[] }])
  fields := #[{ name := "BASELINE_DENSITY", type := .long, accessFlags := 26, slot := 0, constantValue := 0 }]
  methods := #[k2m0, k2m1]
  instanceTypes := #[]
  staticTypes := #[.long]
  resolved := Array.replicate 21 none
  statics := none }

def pool3 : Array CpInfo := pool [(1, u "java/lang/Cloneable"), (0, .class_ 1), (0, u "java/lang/Object"), (0, .class_ 3)] 3

/-- java/lang/Cloneable -/
def k3 : Class := { plain "java/lang/Cloneable" (some 0) with
  accessFlags := 1537
  interfaces := #[]
  cf := some (fileOf pool3 2 #[] #[] 1537 4 #[] #[])
  fields := #[]
  methods := #[]
  instanceTypes := #[]
  staticTypes := #[]
  resolved := Array.replicate 8 none
  statics := none }

def pool4 : Array CpInfo := pool [(1, u "java/io/Serializable"), (0, .class_ 1), (0, u "java/lang/Object"), (0, .class_ 3)] 3

/-- java/io/Serializable -/
def k4 : Class := { plain "java/io/Serializable" (some 0) with
  accessFlags := 1537
  interfaces := #[]
  cf := some (fileOf pool4 2 #[] #[] 1537 4 #[] #[])
  fields := #[]
  methods := #[]
  instanceTypes := #[]
  staticTypes := #[]
  resolved := Array.replicate 8 none
  statics := none }

/-- the primitive byte -/
def k5 : Class := { plain "byte" none with kind := .primitive 'B', accessFlags := 0x411 }
/-- [B -/
def k6 : Class := { plain "[B" (some 0) with kind := .array 5 .byte, interfaces := #[3, 4], accessFlags := 1041 }

/-- the primitive int -/
def k7 : Class := { plain "int" none with kind := .primitive 'I', accessFlags := 0x411 }
/-- [I -/
def k8 : Class := { plain "[I" (some 0) with kind := .array 7 .int, interfaces := #[3, 4], accessFlags := 1041 }

def heap : Heap := #[]
def classes : Array Class := #[k0, k1, k2, k3, k4, k5, k6, k7, k8]
def interned : List (Array UInt16 × Addr) := []
def slotsUsed : Nat := 0
def theMethod : MethodId := ⟨1, 2⟩
def args0 : Array Value := #[.int 5, .int 300, .int 7, .int 3]
def aboutOver (below : List Frame) : State where
  vm := { classes := classes, interned := interned.toArray }
  heap := heap
  slotsUsed := slotsUsed
  threads := #[{ frames := .invoking theMethod args0 :: below }]
def below0 : List Frame := [.native { method := ⟨0, 0⟩, args := #[] }]
def about1 : State := aboutOver below0
def p0 : Program := .bare "" "" ""
def e0 : Env := launch0.env 0 0 0
theorem w_frames : about1.frames = Frame.invoking theMethod args0 :: below0 := rfl
set_option maxRecDepth 65536 in
theorem w_args : argsFit about1.vm theMethod args0 = true := by decide +kernel
set_option maxRecDepth 65536 in
theorem w_heap : heapFits about1 = true := by decide +kernel
set_option maxRecDepth 65536 in
theorem w_runnable : about1.curStatus? = some .runnable := by decide +kernel
set_option maxRecDepth 65536 in
theorem w_alone : about1.alone = true := by decide +kernel
set_option maxRecDepth 65536 in
theorem w_named : about1.methodNamed? x = some theMethod := by decide +kernel
set_option maxRecDepth 65536 in
theorem w_hears : about1.hears theMethod below0 = true := by decide +kernel
set_option maxRecDepth 65536 in
theorem w_ripe : about1.ripe theMethod args0 below0 = true := by decide +kernel
theorem w_running : about1.status = .running := rfl
set_option maxRecDepth 65536 in
theorem w_room : about1.hasRoom e0.platform room_1 = true :=
  launch0.hasRoom_least _ room_1 (by decide +kernel) (by decide +kernel) (by decide +kernel) (by decide +kernel) (by decide +kernel) (by decide +kernel)
theorem allAtoms_all (ts : List Jvm.Cond) (a : Array Jvm.Value) (st : Jvm.State) : (allAtoms ts).before a st = ts.all (fun c => c.before a st) := by
  induction ts with
  | nil => rfl
  | cons c t ih =>
    show (Jvm.Cond.and c (allAtoms t)).before a st = _
    rw [Jvm.Cond.before_and, ih, List.all_cons]
def words1 : List Jvm.Cond := Jvm.Cond.code x code maxLocals ret :: tables_1
/-- a 'code' word, met by the world's own term for the bytes: nothing is compared byte by byte -/
theorem code_word {y : MethodName} {bytes : ByteArray} {mx : Nat} {rt : Option FieldType} {a : Array Value} {s : State} {m : MethodId} {meth : Method} {c : Code} (h1 : s.methodNamed? y = some m) (h2 : s.vm.method? m = some meth) (h3 : meth.code = some c) (h4 : c.code = bytes)
    (h5 : (c.maxLocals == mx && c.exceptionTable.isEmpty && decide (c.maxStack ≤ mostOperands) && decide (meth.sig.returnType = rt) && !meth.locks && decide (parseMethodDescriptor y.desc = some meth.sig)) = true) : (Jvm.Cond.code y bytes mx rt).before a s = true := by
  simp only [Bool.and_eq_true, beq_iff_eq, Bool.not_eq_true', decide_eq_true_eq] at h5
  obtain ⟨⟨⟨⟨⟨g1, g2⟩, g3⟩, g4⟩, g5⟩, g6⟩ := h5
  simp [Cond.before, Cond.holds, Cond.value, h1, h2, h3, h4, g1, g2, g3, g4, g5, g6]
def isCode : Jvm.Cond → Bool
  | .code _ _ _ _ => true
  | _ => false
theorem all_split {L : List Jvm.Cond} {P : Jvm.Cond → Bool} (h1 : L.all (fun c => isCode c || P c) = true) (h2 : ∀ c ∈ L.filter isCode, P c = true) : L.all P = true := by
  refine List.all_eq_true.mpr fun c hc => ?_
  have h := List.all_eq_true.mp h1 c hc
  rcases Bool.eq_false_or_eq_true (isCode c) with hi | hi
  · exact h2 c (List.mem_filter.mpr ⟨hc, hi⟩)
  · simpa [hi] using h
set_option maxRecDepth 65536 in
theorem w_c0 : (Jvm.Cond.code x code maxLocals ret).before args0 about1 = true := code_word (m := ⟨1, 2⟩) (meth := k1m2) (c := k1c2) (by decide +kernel) rfl rfl rfl (by decide +kernel)
set_option maxRecDepth 65536 in
theorem w_c1 : (Jvm.Cond.code ({ cls := "com/example/mustr/mustr/rules/DpAtLeastPinLaw", name := "floorDivPos", desc := "(JI)J" } : Jvm.MethodName) method_2_code (5 : Nat) (Option.some Jvm.ClassFile.FieldType.long)).before args0 about1 = true := code_word (m := ⟨1, 1⟩) (meth := k1m1) (c := k1c1) (by decide +kernel) rfl rfl rfl (by decide +kernel)
set_option maxRecDepth 65536 in
theorem w_c2 : (Jvm.Cond.code ({ cls := "com/example/mustr/mustr/rules/Dp", name := "atLeast", desc := "(III)Z" } : Jvm.MethodName) prog_64_method_2_code (3 : Nat) (Option.some Jvm.ClassFile.FieldType.boolean)).before args0 about1 = true := code_word (m := ⟨2, 1⟩) (meth := k2m1) (c := k2c1) (by decide +kernel) rfl rfl rfl (by decide +kernel)
def codes1 : List Jvm.Cond := [Jvm.Cond.code x code maxLocals ret, Jvm.Cond.code ({ cls := "com/example/mustr/mustr/rules/DpAtLeastPinLaw", name := "floorDivPos", desc := "(JI)J" } : Jvm.MethodName) method_2_code (5 : Nat) (Option.some Jvm.ClassFile.FieldType.long), Jvm.Cond.code ({ cls := "com/example/mustr/mustr/rules/Dp", name := "atLeast", desc := "(III)Z" } : Jvm.MethodName) prog_64_method_2_code (3 : Nat) (Option.some Jvm.ClassFile.FieldType.boolean)]
set_option maxRecDepth 65536 in
theorem codes_eq : words1.filter isCode = codes1 := rfl
theorem w_codes : ∀ c ∈ words1.filter isCode, c.before args0 about1 = true := by
  rw [codes_eq]
  intro c hc
  simp only [codes1, List.mem_cons, List.not_mem_nil, or_false] at hc
  rcases hc with rfl | rfl | rfl
  · exact w_c0
  · exact w_c1
  · exact w_c2
set_option maxRecDepth 65536 in
theorem w_t1 : words1.all (fun c => isCode c || c.before args0 about1) = true := by decide +kernel
theorem w_tables : (allAtoms (Jvm.Cond.code x code maxLocals ret :: tables_1)).before args0 about1 = true := by
  rw [allAtoms_all]
  show words1.all (fun c => c.before args0 about1) = true
  refine all_split ?_ w_codes
  rw [w_t1]
set_option maxRecDepth 65536 in
theorem w_case : (Jvm.Cond.and given_1 narrow_1).before args0 about1 = true := by decide +kernel
theorem w_applies : (headSpec (Jvm.Cond.code x code maxLocals ret :: tables_1) room_1).applies x e0.platform about1 = true :=
  (Spec.applies_iff w_frames).mpr ⟨w_running, w_runnable, w_alone, w_named, w_hears, w_ripe, w_room, w_tables⟩
theorem atStart : AtStart classFile x code maxLocals ret World_1 tables_1 room_1 Calls_1 rest_1 Pre_1 launch0 p0 e0 about1 theMethod args0 below0 :=
  ⟨lists_1, trivial, launch0.admits_env _ _ _, launch0.least_env, fairChoices_fair.cas, fairChoices_fair.clock, w_frames, w_args, w_heap, w_applies, trivial, trivial, w_case⟩
end start1
theorem witness_1 : WitnessClaimed_1 := ⟨start1.p0, start1.e0, start1.about1, start1.theMethod, start1.args0, start1.below0, start1.atStart⟩
end Jvm.Pilot.@@N@@
