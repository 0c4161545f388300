import JvmDerived
import JvmDerived.Pilot.@@N@@Statement
import JvmDerived.Pilot.@@N@@Code
set_option linter.unusedVariables false
set_option linter.unusedSimpArgs false
namespace Jvm.Pilot.@@N@@
open Jvm Jvm.ClassFile Sem Op Lib Jvm.Free Jvm.Stand Jvm.LawKit Jvm.RoadKit Bundle Jvm.Pilot.@@N@@.Jvm.D
/-! own_Out: from the frame g over T the run comes to a return of which Q speaks. A walk is a proof of own_Out from its entry, backwards step by step; so it may fork. -/
section OwnKit
variable {p : Program} {l : Launch} {e : Env} {R : Room} {s : State} {m : MethodId} {args : Array Value} {below : List Frame} {meth : Method} {c : Code} {T : State} {locs : List Loc} {cells slots kc ks : Nat} {Z : State} {a0 : Array Value} {h h' h0 : Heap} {Q : Option Value → Heap → List Loc → Prop} {g : JFrame}
def own_Out (p : Program) (e : Env) (below : List Frame) (s : State) (Q : Option Value → Heap → List Loc → Prop) (kc ks : Nat) (T : State) (g : JFrame) : Prop :=
  ∃ U o, Steps p.tables e below (T.setTop g) U ∧ U.status = .running ∧ Ended U below o ∧ ∃ v L, o = .returned v ∧ Q v U.heap L ∧ FrameEnd s o U L kc ks
theorem own_st (T' : State) (g' : JFrame) (st : ∀ t, Steps p.tables e below (T'.setTop g') t → Steps p.tables e below (T.setTop g) t) (k : own_Out p e below s Q kc ks T' g') : own_Out p e below s Q kc ks T g := by
  obtain ⟨U, o, h1, h2⟩ := k; exact ⟨U, o, st _ h1, h2⟩
theorem own_tr (T' : State) (g' : JFrame) (st : Steps p.tables e below (T.setTop g) (T'.setTop g')) (k : own_Out p e below s Q kc ks T' g') : own_Out p e below s Q kc ks T g := by
  obtain ⟨U, o, h1, h2⟩ := k; exact ⟨U, o, st.trans h1, h2⟩
theorem own_ret (X : Stand p l e R s m args below meth c T locs cells slots) (hx : p.tables.exec = Jvm.exec) (hlk : meth.locks = false) {pc : Nat} {Ls : Array Slot} {w : Value} {t : FieldType} {i : Instr} {rest : List Value} (hret : meth.sig.returnType = some t) (hn : narrow t w = w)
    (hi : (i = .ireturn ∧ (t = .int ∨ t = .boolean ∨ t = .byte ∨ t = .char ∨ t = .short) ∧ ∃ z, w = .int z) ∨ (i = .lreturn ∧ t = .long ∧ ∃ z, w = .long z) ∨ (i = .dreturn ∧ t = .double ∧ ∃ z, w = .double z) ∨ (i = .freturn ∧ t = .float ∧ ∃ z, w = .float z) ∨ (i = .areturn ∧ t.isReference = true ∧ w.isRef = true))
    (hd : decode c.code pc = .ok (i, 1)) (hc : cells ≤ kc) (hs : slots ≤ ks) (hq : Q (some w) T.heap locs) : own_Out p e below s Q kc ks T (mkF m pc Ls (w :: rest)) := by
  obtain ⟨fs, hr, hrun, hended, hW, hsame⟩ := X.leave (v := some w) (fun h => by rw [hret] at h; cases h) hlk
  exact ⟨_, _, retOut X hx hret hn hi hd hr, hrun, hended, _, _, rfl, hq, ⟨_, rfl⟩, hW, hsame.mono hc hs⟩
theorem own_retI (X : Stand p l e R s m args below meth c T locs cells slots) (hx : p.tables.exec = Jvm.exec) (hlk : meth.locks = false) {pc : Nat} {Ls : Array Slot} {z : Int32} {rest : List Value} (hret : meth.sig.returnType = some .int)
    (hd : decode c.code pc = .ok (.ireturn, 1)) (hc : cells ≤ kc) (hs : slots ≤ ks) (hq : Q (some (.int z)) T.heap locs) : own_Out p e below s Q kc ks T (mkF m pc Ls (.int z :: rest)) :=
  own_ret X hx hlk hret rfl (Or.inl ⟨rfl, Or.inl rfl, z, rfl⟩) hd hc hs hq
theorem own_retJ (X : Stand p l e R s m args below meth c T locs cells slots) (hx : p.tables.exec = Jvm.exec) (hlk : meth.locks = false) {pc : Nat} {Ls : Array Slot} {z : Int64} {rest : List Value} (hret : meth.sig.returnType = some .long)
    (hd : decode c.code pc = .ok (.lreturn, 1)) (hc : cells ≤ kc) (hs : slots ≤ ks) (hq : Q (some (.long z)) T.heap locs) : own_Out p e below s Q kc ks T (mkF m pc Ls (.long z :: rest)) :=
  own_ret X hx hlk hret rfl (Or.inr (Or.inl ⟨rfl, rfl, z, rfl⟩)) hd hc hs hq
theorem own_nref {t : FieldType} {w : Value} (ht : t.isReference = true) (hw : w.isRef = true) : narrow t w = w := by
  cases t <;> first | (cases ht; done) | (cases w <;> first | rfl | (cases hw; done))
theorem own_retA (X : Stand p l e R s m args below meth c T locs cells slots) (hx : p.tables.exec = Jvm.exec) (hlk : meth.locks = false) {pc : Nat} {Ls : Array Slot} {w : Value} {t : FieldType} {rest : List Value} (hret : meth.sig.returnType = some t) (ht : t.isReference = true) (hw : w.isRef = true)
    (hd : decode c.code pc = .ok (.areturn, 1)) (hc : cells ≤ kc) (hs : slots ≤ ks) (hq : Q (some w) T.heap locs) : own_Out p e below s Q kc ks T (mkF m pc Ls (w :: rest)) :=
  own_ret X hx hlk hret (own_nref ht hw) (Or.inr (Or.inr (Or.inr (Or.inr ⟨rfl, ht, hw⟩)))) hd hc hs hq
theorem own_retN (X : Stand p l e R s m args below meth c T locs cells slots) (hx : p.tables.exec = Jvm.exec) (hlk : meth.locks = false) {pc : Nat} {Ls : Array Slot} {z : Int32} {t : FieldType} {rest : List Value} (hret : meth.sig.returnType = some t) (ht : t = .boolean ∨ t = .byte ∨ t = .char ∨ t = .short)
    (hd : decode c.code pc = .ok (.ireturn, 1)) (hc : cells ≤ kc) (hs : slots ≤ ks) (hq : Q (some (.int (nar t z))) T.heap locs) : own_Out p e below s Q kc ks T (mkF m pc Ls (.int z :: rest)) := by
  obtain ⟨fs, hr, hrun, hended, hW, hsame⟩ := X.leave (v := some (.int (nar t z))) (fun h => by rw [hret] at h; cases h) hlk
  exact ⟨_, _, retN X hx hret ht hd hr, hrun, hended, _, _, rfl, hq, ⟨_, rfl⟩, hW, hsame.mono hc hs⟩
theorem own_ret0 (X : Stand p l e R s m args below meth c T locs cells slots) (hx : p.tables.exec = Jvm.exec) (hlk : meth.locks = false) {pc : Nat} {Ls : Array Slot} (hret : meth.sig.returnType = none)
    (hd : decode c.code pc = .ok (.return_, 1)) (hc : cells ≤ kc) (hs : slots ≤ ks) (hq : Q none T.heap locs) : own_Out p e below s Q kc ks T (mkF m pc Ls []) := by
  obtain ⟨fs, hr, hrun, hended, hW, hsame⟩ := X.leave (v := none) (fun _ => rfl) hlk
  exact ⟨_, _, X.returnOut hx hret hd hr, hrun, hended, _, _, rfl, hq, ⟨_, rfl⟩, hW, hsame.mono hc hs⟩
/-- a method's contract at the arguments as' over the heap h0 -/
def own_Met (l : Launch) (Z : State) (y : MethodName) (bytes : ByteArray) (maxL : Nat) (ret : Option FieldType) (rm : Room) (as' : Array Value) (h0 : Heap) (Q : Option Value → Heap → List Loc → Prop) : Prop :=
  ∀ ws : List Jvm.Cond, MetFree l y (head1 (Jvm.Cond.code y bytes maxL ret :: ws) rm) (fun a U => a = as' ∧ Z.Warmed39 U.vm ∧ U.heap = h0) (fun _ _ _ _ _ => True) (fun _ U o U' => ∃ v L, o = .returned v ∧ Q v U'.heap L ∧ FrameEnd U o U' L rm.cells rm.slots)
theorem own_body {y : MethodName} {bytes : ByteArray} {maxL : Nat} {ret : Option FieldType} {rm : Room} {as' : Array Value} (Ls : Array Slot) (hp : plainFor y = true) (hef : ∀ m, entryFrame m as' maxL = mkF m 0 Ls [])
    (hbody : ∀ (p : Program) (e : Env) (s : State) (m : MethodId) (below : List Frame) (meth : Method) (c : Code) (s₁ : State), Stand p l e rm s m as' below meth c s₁ [] 0 0 → p.tables.exec = Jvm.exec → c.code = bytes → c.maxLocals = maxL → meth.sig.returnType = ret → meth.locks = false → Z.Warmed39 s.vm → s.vm.findClass y.cls = some m.cls → meth.name = y.name → s₁.heap = h0 →
      own_Out p e below s Q rm.cells rm.slots s₁ (mkF m 0 Ls [])) : own_Met l Z y bytes maxL ret rm as' h0 Q := by
  intro ws
  refine MetFree.of_bodySF hp hisR ?_
  intro p e s m args below meth c s₁ Bd hml0 hP hK
  obtain ⟨rfl, hZ, hh⟩ := hP
  have X0 : Stand p l e rm s m args below meth c s₁ [] 0 0 := Stand.of_body Bd
  have e0 : s₁.heap = h0 := by rw [← hh, Bd.state]; rfl
  obtain ⟨U, o, h1, h2⟩ := hbody p e s m below meth c s₁ X0 Bd.exec Bd.bytes hml0 Bd.returns Bd.notSynchronized hZ (findClass_of_methodNamed Bd.named) (name_of_methodNamed Bd.named Bd.method).1 e0
  exact ⟨U, o, castTop (hef m) h1, h2⟩
theorem own_callS (X : Stand p l e R s m args below meth c T locs cells slots) (hx : p.tables.exec = Jvm.exec) (hZ : Z.Warmed39 s.vm) {own : String} {index : Nat} {y : MethodName} {bytes : ByteArray} {maxL : Nat} {ret : Option FieldType} (hown : s.vm.findClass own = some m.cls)
    (w1 : (Cond.methodLink own index y).before a0 Z = true) (w2 : (Cond.static y).before a0 Z = true) (w3 : (Cond.initialized y.cls).before a0 Z = true) (w4 : (Cond.code y bytes maxL ret).before a0 Z = true) (hy : y.cls ≠ "java/lang/invoke/MethodHandle" ∧ y.cls ≠ "java/lang/invoke/VarHandle")
    {rm : Room} (argsL rest : List Value) {Qc : Option Value → Heap → List Loc → Prop} (M : own_Met l Z y bytes maxL ret rm argsL.toArray h Qc) (W : Nat) (hf : rm.frames + 1 ≤ R.frames) (hl : W + (maxL + 11) + rm.locals ≤ R.locals) (eT : T.heap = h)
    {pc : Nat} {Ls : Array Slot} {st : List Value} (hsize : Ls.size = c.maxLocals) (hlen : ∀ sig, parseMethodDescriptor y.desc = some sig → argsL.length = sig.parameters.length) (hstack : st = argsL.reverse ++ rest) (hW : (rest.map fun v => v.category).sum ≤ W)
    (hd : decode c.code pc = .ok (.invokestatic index, 3)) (hc : cells + rm.cells ≤ R.cells) (hs : slots + rm.slots ≤ R.slots)
    (k : ∀ v T' L, Stand p l e R s m args below meth c T' (locs ++ L) (cells + rm.cells) (slots + rm.slots) → Qc v T'.heap L → own_Out p e below s Q kc ks T' (mkF m (pc + 3) Ls (v.toList ++ rest))) : own_Out p e below s Q kc ks T (mkF m pc Ls st) := by
  obtain ⟨v, vm1, ⟨T', L', c', n'⟩, -, X', ⟨L, hQ, r1, r2, r3⟩, stp⟩ := Jvm.LawKit.callS X hx (y := y) (bytes := bytes) (maxL := maxL) (ret := ret) hown (mvT hZ w1) (mvT hZ w2) (mvT hZ w3) (mvT hZ w4) hy (backOf (W := W) (M []) hZ w4 w3 hf hl) (g := mkF m pc Ls st) rfl hsize (argsL := argsL) (rest := rest) hlen hstack (by show 2 * 0 + _ ≤ _; omega) hd (fun _ _ => ⟨rfl, eT, hc, hs⟩)
  dsimp only [Pt.U, Pt.locs, Pt.cells, Pt.slots] at X' r1 r2 r3 stp hQ
  subst r1 r2 r3
  exact own_st _ _ stp (k v T' L X' hQ)
theorem own_callC (X : Stand p l e R s m args below meth c T locs cells slots) (hx : p.tables.exec = Jvm.exec) (hZ : Z.Warmed39 s.vm) {own : String} {index : Nat} {y : MethodName} {bytes : ByteArray} {maxL : Nat} (hy1 : y.name = "<init>") (hown : s.vm.findClass own = some m.cls)
    (w1 : (Cond.methodLink own index y).before a0 Z = true) (w2 : (Cond.instanceMethod y).before a0 Z = true) (w3 : (Cond.initialized y.cls).before a0 Z = true) (w4 : (Cond.code y bytes maxL none).before a0 Z = true) (hy : y.cls ≠ "java/lang/invoke/MethodHandle" ∧ y.cls ≠ "java/lang/invoke/VarHandle")
    {rm : Room} (a : Addr) (argsL rest : List Value) {Qc : Option Value → Heap → List Loc → Prop} (M : own_Met l Z y bytes maxL none rm (.ref a :: argsL).toArray h Qc) (W : Nat) (hf : rm.frames + 1 ≤ R.frames) (hl : W + (maxL + 11) + rm.locals ≤ R.locals) (eT : T.heap = h)
    {pc : Nat} {Ls : Array Slot} {st : List Value} (hsize : Ls.size = c.maxLocals) (hlen : ∀ sig, parseMethodDescriptor y.desc = some sig → argsL.length = sig.parameters.length) (hstack : st = argsL.reverse ++ .ref a :: rest) (hW : (rest.map fun v => v.category).sum ≤ W)
    (hd : decode c.code pc = .ok (.invokespecial index, 3)) (hc : cells + rm.cells ≤ R.cells) (hs : slots + rm.slots ≤ R.slots)
    (k : ∀ v T' L, Stand p l e R s m args below meth c T' (locs ++ L) (cells + rm.cells) (slots + rm.slots) → Qc v T'.heap L → own_Out p e below s Q kc ks T' (mkF m (pc + 3) Ls (v.toList ++ rest))) : own_Out p e below s Q kc ks T (mkF m pc Ls st) := by
  obtain ⟨v, vm1, ⟨T', L', c', n'⟩, -, X', ⟨L, hQ, r1, r2, r3⟩, stp⟩ := X.specialBack hx (y := y) (bytes := bytes) (maxL := maxL) hy1 hown (mvT hZ w1) (mvT hZ w2) (mvT hZ w4) hy (backOf (W := W) (M []) hZ w4 w3 hf hl) (g := mkF m pc Ls st) rfl hsize (Steps.refl _) (a := a) (argsL := argsL) (rest := rest) hlen hstack (by show 2 * 0 + _ ≤ _; omega) hd (fun _ _ => ⟨rfl, eT, hc, hs⟩)
  dsimp only [Pt.U, Pt.locs, Pt.cells, Pt.slots] at X' r1 r2 r3 stp hQ
  subst r1 r2 r3
  exact own_tr _ _ stp (k v T' L X' hQ)
theorem own_callV (X : Stand p l e R s m args below meth c T locs cells slots) (hx : p.tables.exec = Jvm.exec) (hZ : Z.Warmed39 s.vm) {own C : String} {index : Nat} {y z : MethodName} {bytes : ByteArray} {maxL : Nat} {ret : Option FieldType} (hown : s.vm.findClass own = some m.cls)
    (w1 : (Cond.methodLink own index y).before a0 Z = true) (w2 : (Cond.declares y).before a0 Z = true) (hnf : NotFace s y) (w5 : (Cond.selects C y z).before a0 Z = true) (w6 : (Cond.instanceMethod z).before a0 Z = true) (w3 : (Cond.initialized z.cls).before a0 Z = true) (w4 : (Cond.code z bytes maxL ret).before a0 Z = true) (hy : y.cls ≠ "java/lang/invoke/MethodHandle" ∧ y.cls ≠ "java/lang/invoke/VarHandle")
    {rm : Room} (a : Addr) (argsL rest : List Value) {Qc : Option Value → Heap → List Loc → Prop} (E : Exa Z h a C) (M : own_Met l Z z bytes maxL ret rm (.ref a :: argsL).toArray h Qc) (W : Nat) (hf : rm.frames + 1 ≤ R.frames) (hl : W + (maxL + 11) + rm.locals ≤ R.locals) (eT : T.heap = h)
    {pc : Nat} {Ls : Array Slot} {st : List Value} (hsize : Ls.size = c.maxLocals) (hlen : ∀ sig, parseMethodDescriptor y.desc = some sig → argsL.length = sig.parameters.length) (hstack : st = argsL.reverse ++ .ref a :: rest) (hW : (rest.map fun v => v.category).sum ≤ W)
    (hd : decode c.code pc = .ok (.invokevirtual index, 3)) (hc : cells + rm.cells ≤ R.cells) (hs : slots + rm.slots ≤ R.slots)
    (k : ∀ v T' L, Stand p l e R s m args below meth c T' (locs ++ L) (cells + rm.cells) (slots + rm.slots) → Qc v T'.heap L → own_Out p e below s Q kc ks T' (mkF m (pc + 3) Ls (v.toList ++ rest))) : own_Out p e below s Q kc ks T (mkF m pc Ls st) := by
  obtain ⟨cq, kq, qa, qb, qc⟩ := isOf hZ eT E
  obtain ⟨v, vm1, ⟨T', L', c', n'⟩, -, X', ⟨L, hQ, r1, r2, r3⟩, stp⟩ := X.virtualBack hx (y := y) (z := z) hown (mvT hZ w1) (mvT hZ w2) hnf (mvT hZ w5) (mvT hZ w6) hy (backOf (W := W) (M []) hZ w4 w3 hf hl) qa qc (g := mkF m pc Ls st) rfl hsize (Steps.refl _) (argsL := argsL) (rest := rest) hlen hstack (by show 2 * 0 + _ ≤ _; omega) hd (fun _ _ => ⟨rfl, eT, hc, hs⟩)
  dsimp only [Pt.U, Pt.locs, Pt.cells, Pt.slots] at X' r1 r2 r3 stp hQ
  subst r1 r2 r3
  exact own_tr _ _ stp (k v T' L X' hQ)
theorem own_callI (X : Stand p l e R s m args below meth c T locs cells slots) (hx : p.tables.exec = Jvm.exec) (hZ : Z.Warmed39 s.vm) {own C : String} {index count : Nat} {xi y : MethodName} {bytes : ByteArray} {maxL : Nat} {ret : Option FieldType} (hown : s.vm.findClass own = some m.cls)
    (w1 : (Cond.methodLink own index xi).before args s = true) (w2 : (Cond.declares xi).before args s = true) (w7 : (Cond.interfaceMethod xi.cls xi.cls xi.name xi.desc).before args s = true) (w5 : (Cond.selects C xi y).before args s = true) (w6 : (Cond.instanceMethod y).before args s = true) (w8 : (Cond.publicMethod y).before args s = true) (w9 : (Cond.unhidden C xi.name xi.desc).before args s = true) (w10 : (Cond.castable C xi.cls).before args s = true) (w3 : (Cond.initialized y.cls).before a0 Z = true) (w4 : (Cond.code y bytes maxL ret).before a0 Z = true) (hy : xi.cls ≠ "java/lang/invoke/MethodHandle" ∧ xi.cls ≠ "java/lang/invoke/VarHandle")
    {rm : Room} (a : Addr) (argsL rest : List Value) {Qc : Option Value → Heap → List Loc → Prop} (E : Exa Z h a C) (M : own_Met l Z y bytes maxL ret rm (.ref a :: argsL).toArray h Qc) (W : Nat) (hf : rm.frames + 1 ≤ R.frames) (hl : W + (maxL + 11) + rm.locals ≤ R.locals) (eT : T.heap = h)
    {pc : Nat} {Ls : Array Slot} {st : List Value} (hsize : Ls.size = c.maxLocals) (hlen : ∀ sig, parseMethodDescriptor xi.desc = some sig → argsL.length = sig.parameters.length) (hstack : st = argsL.reverse ++ .ref a :: rest) (hW : (rest.map fun v => v.category).sum ≤ W)
    (hd : decode c.code pc = .ok (.invokeinterface index count, 5)) (hc : cells + rm.cells ≤ R.cells) (hs : slots + rm.slots ≤ R.slots)
    (k : ∀ v T' L, Stand p l e R s m args below meth c T' (locs ++ L) (cells + rm.cells) (slots + rm.slots) → Qc v T'.heap L → own_Out p e below s Q kc ks T' (mkF m (pc + 5) Ls (v.toList ++ rest))) : own_Out p e below s Q kc ks T (mkF m pc Ls st) := by
  obtain ⟨cq, kq, qa, qb, qc⟩ := isOf hZ eT E
  obtain ⟨v, vm1, ⟨T', L', c', n'⟩, -, X', ⟨L, hQ, r1, r2, r3⟩, stp⟩ := X.interfaceBack hx (xi := xi) (y := y) hown w1 w2 w7 w5 w6 w8 w9 w10 hy (backOf (W := W) (M []) hZ w4 w3 hf hl) qa qb qc (g := mkF m pc Ls st) rfl hsize (Steps.refl _) (argsL := argsL) (rest := rest) hlen hstack (by show 2 * 0 + _ ≤ _; omega) hd (fun _ _ => ⟨rfl, eT, hc, hs⟩)
  dsimp only [Pt.U, Pt.locs, Pt.cells, Pt.slots] at X' r1 r2 r3 stp hQ
  subst r1 r2 r3
  exact own_tr _ _ stp (k v T' L X' hQ)
theorem own_callP (X : Stand p l e R s m args below meth c T locs cells slots) (hx : p.tables.exec = Jvm.exec) (hZ : Z.Warmed39 s.vm) {own : String} {index : Nat} {y : MethodName} {bytes : ByteArray} {maxL : Nat} {ret : Option FieldType} (hown : s.vm.findClass own = some m.cls)
    (w1 : (Cond.methodLink own index y).before a0 Z = true) (w2 : (Cond.instanceMethod y).before a0 Z = true) (w5 : (Cond.selects y.cls y y).before a0 Z = true) (w6 : (Cond.privateMethod y).before a0 Z = true) (w3 : (Cond.initialized y.cls).before a0 Z = true) (w4 : (Cond.code y bytes maxL ret).before a0 Z = true) (hy : y.cls ≠ "java/lang/invoke/MethodHandle" ∧ y.cls ≠ "java/lang/invoke/VarHandle")
    {rm : Room} (a : Addr) (argsL rest : List Value) {C : String} {Qc : Option Value → Heap → List Loc → Prop} (E : Exa Z h a C) (M : own_Met l Z y bytes maxL ret rm (.ref a :: argsL).toArray h Qc) (W : Nat) (hf : rm.frames + 1 ≤ R.frames) (hl : W + (maxL + 11) + rm.locals ≤ R.locals) (eT : T.heap = h)
    {pc : Nat} {Ls : Array Slot} {st : List Value} (hsize : Ls.size = c.maxLocals) (hlen : ∀ sig, parseMethodDescriptor y.desc = some sig → argsL.length = sig.parameters.length) (hstack : st = argsL.reverse ++ .ref a :: rest) (hW : (rest.map fun v => v.category).sum ≤ W)
    (hd : decode c.code pc = .ok (.invokevirtual index, 3)) (hc : cells + rm.cells ≤ R.cells) (hs : slots + rm.slots ≤ R.slots)
    (k : ∀ v T' L, Stand p l e R s m args below meth c T' (locs ++ L) (cells + rm.cells) (slots + rm.slots) → Qc v T'.heap L → own_Out p e below s Q kc ks T' (mkF m (pc + 3) Ls (v.toList ++ rest))) : own_Out p e below s Q kc ks T (mkF m pc Ls st) := by
  obtain ⟨cq, qa, qb⟩ := E.cell
  obtain ⟨v, vm1, ⟨T', L', c', n'⟩, -, X', ⟨L, hQ, r1, r2, r3⟩, stp⟩ := X.privateBack hx (y := y) (bytes := bytes) (maxL := maxL) (ret := ret) hown (mvT hZ w1) (mvT hZ w2) (mvT hZ w5) (Cond.privateMethod_at (mvP hZ w6 (args := #[]))) (mvT hZ w4) hy (backOf (W := W) (M []) hZ w4 w3 hf hl) (g := mkF m pc Ls st) rfl hsize (Steps.refl _) (a := a) (by rw [eT]; exact qa) qb (argsL := argsL) (rest := rest) hlen hstack (by show 2 * 0 + _ ≤ _; omega) hd (fun _ _ => ⟨rfl, eT, hc, hs⟩)
  dsimp only [Pt.U, Pt.locs, Pt.cells, Pt.slots] at X' r1 r2 r3 stp hQ
  subst r1 r2 r3
  exact own_tr _ _ stp (k v T' L X' hQ)
/-- an array by its values: n places, place i holds f i -/
def own_A (Z : State) (h : Heap) (a : Addr) (k : ClassId) (ty : FieldType) (n : Nat) (f : Nat → Value) : Prop := ∃ cl : Cell, Arr Z h a cl ty ∧ cl.cls = k ∧ cl.slots.size = n ∧ n < 2 ^ 31 ∧ ∀ i, i < n → cl.slots[i]? = some (f i)
variable {a b : Addr} {k : ClassId} {ty : FieldType} {n : Nat} {f f' : Nat → Value} {sl : Nat} {v : Value} {ws : List Addr}
theorem own_A.lt (F : own_A Z h a k ty n f) : a < h.size := by obtain ⟨c, A, -⟩ := F; exact A.lt
theorem own_A.ext (F : own_A Z h a k ty n f) (E : Ext h h') : own_A Z h' a k ty n f := by obtain ⟨c, A, r⟩ := F; exact ⟨c, A.ext E, r⟩
theorem own_A.other (F : own_A Z h b k ty n f) (W : Wr h h' a sl v) (q : b ≠ a) : own_A Z h' b k ty n f := by obtain ⟨c, A, r⟩ := F; exact ⟨c, A.other W q, r⟩
theorem own_A.keep (F : own_A Z h a k ty n f) (K : Keep h h' ws) (q : a ∉ ws) : own_A Z h' a k ty n f := by obtain ⟨c, A, r⟩ := F; exact ⟨c, ⟨K.2.1 a c A.1 q, A.2⟩, r⟩
theorem own_A.cong (F : own_A Z h a k ty n f) (q : ∀ i, i < n → f i = f' i) : own_A Z h a k ty n f' := by obtain ⟨c, A, r1, r2, r3, r4⟩ := F; exact ⟨c, A, r1, r2, r3, fun i hi => by rw [r4 i hi, q i hi]⟩
theorem own_A.new {z : Int32} (A : Arr Z h a (newA k ty z) ty) (q : ¬ z < 0) : own_A Z h a k ty z.toNatClampNeg (fun _ => defaultValue ty) := ⟨_, A, rfl, sz_new _ _ _, (back32 q).2, fun i hi => by simp [newA, hi]⟩
theorem own_A.newL {z : Int32} (A : Arr Z h a (newA k ty z) ty) (q : ¬ z < 0) (n : Nat) (hn : z.toNatClampNeg = n) (d : Value) (hd : defaultValue ty = d) : own_A Z h a k ty n (fun i => (List.replicate n d).getD i d) := by
  subst hn hd
  refine (own_A.new A q).cong fun i hi => ?_
  simp [List.getD_eq_getElem?_getD, List.getElem?_replicate, hi]
theorem own_jn {j : Int32} {i : Nat} (q : j.toInt = (i : Int)) : j.toNatClampNeg = i := by simp only [Int32.toNatClampNeg]; omega
theorem own_in {j : Int32} {i n : Nat} {cl : Cell} (q : j.toInt = (i : Int)) (hi : i < n) (S : cl.slots.size = n) : ¬ (j < 0 ∨ cl.slots.size ≤ j.toNatClampNeg) := by
  rw [own_jn q, Int32.lt_iff_toInt_lt, q, S]; have : (0 : Int32).toInt = 0 := rfl; omega
theorem own_A.set (F : own_A Z h a k ty n f) {i : Nat} (hi : i < n) (W : Wr h h' a i v) : own_A Z h' a k ty n (fun x => if x = i then v else f x) := by
  obtain ⟨cl, A, r1, r2, r3, r4⟩ := F
  refine ⟨_, A.same W, r1, by rw [sz_set]; exact r2, r3, fun x hx => ?_⟩
  by_cases q : x = i
  · subst q; simp [Cell.setSlot, r2, hi]
  · show (cl.slots.setIfInBounds i v)[x]? = _
    rw [Array.getElem?_setIfInBounds_ne (Ne.symm q)]; simp only [q, if_false]; exact r4 x hx
theorem own_A.setL {L : List Value} {d : Value} (F : own_A Z h a k ty n (fun x => L.getD x d)) {i : Nat} (hi : i < n) (hL : i < L.length) (W : Wr h h' a i v) : own_A Z h' a k ty n (fun x => (L.set i v).getD x d) := by
  refine (F.set hi W).cong fun x hx => ?_
  by_cases q : x = i
  · subst q; simp [List.getD_eq_getElem?_getD, List.getElem?_set, hL]
  · simp [List.getD_eq_getElem?_getD, List.getElem?_set, q, Ne.symm q]
theorem own_A.setI {b : Nat → Int32} {x : Int32} (F : own_A Z h a k ty n (fun y => .int (b y))) {i : Nat} (hi : i < n) (W : Wr h h' a i (.int x)) : own_A Z h' a k ty n (fun y => .int (if y = i then x else b y)) := by
  refine (F.set hi W).cong fun y hy => ?_
  by_cases q : y = i <;> simp [q]
theorem own_A.setLI {L : List Int32} {x : Int32} (F : own_A Z h a k ty n (fun y => .int (L.getD y 0))) {i : Nat} (hi : i < n) (hL : i < L.length) (W : Wr h h' a i (.int x)) : own_A Z h' a k ty n (fun y => .int ((L.set i x).getD y 0)) := by
  refine (F.setI hi W).cong fun y hy => ?_
  by_cases q : y = i
  · subst q; simp [List.getD_eq_getElem?_getD, List.getElem?_set, hL]
  · simp [List.getD_eq_getElem?_getD, List.getElem?_set, q, Ne.symm q]
theorem own_A.snocI {L : List Int32} {x : Int32} (F : own_A Z h a k ty n (fun y => .int (L.getD y 0))) {i : Nat} (hi : i < n) (hL : L.length = i) (W : Wr h h' a i (.int x)) : own_A Z h' a k ty n (fun y => .int ((L ++ [x]).getD y 0)) := by
  refine (F.setI hi W).cong fun y hy => ?_
  by_cases q : y = i
  · subst q; subst hL; simp [List.getD_eq_getElem?_getD]
  · by_cases r : y < L.length
    · simp [List.getD_eq_getElem?_getD, q, List.getElem?_append_left r]
    · have h1 : L[y]? = none := List.getElem?_eq_none (by omega)
      have h2 : (L ++ [x])[y]? = none := List.getElem?_eq_none (by simp; omega)
      simp [List.getD_eq_getElem?_getD, q, h1, h2]
theorem own_A.newI {z : Int32} (A : Arr Z h a (newA k ty z) ty) (q : ¬ z < 0) (n : Nat) (hn : z.toNatClampNeg = n) (hd : defaultValue ty = .int 0) : own_A Z h a k ty n (fun _ => .int 0) := by
  subst hn; rw [← hd]; exact own_A.new A q
theorem own_A.newLI {z : Int32} (A : Arr Z h a (newA k ty z) ty) (q : ¬ z < 0) (n : Nat) (hn : z.toNatClampNeg = n) (hd : defaultValue ty = .int 0) : own_A Z h a k ty n (fun y => .int ((List.replicate n (0 : Int32)).getD y 0)) := by
  refine (own_A.newI A q n hn hd).cong fun i hi => ?_
  simp [List.getD_eq_getElem?_getD, List.getElem?_replicate, hi]
theorem own_stI (X : Stand p l e R s m args below meth c T locs cells slots) (hx : p.tables.exec = Jvm.exec) (hZ : Z.Warmed39 s.vm) (eT : T.heap = h) (F : own_A Z h a k .int n f) {j x : Int32} (i : Nat) (q : j.toInt = (i : Int)) (hi : i < n) {pc : Nat} {Ls : Array Slot} {rest : List Value} (hd : decode c.code pc = .ok (.iastore, 1)) :
    ∃ T' h', Stand p l e R s m args below meth c T' (locs ++ [⟨a, i⟩]) cells slots ∧ T'.heap = h' ∧ Wr h h' a i (.int x) ∧ ∀ t, Steps p.tables e below (T'.setTop (mkF m (pc + 1) Ls rest)) t → Steps p.tables e below (T.setTop (mkF m pc Ls (.int x :: .int j :: .ref a :: rest))) t := by
  obtain ⟨cl, A, r1, r2, r3, r4⟩ := F
  have := stI X hx hZ eT A (j := j) (x := x) (own_in q hi r2) (g := mkF m pc Ls (.int x :: .int j :: .ref a :: rest)) rfl rfl hd
  rw [own_jn q] at this; exact this
theorem own_stB (X : Stand p l e R s m args below meth c T locs cells slots) (hx : p.tables.exec = Jvm.exec) (hZ : Z.Warmed39 s.vm) (eT : T.heap = h) (F : own_A Z h a k .byte n f) {j x : Int32} (x' : Int32) (hx' : nar .byte x = x') (i : Nat) (q : j.toInt = (i : Int)) (hi : i < n) {pc : Nat} {Ls : Array Slot} {rest : List Value} (hd : decode c.code pc = .ok (.bastore, 1)) :
    ∃ T' h', Stand p l e R s m args below meth c T' (locs ++ [⟨a, i⟩]) cells slots ∧ T'.heap = h' ∧ Wr h h' a i (.int x') ∧ ∀ t, Steps p.tables e below (T'.setTop (mkF m (pc + 1) Ls rest)) t → Steps p.tables e below (T.setTop (mkF m pc Ls (.int x :: .int j :: .ref a :: rest))) t := by
  obtain ⟨cl, A, r1, r2, r3, r4⟩ := F
  have := stB X hx hZ eT A (j := j) (x := x) (own_in q hi r2) (g := mkF m pc Ls (.int x :: .int j :: .ref a :: rest)) rfl rfl hd
  rw [own_jn q] at this; subst hx'; exact this
theorem own_stC (X : Stand p l e R s m args below meth c T locs cells slots) (hx : p.tables.exec = Jvm.exec) (hZ : Z.Warmed39 s.vm) (eT : T.heap = h) (F : own_A Z h a k .char n f) {j x : Int32} (x' : Int32) (hx' : nar .char x = x') (i : Nat) (q : j.toInt = (i : Int)) (hi : i < n) {pc : Nat} {Ls : Array Slot} {rest : List Value} (hd : decode c.code pc = .ok (.castore, 1)) :
    ∃ T' h', Stand p l e R s m args below meth c T' (locs ++ [⟨a, i⟩]) cells slots ∧ T'.heap = h' ∧ Wr h h' a i (.int x') ∧ ∀ t, Steps p.tables e below (T'.setTop (mkF m (pc + 1) Ls rest)) t → Steps p.tables e below (T.setTop (mkF m pc Ls (.int x :: .int j :: .ref a :: rest))) t := by
  obtain ⟨cl, A, r1, r2, r3, r4⟩ := F
  have := stC X hx hZ eT A (j := j) (x := x) (own_in q hi r2) (g := mkF m pc Ls (.int x :: .int j :: .ref a :: rest)) rfl rfl hd
  rw [own_jn q] at this; subst hx'; exact this
theorem own_stR (X : Stand p l e R s m args below meth c T locs cells slots) (hx : p.tables.exec = Jvm.exec) (hZ : Z.Warmed39 s.vm) (eT : T.heap = h) {C : String} (F : own_A Z h a k (.object C) n f) {j : Int32} {v : Value} (O : Ovr Z k C) (I : v = .null ∨ ∃ y, v = .ref y ∧ Ins Z h y C true) (i : Nat) (q : j.toInt = (i : Int)) (hi : i < n) {pc : Nat} {Ls : Array Slot} {rest : List Value} (hd : decode c.code pc = .ok (.aastore, 1)) :
    ∃ T' h', Stand p l e R s m args below meth c T' (locs ++ [⟨a, i⟩]) cells slots ∧ T'.heap = h' ∧ Wr h h' a i v ∧ ∀ t, Steps p.tables e below (T'.setTop (mkF m (pc + 1) Ls rest)) t → Steps p.tables e below (T.setTop (mkF m pc Ls (v :: .int j :: .ref a :: rest))) t := by
  obtain ⟨cl, A, r1, r2, r3, r4⟩ := F
  have S : Sto Z h a v := by
    rcases I with rfl | ⟨y, rfl, I⟩
    · exact Or.inl rfl
    · exact Sto.ofV A r1 O I
  have := stR X hx hZ eT A (j := j) (own_in q hi r2) rfl S (g := mkF m pc Ls (v :: .int j :: .ref a :: rest)) rfl rfl hd
  rw [own_jn q] at this; exact this
theorem own_stRA (X : Stand p l e R s m args below meth c T locs cells slots) (hx : p.tables.exec = Jvm.exec) (hZ : Z.Warmed39 s.vm) (eT : T.heap = h) {C : String} {t0 : FieldType} (F : own_A Z h a k (.array t0) n f) {j : Int32} {v : Value} (O : OvrA Z k t0 C) (I : v = .null ∨ ∃ y, v = .ref y ∧ Ins Z h y C true) (i : Nat) (q : j.toInt = (i : Int)) (hi : i < n) {pc : Nat} {Ls : Array Slot} {rest : List Value} (hd : decode c.code pc = .ok (.aastore, 1)) :
    ∃ T' h', Stand p l e R s m args below meth c T' (locs ++ [⟨a, i⟩]) cells slots ∧ T'.heap = h' ∧ Wr h h' a i v ∧ ∀ t, Steps p.tables e below (T'.setTop (mkF m (pc + 1) Ls rest)) t → Steps p.tables e below (T.setTop (mkF m pc Ls (v :: .int j :: .ref a :: rest))) t := by
  obtain ⟨cl, A, r1, r2, r3, r4⟩ := F
  have S : Sto Z h a v := by
    rcases I with rfl | ⟨y, rfl, I⟩
    · exact Or.inl rfl
    · exact Sto.ofVA A r1 O I
  have := stR X hx hZ eT A (j := j) (own_in q hi r2) rfl S (g := mkF m pc Ls (v :: .int j :: .ref a :: rest)) rfl rfl hd
  rw [own_jn q] at this; exact this
theorem own_ldI (X : Stand p l e R s m args below meth c T locs cells slots) (hx : p.tables.exec = Jvm.exec) (hZ : Z.Warmed39 s.vm) (eT : T.heap = h) (F : own_A Z h a k .int n f) {j : Int32} (i : Nat) (q : j.toInt = (i : Int)) (hi : i < n) {pc : Nat} {Ls : Array Slot} {rest : List Value} (hd : decode c.code pc = .ok (.iaload, 1)) :
    ∀ t, Steps p.tables e below (T.setTop (mkF m (pc + 1) Ls (f i :: rest))) t → Steps p.tables e below (T.setTop (mkF m pc Ls (.int j :: .ref a :: rest))) t := fun t kt => by
  obtain ⟨cl, A, r1, r2, r3, r4⟩ := F
  exact X.iaload hx (j := j) (v := f i) (by rw [eT]; exact A.1) (State.isArrayOf_alike hZ.alike A.2.1) A.2.2 (own_in q hi r2) (by rw [own_jn q]; exact r4 i hi) (g := mkF m pc Ls (.int j :: .ref a :: rest)) rfl rfl hd _ kt
theorem own_ldB (X : Stand p l e R s m args below meth c T locs cells slots) (hx : p.tables.exec = Jvm.exec) (hZ : Z.Warmed39 s.vm) (eT : T.heap = h) (F : own_A Z h a k .byte n f) {j : Int32} (i : Nat) (q : j.toInt = (i : Int)) (hi : i < n) {pc : Nat} {Ls : Array Slot} {rest : List Value} (hd : decode c.code pc = .ok (.baload, 1)) :
    ∀ t, Steps p.tables e below (T.setTop (mkF m (pc + 1) Ls (f i :: rest))) t → Steps p.tables e below (T.setTop (mkF m pc Ls (.int j :: .ref a :: rest))) t := fun t kt => by
  obtain ⟨cl, A, r1, r2, r3, r4⟩ := F
  exact X.baloadBytes hx (j := j) (v := f i) (by rw [eT]; exact A.1) (State.isArrayOf_alike hZ.alike A.2.1) A.2.2 (own_in q hi r2) (by rw [own_jn q]; exact r4 i hi) (g := mkF m pc Ls (.int j :: .ref a :: rest)) rfl rfl hd _ kt
theorem own_ldC (X : Stand p l e R s m args below meth c T locs cells slots) (hx : p.tables.exec = Jvm.exec) (hZ : Z.Warmed39 s.vm) (eT : T.heap = h) (F : own_A Z h a k .char n f) {j : Int32} (i : Nat) (q : j.toInt = (i : Int)) (hi : i < n) {pc : Nat} {Ls : Array Slot} {rest : List Value} (hd : decode c.code pc = .ok (.caload, 1)) :
    ∀ t, Steps p.tables e below (T.setTop (mkF m (pc + 1) Ls (f i :: rest))) t → Steps p.tables e below (T.setTop (mkF m pc Ls (.int j :: .ref a :: rest))) t := fun t kt => by
  obtain ⟨cl, A, r1, r2, r3, r4⟩ := F
  exact X.caload hx (j := j) (v := f i) (by rw [eT]; exact A.1) (State.isArrayOf_alike hZ.alike A.2.1) A.2.2 (own_in q hi r2) (by rw [own_jn q]; exact r4 i hi) (g := mkF m pc Ls (.int j :: .ref a :: rest)) rfl rfl hd _ kt
theorem own_ldR (X : Stand p l e R s m args below meth c T locs cells slots) (hx : p.tables.exec = Jvm.exec) (hZ : Z.Warmed39 s.vm) (eT : T.heap = h) (F : own_A Z h a k ty n f) (hty : ty.isReference = true) {j : Int32} (i : Nat) (q : j.toInt = (i : Int)) (hi : i < n) {pc : Nat} {Ls : Array Slot} {rest : List Value} (hd : decode c.code pc = .ok (.aaload, 1)) :
    ∀ t, Steps p.tables e below (T.setTop (mkF m (pc + 1) Ls (f i :: rest))) t → Steps p.tables e below (T.setTop (mkF m pc Ls (.int j :: .ref a :: rest))) t := fun t kt => by
  obtain ⟨cl, A, r1, r2, r3, r4⟩ := F
  exact X.aaload hx (j := j) (v := f i) (by rw [eT]; exact A.1) (State.isArrayOf_alike hZ.alike A.2.1) hty A.2.2 (own_in q hi r2) (by rw [own_jn q]; exact r4 i hi) (g := mkF m pc Ls (.int j :: .ref a :: rest)) rfl rfl hd _ kt
theorem own_len (X : Stand p l e R s m args below meth c T locs cells slots) (hx : p.tables.exec = Jvm.exec) (hZ : Z.Warmed39 s.vm) (eT : T.heap = h) (F : own_A Z h a k ty n f) {pc : Nat} {Ls : Array Slot} {rest : List Value} (hd : decode c.code pc = .ok (.arraylength, 1)) (z : Int32) (hz : z.toInt = (n : Int)) :
    ∀ t, Steps p.tables e below (T.setTop (mkF m (pc + 1) Ls (.int z :: rest))) t → Steps p.tables e below (T.setTop (mkF m pc Ls (.ref a :: rest))) t := fun t kt => by
  obtain ⟨cl, A, r1, r2, r3, r4⟩ := F
  have q : cl.slots.size.toInt32 = z := by
    apply Int32.toInt_inj.mp; rw [r2, hz]; exact len_toInt r3
  exact X.arraylength hx (by rw [eT]; exact A.1) (State.isArrayOf_alike hZ.alike A.2.1) (g := mkF m pc Ls (.ref a :: rest)) rfl rfl hd _ (by rw [q]; exact kt)
theorem own_cat {w : Value} (h : w.isRef = true) : w.category = 1 := by cases w <;> first | rfl | cases h
theorem own_nb (x : Int32) : nar .byte x.toInt8.toInt32 = x.toInt8.toInt32 := by simp [nar]
theorem own_nc (x : Int32) : nar .char x.toUInt32.toUInt16.toUInt32.toInt32 = x.toUInt32.toUInt16.toUInt32.toInt32 := by
  have := Jvm.Free.XT.narrow_c x
  simpa [nar, narrow] using this
theorem own_nz {z : Int32} (q : z = 0 ∨ z = 1) : nar .boolean z = z := by rcases q with rfl | rfl <;> rfl
theorem own_bt {P : Prop} [Decidable P] (q : P) : ¬ ((if P then (1 : Int32) else 0) = 0) := by simp [q]
theorem own_bf {P : Prop} [Decidable P] (q : ¬ P) : (if P then (1 : Int32) else 0) = 0 := by simp [q]
theorem own_nt {P : Prop} [Decidable P] (q : P) : (if P then (0 : Int32) else 1) = 0 := by simp [q]
theorem own_nf {P : Prop} [Decidable P] (q : ¬ P) : ¬ ((if P then (0 : Int32) else 1) = 0) := by simp [q]
theorem own_lrem {target : State} (X : Stand p l e R s m args below meth c T locs cells slots) (hx : p.tables.exec = Jvm.exec) (hg : g.method = m) {x y : Int64} {rest : List Value} (hd : decode c.code g.pc = .ok (.lrem, 1)) (hs : g.stack = .long y :: .long x :: rest) (hy : y ≠ 0)
    (hr : Steps p.tables e below (T.setTop { g with pc := g.pc + 1, stack := .long (x % y) :: rest }) target) : Steps p.tables e below (T.setTop g) target := XS.lrem X.here hx hg hd hs hy (by rw [lrem_mod]; exact hr)
end OwnKit
theorem own_fv {Z : State} {args : Array Value} {t : Term} {C n d : String} {i : Int32} {a : Addr} (h : (Cond.eq (.field t C n d) (.int i)).value args Z none Z [] = some true) (ht : t.eval args Z none [] Z = some (.ref a)) : Fld Z Z.heap a C n d (.int i) := by
  apply Fld.start
  have e := fld_at (args := args) (first := Z) (o := none) (idx := []) (s := Z) (C := C) (n := n) (dd := d) ht
  rw [← e]
  simp only [Cond.value, Term.int_eval] at h
  cases hx : (Term.field t C n d).eval args Z none [] Z with
  | none => simp [hx] at h
  | some x => cases x <;> simp [hx] at h ⊢; exact h
theorem own_pl {p : Int32} {i : Nat} (hp : p.toInt = (i : Int)) (hi : i < 1000) (c : Int32) (d : Nat) (hc : c.toInt = (d : Int)) (hd : d < 1000) : (p + c).toInt = ((i + d : Nat) : Int) := by
  have := c_iadd p c; have := rng32 (p + c); omega
def own_y0 (x : Int64) : Int32 := x.toInt32.toInt8.toInt32
def own_y1 (x : Int64) : Int32 := ((x.toUInt64 >>> ((8 : Int32) &&& 0x3f).toInt64.toUInt64).toInt64).toInt32.toInt8.toInt32
def own_y2 (x : Int64) : Int32 := ((x.toUInt64 >>> ((16 : Int32) &&& 0x3f).toInt64.toUInt64).toInt64).toInt32.toInt8.toInt32
def own_y3 (x : Int64) : Int32 := ((x.toUInt64 >>> ((24 : Int32) &&& 0x3f).toInt64.toUInt64).toInt64).toInt32.toInt8.toInt32
def own_y4 (x : Int64) : Int32 := ((x.toUInt64 >>> ((32 : Int32) &&& 0x3f).toInt64.toUInt64).toInt64).toInt32.toInt8.toInt32
def own_y5 (x : Int64) : Int32 := ((x.toUInt64 >>> ((40 : Int32) &&& 0x3f).toInt64.toUInt64).toInt64).toInt32.toInt8.toInt32
def own_y6 (x : Int64) : Int32 := ((x.toUInt64 >>> ((48 : Int32) &&& 0x3f).toInt64.toUInt64).toInt64).toInt32.toInt8.toInt32
def own_y7 (x : Int64) : Int32 := ((x.toUInt64 >>> ((56 : Int32) &&& 0x3f).toInt64.toUInt64).toInt64).toInt32.toInt8.toInt32
def own_put (f : Nat → Int32) (i : Nat) (v : Int64) (x : Nat) : Int32 := if x = i + 7 then own_y7 v else if x = i + 6 then own_y6 v else if x = i + 5 then own_y5 v else if x = i + 4 then own_y4 v else if x = i + 3 then own_y3 v else if x = i + 2 then own_y2 v else if x = i + 1 then own_y1 v else if x = i then own_y0 v else f x
theorem dmethod_2_code_0 : decode method_2_code 0 = .ok (.aload_n 0, 1) := by decide +kernel
theorem dmethod_2_code_1 : decode method_2_code 1 = .ok (.iload_n 1, 1) := by decide +kernel
theorem dmethod_2_code_2 : decode method_2_code 2 = .ok (.lload_n 2, 1) := by decide +kernel
theorem dmethod_2_code_3 : decode method_2_code 3 = .ok (.l2i, 1) := by decide +kernel
theorem dmethod_2_code_4 : decode method_2_code 4 = .ok (.i2b, 1) := by decide +kernel
theorem dmethod_2_code_5 : decode method_2_code 5 = .ok (.bastore, 1) := by decide +kernel
theorem dmethod_2_code_6 : decode method_2_code 6 = .ok (.aload_n 0, 1) := by decide +kernel
theorem dmethod_2_code_7 : decode method_2_code 7 = .ok (.iload_n 1, 1) := by decide +kernel
theorem dmethod_2_code_8 : decode method_2_code 8 = .ok (.iconst 1, 1) := by decide +kernel
theorem dmethod_2_code_9 : decode method_2_code 9 = .ok (.iadd, 1) := by decide +kernel
theorem dmethod_2_code_10 : decode method_2_code 10 = .ok (.lload_n 2, 1) := by decide +kernel
theorem dmethod_2_code_11 : decode method_2_code 11 = .ok (.bipush 8, 2) := by decide +kernel
theorem dmethod_2_code_13 : decode method_2_code 13 = .ok (.lushr, 1) := by decide +kernel
theorem dmethod_2_code_14 : decode method_2_code 14 = .ok (.l2i, 1) := by decide +kernel
theorem dmethod_2_code_15 : decode method_2_code 15 = .ok (.i2b, 1) := by decide +kernel
theorem dmethod_2_code_16 : decode method_2_code 16 = .ok (.bastore, 1) := by decide +kernel
theorem dmethod_2_code_17 : decode method_2_code 17 = .ok (.aload_n 0, 1) := by decide +kernel
theorem dmethod_2_code_18 : decode method_2_code 18 = .ok (.iload_n 1, 1) := by decide +kernel
theorem dmethod_2_code_19 : decode method_2_code 19 = .ok (.iconst 2, 1) := by decide +kernel
theorem dmethod_2_code_20 : decode method_2_code 20 = .ok (.iadd, 1) := by decide +kernel
theorem dmethod_2_code_21 : decode method_2_code 21 = .ok (.lload_n 2, 1) := by decide +kernel
theorem dmethod_2_code_22 : decode method_2_code 22 = .ok (.bipush 16, 2) := by decide +kernel
theorem dmethod_2_code_24 : decode method_2_code 24 = .ok (.lushr, 1) := by decide +kernel
theorem dmethod_2_code_25 : decode method_2_code 25 = .ok (.l2i, 1) := by decide +kernel
theorem dmethod_2_code_26 : decode method_2_code 26 = .ok (.i2b, 1) := by decide +kernel
theorem dmethod_2_code_27 : decode method_2_code 27 = .ok (.bastore, 1) := by decide +kernel
theorem dmethod_2_code_28 : decode method_2_code 28 = .ok (.aload_n 0, 1) := by decide +kernel
theorem dmethod_2_code_29 : decode method_2_code 29 = .ok (.iload_n 1, 1) := by decide +kernel
theorem dmethod_2_code_30 : decode method_2_code 30 = .ok (.iconst 3, 1) := by decide +kernel
theorem dmethod_2_code_31 : decode method_2_code 31 = .ok (.iadd, 1) := by decide +kernel
theorem dmethod_2_code_32 : decode method_2_code 32 = .ok (.lload_n 2, 1) := by decide +kernel
theorem dmethod_2_code_33 : decode method_2_code 33 = .ok (.bipush 24, 2) := by decide +kernel
theorem dmethod_2_code_35 : decode method_2_code 35 = .ok (.lushr, 1) := by decide +kernel
theorem dmethod_2_code_36 : decode method_2_code 36 = .ok (.l2i, 1) := by decide +kernel
theorem dmethod_2_code_37 : decode method_2_code 37 = .ok (.i2b, 1) := by decide +kernel
theorem dmethod_2_code_38 : decode method_2_code 38 = .ok (.bastore, 1) := by decide +kernel
theorem dmethod_2_code_39 : decode method_2_code 39 = .ok (.aload_n 0, 1) := by decide +kernel
theorem dmethod_2_code_40 : decode method_2_code 40 = .ok (.iload_n 1, 1) := by decide +kernel
theorem dmethod_2_code_41 : decode method_2_code 41 = .ok (.iconst 4, 1) := by decide +kernel
theorem dmethod_2_code_42 : decode method_2_code 42 = .ok (.iadd, 1) := by decide +kernel
theorem dmethod_2_code_43 : decode method_2_code 43 = .ok (.lload_n 2, 1) := by decide +kernel
theorem dmethod_2_code_44 : decode method_2_code 44 = .ok (.bipush 32, 2) := by decide +kernel
theorem dmethod_2_code_46 : decode method_2_code 46 = .ok (.lushr, 1) := by decide +kernel
theorem dmethod_2_code_47 : decode method_2_code 47 = .ok (.l2i, 1) := by decide +kernel
theorem dmethod_2_code_48 : decode method_2_code 48 = .ok (.i2b, 1) := by decide +kernel
theorem dmethod_2_code_49 : decode method_2_code 49 = .ok (.bastore, 1) := by decide +kernel
theorem dmethod_2_code_50 : decode method_2_code 50 = .ok (.aload_n 0, 1) := by decide +kernel
theorem dmethod_2_code_51 : decode method_2_code 51 = .ok (.iload_n 1, 1) := by decide +kernel
theorem dmethod_2_code_52 : decode method_2_code 52 = .ok (.iconst 5, 1) := by decide +kernel
theorem dmethod_2_code_53 : decode method_2_code 53 = .ok (.iadd, 1) := by decide +kernel
theorem dmethod_2_code_54 : decode method_2_code 54 = .ok (.lload_n 2, 1) := by decide +kernel
theorem dmethod_2_code_55 : decode method_2_code 55 = .ok (.bipush 40, 2) := by decide +kernel
theorem dmethod_2_code_57 : decode method_2_code 57 = .ok (.lushr, 1) := by decide +kernel
theorem dmethod_2_code_58 : decode method_2_code 58 = .ok (.l2i, 1) := by decide +kernel
theorem dmethod_2_code_59 : decode method_2_code 59 = .ok (.i2b, 1) := by decide +kernel
theorem dmethod_2_code_60 : decode method_2_code 60 = .ok (.bastore, 1) := by decide +kernel
theorem dmethod_2_code_61 : decode method_2_code 61 = .ok (.aload_n 0, 1) := by decide +kernel
theorem dmethod_2_code_62 : decode method_2_code 62 = .ok (.iload_n 1, 1) := by decide +kernel
theorem dmethod_2_code_63 : decode method_2_code 63 = .ok (.bipush 6, 2) := by decide +kernel
theorem dmethod_2_code_65 : decode method_2_code 65 = .ok (.iadd, 1) := by decide +kernel
theorem dmethod_2_code_66 : decode method_2_code 66 = .ok (.lload_n 2, 1) := by decide +kernel
theorem dmethod_2_code_67 : decode method_2_code 67 = .ok (.bipush 48, 2) := by decide +kernel
theorem dmethod_2_code_69 : decode method_2_code 69 = .ok (.lushr, 1) := by decide +kernel
theorem dmethod_2_code_70 : decode method_2_code 70 = .ok (.l2i, 1) := by decide +kernel
theorem dmethod_2_code_71 : decode method_2_code 71 = .ok (.i2b, 1) := by decide +kernel
theorem dmethod_2_code_72 : decode method_2_code 72 = .ok (.bastore, 1) := by decide +kernel
theorem dmethod_2_code_73 : decode method_2_code 73 = .ok (.aload_n 0, 1) := by decide +kernel
theorem dmethod_2_code_74 : decode method_2_code 74 = .ok (.iload_n 1, 1) := by decide +kernel
theorem dmethod_2_code_75 : decode method_2_code 75 = .ok (.bipush 7, 2) := by decide +kernel
theorem dmethod_2_code_77 : decode method_2_code 77 = .ok (.iadd, 1) := by decide +kernel
theorem dmethod_2_code_78 : decode method_2_code 78 = .ok (.lload_n 2, 1) := by decide +kernel
theorem dmethod_2_code_79 : decode method_2_code 79 = .ok (.bipush 56, 2) := by decide +kernel
theorem dmethod_2_code_81 : decode method_2_code 81 = .ok (.lushr, 1) := by decide +kernel
theorem dmethod_2_code_82 : decode method_2_code 82 = .ok (.l2i, 1) := by decide +kernel
theorem dmethod_2_code_83 : decode method_2_code 83 = .ok (.i2b, 1) := by decide +kernel
theorem dmethod_2_code_84 : decode method_2_code 84 = .ok (.bastore, 1) := by decide +kernel
theorem dmethod_2_code_85 : decode method_2_code 85 = .ok (.return_, 1) := by decide +kernel
theorem ef_rm1 (m_ : MethodId) (a : Addr) (p0 : Int32) (x : Int64) : entryFrame m_ #[(.ref a), (.int p0), (.long x)] 4 = mkF m_ 0 #[.val (.ref a), .val (.int p0), .val (.long x), .second] [] := by first | (simp [entryFrame, mkF, argsToLocals, Value.category]; done) | rfl
theorem own_pn0 : plainName "com/example/adapterd/adapterd/controller/HciCommandIsListedInPinLaw" = true := by first | (simp [plainName, overriddenIn]; done) | decide +kernel
set_option maxRecDepth 65536 in
set_option maxHeartbeats 40000000 in
theorem rm1 (l : Launch) (Z : State) (a0 : Array Value) (hw : ∀ d ∈ tables_1, d.before a0 Z = true) (a : Addr) (p0 : Int32) (x : Int64) (k : ClassId) (f : Nat → Int32) (i : Nat) (h0 : Heap) (n0 : Nat) (Z0 : n0 ≤ h0.size) (V : own_A Z h0 a k .byte 64 (fun x => .int (f x))) (hi : p0.toInt = (i : Int)) (hn : i + 7 < 64) (g_a : n0 ≤ a) :
    own_Met l Z (⟨"com/example/adapterd/adapterd/controller/HciCommandIsListedInPinLaw", "put", "([BIJ)V"⟩ : MethodName) method_2_code 4 none ({ frames := 0, cells := 0, slots := 0, locals := 0 } : Room) #[(.ref a), (.int p0), (.long x)] h0 (fun v h L => v = none ∧ Fr n0 L ∧ Keep h0 h [a] ∧ own_A Z h a k .byte 64 (fun y => .int (own_put f i x y))) := by
  refine own_body #[.val (.ref a), .val (.int p0), .val (.long x), .second] (plainFor_of_name own_pn0) (fun m_ => ef_rm1 m_ a p0 x) ?_
  intro p_ e_ s_ m_ below meth c_ s₁ X0 hx hby hml hret hlk hZ hown hnm e0
  have N0 := Fr.nil n0
  have KP := Keep.refl h0 [a]
  show own_Out p_ e_ below s_ _ _ _ s₁ (mkF m_ 0 #[.val (.ref a), .val (.int p0), .val (.long x), .second] [])
  refine own_st s₁ (mkF m_ 5 #[.val (.ref a), .val (.int p0), .val (.long x), .second] [(.int ((x.toInt32).toInt8.toInt32)), (.int p0), (.ref a)]) (fun t_ k_ => ?_) ?_
  · refine XS.aloadN X0.here hx rfl (hb hby dmethod_2_code_0) rfl rfl ?_
    show Steps p_.tables e_ below (s₁.setTop (mkF m_ 1 #[.val (.ref a), .val (.int p0), .val (.long x), .second] [(.ref a)])) t_
    refine XS.iloadN X0.here hx rfl (hb hby dmethod_2_code_1) rfl ?_
    show Steps p_.tables e_ below (s₁.setTop (mkF m_ 2 #[.val (.ref a), .val (.int p0), .val (.long x), .second] [(.int p0), (.ref a)])) t_
    refine XS.lloadN X0.here hx rfl (hb hby dmethod_2_code_2) rfl ?_
    show Steps p_.tables e_ below (s₁.setTop (mkF m_ 3 #[.val (.ref a), .val (.int p0), .val (.long x), .second] [(.long x), (.int p0), (.ref a)])) t_
    refine XS.l2i X0.here hx rfl (hb hby dmethod_2_code_3) rfl ?_
    show Steps p_.tables e_ below (s₁.setTop (mkF m_ 4 #[.val (.ref a), .val (.int p0), .val (.long x), .second] [(.int (x.toInt32)), (.int p0), (.ref a)])) t_
    refine XS.i2b X0.here hx rfl (hb hby dmethod_2_code_4) rfl ?_
    show Steps p_.tables e_ below (s₁.setTop (mkF m_ 5 #[.val (.ref a), .val (.int p0), .val (.long x), .second] [(.int ((x.toInt32).toInt8.toInt32)), (.int p0), (.ref a)])) t_
    exact k_
  obtain ⟨T1, h1, X1, e1, W1, st1⟩ := own_stB X0 hx hZ e0 V (own_y0 x) (own_nb _) i hi (by omega) (j := p0) (x := ((x.toInt32).toInt8.toInt32)) (Ls := #[.val (.ref a), .val (.int p0), .val (.long x), .second]) (rest := []) (hb hby dmethod_2_code_5)
  have N1 := Fr.snoc X1 N0 g_a
  replace Z0 : n0 ≤ h1.size := W1.size ▸ Z0
  replace KP := KP.wr W1 (Or.inl (List.mem_of_getElem? (i := 0) rfl))
  replace V : own_A Z h1 a k .byte 64 (fun x_ => .int (if x_ = i then (own_y0 x) else (f x_))) := V.setI (by omega) W1
  refine own_st T1 (mkF m_ 6 #[.val (.ref a), .val (.int p0), .val (.long x), .second] []) st1 ?_
  refine own_st T1 (mkF m_ 16 #[.val (.ref a), .val (.int p0), .val (.long x), .second] [(.int ((((x.toUInt64 >>> ((8 : Int32) &&& 0x3f).toInt64.toUInt64).toInt64).toInt32).toInt8.toInt32)), (.int (p0 + (1 : Int32))), (.ref a)]) (fun t_ k_ => ?_) ?_
  · refine XS.aloadN X1.here hx rfl (hb hby dmethod_2_code_6) rfl rfl ?_
    show Steps p_.tables e_ below (T1.setTop (mkF m_ 7 #[.val (.ref a), .val (.int p0), .val (.long x), .second] [(.ref a)])) t_
    refine XS.iloadN X1.here hx rfl (hb hby dmethod_2_code_7) rfl ?_
    show Steps p_.tables e_ below (T1.setTop (mkF m_ 8 #[.val (.ref a), .val (.int p0), .val (.long x), .second] [(.int p0), (.ref a)])) t_
    refine XS.iconst X1.here hx rfl (hb hby dmethod_2_code_8) ?_
    show Steps p_.tables e_ below (T1.setTop (mkF m_ 9 #[.val (.ref a), .val (.int p0), .val (.long x), .second] [(.int (1 : Int32)), (.int p0), (.ref a)])) t_
    refine XS.iadd X1.here hx rfl (hb hby dmethod_2_code_9) rfl ?_
    show Steps p_.tables e_ below (T1.setTop (mkF m_ 10 #[.val (.ref a), .val (.int p0), .val (.long x), .second] [(.int (p0 + (1 : Int32))), (.ref a)])) t_
    refine XS.lloadN X1.here hx rfl (hb hby dmethod_2_code_10) rfl ?_
    show Steps p_.tables e_ below (T1.setTop (mkF m_ 11 #[.val (.ref a), .val (.int p0), .val (.long x), .second] [(.long x), (.int (p0 + (1 : Int32))), (.ref a)])) t_
    refine XS.bipush X1.here hx rfl (hb hby dmethod_2_code_11) ?_
    show Steps p_.tables e_ below (T1.setTop (mkF m_ 13 #[.val (.ref a), .val (.int p0), .val (.long x), .second] [(.int (8 : Int32)), (.long x), (.int (p0 + (1 : Int32))), (.ref a)])) t_
    refine XS.lushr X1.here hx rfl (hb hby dmethod_2_code_13) rfl ?_
    show Steps p_.tables e_ below (T1.setTop (mkF m_ 14 #[.val (.ref a), .val (.int p0), .val (.long x), .second] [(.long ((x.toUInt64 >>> ((8 : Int32) &&& 0x3f).toInt64.toUInt64).toInt64)), (.int (p0 + (1 : Int32))), (.ref a)])) t_
    refine XS.l2i X1.here hx rfl (hb hby dmethod_2_code_14) rfl ?_
    show Steps p_.tables e_ below (T1.setTop (mkF m_ 15 #[.val (.ref a), .val (.int p0), .val (.long x), .second] [(.int (((x.toUInt64 >>> ((8 : Int32) &&& 0x3f).toInt64.toUInt64).toInt64).toInt32)), (.int (p0 + (1 : Int32))), (.ref a)])) t_
    refine XS.i2b X1.here hx rfl (hb hby dmethod_2_code_15) rfl ?_
    show Steps p_.tables e_ below (T1.setTop (mkF m_ 16 #[.val (.ref a), .val (.int p0), .val (.long x), .second] [(.int ((((x.toUInt64 >>> ((8 : Int32) &&& 0x3f).toInt64.toUInt64).toInt64).toInt32).toInt8.toInt32)), (.int (p0 + (1 : Int32))), (.ref a)])) t_
    exact k_
  obtain ⟨T2, h2, X2, e2, W2, st2⟩ := own_stB X1 hx hZ e1 V (own_y1 x) (own_nb _) (i + 1) (own_pl hi (by omega) 1 1 rfl (by omega)) (by omega) (j := (p0 + (1 : Int32))) (x := ((((x.toUInt64 >>> ((8 : Int32) &&& 0x3f).toInt64.toUInt64).toInt64).toInt32).toInt8.toInt32)) (Ls := #[.val (.ref a), .val (.int p0), .val (.long x), .second]) (rest := []) (hb hby dmethod_2_code_16)
  have N2 := Fr.snoc X2 N1 g_a
  replace Z0 : n0 ≤ h2.size := W2.size ▸ Z0
  replace KP := KP.wr W2 (Or.inl (List.mem_of_getElem? (i := 0) rfl))
  replace V : own_A Z h2 a k .byte 64 (fun x_ => .int (if x_ = (i + 1) then (own_y1 x) else (if x_ = i then (own_y0 x) else (f x_)))) := V.setI (by omega) W2
  refine own_st T2 (mkF m_ 17 #[.val (.ref a), .val (.int p0), .val (.long x), .second] []) st2 ?_
  refine own_st T2 (mkF m_ 27 #[.val (.ref a), .val (.int p0), .val (.long x), .second] [(.int ((((x.toUInt64 >>> ((16 : Int32) &&& 0x3f).toInt64.toUInt64).toInt64).toInt32).toInt8.toInt32)), (.int (p0 + (2 : Int32))), (.ref a)]) (fun t_ k_ => ?_) ?_
  · refine XS.aloadN X2.here hx rfl (hb hby dmethod_2_code_17) rfl rfl ?_
    show Steps p_.tables e_ below (T2.setTop (mkF m_ 18 #[.val (.ref a), .val (.int p0), .val (.long x), .second] [(.ref a)])) t_
    refine XS.iloadN X2.here hx rfl (hb hby dmethod_2_code_18) rfl ?_
    show Steps p_.tables e_ below (T2.setTop (mkF m_ 19 #[.val (.ref a), .val (.int p0), .val (.long x), .second] [(.int p0), (.ref a)])) t_
    refine XS.iconst X2.here hx rfl (hb hby dmethod_2_code_19) ?_
    show Steps p_.tables e_ below (T2.setTop (mkF m_ 20 #[.val (.ref a), .val (.int p0), .val (.long x), .second] [(.int (2 : Int32)), (.int p0), (.ref a)])) t_
    refine XS.iadd X2.here hx rfl (hb hby dmethod_2_code_20) rfl ?_
    show Steps p_.tables e_ below (T2.setTop (mkF m_ 21 #[.val (.ref a), .val (.int p0), .val (.long x), .second] [(.int (p0 + (2 : Int32))), (.ref a)])) t_
    refine XS.lloadN X2.here hx rfl (hb hby dmethod_2_code_21) rfl ?_
    show Steps p_.tables e_ below (T2.setTop (mkF m_ 22 #[.val (.ref a), .val (.int p0), .val (.long x), .second] [(.long x), (.int (p0 + (2 : Int32))), (.ref a)])) t_
    refine XS.bipush X2.here hx rfl (hb hby dmethod_2_code_22) ?_
    show Steps p_.tables e_ below (T2.setTop (mkF m_ 24 #[.val (.ref a), .val (.int p0), .val (.long x), .second] [(.int (16 : Int32)), (.long x), (.int (p0 + (2 : Int32))), (.ref a)])) t_
    refine XS.lushr X2.here hx rfl (hb hby dmethod_2_code_24) rfl ?_
    show Steps p_.tables e_ below (T2.setTop (mkF m_ 25 #[.val (.ref a), .val (.int p0), .val (.long x), .second] [(.long ((x.toUInt64 >>> ((16 : Int32) &&& 0x3f).toInt64.toUInt64).toInt64)), (.int (p0 + (2 : Int32))), (.ref a)])) t_
    refine XS.l2i X2.here hx rfl (hb hby dmethod_2_code_25) rfl ?_
    show Steps p_.tables e_ below (T2.setTop (mkF m_ 26 #[.val (.ref a), .val (.int p0), .val (.long x), .second] [(.int (((x.toUInt64 >>> ((16 : Int32) &&& 0x3f).toInt64.toUInt64).toInt64).toInt32)), (.int (p0 + (2 : Int32))), (.ref a)])) t_
    refine XS.i2b X2.here hx rfl (hb hby dmethod_2_code_26) rfl ?_
    show Steps p_.tables e_ below (T2.setTop (mkF m_ 27 #[.val (.ref a), .val (.int p0), .val (.long x), .second] [(.int ((((x.toUInt64 >>> ((16 : Int32) &&& 0x3f).toInt64.toUInt64).toInt64).toInt32).toInt8.toInt32)), (.int (p0 + (2 : Int32))), (.ref a)])) t_
    exact k_
  obtain ⟨T3, h3, X3, e3, W3, st3⟩ := own_stB X2 hx hZ e2 V (own_y2 x) (own_nb _) (i + 2) (own_pl hi (by omega) 2 2 rfl (by omega)) (by omega) (j := (p0 + (2 : Int32))) (x := ((((x.toUInt64 >>> ((16 : Int32) &&& 0x3f).toInt64.toUInt64).toInt64).toInt32).toInt8.toInt32)) (Ls := #[.val (.ref a), .val (.int p0), .val (.long x), .second]) (rest := []) (hb hby dmethod_2_code_27)
  have N3 := Fr.snoc X3 N2 g_a
  replace Z0 : n0 ≤ h3.size := W3.size ▸ Z0
  replace KP := KP.wr W3 (Or.inl (List.mem_of_getElem? (i := 0) rfl))
  replace V : own_A Z h3 a k .byte 64 (fun x_ => .int (if x_ = (i + 2) then (own_y2 x) else (if x_ = (i + 1) then (own_y1 x) else (if x_ = i then (own_y0 x) else (f x_))))) := V.setI (by omega) W3
  refine own_st T3 (mkF m_ 28 #[.val (.ref a), .val (.int p0), .val (.long x), .second] []) st3 ?_
  refine own_st T3 (mkF m_ 38 #[.val (.ref a), .val (.int p0), .val (.long x), .second] [(.int ((((x.toUInt64 >>> ((24 : Int32) &&& 0x3f).toInt64.toUInt64).toInt64).toInt32).toInt8.toInt32)), (.int (p0 + (3 : Int32))), (.ref a)]) (fun t_ k_ => ?_) ?_
  · refine XS.aloadN X3.here hx rfl (hb hby dmethod_2_code_28) rfl rfl ?_
    show Steps p_.tables e_ below (T3.setTop (mkF m_ 29 #[.val (.ref a), .val (.int p0), .val (.long x), .second] [(.ref a)])) t_
    refine XS.iloadN X3.here hx rfl (hb hby dmethod_2_code_29) rfl ?_
    show Steps p_.tables e_ below (T3.setTop (mkF m_ 30 #[.val (.ref a), .val (.int p0), .val (.long x), .second] [(.int p0), (.ref a)])) t_
    refine XS.iconst X3.here hx rfl (hb hby dmethod_2_code_30) ?_
    show Steps p_.tables e_ below (T3.setTop (mkF m_ 31 #[.val (.ref a), .val (.int p0), .val (.long x), .second] [(.int (3 : Int32)), (.int p0), (.ref a)])) t_
    refine XS.iadd X3.here hx rfl (hb hby dmethod_2_code_31) rfl ?_
    show Steps p_.tables e_ below (T3.setTop (mkF m_ 32 #[.val (.ref a), .val (.int p0), .val (.long x), .second] [(.int (p0 + (3 : Int32))), (.ref a)])) t_
    refine XS.lloadN X3.here hx rfl (hb hby dmethod_2_code_32) rfl ?_
    show Steps p_.tables e_ below (T3.setTop (mkF m_ 33 #[.val (.ref a), .val (.int p0), .val (.long x), .second] [(.long x), (.int (p0 + (3 : Int32))), (.ref a)])) t_
    refine XS.bipush X3.here hx rfl (hb hby dmethod_2_code_33) ?_
    show Steps p_.tables e_ below (T3.setTop (mkF m_ 35 #[.val (.ref a), .val (.int p0), .val (.long x), .second] [(.int (24 : Int32)), (.long x), (.int (p0 + (3 : Int32))), (.ref a)])) t_
    refine XS.lushr X3.here hx rfl (hb hby dmethod_2_code_35) rfl ?_
    show Steps p_.tables e_ below (T3.setTop (mkF m_ 36 #[.val (.ref a), .val (.int p0), .val (.long x), .second] [(.long ((x.toUInt64 >>> ((24 : Int32) &&& 0x3f).toInt64.toUInt64).toInt64)), (.int (p0 + (3 : Int32))), (.ref a)])) t_
    refine XS.l2i X3.here hx rfl (hb hby dmethod_2_code_36) rfl ?_
    show Steps p_.tables e_ below (T3.setTop (mkF m_ 37 #[.val (.ref a), .val (.int p0), .val (.long x), .second] [(.int (((x.toUInt64 >>> ((24 : Int32) &&& 0x3f).toInt64.toUInt64).toInt64).toInt32)), (.int (p0 + (3 : Int32))), (.ref a)])) t_
    refine XS.i2b X3.here hx rfl (hb hby dmethod_2_code_37) rfl ?_
    show Steps p_.tables e_ below (T3.setTop (mkF m_ 38 #[.val (.ref a), .val (.int p0), .val (.long x), .second] [(.int ((((x.toUInt64 >>> ((24 : Int32) &&& 0x3f).toInt64.toUInt64).toInt64).toInt32).toInt8.toInt32)), (.int (p0 + (3 : Int32))), (.ref a)])) t_
    exact k_
  obtain ⟨T4, h4, X4, e4, W4, st4⟩ := own_stB X3 hx hZ e3 V (own_y3 x) (own_nb _) (i + 3) (own_pl hi (by omega) 3 3 rfl (by omega)) (by omega) (j := (p0 + (3 : Int32))) (x := ((((x.toUInt64 >>> ((24 : Int32) &&& 0x3f).toInt64.toUInt64).toInt64).toInt32).toInt8.toInt32)) (Ls := #[.val (.ref a), .val (.int p0), .val (.long x), .second]) (rest := []) (hb hby dmethod_2_code_38)
  have N4 := Fr.snoc X4 N3 g_a
  replace Z0 : n0 ≤ h4.size := W4.size ▸ Z0
  replace KP := KP.wr W4 (Or.inl (List.mem_of_getElem? (i := 0) rfl))
  replace V : own_A Z h4 a k .byte 64 (fun x_ => .int (if x_ = (i + 3) then (own_y3 x) else (if x_ = (i + 2) then (own_y2 x) else (if x_ = (i + 1) then (own_y1 x) else (if x_ = i then (own_y0 x) else (f x_)))))) := V.setI (by omega) W4
  refine own_st T4 (mkF m_ 39 #[.val (.ref a), .val (.int p0), .val (.long x), .second] []) st4 ?_
  refine own_st T4 (mkF m_ 49 #[.val (.ref a), .val (.int p0), .val (.long x), .second] [(.int ((((x.toUInt64 >>> ((32 : Int32) &&& 0x3f).toInt64.toUInt64).toInt64).toInt32).toInt8.toInt32)), (.int (p0 + (4 : Int32))), (.ref a)]) (fun t_ k_ => ?_) ?_
  · refine XS.aloadN X4.here hx rfl (hb hby dmethod_2_code_39) rfl rfl ?_
    show Steps p_.tables e_ below (T4.setTop (mkF m_ 40 #[.val (.ref a), .val (.int p0), .val (.long x), .second] [(.ref a)])) t_
    refine XS.iloadN X4.here hx rfl (hb hby dmethod_2_code_40) rfl ?_
    show Steps p_.tables e_ below (T4.setTop (mkF m_ 41 #[.val (.ref a), .val (.int p0), .val (.long x), .second] [(.int p0), (.ref a)])) t_
    refine XS.iconst X4.here hx rfl (hb hby dmethod_2_code_41) ?_
    show Steps p_.tables e_ below (T4.setTop (mkF m_ 42 #[.val (.ref a), .val (.int p0), .val (.long x), .second] [(.int (4 : Int32)), (.int p0), (.ref a)])) t_
    refine XS.iadd X4.here hx rfl (hb hby dmethod_2_code_42) rfl ?_
    show Steps p_.tables e_ below (T4.setTop (mkF m_ 43 #[.val (.ref a), .val (.int p0), .val (.long x), .second] [(.int (p0 + (4 : Int32))), (.ref a)])) t_
    refine XS.lloadN X4.here hx rfl (hb hby dmethod_2_code_43) rfl ?_
    show Steps p_.tables e_ below (T4.setTop (mkF m_ 44 #[.val (.ref a), .val (.int p0), .val (.long x), .second] [(.long x), (.int (p0 + (4 : Int32))), (.ref a)])) t_
    refine XS.bipush X4.here hx rfl (hb hby dmethod_2_code_44) ?_
    show Steps p_.tables e_ below (T4.setTop (mkF m_ 46 #[.val (.ref a), .val (.int p0), .val (.long x), .second] [(.int (32 : Int32)), (.long x), (.int (p0 + (4 : Int32))), (.ref a)])) t_
    refine XS.lushr X4.here hx rfl (hb hby dmethod_2_code_46) rfl ?_
    show Steps p_.tables e_ below (T4.setTop (mkF m_ 47 #[.val (.ref a), .val (.int p0), .val (.long x), .second] [(.long ((x.toUInt64 >>> ((32 : Int32) &&& 0x3f).toInt64.toUInt64).toInt64)), (.int (p0 + (4 : Int32))), (.ref a)])) t_
    refine XS.l2i X4.here hx rfl (hb hby dmethod_2_code_47) rfl ?_
    show Steps p_.tables e_ below (T4.setTop (mkF m_ 48 #[.val (.ref a), .val (.int p0), .val (.long x), .second] [(.int (((x.toUInt64 >>> ((32 : Int32) &&& 0x3f).toInt64.toUInt64).toInt64).toInt32)), (.int (p0 + (4 : Int32))), (.ref a)])) t_
    refine XS.i2b X4.here hx rfl (hb hby dmethod_2_code_48) rfl ?_
    show Steps p_.tables e_ below (T4.setTop (mkF m_ 49 #[.val (.ref a), .val (.int p0), .val (.long x), .second] [(.int ((((x.toUInt64 >>> ((32 : Int32) &&& 0x3f).toInt64.toUInt64).toInt64).toInt32).toInt8.toInt32)), (.int (p0 + (4 : Int32))), (.ref a)])) t_
    exact k_
  obtain ⟨T5, h5, X5, e5, W5, st5⟩ := own_stB X4 hx hZ e4 V (own_y4 x) (own_nb _) (i + 4) (own_pl hi (by omega) 4 4 rfl (by omega)) (by omega) (j := (p0 + (4 : Int32))) (x := ((((x.toUInt64 >>> ((32 : Int32) &&& 0x3f).toInt64.toUInt64).toInt64).toInt32).toInt8.toInt32)) (Ls := #[.val (.ref a), .val (.int p0), .val (.long x), .second]) (rest := []) (hb hby dmethod_2_code_49)
  have N5 := Fr.snoc X5 N4 g_a
  replace Z0 : n0 ≤ h5.size := W5.size ▸ Z0
  replace KP := KP.wr W5 (Or.inl (List.mem_of_getElem? (i := 0) rfl))
  replace V : own_A Z h5 a k .byte 64 (fun x_ => .int (if x_ = (i + 4) then (own_y4 x) else (if x_ = (i + 3) then (own_y3 x) else (if x_ = (i + 2) then (own_y2 x) else (if x_ = (i + 1) then (own_y1 x) else (if x_ = i then (own_y0 x) else (f x_))))))) := V.setI (by omega) W5
  refine own_st T5 (mkF m_ 50 #[.val (.ref a), .val (.int p0), .val (.long x), .second] []) st5 ?_
  refine own_st T5 (mkF m_ 60 #[.val (.ref a), .val (.int p0), .val (.long x), .second] [(.int ((((x.toUInt64 >>> ((40 : Int32) &&& 0x3f).toInt64.toUInt64).toInt64).toInt32).toInt8.toInt32)), (.int (p0 + (5 : Int32))), (.ref a)]) (fun t_ k_ => ?_) ?_
  · refine XS.aloadN X5.here hx rfl (hb hby dmethod_2_code_50) rfl rfl ?_
    show Steps p_.tables e_ below (T5.setTop (mkF m_ 51 #[.val (.ref a), .val (.int p0), .val (.long x), .second] [(.ref a)])) t_
    refine XS.iloadN X5.here hx rfl (hb hby dmethod_2_code_51) rfl ?_
    show Steps p_.tables e_ below (T5.setTop (mkF m_ 52 #[.val (.ref a), .val (.int p0), .val (.long x), .second] [(.int p0), (.ref a)])) t_
    refine XS.iconst X5.here hx rfl (hb hby dmethod_2_code_52) ?_
    show Steps p_.tables e_ below (T5.setTop (mkF m_ 53 #[.val (.ref a), .val (.int p0), .val (.long x), .second] [(.int (5 : Int32)), (.int p0), (.ref a)])) t_
    refine XS.iadd X5.here hx rfl (hb hby dmethod_2_code_53) rfl ?_
    show Steps p_.tables e_ below (T5.setTop (mkF m_ 54 #[.val (.ref a), .val (.int p0), .val (.long x), .second] [(.int (p0 + (5 : Int32))), (.ref a)])) t_
    refine XS.lloadN X5.here hx rfl (hb hby dmethod_2_code_54) rfl ?_
    show Steps p_.tables e_ below (T5.setTop (mkF m_ 55 #[.val (.ref a), .val (.int p0), .val (.long x), .second] [(.long x), (.int (p0 + (5 : Int32))), (.ref a)])) t_
    refine XS.bipush X5.here hx rfl (hb hby dmethod_2_code_55) ?_
    show Steps p_.tables e_ below (T5.setTop (mkF m_ 57 #[.val (.ref a), .val (.int p0), .val (.long x), .second] [(.int (40 : Int32)), (.long x), (.int (p0 + (5 : Int32))), (.ref a)])) t_
    refine XS.lushr X5.here hx rfl (hb hby dmethod_2_code_57) rfl ?_
    show Steps p_.tables e_ below (T5.setTop (mkF m_ 58 #[.val (.ref a), .val (.int p0), .val (.long x), .second] [(.long ((x.toUInt64 >>> ((40 : Int32) &&& 0x3f).toInt64.toUInt64).toInt64)), (.int (p0 + (5 : Int32))), (.ref a)])) t_
    refine XS.l2i X5.here hx rfl (hb hby dmethod_2_code_58) rfl ?_
    show Steps p_.tables e_ below (T5.setTop (mkF m_ 59 #[.val (.ref a), .val (.int p0), .val (.long x), .second] [(.int (((x.toUInt64 >>> ((40 : Int32) &&& 0x3f).toInt64.toUInt64).toInt64).toInt32)), (.int (p0 + (5 : Int32))), (.ref a)])) t_
    refine XS.i2b X5.here hx rfl (hb hby dmethod_2_code_59) rfl ?_
    show Steps p_.tables e_ below (T5.setTop (mkF m_ 60 #[.val (.ref a), .val (.int p0), .val (.long x), .second] [(.int ((((x.toUInt64 >>> ((40 : Int32) &&& 0x3f).toInt64.toUInt64).toInt64).toInt32).toInt8.toInt32)), (.int (p0 + (5 : Int32))), (.ref a)])) t_
    exact k_
  obtain ⟨T6, h6, X6, e6, W6, st6⟩ := own_stB X5 hx hZ e5 V (own_y5 x) (own_nb _) (i + 5) (own_pl hi (by omega) 5 5 rfl (by omega)) (by omega) (j := (p0 + (5 : Int32))) (x := ((((x.toUInt64 >>> ((40 : Int32) &&& 0x3f).toInt64.toUInt64).toInt64).toInt32).toInt8.toInt32)) (Ls := #[.val (.ref a), .val (.int p0), .val (.long x), .second]) (rest := []) (hb hby dmethod_2_code_60)
  have N6 := Fr.snoc X6 N5 g_a
  replace Z0 : n0 ≤ h6.size := W6.size ▸ Z0
  replace KP := KP.wr W6 (Or.inl (List.mem_of_getElem? (i := 0) rfl))
  replace V : own_A Z h6 a k .byte 64 (fun x_ => .int (if x_ = (i + 5) then (own_y5 x) else (if x_ = (i + 4) then (own_y4 x) else (if x_ = (i + 3) then (own_y3 x) else (if x_ = (i + 2) then (own_y2 x) else (if x_ = (i + 1) then (own_y1 x) else (if x_ = i then (own_y0 x) else (f x_)))))))) := V.setI (by omega) W6
  refine own_st T6 (mkF m_ 61 #[.val (.ref a), .val (.int p0), .val (.long x), .second] []) st6 ?_
  refine own_st T6 (mkF m_ 72 #[.val (.ref a), .val (.int p0), .val (.long x), .second] [(.int ((((x.toUInt64 >>> ((48 : Int32) &&& 0x3f).toInt64.toUInt64).toInt64).toInt32).toInt8.toInt32)), (.int (p0 + (6 : Int32))), (.ref a)]) (fun t_ k_ => ?_) ?_
  · refine XS.aloadN X6.here hx rfl (hb hby dmethod_2_code_61) rfl rfl ?_
    show Steps p_.tables e_ below (T6.setTop (mkF m_ 62 #[.val (.ref a), .val (.int p0), .val (.long x), .second] [(.ref a)])) t_
    refine XS.iloadN X6.here hx rfl (hb hby dmethod_2_code_62) rfl ?_
    show Steps p_.tables e_ below (T6.setTop (mkF m_ 63 #[.val (.ref a), .val (.int p0), .val (.long x), .second] [(.int p0), (.ref a)])) t_
    refine XS.bipush X6.here hx rfl (hb hby dmethod_2_code_63) ?_
    show Steps p_.tables e_ below (T6.setTop (mkF m_ 65 #[.val (.ref a), .val (.int p0), .val (.long x), .second] [(.int (6 : Int32)), (.int p0), (.ref a)])) t_
    refine XS.iadd X6.here hx rfl (hb hby dmethod_2_code_65) rfl ?_
    show Steps p_.tables e_ below (T6.setTop (mkF m_ 66 #[.val (.ref a), .val (.int p0), .val (.long x), .second] [(.int (p0 + (6 : Int32))), (.ref a)])) t_
    refine XS.lloadN X6.here hx rfl (hb hby dmethod_2_code_66) rfl ?_
    show Steps p_.tables e_ below (T6.setTop (mkF m_ 67 #[.val (.ref a), .val (.int p0), .val (.long x), .second] [(.long x), (.int (p0 + (6 : Int32))), (.ref a)])) t_
    refine XS.bipush X6.here hx rfl (hb hby dmethod_2_code_67) ?_
    show Steps p_.tables e_ below (T6.setTop (mkF m_ 69 #[.val (.ref a), .val (.int p0), .val (.long x), .second] [(.int (48 : Int32)), (.long x), (.int (p0 + (6 : Int32))), (.ref a)])) t_
    refine XS.lushr X6.here hx rfl (hb hby dmethod_2_code_69) rfl ?_
    show Steps p_.tables e_ below (T6.setTop (mkF m_ 70 #[.val (.ref a), .val (.int p0), .val (.long x), .second] [(.long ((x.toUInt64 >>> ((48 : Int32) &&& 0x3f).toInt64.toUInt64).toInt64)), (.int (p0 + (6 : Int32))), (.ref a)])) t_
    refine XS.l2i X6.here hx rfl (hb hby dmethod_2_code_70) rfl ?_
    show Steps p_.tables e_ below (T6.setTop (mkF m_ 71 #[.val (.ref a), .val (.int p0), .val (.long x), .second] [(.int (((x.toUInt64 >>> ((48 : Int32) &&& 0x3f).toInt64.toUInt64).toInt64).toInt32)), (.int (p0 + (6 : Int32))), (.ref a)])) t_
    refine XS.i2b X6.here hx rfl (hb hby dmethod_2_code_71) rfl ?_
    show Steps p_.tables e_ below (T6.setTop (mkF m_ 72 #[.val (.ref a), .val (.int p0), .val (.long x), .second] [(.int ((((x.toUInt64 >>> ((48 : Int32) &&& 0x3f).toInt64.toUInt64).toInt64).toInt32).toInt8.toInt32)), (.int (p0 + (6 : Int32))), (.ref a)])) t_
    exact k_
  obtain ⟨T7, h7, X7, e7, W7, st7⟩ := own_stB X6 hx hZ e6 V (own_y6 x) (own_nb _) (i + 6) (own_pl hi (by omega) 6 6 rfl (by omega)) (by omega) (j := (p0 + (6 : Int32))) (x := ((((x.toUInt64 >>> ((48 : Int32) &&& 0x3f).toInt64.toUInt64).toInt64).toInt32).toInt8.toInt32)) (Ls := #[.val (.ref a), .val (.int p0), .val (.long x), .second]) (rest := []) (hb hby dmethod_2_code_72)
  have N7 := Fr.snoc X7 N6 g_a
  replace Z0 : n0 ≤ h7.size := W7.size ▸ Z0
  replace KP := KP.wr W7 (Or.inl (List.mem_of_getElem? (i := 0) rfl))
  replace V : own_A Z h7 a k .byte 64 (fun x_ => .int (if x_ = (i + 6) then (own_y6 x) else (if x_ = (i + 5) then (own_y5 x) else (if x_ = (i + 4) then (own_y4 x) else (if x_ = (i + 3) then (own_y3 x) else (if x_ = (i + 2) then (own_y2 x) else (if x_ = (i + 1) then (own_y1 x) else (if x_ = i then (own_y0 x) else (f x_))))))))) := V.setI (by omega) W7
  refine own_st T7 (mkF m_ 73 #[.val (.ref a), .val (.int p0), .val (.long x), .second] []) st7 ?_
  refine own_st T7 (mkF m_ 84 #[.val (.ref a), .val (.int p0), .val (.long x), .second] [(.int ((((x.toUInt64 >>> ((56 : Int32) &&& 0x3f).toInt64.toUInt64).toInt64).toInt32).toInt8.toInt32)), (.int (p0 + (7 : Int32))), (.ref a)]) (fun t_ k_ => ?_) ?_
  · refine XS.aloadN X7.here hx rfl (hb hby dmethod_2_code_73) rfl rfl ?_
    show Steps p_.tables e_ below (T7.setTop (mkF m_ 74 #[.val (.ref a), .val (.int p0), .val (.long x), .second] [(.ref a)])) t_
    refine XS.iloadN X7.here hx rfl (hb hby dmethod_2_code_74) rfl ?_
    show Steps p_.tables e_ below (T7.setTop (mkF m_ 75 #[.val (.ref a), .val (.int p0), .val (.long x), .second] [(.int p0), (.ref a)])) t_
    refine XS.bipush X7.here hx rfl (hb hby dmethod_2_code_75) ?_
    show Steps p_.tables e_ below (T7.setTop (mkF m_ 77 #[.val (.ref a), .val (.int p0), .val (.long x), .second] [(.int (7 : Int32)), (.int p0), (.ref a)])) t_
    refine XS.iadd X7.here hx rfl (hb hby dmethod_2_code_77) rfl ?_
    show Steps p_.tables e_ below (T7.setTop (mkF m_ 78 #[.val (.ref a), .val (.int p0), .val (.long x), .second] [(.int (p0 + (7 : Int32))), (.ref a)])) t_
    refine XS.lloadN X7.here hx rfl (hb hby dmethod_2_code_78) rfl ?_
    show Steps p_.tables e_ below (T7.setTop (mkF m_ 79 #[.val (.ref a), .val (.int p0), .val (.long x), .second] [(.long x), (.int (p0 + (7 : Int32))), (.ref a)])) t_
    refine XS.bipush X7.here hx rfl (hb hby dmethod_2_code_79) ?_
    show Steps p_.tables e_ below (T7.setTop (mkF m_ 81 #[.val (.ref a), .val (.int p0), .val (.long x), .second] [(.int (56 : Int32)), (.long x), (.int (p0 + (7 : Int32))), (.ref a)])) t_
    refine XS.lushr X7.here hx rfl (hb hby dmethod_2_code_81) rfl ?_
    show Steps p_.tables e_ below (T7.setTop (mkF m_ 82 #[.val (.ref a), .val (.int p0), .val (.long x), .second] [(.long ((x.toUInt64 >>> ((56 : Int32) &&& 0x3f).toInt64.toUInt64).toInt64)), (.int (p0 + (7 : Int32))), (.ref a)])) t_
    refine XS.l2i X7.here hx rfl (hb hby dmethod_2_code_82) rfl ?_
    show Steps p_.tables e_ below (T7.setTop (mkF m_ 83 #[.val (.ref a), .val (.int p0), .val (.long x), .second] [(.int (((x.toUInt64 >>> ((56 : Int32) &&& 0x3f).toInt64.toUInt64).toInt64).toInt32)), (.int (p0 + (7 : Int32))), (.ref a)])) t_
    refine XS.i2b X7.here hx rfl (hb hby dmethod_2_code_83) rfl ?_
    show Steps p_.tables e_ below (T7.setTop (mkF m_ 84 #[.val (.ref a), .val (.int p0), .val (.long x), .second] [(.int ((((x.toUInt64 >>> ((56 : Int32) &&& 0x3f).toInt64.toUInt64).toInt64).toInt32).toInt8.toInt32)), (.int (p0 + (7 : Int32))), (.ref a)])) t_
    exact k_
  obtain ⟨T8, h8, X8, e8, W8, st8⟩ := own_stB X7 hx hZ e7 V (own_y7 x) (own_nb _) (i + 7) (own_pl hi (by omega) 7 7 rfl (by omega)) (by omega) (j := (p0 + (7 : Int32))) (x := ((((x.toUInt64 >>> ((56 : Int32) &&& 0x3f).toInt64.toUInt64).toInt64).toInt32).toInt8.toInt32)) (Ls := #[.val (.ref a), .val (.int p0), .val (.long x), .second]) (rest := []) (hb hby dmethod_2_code_84)
  have N8 := Fr.snoc X8 N7 g_a
  replace Z0 : n0 ≤ h8.size := W8.size ▸ Z0
  replace KP := KP.wr W8 (Or.inl (List.mem_of_getElem? (i := 0) rfl))
  replace V : own_A Z h8 a k .byte 64 (fun x_ => .int (if x_ = (i + 7) then (own_y7 x) else (if x_ = (i + 6) then (own_y6 x) else (if x_ = (i + 5) then (own_y5 x) else (if x_ = (i + 4) then (own_y4 x) else (if x_ = (i + 3) then (own_y3 x) else (if x_ = (i + 2) then (own_y2 x) else (if x_ = (i + 1) then (own_y1 x) else (if x_ = i then (own_y0 x) else (f x_)))))))))) := V.setI (by omega) W8
  refine own_st T8 (mkF m_ 85 #[.val (.ref a), .val (.int p0), .val (.long x), .second] []) st8 ?_
  refine own_ret0 X8 hx hlk hret (hb hby dmethod_2_code_85) (by decide) (by decide) ?_
  rw [e8]
  exact ⟨rfl, N8, KP, V⟩
theorem dmethod_3_code_0 : decode method_3_code 0 = .ok (.iload_n 0, 1) := by decide +kernel
theorem dmethod_3_code_1 : decode method_3_code 1 = .ok (.ifCond .ne 7, 3) := by decide +kernel
theorem dmethod_3_code_4 : decode method_3_code 4 = .ok (.getstatic 7, 3) := by decide +kernel
theorem dmethod_3_code_7 : decode method_3_code 7 = .ok (.areturn, 1) := by decide +kernel
theorem dmethod_3_code_8 : decode method_3_code 8 = .ok (.iload_n 0, 1) := by decide +kernel
theorem dmethod_3_code_9 : decode method_3_code 9 = .ok (.iconst 1, 1) := by decide +kernel
theorem dmethod_3_code_10 : decode method_3_code 10 = .ok (.if_icmp .ne 7, 3) := by decide +kernel
theorem dmethod_3_code_13 : decode method_3_code 13 = .ok (.getstatic 13, 3) := by decide +kernel
theorem dmethod_3_code_16 : decode method_3_code 16 = .ok (.areturn, 1) := by decide +kernel
theorem dmethod_3_code_17 : decode method_3_code 17 = .ok (.iload_n 0, 1) := by decide +kernel
theorem dmethod_3_code_18 : decode method_3_code 18 = .ok (.iconst 2, 1) := by decide +kernel
theorem dmethod_3_code_19 : decode method_3_code 19 = .ok (.if_icmp .ne 7, 3) := by decide +kernel
theorem dmethod_3_code_22 : decode method_3_code 22 = .ok (.getstatic 16, 3) := by decide +kernel
theorem dmethod_3_code_25 : decode method_3_code 25 = .ok (.areturn, 1) := by decide +kernel
theorem dmethod_3_code_26 : decode method_3_code 26 = .ok (.iload_n 0, 1) := by decide +kernel
theorem dmethod_3_code_27 : decode method_3_code 27 = .ok (.iconst 3, 1) := by decide +kernel
theorem dmethod_3_code_28 : decode method_3_code 28 = .ok (.if_icmp .ne 7, 3) := by decide +kernel
theorem dmethod_3_code_31 : decode method_3_code 31 = .ok (.getstatic 19, 3) := by decide +kernel
theorem dmethod_3_code_34 : decode method_3_code 34 = .ok (.areturn, 1) := by decide +kernel
theorem dmethod_3_code_35 : decode method_3_code 35 = .ok (.iload_n 0, 1) := by decide +kernel
theorem dmethod_3_code_36 : decode method_3_code 36 = .ok (.iconst 4, 1) := by decide +kernel
theorem dmethod_3_code_37 : decode method_3_code 37 = .ok (.if_icmp .ne 7, 3) := by decide +kernel
theorem dmethod_3_code_40 : decode method_3_code 40 = .ok (.getstatic 22, 3) := by decide +kernel
theorem dmethod_3_code_43 : decode method_3_code 43 = .ok (.areturn, 1) := by decide +kernel
theorem dmethod_3_code_44 : decode method_3_code 44 = .ok (.iload_n 0, 1) := by decide +kernel
theorem dmethod_3_code_45 : decode method_3_code 45 = .ok (.iconst 5, 1) := by decide +kernel
theorem dmethod_3_code_46 : decode method_3_code 46 = .ok (.if_icmp .ne 7, 3) := by decide +kernel
theorem dmethod_3_code_49 : decode method_3_code 49 = .ok (.getstatic 25, 3) := by decide +kernel
theorem dmethod_3_code_52 : decode method_3_code 52 = .ok (.areturn, 1) := by decide +kernel
theorem dmethod_3_code_53 : decode method_3_code 53 = .ok (.iload_n 0, 1) := by decide +kernel
theorem dmethod_3_code_54 : decode method_3_code 54 = .ok (.bipush 6, 2) := by decide +kernel
theorem dmethod_3_code_56 : decode method_3_code 56 = .ok (.if_icmp .ne 7, 3) := by decide +kernel
theorem dmethod_3_code_59 : decode method_3_code 59 = .ok (.getstatic 28, 3) := by decide +kernel
theorem dmethod_3_code_62 : decode method_3_code 62 = .ok (.areturn, 1) := by decide +kernel
theorem dmethod_3_code_63 : decode method_3_code 63 = .ok (.iload_n 0, 1) := by decide +kernel
theorem dmethod_3_code_64 : decode method_3_code 64 = .ok (.bipush 7, 2) := by decide +kernel
theorem dmethod_3_code_66 : decode method_3_code 66 = .ok (.if_icmp .ne 7, 3) := by decide +kernel
theorem dmethod_3_code_69 : decode method_3_code 69 = .ok (.getstatic 31, 3) := by decide +kernel
theorem dmethod_3_code_72 : decode method_3_code 72 = .ok (.areturn, 1) := by decide +kernel
theorem dmethod_3_code_73 : decode method_3_code 73 = .ok (.iload_n 0, 1) := by decide +kernel
theorem dmethod_3_code_74 : decode method_3_code 74 = .ok (.bipush 8, 2) := by decide +kernel
theorem dmethod_3_code_76 : decode method_3_code 76 = .ok (.if_icmp .ne 7, 3) := by decide +kernel
theorem dmethod_3_code_79 : decode method_3_code 79 = .ok (.getstatic 34, 3) := by decide +kernel
theorem dmethod_3_code_82 : decode method_3_code 82 = .ok (.areturn, 1) := by decide +kernel
theorem dmethod_3_code_83 : decode method_3_code 83 = .ok (.iload_n 0, 1) := by decide +kernel
theorem dmethod_3_code_84 : decode method_3_code 84 = .ok (.bipush 9, 2) := by decide +kernel
theorem dmethod_3_code_86 : decode method_3_code 86 = .ok (.if_icmp .ne 7, 3) := by decide +kernel
theorem dmethod_3_code_89 : decode method_3_code 89 = .ok (.getstatic 37, 3) := by decide +kernel
theorem dmethod_3_code_92 : decode method_3_code 92 = .ok (.areturn, 1) := by decide +kernel
theorem dmethod_3_code_93 : decode method_3_code 93 = .ok (.iload_n 0, 1) := by decide +kernel
theorem dmethod_3_code_94 : decode method_3_code 94 = .ok (.bipush 10, 2) := by decide +kernel
theorem dmethod_3_code_96 : decode method_3_code 96 = .ok (.if_icmp .ne 7, 3) := by decide +kernel
theorem dmethod_3_code_99 : decode method_3_code 99 = .ok (.getstatic 40, 3) := by decide +kernel
theorem dmethod_3_code_102 : decode method_3_code 102 = .ok (.areturn, 1) := by decide +kernel
theorem dmethod_3_code_103 : decode method_3_code 103 = .ok (.getstatic 43, 3) := by decide +kernel
theorem dmethod_3_code_106 : decode method_3_code 106 = .ok (.areturn, 1) := by decide +kernel
theorem ef_rm2 (m_ : MethodId) (i : Int32) : entryFrame m_ #[(.int i)] 1 = mkF m_ 0 #[.val (.int i)] [] := by first | (simp [entryFrame, mkF, argsToLocals, Value.category]; done) | rfl
set_option maxRecDepth 65536 in
set_option maxHeartbeats 40000000 in
theorem rm2 (l : Launch) (Z : State) (a0 : Array Value) (hw : ∀ d ∈ tables_1, d.before a0 Z = true) (i : Int32) (s0 s1 s2 s3 s4 s5 s6 s7 s8 s9 s10 s11 : Addr) (h0 : Heap) (n0 : Nat) (Z0 : n0 ≤ h0.size) (S_RESET : Sta Z h0 "com/example/adapterd/adapterd/controller/HciCommand" "RESET" "Lcom/example/adapterd/adapterd/controller/HciCommand;" (.ref s0)) (S_READ_LOCAL_SUPPORTED_COMMANDS : Sta Z h0 "com/example/adapterd/adapterd/controller/HciCommand" "READ_LOCAL_SUPPORTED_COMMANDS" "Lcom/example/adapterd/adapterd/controller/HciCommand;" (.ref s1)) (S_READ_LOCAL_VERSION_INFORMATION : Sta Z h0 "com/example/adapterd/adapterd/controller/HciCommand" "READ_LOCAL_VERSION_INFORMATION" "Lcom/example/adapterd/adapterd/controller/HciCommand;" (.ref s2)) (S_READ_LOCAL_SUPPORTED_FEATURES : Sta Z h0 "com/example/adapterd/adapterd/controller/HciCommand" "READ_LOCAL_SUPPORTED_FEATURES" "Lcom/example/adapterd/adapterd/controller/HciCommand;" (.ref s3)) (S_READ_BD_ADDR : Sta Z h0 "com/example/adapterd/adapterd/controller/HciCommand" "READ_BD_ADDR" "Lcom/example/adapterd/adapterd/controller/HciCommand;" (.ref s4)) (S_READ_BUFFER_SIZE : Sta Z h0 "com/example/adapterd/adapterd/controller/HciCommand" "READ_BUFFER_SIZE" "Lcom/example/adapterd/adapterd/controller/HciCommand;" (.ref s5)) (S_LE_READ_BUFFER_SIZE : Sta Z h0 "com/example/adapterd/adapterd/controller/HciCommand" "LE_READ_BUFFER_SIZE" "Lcom/example/adapterd/adapterd/controller/HciCommand;" (.ref s6)) (S_SET_EVENT_MASK : Sta Z h0 "com/example/adapterd/adapterd/controller/HciCommand" "SET_EVENT_MASK" "Lcom/example/adapterd/adapterd/controller/HciCommand;" (.ref s7)) (S_LE_SET_EVENT_MASK : Sta Z h0 "com/example/adapterd/adapterd/controller/HciCommand" "LE_SET_EVENT_MASK" "Lcom/example/adapterd/adapterd/controller/HciCommand;" (.ref s8)) (S_WRITE_LOCAL_NAME : Sta Z h0 "com/example/adapterd/adapterd/controller/HciCommand" "WRITE_LOCAL_NAME" "Lcom/example/adapterd/adapterd/controller/HciCommand;" (.ref s9)) (S_WRITE_CLASS_OF_DEVICE : Sta Z h0 "com/example/adapterd/adapterd/controller/HciCommand" "WRITE_CLASS_OF_DEVICE" "Lcom/example/adapterd/adapterd/controller/HciCommand;" (.ref s10)) (S_WRITE_SCAN_ENABLE : Sta Z h0 "com/example/adapterd/adapterd/controller/HciCommand" "WRITE_SCAN_ENABLE" "Lcom/example/adapterd/adapterd/controller/HciCommand;" (.ref s11)) :
    own_Met l Z (⟨"com/example/adapterd/adapterd/controller/HciCommandIsListedInPinLaw", "cmd", "(I)Lcom/example/adapterd/adapterd/controller/HciCommand;"⟩ : MethodName) method_3_code 1 (some (.object "com/example/adapterd/adapterd/controller/HciCommand")) ({ frames := 0, cells := 0, slots := 0, locals := 0 } : Room) #[(.int i)] h0 (fun v h L => ((v = some (.ref s0) ∧ i = (0 : Int32)) ∨ (v = some (.ref s1) ∧ i = (1 : Int32)) ∨ (v = some (.ref s2) ∧ i = (2 : Int32)) ∨ (v = some (.ref s3) ∧ i = (3 : Int32)) ∨ (v = some (.ref s4) ∧ i = (4 : Int32)) ∨ (v = some (.ref s5) ∧ i = (5 : Int32)) ∨ (v = some (.ref s6) ∧ i = (6 : Int32)) ∨ (v = some (.ref s7) ∧ i = (7 : Int32)) ∨ (v = some (.ref s8) ∧ i = (8 : Int32)) ∨ (v = some (.ref s9) ∧ i = (9 : Int32)) ∨ (v = some (.ref s10) ∧ i = (10 : Int32)) ∨ (v = some (.ref s11) ∧ ¬ i = (0 : Int32) ∧ ¬ i = (1 : Int32) ∧ ¬ i = (2 : Int32) ∧ ¬ i = (3 : Int32) ∧ ¬ i = (4 : Int32) ∧ ¬ i = (5 : Int32) ∧ ¬ i = (6 : Int32) ∧ ¬ i = (7 : Int32) ∧ ¬ i = (8 : Int32) ∧ ¬ i = (9 : Int32) ∧ ¬ i = (10 : Int32))) ∧ Fr n0 L ∧ h = h0) := by
  refine own_body #[.val (.int i)] (plainFor_of_name own_pn0) (fun m_ => ef_rm2 m_ i) ?_
  intro p_ e_ s_ m_ below meth c_ s₁ X0 hx hby hml hret hlk hZ hown hnm e0
  have N0 := Fr.nil n0
  show own_Out p_ e_ below s_ _ _ _ s₁ (mkF m_ 0 #[.val (.int i)] [])
  refine own_st s₁ (mkF m_ 1 #[.val (.int i)] [(.int i)]) (fun t_ k_ => ?_) ?_
  · refine XS.iloadN X0.here hx rfl (hb hby dmethod_3_code_0) rfl ?_
    show Steps p_.tables e_ below (s₁.setTop (mkF m_ 1 #[.val (.int i)] [(.int i)])) t_
    exact k_
  by_cases hc1 : i = (0 : Int32)
  · refine own_st s₁ (mkF m_ 4 #[.val (.int i)] []) (fun t_ k_ => XS.ifNo X0.here hx rfl (hb hby dmethod_3_code_1) rfl ((if0 _ _).trans (teq hc1).2) k_) ?_
    obtain ⟨T1, X1, e1, st1⟩ := getS2 X0 hx hZ hown (host := "") (Or.inl (hw _ (List.mem_of_getElem? (i := 9) rfl))) Via.refl e0 S_RESET (g := (mkF m_ 4 #[.val (.int i)] [])) rfl (hb hby dmethod_3_code_4)
    refine own_st T1 (mkF m_ 7 #[.val (.int i)] [(.ref s0)]) st1 ?_
    refine own_retA X1 hx hlk hret rfl rfl (hb hby dmethod_3_code_7) (by decide) (by decide) ?_
    rw [e1]
    exact ⟨Or.inl ⟨rfl, hc1⟩, N0, rfl⟩
  · refine own_st s₁ (mkF m_ 8 #[.val (.int i)] []) (fun t_ k_ => XS.ifYes X0.here hx rfl (pc0 := 1) (pc' := 8) rfl (hb hby dmethod_3_code_1) rfl ((if0 _ _).trans (feq hc1).2) (by decide) (by decide) k_) ?_
    refine own_st s₁ (mkF m_ 10 #[.val (.int i)] [(.int (1 : Int32)), (.int i)]) (fun t_ k_ => ?_) ?_
    · refine XS.iloadN X0.here hx rfl (hb hby dmethod_3_code_8) rfl ?_
      show Steps p_.tables e_ below (s₁.setTop (mkF m_ 9 #[.val (.int i)] [(.int i)])) t_
      refine XS.iconst X0.here hx rfl (hb hby dmethod_3_code_9) ?_
      show Steps p_.tables e_ below (s₁.setTop (mkF m_ 10 #[.val (.int i)] [(.int (1 : Int32)), (.int i)])) t_
      exact k_
    by_cases hc10 : i = (1 : Int32)
    · refine own_st s₁ (mkF m_ 13 #[.val (.int i)] []) (fun t_ k_ => XS.icmpNo X0.here hx rfl (hb hby dmethod_3_code_10) rfl (teq hc10).2 k_) ?_
      obtain ⟨T2, X2, e2, st2⟩ := getS2 X0 hx hZ hown (host := "") (Or.inl (hw _ (List.mem_of_getElem? (i := 29) rfl))) Via.refl e0 S_READ_LOCAL_SUPPORTED_COMMANDS (g := (mkF m_ 13 #[.val (.int i)] [])) rfl (hb hby dmethod_3_code_13)
      refine own_st T2 (mkF m_ 16 #[.val (.int i)] [(.ref s1)]) st2 ?_
      refine own_retA X2 hx hlk hret rfl rfl (hb hby dmethod_3_code_16) (by decide) (by decide) ?_
      rw [e2]
      exact ⟨Or.inr (Or.inl ⟨rfl, hc10⟩), N0, rfl⟩
    · refine own_st s₁ (mkF m_ 17 #[.val (.int i)] []) (fun t_ k_ => XS.icmpYes X0.here hx rfl (pc0 := 10) (pc' := 17) rfl (hb hby dmethod_3_code_10) rfl (feq hc10).2 (by decide) (by decide) k_) ?_
      refine own_st s₁ (mkF m_ 19 #[.val (.int i)] [(.int (2 : Int32)), (.int i)]) (fun t_ k_ => ?_) ?_
      · refine XS.iloadN X0.here hx rfl (hb hby dmethod_3_code_17) rfl ?_
        show Steps p_.tables e_ below (s₁.setTop (mkF m_ 18 #[.val (.int i)] [(.int i)])) t_
        refine XS.iconst X0.here hx rfl (hb hby dmethod_3_code_18) ?_
        show Steps p_.tables e_ below (s₁.setTop (mkF m_ 19 #[.val (.int i)] [(.int (2 : Int32)), (.int i)])) t_
        exact k_
      by_cases hc19 : i = (2 : Int32)
      · refine own_st s₁ (mkF m_ 22 #[.val (.int i)] []) (fun t_ k_ => XS.icmpNo X0.here hx rfl (hb hby dmethod_3_code_19) rfl (teq hc19).2 k_) ?_
        obtain ⟨T3, X3, e3, st3⟩ := getS2 X0 hx hZ hown (host := "") (Or.inl (hw _ (List.mem_of_getElem? (i := 33) rfl))) Via.refl e0 S_READ_LOCAL_VERSION_INFORMATION (g := (mkF m_ 22 #[.val (.int i)] [])) rfl (hb hby dmethod_3_code_22)
        refine own_st T3 (mkF m_ 25 #[.val (.int i)] [(.ref s2)]) st3 ?_
        refine own_retA X3 hx hlk hret rfl rfl (hb hby dmethod_3_code_25) (by decide) (by decide) ?_
        rw [e3]
        exact ⟨Or.inr (Or.inr (Or.inl ⟨rfl, hc19⟩)), N0, rfl⟩
      · refine own_st s₁ (mkF m_ 26 #[.val (.int i)] []) (fun t_ k_ => XS.icmpYes X0.here hx rfl (pc0 := 19) (pc' := 26) rfl (hb hby dmethod_3_code_19) rfl (feq hc19).2 (by decide) (by decide) k_) ?_
        refine own_st s₁ (mkF m_ 28 #[.val (.int i)] [(.int (3 : Int32)), (.int i)]) (fun t_ k_ => ?_) ?_
        · refine XS.iloadN X0.here hx rfl (hb hby dmethod_3_code_26) rfl ?_
          show Steps p_.tables e_ below (s₁.setTop (mkF m_ 27 #[.val (.int i)] [(.int i)])) t_
          refine XS.iconst X0.here hx rfl (hb hby dmethod_3_code_27) ?_
          show Steps p_.tables e_ below (s₁.setTop (mkF m_ 28 #[.val (.int i)] [(.int (3 : Int32)), (.int i)])) t_
          exact k_
        by_cases hc28 : i = (3 : Int32)
        · refine own_st s₁ (mkF m_ 31 #[.val (.int i)] []) (fun t_ k_ => XS.icmpNo X0.here hx rfl (hb hby dmethod_3_code_28) rfl (teq hc28).2 k_) ?_
          obtain ⟨T4, X4, e4, st4⟩ := getS2 X0 hx hZ hown (host := "") (Or.inl (hw _ (List.mem_of_getElem? (i := 43) rfl))) Via.refl e0 S_READ_LOCAL_SUPPORTED_FEATURES (g := (mkF m_ 31 #[.val (.int i)] [])) rfl (hb hby dmethod_3_code_31)
          refine own_st T4 (mkF m_ 34 #[.val (.int i)] [(.ref s3)]) st4 ?_
          refine own_retA X4 hx hlk hret rfl rfl (hb hby dmethod_3_code_34) (by decide) (by decide) ?_
          rw [e4]
          exact ⟨Or.inr (Or.inr (Or.inr (Or.inl ⟨rfl, hc28⟩))), N0, rfl⟩
        · refine own_st s₁ (mkF m_ 35 #[.val (.int i)] []) (fun t_ k_ => XS.icmpYes X0.here hx rfl (pc0 := 28) (pc' := 35) rfl (hb hby dmethod_3_code_28) rfl (feq hc28).2 (by decide) (by decide) k_) ?_
          refine own_st s₁ (mkF m_ 37 #[.val (.int i)] [(.int (4 : Int32)), (.int i)]) (fun t_ k_ => ?_) ?_
          · refine XS.iloadN X0.here hx rfl (hb hby dmethod_3_code_35) rfl ?_
            show Steps p_.tables e_ below (s₁.setTop (mkF m_ 36 #[.val (.int i)] [(.int i)])) t_
            refine XS.iconst X0.here hx rfl (hb hby dmethod_3_code_36) ?_
            show Steps p_.tables e_ below (s₁.setTop (mkF m_ 37 #[.val (.int i)] [(.int (4 : Int32)), (.int i)])) t_
            exact k_
          by_cases hc37 : i = (4 : Int32)
          · refine own_st s₁ (mkF m_ 40 #[.val (.int i)] []) (fun t_ k_ => XS.icmpNo X0.here hx rfl (hb hby dmethod_3_code_37) rfl (teq hc37).2 k_) ?_
            obtain ⟨T5, X5, e5, st5⟩ := getS2 X0 hx hZ hown (host := "") (Or.inl (hw _ (List.mem_of_getElem? (i := 39) rfl))) Via.refl e0 S_READ_BD_ADDR (g := (mkF m_ 40 #[.val (.int i)] [])) rfl (hb hby dmethod_3_code_40)
            refine own_st T5 (mkF m_ 43 #[.val (.int i)] [(.ref s4)]) st5 ?_
            refine own_retA X5 hx hlk hret rfl rfl (hb hby dmethod_3_code_43) (by decide) (by decide) ?_
            rw [e5]
            exact ⟨Or.inr (Or.inr (Or.inr (Or.inr (Or.inl ⟨rfl, hc37⟩)))), N0, rfl⟩
          · refine own_st s₁ (mkF m_ 44 #[.val (.int i)] []) (fun t_ k_ => XS.icmpYes X0.here hx rfl (pc0 := 37) (pc' := 44) rfl (hb hby dmethod_3_code_37) rfl (feq hc37).2 (by decide) (by decide) k_) ?_
            refine own_st s₁ (mkF m_ 46 #[.val (.int i)] [(.int (5 : Int32)), (.int i)]) (fun t_ k_ => ?_) ?_
            · refine XS.iloadN X0.here hx rfl (hb hby dmethod_3_code_44) rfl ?_
              show Steps p_.tables e_ below (s₁.setTop (mkF m_ 45 #[.val (.int i)] [(.int i)])) t_
              refine XS.iconst X0.here hx rfl (hb hby dmethod_3_code_45) ?_
              show Steps p_.tables e_ below (s₁.setTop (mkF m_ 46 #[.val (.int i)] [(.int (5 : Int32)), (.int i)])) t_
              exact k_
            by_cases hc46 : i = (5 : Int32)
            · refine own_st s₁ (mkF m_ 49 #[.val (.int i)] []) (fun t_ k_ => XS.icmpNo X0.here hx rfl (hb hby dmethod_3_code_46) rfl (teq hc46).2 k_) ?_
              obtain ⟨T6, X6, e6, st6⟩ := getS2 X0 hx hZ hown (host := "") (Or.inl (hw _ (List.mem_of_getElem? (i := 37) rfl))) Via.refl e0 S_READ_BUFFER_SIZE (g := (mkF m_ 49 #[.val (.int i)] [])) rfl (hb hby dmethod_3_code_49)
              refine own_st T6 (mkF m_ 52 #[.val (.int i)] [(.ref s5)]) st6 ?_
              refine own_retA X6 hx hlk hret rfl rfl (hb hby dmethod_3_code_52) (by decide) (by decide) ?_
              rw [e6]
              exact ⟨Or.inr (Or.inr (Or.inr (Or.inr (Or.inr (Or.inl ⟨rfl, hc46⟩))))), N0, rfl⟩
            · refine own_st s₁ (mkF m_ 53 #[.val (.int i)] []) (fun t_ k_ => XS.icmpYes X0.here hx rfl (pc0 := 46) (pc' := 53) rfl (hb hby dmethod_3_code_46) rfl (feq hc46).2 (by decide) (by decide) k_) ?_
              refine own_st s₁ (mkF m_ 56 #[.val (.int i)] [(.int (6 : Int32)), (.int i)]) (fun t_ k_ => ?_) ?_
              · refine XS.iloadN X0.here hx rfl (hb hby dmethod_3_code_53) rfl ?_
                show Steps p_.tables e_ below (s₁.setTop (mkF m_ 54 #[.val (.int i)] [(.int i)])) t_
                refine XS.bipush X0.here hx rfl (hb hby dmethod_3_code_54) ?_
                show Steps p_.tables e_ below (s₁.setTop (mkF m_ 56 #[.val (.int i)] [(.int (6 : Int32)), (.int i)])) t_
                exact k_
              by_cases hc56 : i = (6 : Int32)
              · refine own_st s₁ (mkF m_ 59 #[.val (.int i)] []) (fun t_ k_ => XS.icmpNo X0.here hx rfl (hb hby dmethod_3_code_56) rfl (teq hc56).2 k_) ?_
                obtain ⟨T7, X7, e7, st7⟩ := getS2 X0 hx hZ hown (host := "") (Or.inl (hw _ (List.mem_of_getElem? (i := 41) rfl))) Via.refl e0 S_LE_READ_BUFFER_SIZE (g := (mkF m_ 59 #[.val (.int i)] [])) rfl (hb hby dmethod_3_code_59)
                refine own_st T7 (mkF m_ 62 #[.val (.int i)] [(.ref s6)]) st7 ?_
                refine own_retA X7 hx hlk hret rfl rfl (hb hby dmethod_3_code_62) (by decide) (by decide) ?_
                rw [e7]
                exact ⟨Or.inr (Or.inr (Or.inr (Or.inr (Or.inr (Or.inr (Or.inl ⟨rfl, hc56⟩)))))), N0, rfl⟩
              · refine own_st s₁ (mkF m_ 63 #[.val (.int i)] []) (fun t_ k_ => XS.icmpYes X0.here hx rfl (pc0 := 56) (pc' := 63) rfl (hb hby dmethod_3_code_56) rfl (feq hc56).2 (by decide) (by decide) k_) ?_
                refine own_st s₁ (mkF m_ 66 #[.val (.int i)] [(.int (7 : Int32)), (.int i)]) (fun t_ k_ => ?_) ?_
                · refine XS.iloadN X0.here hx rfl (hb hby dmethod_3_code_63) rfl ?_
                  show Steps p_.tables e_ below (s₁.setTop (mkF m_ 64 #[.val (.int i)] [(.int i)])) t_
                  refine XS.bipush X0.here hx rfl (hb hby dmethod_3_code_64) ?_
                  show Steps p_.tables e_ below (s₁.setTop (mkF m_ 66 #[.val (.int i)] [(.int (7 : Int32)), (.int i)])) t_
                  exact k_
                by_cases hc66 : i = (7 : Int32)
                · refine own_st s₁ (mkF m_ 69 #[.val (.int i)] []) (fun t_ k_ => XS.icmpNo X0.here hx rfl (hb hby dmethod_3_code_66) rfl (teq hc66).2 k_) ?_
                  obtain ⟨T8, X8, e8, st8⟩ := getS2 X0 hx hZ hown (host := "") (Or.inl (hw _ (List.mem_of_getElem? (i := 47) rfl))) Via.refl e0 S_SET_EVENT_MASK (g := (mkF m_ 69 #[.val (.int i)] [])) rfl (hb hby dmethod_3_code_69)
                  refine own_st T8 (mkF m_ 72 #[.val (.int i)] [(.ref s7)]) st8 ?_
                  refine own_retA X8 hx hlk hret rfl rfl (hb hby dmethod_3_code_72) (by decide) (by decide) ?_
                  rw [e8]
                  exact ⟨Or.inr (Or.inr (Or.inr (Or.inr (Or.inr (Or.inr (Or.inr (Or.inl ⟨rfl, hc66⟩))))))), N0, rfl⟩
                · refine own_st s₁ (mkF m_ 73 #[.val (.int i)] []) (fun t_ k_ => XS.icmpYes X0.here hx rfl (pc0 := 66) (pc' := 73) rfl (hb hby dmethod_3_code_66) rfl (feq hc66).2 (by decide) (by decide) k_) ?_
                  refine own_st s₁ (mkF m_ 76 #[.val (.int i)] [(.int (8 : Int32)), (.int i)]) (fun t_ k_ => ?_) ?_
                  · refine XS.iloadN X0.here hx rfl (hb hby dmethod_3_code_73) rfl ?_
                    show Steps p_.tables e_ below (s₁.setTop (mkF m_ 74 #[.val (.int i)] [(.int i)])) t_
                    refine XS.bipush X0.here hx rfl (hb hby dmethod_3_code_74) ?_
                    show Steps p_.tables e_ below (s₁.setTop (mkF m_ 76 #[.val (.int i)] [(.int (8 : Int32)), (.int i)])) t_
                    exact k_
                  by_cases hc76 : i = (8 : Int32)
                  · refine own_st s₁ (mkF m_ 79 #[.val (.int i)] []) (fun t_ k_ => XS.icmpNo X0.here hx rfl (hb hby dmethod_3_code_76) rfl (teq hc76).2 k_) ?_
                    obtain ⟨T9, X9, e9, st9⟩ := getS2 X0 hx hZ hown (host := "") (Or.inl (hw _ (List.mem_of_getElem? (i := 22) rfl))) Via.refl e0 S_LE_SET_EVENT_MASK (g := (mkF m_ 79 #[.val (.int i)] [])) rfl (hb hby dmethod_3_code_79)
                    refine own_st T9 (mkF m_ 82 #[.val (.int i)] [(.ref s8)]) st9 ?_
                    refine own_retA X9 hx hlk hret rfl rfl (hb hby dmethod_3_code_82) (by decide) (by decide) ?_
                    rw [e9]
                    exact ⟨Or.inr (Or.inr (Or.inr (Or.inr (Or.inr (Or.inr (Or.inr (Or.inr (Or.inl ⟨rfl, hc76⟩)))))))), N0, rfl⟩
                  · refine own_st s₁ (mkF m_ 83 #[.val (.int i)] []) (fun t_ k_ => XS.icmpYes X0.here hx rfl (pc0 := 76) (pc' := 83) rfl (hb hby dmethod_3_code_76) rfl (feq hc76).2 (by decide) (by decide) k_) ?_
                    refine own_st s₁ (mkF m_ 86 #[.val (.int i)] [(.int (9 : Int32)), (.int i)]) (fun t_ k_ => ?_) ?_
                    · refine XS.iloadN X0.here hx rfl (hb hby dmethod_3_code_83) rfl ?_
                      show Steps p_.tables e_ below (s₁.setTop (mkF m_ 84 #[.val (.int i)] [(.int i)])) t_
                      refine XS.bipush X0.here hx rfl (hb hby dmethod_3_code_84) ?_
                      show Steps p_.tables e_ below (s₁.setTop (mkF m_ 86 #[.val (.int i)] [(.int (9 : Int32)), (.int i)])) t_
                      exact k_
                    by_cases hc86 : i = (9 : Int32)
                    · refine own_st s₁ (mkF m_ 89 #[.val (.int i)] []) (fun t_ k_ => XS.icmpNo X0.here hx rfl (hb hby dmethod_3_code_86) rfl (teq hc86).2 k_) ?_
                      obtain ⟨T10, X10, e10, st10⟩ := getS2 X0 hx hZ hown (host := "") (Or.inl (hw _ (List.mem_of_getElem? (i := 45) rfl))) Via.refl e0 S_WRITE_LOCAL_NAME (g := (mkF m_ 89 #[.val (.int i)] [])) rfl (hb hby dmethod_3_code_89)
                      refine own_st T10 (mkF m_ 92 #[.val (.int i)] [(.ref s9)]) st10 ?_
                      refine own_retA X10 hx hlk hret rfl rfl (hb hby dmethod_3_code_92) (by decide) (by decide) ?_
                      rw [e10]
                      exact ⟨Or.inr (Or.inr (Or.inr (Or.inr (Or.inr (Or.inr (Or.inr (Or.inr (Or.inr (Or.inl ⟨rfl, hc86⟩))))))))), N0, rfl⟩
                    · refine own_st s₁ (mkF m_ 93 #[.val (.int i)] []) (fun t_ k_ => XS.icmpYes X0.here hx rfl (pc0 := 86) (pc' := 93) rfl (hb hby dmethod_3_code_86) rfl (feq hc86).2 (by decide) (by decide) k_) ?_
                      refine own_st s₁ (mkF m_ 96 #[.val (.int i)] [(.int (10 : Int32)), (.int i)]) (fun t_ k_ => ?_) ?_
                      · refine XS.iloadN X0.here hx rfl (hb hby dmethod_3_code_93) rfl ?_
                        show Steps p_.tables e_ below (s₁.setTop (mkF m_ 94 #[.val (.int i)] [(.int i)])) t_
                        refine XS.bipush X0.here hx rfl (hb hby dmethod_3_code_94) ?_
                        show Steps p_.tables e_ below (s₁.setTop (mkF m_ 96 #[.val (.int i)] [(.int (10 : Int32)), (.int i)])) t_
                        exact k_
                      by_cases hc96 : i = (10 : Int32)
                      · refine own_st s₁ (mkF m_ 99 #[.val (.int i)] []) (fun t_ k_ => XS.icmpNo X0.here hx rfl (hb hby dmethod_3_code_96) rfl (teq hc96).2 k_) ?_
                        obtain ⟨T11, X11, e11, st11⟩ := getS2 X0 hx hZ hown (host := "") (Or.inl (hw _ (List.mem_of_getElem? (i := 31) rfl))) Via.refl e0 S_WRITE_CLASS_OF_DEVICE (g := (mkF m_ 99 #[.val (.int i)] [])) rfl (hb hby dmethod_3_code_99)
                        refine own_st T11 (mkF m_ 102 #[.val (.int i)] [(.ref s10)]) st11 ?_
                        refine own_retA X11 hx hlk hret rfl rfl (hb hby dmethod_3_code_102) (by decide) (by decide) ?_
                        rw [e11]
                        exact ⟨Or.inr (Or.inr (Or.inr (Or.inr (Or.inr (Or.inr (Or.inr (Or.inr (Or.inr (Or.inr (Or.inl ⟨rfl, hc96⟩)))))))))), N0, rfl⟩
                      · refine own_st s₁ (mkF m_ 103 #[.val (.int i)] []) (fun t_ k_ => XS.icmpYes X0.here hx rfl (pc0 := 96) (pc' := 103) rfl (hb hby dmethod_3_code_96) rfl (feq hc96).2 (by decide) (by decide) k_) ?_
                        obtain ⟨T12, X12, e12, st12⟩ := getS2 X0 hx hZ hown (host := "") (Or.inl (hw _ (List.mem_of_getElem? (i := 35) rfl))) Via.refl e0 S_WRITE_SCAN_ENABLE (g := (mkF m_ 103 #[.val (.int i)] [])) rfl (hb hby dmethod_3_code_103)
                        refine own_st T12 (mkF m_ 106 #[.val (.int i)] [(.ref s11)]) st12 ?_
                        refine own_retA X12 hx hlk hret rfl rfl (hb hby dmethod_3_code_106) (by decide) (by decide) ?_
                        rw [e12]
                        exact ⟨Or.inr (Or.inr (Or.inr (Or.inr (Or.inr (Or.inr (Or.inr (Or.inr (Or.inr (Or.inr (Or.inr (⟨rfl, hc1, hc10, hc19, hc28, hc37, hc46, hc56, hc66, hc76, hc86, hc96⟩))))))))))), N0, rfl⟩
theorem dprog_18_method_7_code_0 : decode prog_18_method_7_code 0 = .ok (.aload_n 0, 1) := by decide +kernel
theorem dprog_18_method_7_code_1 : decode prog_18_method_7_code 1 = .ok (.getfield 73, 3) := by decide +kernel
theorem dprog_18_method_7_code_4 : decode prog_18_method_7_code 4 = .ok (.iconst (-1), 1) := by decide +kernel
theorem dprog_18_method_7_code_5 : decode prog_18_method_7_code 5 = .ok (.if_icmp .eq 19, 3) := by decide +kernel
theorem dprog_18_method_7_code_24 : decode prog_18_method_7_code 24 = .ok (.iconst 1, 1) := by decide +kernel
theorem dprog_18_method_7_code_25 : decode prog_18_method_7_code 25 = .ok (.goto 4, 3) := by decide +kernel
theorem dprog_18_method_7_code_29 : decode prog_18_method_7_code 29 = .ok (.ireturn, 1) := by decide +kernel
theorem ef_rm3a (m_ : MethodId) (a : Addr) (bm : Addr) : entryFrame m_ #[(.ref a), (.ref bm)] 2 = mkF m_ 0 #[.val (.ref a), .val (.ref bm)] [] := by first | (simp [entryFrame, mkF, argsToLocals, Value.category]; done) | rfl
theorem own_pn1 : plainName "com/example/adapterd/adapterd/controller/HciCommand" = true := by first | (simp [plainName, overriddenIn]; done) | decide +kernel
set_option maxRecDepth 65536 in
set_option maxHeartbeats 40000000 in
theorem rm3a (l : Launch) (Z : State) (a0 : Array Value) (hw : ∀ d ∈ tables_1, d.before a0 Z = true) (a : Addr) (bm : Addr) (h0 : Heap) (n0 : Nat) (Z0 : n0 ≤ h0.size) (F_octet_a : Fld Z h0 a "com/example/adapterd/adapterd/controller/HciCommand" "octet" "I" (.int (-1 : Int32))) :
    own_Met l Z (⟨"com/example/adapterd/adapterd/controller/HciCommand", "isListedIn", "([B)Z"⟩ : MethodName) prog_18_method_7_code 2 (some .boolean) ({ frames := 0, cells := 0, slots := 0, locals := 0 } : Room) #[(.ref a), (.ref bm)] h0 (fun v h L => v = some (.int 1) ∧ Fr n0 L ∧ h = h0) := by
  refine own_body #[.val (.ref a), .val (.ref bm)] (plainFor_of_name own_pn1) (fun m_ => ef_rm3a m_ a bm) ?_
  intro p_ e_ s_ m_ below meth c_ s₁ X0 hx hby hml hret hlk hZ hown hnm e0
  have N0 := Fr.nil n0
  show own_Out p_ e_ below s_ _ _ _ s₁ (mkF m_ 0 #[.val (.ref a), .val (.ref bm)] [])
  refine own_st s₁ (mkF m_ 1 #[.val (.ref a), .val (.ref bm)] [(.ref a)]) (fun t_ k_ => ?_) ?_
  · refine XS.aloadN X0.here hx rfl (hb hby dprog_18_method_7_code_0) rfl rfl ?_
    show Steps p_.tables e_ below (s₁.setTop (mkF m_ 1 #[.val (.ref a), .val (.ref bm)] [(.ref a)])) t_
    exact k_
  obtain ⟨T1, X1, e1, st1⟩ := getF X0 hx hZ hown (host := "") (Or.inl (hw _ (List.mem_of_getElem? (i := 17) rfl))) Via.refl e0 F_octet_a (g := (mkF m_ 1 #[.val (.ref a), .val (.ref bm)] [(.ref a)])) rfl rfl (hb hby dprog_18_method_7_code_1)
  refine own_st T1 (mkF m_ 4 #[.val (.ref a), .val (.ref bm)] [(.int (-1 : Int32))]) st1 ?_
  refine own_st T1 (mkF m_ 29 #[.val (.ref a), .val (.ref bm)] [(.int (1 : Int32))]) (fun t_ k_ => ?_) ?_
  · refine XS.iconst X1.here hx rfl (hb hby dprog_18_method_7_code_4) ?_
    show Steps p_.tables e_ below (T1.setTop (mkF m_ 5 #[.val (.ref a), .val (.ref bm)] [(.int (-1 : Int32)), (.int (-1 : Int32))])) t_
    refine XS.icmpYes X1.here hx rfl (pc0 := 5) (pc' := 24) rfl (hb hby dprog_18_method_7_code_5) rfl (teq (by decide : (-1 : Int32) = (-1 : Int32))).1 (by decide) (by decide) ?_
    show Steps p_.tables e_ below (T1.setTop (mkF m_ 24 #[.val (.ref a), .val (.ref bm)] [])) t_
    refine XS.iconst X1.here hx rfl (hb hby dprog_18_method_7_code_24) ?_
    show Steps p_.tables e_ below (T1.setTop (mkF m_ 25 #[.val (.ref a), .val (.ref bm)] [(.int (1 : Int32))])) t_
    refine XS.goto X1.here hx rfl (pc0 := 25) (pc' := 29) rfl (hb hby dprog_18_method_7_code_25) (by decide) (by decide) ?_
    show Steps p_.tables e_ below (T1.setTop (mkF m_ 29 #[.val (.ref a), .val (.ref bm)] [(.int (1 : Int32))])) t_
    exact k_
  refine own_retN X1 hx hlk (t := .boolean) hret (by simp) (hb hby dprog_18_method_7_code_29) (by decide) (by decide) ?_
  rw [e1]
  exact ⟨rfl, N0, rfl⟩
def f3 (y bt : Int32) : Int32 := (if (y &&& ((1 : Int32) <<< (bt &&& 31))) = (0 : Int32) then (0 : Int32) else 1)
theorem dprog_18_method_7_code_8 : decode prog_18_method_7_code 8 = .ok (.aload_n 1, 1) := by decide +kernel
theorem dprog_18_method_7_code_9 : decode prog_18_method_7_code 9 = .ok (.aload_n 0, 1) := by decide +kernel
theorem dprog_18_method_7_code_10 : decode prog_18_method_7_code 10 = .ok (.getfield 73, 3) := by decide +kernel
theorem dprog_18_method_7_code_13 : decode prog_18_method_7_code 13 = .ok (.baload, 1) := by decide +kernel
theorem dprog_18_method_7_code_14 : decode prog_18_method_7_code 14 = .ok (.iconst 1, 1) := by decide +kernel
theorem dprog_18_method_7_code_15 : decode prog_18_method_7_code 15 = .ok (.aload_n 0, 1) := by decide +kernel
theorem dprog_18_method_7_code_16 : decode prog_18_method_7_code 16 = .ok (.getfield 76, 3) := by decide +kernel
theorem dprog_18_method_7_code_19 : decode prog_18_method_7_code 19 = .ok (.ishl, 1) := by decide +kernel
theorem dprog_18_method_7_code_20 : decode prog_18_method_7_code 20 = .ok (.iand, 1) := by decide +kernel
theorem dprog_18_method_7_code_21 : decode prog_18_method_7_code 21 = .ok (.ifCond .eq 7, 3) := by decide +kernel
theorem dprog_18_method_7_code_28 : decode prog_18_method_7_code 28 = .ok (.iconst 0, 1) := by decide +kernel
theorem ef_rm3 (m_ : MethodId) (a : Addr) (bm : Addr) : entryFrame m_ #[(.ref a), (.ref bm)] 2 = mkF m_ 0 #[.val (.ref a), .val (.ref bm)] [] := by first | (simp [entryFrame, mkF, argsToLocals, Value.category]; done) | rfl
set_option maxRecDepth 65536 in
set_option maxHeartbeats 40000000 in
theorem rm3 (l : Launch) (Z : State) (a0 : Array Value) (hw : ∀ d ∈ tables_1, d.before a0 Z = true) (a : Addr) (bm : Addr) (k : ClassId) (f : Nat → Int32) (oc bt : Int32) (no : Nat) (h0 : Heap) (n0 : Nat) (Z0 : n0 ≤ h0.size) (F_octet_a : Fld Z h0 a "com/example/adapterd/adapterd/controller/HciCommand" "octet" "I" (.int oc)) (F_bit_a : Fld Z h0 a "com/example/adapterd/adapterd/controller/HciCommand" "bit" "I" (.int bt)) (V : own_A Z h0 bm k .byte 64 (fun x => .int (f x))) (hoc : oc.toInt = (no : Int)) (hno : no < 64) (hne : ¬ oc = (-1 : Int32)) :
    own_Met l Z (⟨"com/example/adapterd/adapterd/controller/HciCommand", "isListedIn", "([B)Z"⟩ : MethodName) prog_18_method_7_code 2 (some .boolean) ({ frames := 0, cells := 0, slots := 0, locals := 0 } : Room) #[(.ref a), (.ref bm)] h0 (fun v h L => v = some (.int (f3 (f no) bt)) ∧ Fr n0 L ∧ h = h0) := by
  refine own_body #[.val (.ref a), .val (.ref bm)] (plainFor_of_name own_pn1) (fun m_ => ef_rm3 m_ a bm) ?_
  intro p_ e_ s_ m_ below meth c_ s₁ X0 hx hby hml hret hlk hZ hown hnm e0
  have N0 := Fr.nil n0
  show own_Out p_ e_ below s_ _ _ _ s₁ (mkF m_ 0 #[.val (.ref a), .val (.ref bm)] [])
  refine own_st s₁ (mkF m_ 1 #[.val (.ref a), .val (.ref bm)] [(.ref a)]) (fun t_ k_ => ?_) ?_
  · refine XS.aloadN X0.here hx rfl (hb hby dprog_18_method_7_code_0) rfl rfl ?_
    show Steps p_.tables e_ below (s₁.setTop (mkF m_ 1 #[.val (.ref a), .val (.ref bm)] [(.ref a)])) t_
    exact k_
  obtain ⟨T1, X1, e1, st1⟩ := getF X0 hx hZ hown (host := "") (Or.inl (hw _ (List.mem_of_getElem? (i := 17) rfl))) Via.refl e0 F_octet_a (g := (mkF m_ 1 #[.val (.ref a), .val (.ref bm)] [(.ref a)])) rfl rfl (hb hby dprog_18_method_7_code_1)
  refine own_st T1 (mkF m_ 4 #[.val (.ref a), .val (.ref bm)] [(.int oc)]) st1 ?_
  refine own_st T1 (mkF m_ 10 #[.val (.ref a), .val (.ref bm)] [(.ref a), (.ref bm)]) (fun t_ k_ => ?_) ?_
  · refine XS.iconst X1.here hx rfl (hb hby dprog_18_method_7_code_4) ?_
    show Steps p_.tables e_ below (T1.setTop (mkF m_ 5 #[.val (.ref a), .val (.ref bm)] [(.int (-1 : Int32)), (.int oc)])) t_
    refine XS.icmpNo X1.here hx rfl (hb hby dprog_18_method_7_code_5) rfl (feq (hne : ¬ (oc = (-1 : Int32)))).1 ?_
    show Steps p_.tables e_ below (T1.setTop (mkF m_ 8 #[.val (.ref a), .val (.ref bm)] [])) t_
    refine XS.aloadN X1.here hx rfl (hb hby dprog_18_method_7_code_8) rfl rfl ?_
    show Steps p_.tables e_ below (T1.setTop (mkF m_ 9 #[.val (.ref a), .val (.ref bm)] [(.ref bm)])) t_
    refine XS.aloadN X1.here hx rfl (hb hby dprog_18_method_7_code_9) rfl rfl ?_
    show Steps p_.tables e_ below (T1.setTop (mkF m_ 10 #[.val (.ref a), .val (.ref bm)] [(.ref a), (.ref bm)])) t_
    exact k_
  obtain ⟨T2, X2, e2, st2⟩ := getF X1 hx hZ hown (host := "") (Or.inl (hw _ (List.mem_of_getElem? (i := 17) rfl))) Via.refl e1 F_octet_a (g := (mkF m_ 10 #[.val (.ref a), .val (.ref bm)] [(.ref a), (.ref bm)])) rfl rfl (hb hby dprog_18_method_7_code_10)
  refine own_st T2 (mkF m_ 13 #[.val (.ref a), .val (.ref bm)] [(.int oc), (.ref bm)]) st2 ?_
  refine own_st T2 (mkF m_ 16 #[.val (.ref a), .val (.ref bm)] [(.ref a), (.int (1 : Int32)), (.int (f no))]) (fun t_ k_ => ?_) ?_
  · refine own_ldB X2 hx hZ e2 V no hoc hno (hb hby dprog_18_method_7_code_13) _ ?_
    show Steps p_.tables e_ below (T2.setTop (mkF m_ 14 #[.val (.ref a), .val (.ref bm)] [(.int (f no))])) t_
    refine XS.iconst X2.here hx rfl (hb hby dprog_18_method_7_code_14) ?_
    show Steps p_.tables e_ below (T2.setTop (mkF m_ 15 #[.val (.ref a), .val (.ref bm)] [(.int (1 : Int32)), (.int (f no))])) t_
    refine XS.aloadN X2.here hx rfl (hb hby dprog_18_method_7_code_15) rfl rfl ?_
    show Steps p_.tables e_ below (T2.setTop (mkF m_ 16 #[.val (.ref a), .val (.ref bm)] [(.ref a), (.int (1 : Int32)), (.int (f no))])) t_
    exact k_
  obtain ⟨T3, X3, e3, st3⟩ := getF X2 hx hZ hown (host := "") (Or.inl (hw _ (List.mem_of_getElem? (i := 24) rfl))) Via.refl e2 F_bit_a (g := (mkF m_ 16 #[.val (.ref a), .val (.ref bm)] [(.ref a), (.int (1 : Int32)), (.int (f no))])) rfl rfl (hb hby dprog_18_method_7_code_16)
  refine own_st T3 (mkF m_ 19 #[.val (.ref a), .val (.ref bm)] [(.int bt), (.int (1 : Int32)), (.int (f no))]) st3 ?_
  refine own_st T3 (mkF m_ 29 #[.val (.ref a), .val (.ref bm)] [(.int (if ((f no) &&& ((1 : Int32) <<< (bt &&& 31))) = (0 : Int32) then (0 : Int32) else 1))]) (fun t_ k_ => ?_) ?_
  · refine XS.ishl X3.here hx rfl (hb hby dprog_18_method_7_code_19) rfl ?_
    show Steps p_.tables e_ below (T3.setTop (mkF m_ 20 #[.val (.ref a), .val (.ref bm)] [(.int ((1 : Int32) <<< (bt &&& 31))), (.int (f no))])) t_
    refine XS.iand X3.here hx rfl (hb hby dprog_18_method_7_code_20) rfl ?_
    show Steps p_.tables e_ below (T3.setTop (mkF m_ 21 #[.val (.ref a), .val (.ref bm)] [(.int ((f no) &&& ((1 : Int32) <<< (bt &&& 31))))])) t_
    have jn21 : ∀ t_, Steps p_.tables e_ below (T3.setTop (mkF m_ 29 #[.val (.ref a), .val (.ref bm)] [(.int (if ((f no) &&& ((1 : Int32) <<< (bt &&& 31))) = (0 : Int32) then (0 : Int32) else 1))])) t_ → Steps p_.tables e_ below (T3.setTop (mkF m_ 21 #[.val (.ref a), .val (.ref bm)] [(.int ((f no) &&& ((1 : Int32) <<< (bt &&& 31))))])) t_ := by
      intro t_ k_
      by_cases hc21 : ((f no) &&& ((1 : Int32) <<< (bt &&& 31))) = (0 : Int32)
      · refine XS.ifYes X3.here hx rfl (pc0 := 21) (pc' := 28) rfl (hb hby dprog_18_method_7_code_21) rfl ((if0 _ _).trans (teq hc21).1) (by decide) (by decide) ?_
        show Steps p_.tables e_ below (T3.setTop (mkF m_ 28 #[.val (.ref a), .val (.ref bm)] [])) t_
        refine XS.iconst X3.here hx rfl (hb hby dprog_18_method_7_code_28) ?_
        show Steps p_.tables e_ below (T3.setTop (mkF m_ 29 #[.val (.ref a), .val (.ref bm)] [(.int (0 : Int32))])) t_
        simp only [if_pos hc21] at k_
        exact k_
      · refine XS.ifNo X3.here hx rfl (hb hby dprog_18_method_7_code_21) rfl ((if0 _ _).trans (feq hc21).1) ?_
        show Steps p_.tables e_ below (T3.setTop (mkF m_ 24 #[.val (.ref a), .val (.ref bm)] [])) t_
        refine XS.iconst X3.here hx rfl (hb hby dprog_18_method_7_code_24) ?_
        show Steps p_.tables e_ below (T3.setTop (mkF m_ 25 #[.val (.ref a), .val (.ref bm)] [(.int (1 : Int32))])) t_
        refine XS.goto X3.here hx rfl (pc0 := 25) (pc' := 29) rfl (hb hby dprog_18_method_7_code_25) (by decide) (by decide) ?_
        show Steps p_.tables e_ below (T3.setTop (mkF m_ 29 #[.val (.ref a), .val (.ref bm)] [(.int (1 : Int32))])) t_
        simp only [if_neg hc21] at k_
        exact k_
    refine jn21 _ ?_
    show Steps p_.tables e_ below (T3.setTop (mkF m_ 29 #[.val (.ref a), .val (.ref bm)] [(.int (if ((f no) &&& ((1 : Int32) <<< (bt &&& 31))) = (0 : Int32) then (0 : Int32) else 1))])) t_
    exact k_
  refine own_retN X3 hx hlk (t := .boolean) hret (by simp) (hb hby dprog_18_method_7_code_29) (by decide) (by decide) ?_
  rw [e3]
  rw [own_nz (by first | exact Or.inl rfl | exact Or.inr rfl | (repeat' split) <;> first | exact Or.inl rfl | exact Or.inr rfl)]
  exact ⟨rfl, N0, rfl⟩
theorem dmethod_4_code_0 : decode method_4_code 0 = .ok (.lload_n 0, 1) := by decide +kernel
theorem dmethod_4_code_1 : decode method_4_code 1 = .ok (.iload_n 2, 1) := by decide +kernel
theorem dmethod_4_code_2 : decode method_4_code 2 = .ok (.lushr, 1) := by decide +kernel
theorem dmethod_4_code_3 : decode method_4_code 3 = .ok (.lconst 1, 1) := by decide +kernel
theorem dmethod_4_code_4 : decode method_4_code 4 = .ok (.land, 1) := by decide +kernel
theorem dmethod_4_code_5 : decode method_4_code 5 = .ok (.lconst 0, 1) := by decide +kernel
theorem dmethod_4_code_6 : decode method_4_code 6 = .ok (.lcmp, 1) := by decide +kernel
theorem dmethod_4_code_7 : decode method_4_code 7 = .ok (.ifCond .eq 7, 3) := by decide +kernel
theorem dmethod_4_code_14 : decode method_4_code 14 = .ok (.iconst 0, 1) := by decide +kernel
theorem dmethod_4_code_10 : decode method_4_code 10 = .ok (.iconst 1, 1) := by decide +kernel
theorem dmethod_4_code_11 : decode method_4_code 11 = .ok (.goto 4, 3) := by decide +kernel
theorem dmethod_4_code_15 : decode method_4_code 15 = .ok (.ireturn, 1) := by decide +kernel
theorem ef_rm5 (m_ : MethodId) (x : Int64) (n : Int32) : entryFrame m_ #[(.long x), (.int n)] 3 = mkF m_ 0 #[.val (.long x), .second, .val (.int n)] [] := by first | (simp [entryFrame, mkF, argsToLocals, Value.category]; done) | rfl
def f5 (x : Int64) (n : Int32) : Int32 := (if (((x.toUInt64 >>> (n &&& 0x3f).toInt64.toUInt64).toInt64) &&& (1 : Int64)) = (0 : Int64) then (0 : Int32) else 1)
set_option maxRecDepth 65536 in
set_option maxHeartbeats 40000000 in
theorem rm5 (l : Launch) (Z : State) (a0 : Array Value) (hw : ∀ d ∈ tables_1, d.before a0 Z = true) (x : Int64) (n : Int32) (h0 : Heap) (n0 : Nat) (Z0 : n0 ≤ h0.size)  :
    own_Met l Z (⟨"com/example/adapterd/adapterd/controller/HciCommandIsListedInPinLaw", "bitOf", "(JI)Z"⟩ : MethodName) method_4_code 3 (some .boolean) ({ frames := 0, cells := 0, slots := 0, locals := 0 } : Room) #[(.long x), (.int n)] h0 (fun v h L => v = some (.int (f5 x n)) ∧ Fr n0 L ∧ h = h0) := by
  refine own_body #[.val (.long x), .second, .val (.int n)] (plainFor_of_name own_pn0) (fun m_ => ef_rm5 m_ x n) ?_
  intro p_ e_ s_ m_ below meth c_ s₁ X0 hx hby hml hret hlk hZ hown hnm e0
  have N0 := Fr.nil n0
  show own_Out p_ e_ below s_ _ _ _ s₁ (mkF m_ 0 #[.val (.long x), .second, .val (.int n)] [])
  refine own_st s₁ (mkF m_ 15 #[.val (.long x), .second, .val (.int n)] [(.int (if (((x.toUInt64 >>> (n &&& 0x3f).toInt64.toUInt64).toInt64) &&& (1 : Int64)) = (0 : Int64) then (0 : Int32) else 1))]) (fun t_ k_ => ?_) ?_
  · refine XS.lloadN X0.here hx rfl (hb hby dmethod_4_code_0) rfl ?_
    show Steps p_.tables e_ below (s₁.setTop (mkF m_ 1 #[.val (.long x), .second, .val (.int n)] [(.long x)])) t_
    refine XS.iloadN X0.here hx rfl (hb hby dmethod_4_code_1) rfl ?_
    show Steps p_.tables e_ below (s₁.setTop (mkF m_ 2 #[.val (.long x), .second, .val (.int n)] [(.int n), (.long x)])) t_
    refine XS.lushr X0.here hx rfl (hb hby dmethod_4_code_2) rfl ?_
    show Steps p_.tables e_ below (s₁.setTop (mkF m_ 3 #[.val (.long x), .second, .val (.int n)] [(.long ((x.toUInt64 >>> (n &&& 0x3f).toInt64.toUInt64).toInt64))])) t_
    refine XS.lconst X0.here hx rfl (hb hby dmethod_4_code_3) ?_
    show Steps p_.tables e_ below (s₁.setTop (mkF m_ 4 #[.val (.long x), .second, .val (.int n)] [(.long (1 : Int64)), (.long ((x.toUInt64 >>> (n &&& 0x3f).toInt64.toUInt64).toInt64))])) t_
    refine XS.land X0.here hx rfl (hb hby dmethod_4_code_4) rfl ?_
    show Steps p_.tables e_ below (s₁.setTop (mkF m_ 5 #[.val (.long x), .second, .val (.int n)] [(.long (((x.toUInt64 >>> (n &&& 0x3f).toInt64.toUInt64).toInt64) &&& (1 : Int64)))])) t_
    refine XS.lconst X0.here hx rfl (hb hby dmethod_4_code_5) ?_
    show Steps p_.tables e_ below (s₁.setTop (mkF m_ 6 #[.val (.long x), .second, .val (.int n)] [(.long (0 : Int64)), (.long (((x.toUInt64 >>> (n &&& 0x3f).toInt64.toUInt64).toInt64) &&& (1 : Int64)))])) t_
    refine XS.lcmp X0.here hx rfl (hb hby dmethod_4_code_6) rfl ?_
    show Steps p_.tables e_ below (s₁.setTop (mkF m_ 7 #[.val (.long x), .second, .val (.int n)] [(.int (lcmpW (((x.toUInt64 >>> (n &&& 0x3f).toInt64.toUInt64).toInt64) &&& (1 : Int64)) (0 : Int64)))])) t_
    have jn7 : ∀ t_, Steps p_.tables e_ below (s₁.setTop (mkF m_ 15 #[.val (.long x), .second, .val (.int n)] [(.int (if (((x.toUInt64 >>> (n &&& 0x3f).toInt64.toUInt64).toInt64) &&& (1 : Int64)) = (0 : Int64) then (0 : Int32) else 1))])) t_ → Steps p_.tables e_ below (s₁.setTop (mkF m_ 7 #[.val (.long x), .second, .val (.int n)] [(.int (lcmpW (((x.toUInt64 >>> (n &&& 0x3f).toInt64.toUInt64).toInt64) &&& (1 : Int64)) (0 : Int64)))])) t_ := by
      intro t_ k_
      by_cases hc7 : (((x.toUInt64 >>> (n &&& 0x3f).toInt64.toUInt64).toInt64) &&& (1 : Int64)) = (0 : Int64)
      · refine XS.ifYes X0.here hx rfl (pc0 := 7) (pc' := 14) rfl (hb hby dmethod_4_code_7) rfl ((if0 _ _).trans (teq ((lw_eq (((x.toUInt64 >>> (n &&& 0x3f).toInt64.toUInt64).toInt64) &&& (1 : Int64)) (0 : Int64)).mpr hc7)).1) (by decide) (by decide) ?_
        show Steps p_.tables e_ below (s₁.setTop (mkF m_ 14 #[.val (.long x), .second, .val (.int n)] [])) t_
        refine XS.iconst X0.here hx rfl (hb hby dmethod_4_code_14) ?_
        show Steps p_.tables e_ below (s₁.setTop (mkF m_ 15 #[.val (.long x), .second, .val (.int n)] [(.int (0 : Int32))])) t_
        simp only [if_pos hc7] at k_
        exact k_
      · refine XS.ifNo X0.here hx rfl (hb hby dmethod_4_code_7) rfl ((if0 _ _).trans (feq (fun q => hc7 ((lw_eq (((x.toUInt64 >>> (n &&& 0x3f).toInt64.toUInt64).toInt64) &&& (1 : Int64)) (0 : Int64)).mp q))).1) ?_
        show Steps p_.tables e_ below (s₁.setTop (mkF m_ 10 #[.val (.long x), .second, .val (.int n)] [])) t_
        refine XS.iconst X0.here hx rfl (hb hby dmethod_4_code_10) ?_
        show Steps p_.tables e_ below (s₁.setTop (mkF m_ 11 #[.val (.long x), .second, .val (.int n)] [(.int (1 : Int32))])) t_
        refine XS.goto X0.here hx rfl (pc0 := 11) (pc' := 15) rfl (hb hby dmethod_4_code_11) (by decide) (by decide) ?_
        show Steps p_.tables e_ below (s₁.setTop (mkF m_ 15 #[.val (.long x), .second, .val (.int n)] [(.int (1 : Int32))])) t_
        simp only [if_neg hc7] at k_
        exact k_
    refine jn7 _ ?_
    show Steps p_.tables e_ below (s₁.setTop (mkF m_ 15 #[.val (.long x), .second, .val (.int n)] [(.int (if (((x.toUInt64 >>> (n &&& 0x3f).toInt64.toUInt64).toInt64) &&& (1 : Int64)) = (0 : Int64) then (0 : Int32) else 1))])) t_
    exact k_
  refine own_retN X0 hx hlk (t := .boolean) hret (by simp) (hb hby dmethod_4_code_15) (by decide) (by decide) ?_
  rw [e0]
  have hz : nar .boolean (if (((x.toUInt64 >>> (n &&& 0x3f).toInt64.toUInt64).toInt64) &&& (1 : Int64)) = (0 : Int64) then (0 : Int32) else 1) = (if (((x.toUInt64 >>> (n &&& 0x3f).toInt64.toUInt64).toInt64) &&& (1 : Int64)) = (0 : Int64) then (0 : Int32) else 1) := own_nz (by first | exact Or.inl rfl | exact Or.inr rfl | (repeat' split) <;> first | exact Or.inl rfl | exact Or.inr rfl)
  rw [hz]
  exact ⟨by simp only [f5], N0, rfl⟩
theorem own_f5z (x : Int64) (n : Int32) : f5 x n = 0 ∨ f5 x n = 1 := by unfold f5; split <;> first | exact Or.inl rfl | exact Or.inr rfl
theorem dmethod_5_code_0 : decode method_5_code 0 = .ok (.iload_n 0, 1) := by decide +kernel
theorem dmethod_5_code_1 : decode method_5_code 1 = .ok (.ifCond .eq 8, 3) := by decide +kernel
theorem dmethod_5_code_9 : decode method_5_code 9 = .ok (.iconst 1, 1) := by decide +kernel
theorem dmethod_5_code_10 : decode method_5_code 10 = .ok (.ireturn, 1) := by decide +kernel
theorem dmethod_5_code_4 : decode method_5_code 4 = .ok (.iload_n 0, 1) := by decide +kernel
theorem dmethod_5_code_5 : decode method_5_code 5 = .ok (.iconst 1, 1) := by decide +kernel
theorem dmethod_5_code_6 : decode method_5_code 6 = .ok (.if_icmp .ne 5, 3) := by decide +kernel
theorem dmethod_5_code_11 : decode method_5_code 11 = .ok (.iload_n 0, 1) := by decide +kernel
theorem dmethod_5_code_12 : decode method_5_code 12 = .ok (.iconst 2, 1) := by decide +kernel
theorem dmethod_5_code_13 : decode method_5_code 13 = .ok (.if_icmp .ne 10, 3) := by decide +kernel
theorem dmethod_5_code_16 : decode method_5_code 16 = .ok (.lload_n 3, 1) := by decide +kernel
theorem dmethod_5_code_17 : decode method_5_code 17 = .ok (.bipush 51, 2) := by decide +kernel
theorem own_pd0 : parseMethodDescriptor "(JI)Z" = some ⟨[.long, .int], some .boolean⟩ := by decide +kernel
theorem dmethod_5_code_19 : decode method_5_code 19 = .ok (.invokestatic 46, 3) := by decide +kernel
theorem dmethod_5_code_22 : decode method_5_code 22 = .ok (.ireturn, 1) := by decide +kernel
theorem dmethod_5_code_23 : decode method_5_code 23 = .ok (.iload_n 0, 1) := by decide +kernel
theorem dmethod_5_code_24 : decode method_5_code 24 = .ok (.iconst 3, 1) := by decide +kernel
theorem dmethod_5_code_25 : decode method_5_code 25 = .ok (.if_icmp .ne 10, 3) := by decide +kernel
theorem dmethod_5_code_28 : decode method_5_code 28 = .ok (.lload_n 3, 1) := by decide +kernel
theorem dmethod_5_code_29 : decode method_5_code 29 = .ok (.bipush 53, 2) := by decide +kernel
theorem dmethod_5_code_31 : decode method_5_code 31 = .ok (.invokestatic 46, 3) := by decide +kernel
theorem dmethod_5_code_34 : decode method_5_code 34 = .ok (.ireturn, 1) := by decide +kernel
theorem dmethod_5_code_35 : decode method_5_code 35 = .ok (.iload_n 0, 1) := by decide +kernel
theorem dmethod_5_code_36 : decode method_5_code 36 = .ok (.iconst 4, 1) := by decide +kernel
theorem dmethod_5_code_37 : decode method_5_code 37 = .ok (.if_icmp .ne 10, 3) := by decide +kernel
theorem dmethod_5_code_40 : decode method_5_code 40 = .ok (.lload_n 3, 1) := by decide +kernel
theorem dmethod_5_code_41 : decode method_5_code 41 = .ok (.bipush 57, 2) := by decide +kernel
theorem dmethod_5_code_43 : decode method_5_code 43 = .ok (.invokestatic 46, 3) := by decide +kernel
theorem dmethod_5_code_46 : decode method_5_code 46 = .ok (.ireturn, 1) := by decide +kernel
theorem dmethod_5_code_47 : decode method_5_code 47 = .ok (.iload_n 0, 1) := by decide +kernel
theorem dmethod_5_code_48 : decode method_5_code 48 = .ok (.iconst 5, 1) := by decide +kernel
theorem dmethod_5_code_49 : decode method_5_code 49 = .ok (.if_icmp .ne 10, 3) := by decide +kernel
theorem dmethod_5_code_52 : decode method_5_code 52 = .ok (.lload_n 3, 1) := by decide +kernel
theorem dmethod_5_code_53 : decode method_5_code 53 = .ok (.bipush 55, 2) := by decide +kernel
theorem dmethod_5_code_55 : decode method_5_code 55 = .ok (.invokestatic 46, 3) := by decide +kernel
theorem dmethod_5_code_58 : decode method_5_code 58 = .ok (.ireturn, 1) := by decide +kernel
theorem dmethod_5_code_59 : decode method_5_code 59 = .ok (.iload_n 0, 1) := by decide +kernel
theorem dmethod_5_code_60 : decode method_5_code 60 = .ok (.bipush 6, 2) := by decide +kernel
theorem dmethod_5_code_62 : decode method_5_code 62 = .ok (.if_icmp .ne 11, 3) := by decide +kernel
theorem dmethod_5_code_65 : decode method_5_code 65 = .ok (.lload 7, 2) := by decide +kernel
theorem dmethod_5_code_67 : decode method_5_code 67 = .ok (.bipush 9, 2) := by decide +kernel
theorem dmethod_5_code_69 : decode method_5_code 69 = .ok (.invokestatic 46, 3) := by decide +kernel
theorem dmethod_5_code_72 : decode method_5_code 72 = .ok (.ireturn, 1) := by decide +kernel
theorem dmethod_5_code_73 : decode method_5_code 73 = .ok (.iload_n 0, 1) := by decide +kernel
theorem dmethod_5_code_74 : decode method_5_code 74 = .ok (.bipush 7, 2) := by decide +kernel
theorem dmethod_5_code_76 : decode method_5_code 76 = .ok (.if_icmp .ne 10, 3) := by decide +kernel
theorem dmethod_5_code_79 : decode method_5_code 79 = .ok (.lload_n 1, 1) := by decide +kernel
theorem dmethod_5_code_80 : decode method_5_code 80 = .ok (.bipush 46, 2) := by decide +kernel
theorem dmethod_5_code_82 : decode method_5_code 82 = .ok (.invokestatic 46, 3) := by decide +kernel
theorem dmethod_5_code_85 : decode method_5_code 85 = .ok (.ireturn, 1) := by decide +kernel
theorem dmethod_5_code_86 : decode method_5_code 86 = .ok (.iload_n 0, 1) := by decide +kernel
theorem dmethod_5_code_87 : decode method_5_code 87 = .ok (.bipush 8, 2) := by decide +kernel
theorem dmethod_5_code_89 : decode method_5_code 89 = .ok (.if_icmp .ne 11, 3) := by decide +kernel
theorem dmethod_5_code_92 : decode method_5_code 92 = .ok (.lload 7, 2) := by decide +kernel
theorem dmethod_5_code_94 : decode method_5_code 94 = .ok (.bipush 8, 2) := by decide +kernel
theorem dmethod_5_code_96 : decode method_5_code 96 = .ok (.invokestatic 46, 3) := by decide +kernel
theorem dmethod_5_code_99 : decode method_5_code 99 = .ok (.ireturn, 1) := by decide +kernel
theorem dmethod_5_code_100 : decode method_5_code 100 = .ok (.iload_n 0, 1) := by decide +kernel
theorem dmethod_5_code_101 : decode method_5_code 101 = .ok (.bipush 9, 2) := by decide +kernel
theorem dmethod_5_code_103 : decode method_5_code 103 = .ok (.if_icmp .ne 10, 3) := by decide +kernel
theorem dmethod_5_code_106 : decode method_5_code 106 = .ok (.lload_n 1, 1) := by decide +kernel
theorem dmethod_5_code_107 : decode method_5_code 107 = .ok (.bipush 56, 2) := by decide +kernel
theorem dmethod_5_code_109 : decode method_5_code 109 = .ok (.invokestatic 46, 3) := by decide +kernel
theorem dmethod_5_code_112 : decode method_5_code 112 = .ok (.ireturn, 1) := by decide +kernel
theorem dmethod_5_code_113 : decode method_5_code 113 = .ok (.iload_n 0, 1) := by decide +kernel
theorem dmethod_5_code_114 : decode method_5_code 114 = .ok (.bipush 10, 2) := by decide +kernel
theorem dmethod_5_code_116 : decode method_5_code 116 = .ok (.if_icmp .ne 10, 3) := by decide +kernel
theorem dmethod_5_code_119 : decode method_5_code 119 = .ok (.lload_n 3, 1) := by decide +kernel
theorem dmethod_5_code_120 : decode method_5_code 120 = .ok (.bipush 9, 2) := by decide +kernel
theorem dmethod_5_code_122 : decode method_5_code 122 = .ok (.invokestatic 46, 3) := by decide +kernel
theorem dmethod_5_code_125 : decode method_5_code 125 = .ok (.ireturn, 1) := by decide +kernel
theorem dmethod_5_code_126 : decode method_5_code 126 = .ok (.lload_n 1, 1) := by decide +kernel
theorem dmethod_5_code_127 : decode method_5_code 127 = .ok (.bipush 63, 2) := by decide +kernel
theorem dmethod_5_code_129 : decode method_5_code 129 = .ok (.invokestatic 46, 3) := by decide +kernel
theorem dmethod_5_code_132 : decode method_5_code 132 = .ok (.ireturn, 1) := by decide +kernel
theorem ef_rm4 (m_ : MethodId) (i : Int32) (a : Int64) (b : Int64) (c : Int64) (d : Int64) : entryFrame m_ #[(.int i), (.long a), (.long b), (.long c), (.long d)] 9 = mkF m_ 0 #[.val (.int i), .val (.long a), .second, .val (.long b), .second, .val (.long c), .second, .val (.long d), .second] [] := by first | (simp [entryFrame, mkF, argsToLocals, Value.category]; done) | rfl
def f4 (i : Int32) (a : Int64) (b : Int64) (c : Int64) (d : Int64) : Int32 := (if i = (0 : Int32) then (1 : Int32) else (if i = (1 : Int32) then (1 : Int32) else (if i = (2 : Int32) then (f5 b (51 : Int32)) else (if i = (3 : Int32) then (f5 b (53 : Int32)) else (if i = (4 : Int32) then (f5 b (57 : Int32)) else (if i = (5 : Int32) then (f5 b (55 : Int32)) else (if i = (6 : Int32) then (f5 d (9 : Int32)) else (if i = (7 : Int32) then (f5 a (46 : Int32)) else (if i = (8 : Int32) then (f5 d (8 : Int32)) else (if i = (9 : Int32) then (f5 a (56 : Int32)) else (if i = (10 : Int32) then (f5 b (9 : Int32)) else (f5 a (63 : Int32)))))))))))))
set_option maxRecDepth 65536 in
set_option maxHeartbeats 40000000 in
theorem rm4 (l : Launch) (Z : State) (a0 : Array Value) (hw : ∀ d ∈ tables_1, d.before a0 Z = true) (i : Int32) (a : Int64) (b : Int64) (c : Int64) (d : Int64) (h0 : Heap) (n0 : Nat) (Z0 : n0 ≤ h0.size)  :
    own_Met l Z (⟨"com/example/adapterd/adapterd/controller/HciCommandIsListedInPinLaw", "expected", "(IJJJJ)Z"⟩ : MethodName) method_5_code 9 (some .boolean) ({ frames := 1, cells := 0, slots := 0, locals := 14 } : Room) #[(.int i), (.long a), (.long b), (.long c), (.long d)] h0 (fun v h L => v = some (.int (f4 i a b c d)) ∧ Fr n0 L ∧ h = h0) := by
  refine own_body #[.val (.int i), .val (.long a), .second, .val (.long b), .second, .val (.long c), .second, .val (.long d), .second] (plainFor_of_name own_pn0) (fun m_ => ef_rm4 m_ i a b c d) ?_
  intro p_ e_ s_ m_ below meth c_ s₁ X0 hx hby hml hret hlk hZ hown hnm e0
  have N0 := Fr.nil n0
  show own_Out p_ e_ below s_ _ _ _ s₁ (mkF m_ 0 #[.val (.int i), .val (.long a), .second, .val (.long b), .second, .val (.long c), .second, .val (.long d), .second] [])
  refine own_st s₁ (mkF m_ 1 #[.val (.int i), .val (.long a), .second, .val (.long b), .second, .val (.long c), .second, .val (.long d), .second] [(.int i)]) (fun t_ k_ => ?_) ?_
  · refine XS.iloadN X0.here hx rfl (hb hby dmethod_5_code_0) rfl ?_
    show Steps p_.tables e_ below (s₁.setTop (mkF m_ 1 #[.val (.int i), .val (.long a), .second, .val (.long b), .second, .val (.long c), .second, .val (.long d), .second] [(.int i)])) t_
    exact k_
  by_cases hc1 : i = (0 : Int32)
  · refine own_st s₁ (mkF m_ 9 #[.val (.int i), .val (.long a), .second, .val (.long b), .second, .val (.long c), .second, .val (.long d), .second] []) (fun t_ k_ => XS.ifYes X0.here hx rfl (pc0 := 1) (pc' := 9) rfl (hb hby dmethod_5_code_1) rfl ((if0 _ _).trans (teq hc1).1) (by decide) (by decide) k_) ?_
    refine own_st s₁ (mkF m_ 10 #[.val (.int i), .val (.long a), .second, .val (.long b), .second, .val (.long c), .second, .val (.long d), .second] [(.int (1 : Int32))]) (fun t_ k_ => ?_) ?_
    · refine XS.iconst X0.here hx rfl (hb hby dmethod_5_code_9) ?_
      show Steps p_.tables e_ below (s₁.setTop (mkF m_ 10 #[.val (.int i), .val (.long a), .second, .val (.long b), .second, .val (.long c), .second, .val (.long d), .second] [(.int (1 : Int32))])) t_
      exact k_
    refine own_retN X0 hx hlk (t := .boolean) hret (by simp) (hb hby dmethod_5_code_10) (by decide) (by decide) ?_
    rw [e0]
    have hz : nar .boolean (1 : Int32) = (1 : Int32) := own_nz (by first | exact Or.inl rfl | exact Or.inr rfl | exact own_f5z _ _)
    rw [hz]
    exact ⟨by simp only [f4, if_pos hc1], N0, rfl⟩
  · refine own_st s₁ (mkF m_ 4 #[.val (.int i), .val (.long a), .second, .val (.long b), .second, .val (.long c), .second, .val (.long d), .second] []) (fun t_ k_ => XS.ifNo X0.here hx rfl (hb hby dmethod_5_code_1) rfl ((if0 _ _).trans (feq hc1).1) k_) ?_
    refine own_st s₁ (mkF m_ 6 #[.val (.int i), .val (.long a), .second, .val (.long b), .second, .val (.long c), .second, .val (.long d), .second] [(.int (1 : Int32)), (.int i)]) (fun t_ k_ => ?_) ?_
    · refine XS.iloadN X0.here hx rfl (hb hby dmethod_5_code_4) rfl ?_
      show Steps p_.tables e_ below (s₁.setTop (mkF m_ 5 #[.val (.int i), .val (.long a), .second, .val (.long b), .second, .val (.long c), .second, .val (.long d), .second] [(.int i)])) t_
      refine XS.iconst X0.here hx rfl (hb hby dmethod_5_code_5) ?_
      show Steps p_.tables e_ below (s₁.setTop (mkF m_ 6 #[.val (.int i), .val (.long a), .second, .val (.long b), .second, .val (.long c), .second, .val (.long d), .second] [(.int (1 : Int32)), (.int i)])) t_
      exact k_
    by_cases hc6 : i = (1 : Int32)
    · refine own_st s₁ (mkF m_ 9 #[.val (.int i), .val (.long a), .second, .val (.long b), .second, .val (.long c), .second, .val (.long d), .second] []) (fun t_ k_ => XS.icmpNo X0.here hx rfl (hb hby dmethod_5_code_6) rfl (teq hc6).2 k_) ?_
      refine own_st s₁ (mkF m_ 10 #[.val (.int i), .val (.long a), .second, .val (.long b), .second, .val (.long c), .second, .val (.long d), .second] [(.int (1 : Int32))]) (fun t_ k_ => ?_) ?_
      · refine XS.iconst X0.here hx rfl (hb hby dmethod_5_code_9) ?_
        show Steps p_.tables e_ below (s₁.setTop (mkF m_ 10 #[.val (.int i), .val (.long a), .second, .val (.long b), .second, .val (.long c), .second, .val (.long d), .second] [(.int (1 : Int32))])) t_
        exact k_
      refine own_retN X0 hx hlk (t := .boolean) hret (by simp) (hb hby dmethod_5_code_10) (by decide) (by decide) ?_
      rw [e0]
      have hz : nar .boolean (1 : Int32) = (1 : Int32) := own_nz (by first | exact Or.inl rfl | exact Or.inr rfl | exact own_f5z _ _)
      rw [hz]
      exact ⟨by simp only [f4, if_neg hc1, if_pos hc6], N0, rfl⟩
    · refine own_st s₁ (mkF m_ 11 #[.val (.int i), .val (.long a), .second, .val (.long b), .second, .val (.long c), .second, .val (.long d), .second] []) (fun t_ k_ => XS.icmpYes X0.here hx rfl (pc0 := 6) (pc' := 11) rfl (hb hby dmethod_5_code_6) rfl (feq hc6).2 (by decide) (by decide) k_) ?_
      refine own_st s₁ (mkF m_ 13 #[.val (.int i), .val (.long a), .second, .val (.long b), .second, .val (.long c), .second, .val (.long d), .second] [(.int (2 : Int32)), (.int i)]) (fun t_ k_ => ?_) ?_
      · refine XS.iloadN X0.here hx rfl (hb hby dmethod_5_code_11) rfl ?_
        show Steps p_.tables e_ below (s₁.setTop (mkF m_ 12 #[.val (.int i), .val (.long a), .second, .val (.long b), .second, .val (.long c), .second, .val (.long d), .second] [(.int i)])) t_
        refine XS.iconst X0.here hx rfl (hb hby dmethod_5_code_12) ?_
        show Steps p_.tables e_ below (s₁.setTop (mkF m_ 13 #[.val (.int i), .val (.long a), .second, .val (.long b), .second, .val (.long c), .second, .val (.long d), .second] [(.int (2 : Int32)), (.int i)])) t_
        exact k_
      by_cases hc13 : i = (2 : Int32)
      · refine own_st s₁ (mkF m_ 16 #[.val (.int i), .val (.long a), .second, .val (.long b), .second, .val (.long c), .second, .val (.long d), .second] []) (fun t_ k_ => XS.icmpNo X0.here hx rfl (hb hby dmethod_5_code_13) rfl (teq hc13).2 k_) ?_
        refine own_st s₁ (mkF m_ 19 #[.val (.int i), .val (.long a), .second, .val (.long b), .second, .val (.long c), .second, .val (.long d), .second] [(.int (51 : Int32)), (.long b)]) (fun t_ k_ => ?_) ?_
        · refine XS.lloadN X0.here hx rfl (hb hby dmethod_5_code_16) rfl ?_
          show Steps p_.tables e_ below (s₁.setTop (mkF m_ 17 #[.val (.int i), .val (.long a), .second, .val (.long b), .second, .val (.long c), .second, .val (.long d), .second] [(.long b)])) t_
          refine XS.bipush X0.here hx rfl (hb hby dmethod_5_code_17) ?_
          show Steps p_.tables e_ below (s₁.setTop (mkF m_ 19 #[.val (.int i), .val (.long a), .second, .val (.long b), .second, .val (.long c), .second, .val (.long d), .second] [(.int (51 : Int32)), (.long b)])) t_
          exact k_
        refine own_callS X0 hx hZ hown (hw _ (List.mem_of_getElem? (i := 26) rfl)) (hw _ (List.mem_of_getElem? (i := 27) rfl)) (hw _ (List.mem_of_getElem? (i := 4) rfl)) (hw _ (List.mem_of_getElem? (i := 28) rfl)) (by decide) [(.long b), (.int (51 : Int32))] [] (rm5 l Z a0 hw b (51 : Int32) h0 n0 Z0) 0 (by decide) (by decide) e0 (by rw [hml]; rfl) (lenOf own_pd0 rfl) rfl (Nat.le_of_eq rfl) (hb hby dmethod_5_code_19) (by decide) (by decide) ?_
        intro v1 T1 L1 X1 q1
        obtain ⟨rfl, N1q, e1⟩ := q1
        have N1 := Fr.app N0 N1q
        show own_Out p_ e_ below s_ _ _ _ T1 (mkF m_ 22 #[.val (.int i), .val (.long a), .second, .val (.long b), .second, .val (.long c), .second, .val (.long d), .second] [(.int (f5 b (51 : Int32)))])
        refine own_retN X1 hx hlk (t := .boolean) hret (by simp) (hb hby dmethod_5_code_22) (by decide) (by decide) ?_
        rw [e1]
        have hz : nar .boolean (f5 b (51 : Int32)) = (f5 b (51 : Int32)) := own_nz (by first | exact Or.inl rfl | exact Or.inr rfl | exact own_f5z _ _)
        rw [hz]
        exact ⟨by simp only [f4, if_neg hc1, if_neg hc6, if_pos hc13], N1, rfl⟩
      · refine own_st s₁ (mkF m_ 23 #[.val (.int i), .val (.long a), .second, .val (.long b), .second, .val (.long c), .second, .val (.long d), .second] []) (fun t_ k_ => XS.icmpYes X0.here hx rfl (pc0 := 13) (pc' := 23) rfl (hb hby dmethod_5_code_13) rfl (feq hc13).2 (by decide) (by decide) k_) ?_
        refine own_st s₁ (mkF m_ 25 #[.val (.int i), .val (.long a), .second, .val (.long b), .second, .val (.long c), .second, .val (.long d), .second] [(.int (3 : Int32)), (.int i)]) (fun t_ k_ => ?_) ?_
        · refine XS.iloadN X0.here hx rfl (hb hby dmethod_5_code_23) rfl ?_
          show Steps p_.tables e_ below (s₁.setTop (mkF m_ 24 #[.val (.int i), .val (.long a), .second, .val (.long b), .second, .val (.long c), .second, .val (.long d), .second] [(.int i)])) t_
          refine XS.iconst X0.here hx rfl (hb hby dmethod_5_code_24) ?_
          show Steps p_.tables e_ below (s₁.setTop (mkF m_ 25 #[.val (.int i), .val (.long a), .second, .val (.long b), .second, .val (.long c), .second, .val (.long d), .second] [(.int (3 : Int32)), (.int i)])) t_
          exact k_
        by_cases hc25 : i = (3 : Int32)
        · refine own_st s₁ (mkF m_ 28 #[.val (.int i), .val (.long a), .second, .val (.long b), .second, .val (.long c), .second, .val (.long d), .second] []) (fun t_ k_ => XS.icmpNo X0.here hx rfl (hb hby dmethod_5_code_25) rfl (teq hc25).2 k_) ?_
          refine own_st s₁ (mkF m_ 31 #[.val (.int i), .val (.long a), .second, .val (.long b), .second, .val (.long c), .second, .val (.long d), .second] [(.int (53 : Int32)), (.long b)]) (fun t_ k_ => ?_) ?_
          · refine XS.lloadN X0.here hx rfl (hb hby dmethod_5_code_28) rfl ?_
            show Steps p_.tables e_ below (s₁.setTop (mkF m_ 29 #[.val (.int i), .val (.long a), .second, .val (.long b), .second, .val (.long c), .second, .val (.long d), .second] [(.long b)])) t_
            refine XS.bipush X0.here hx rfl (hb hby dmethod_5_code_29) ?_
            show Steps p_.tables e_ below (s₁.setTop (mkF m_ 31 #[.val (.int i), .val (.long a), .second, .val (.long b), .second, .val (.long c), .second, .val (.long d), .second] [(.int (53 : Int32)), (.long b)])) t_
            exact k_
          refine own_callS X0 hx hZ hown (hw _ (List.mem_of_getElem? (i := 26) rfl)) (hw _ (List.mem_of_getElem? (i := 27) rfl)) (hw _ (List.mem_of_getElem? (i := 4) rfl)) (hw _ (List.mem_of_getElem? (i := 28) rfl)) (by decide) [(.long b), (.int (53 : Int32))] [] (rm5 l Z a0 hw b (53 : Int32) h0 n0 Z0) 0 (by decide) (by decide) e0 (by rw [hml]; rfl) (lenOf own_pd0 rfl) rfl (Nat.le_of_eq rfl) (hb hby dmethod_5_code_31) (by decide) (by decide) ?_
          intro v2 T2 L2 X2 q2
          obtain ⟨rfl, N2q, e2⟩ := q2
          have N2 := Fr.app N0 N2q
          show own_Out p_ e_ below s_ _ _ _ T2 (mkF m_ 34 #[.val (.int i), .val (.long a), .second, .val (.long b), .second, .val (.long c), .second, .val (.long d), .second] [(.int (f5 b (53 : Int32)))])
          refine own_retN X2 hx hlk (t := .boolean) hret (by simp) (hb hby dmethod_5_code_34) (by decide) (by decide) ?_
          rw [e2]
          have hz : nar .boolean (f5 b (53 : Int32)) = (f5 b (53 : Int32)) := own_nz (by first | exact Or.inl rfl | exact Or.inr rfl | exact own_f5z _ _)
          rw [hz]
          exact ⟨by simp only [f4, if_neg hc1, if_neg hc6, if_neg hc13, if_pos hc25], N2, rfl⟩
        · refine own_st s₁ (mkF m_ 35 #[.val (.int i), .val (.long a), .second, .val (.long b), .second, .val (.long c), .second, .val (.long d), .second] []) (fun t_ k_ => XS.icmpYes X0.here hx rfl (pc0 := 25) (pc' := 35) rfl (hb hby dmethod_5_code_25) rfl (feq hc25).2 (by decide) (by decide) k_) ?_
          refine own_st s₁ (mkF m_ 37 #[.val (.int i), .val (.long a), .second, .val (.long b), .second, .val (.long c), .second, .val (.long d), .second] [(.int (4 : Int32)), (.int i)]) (fun t_ k_ => ?_) ?_
          · refine XS.iloadN X0.here hx rfl (hb hby dmethod_5_code_35) rfl ?_
            show Steps p_.tables e_ below (s₁.setTop (mkF m_ 36 #[.val (.int i), .val (.long a), .second, .val (.long b), .second, .val (.long c), .second, .val (.long d), .second] [(.int i)])) t_
            refine XS.iconst X0.here hx rfl (hb hby dmethod_5_code_36) ?_
            show Steps p_.tables e_ below (s₁.setTop (mkF m_ 37 #[.val (.int i), .val (.long a), .second, .val (.long b), .second, .val (.long c), .second, .val (.long d), .second] [(.int (4 : Int32)), (.int i)])) t_
            exact k_
          by_cases hc37 : i = (4 : Int32)
          · refine own_st s₁ (mkF m_ 40 #[.val (.int i), .val (.long a), .second, .val (.long b), .second, .val (.long c), .second, .val (.long d), .second] []) (fun t_ k_ => XS.icmpNo X0.here hx rfl (hb hby dmethod_5_code_37) rfl (teq hc37).2 k_) ?_
            refine own_st s₁ (mkF m_ 43 #[.val (.int i), .val (.long a), .second, .val (.long b), .second, .val (.long c), .second, .val (.long d), .second] [(.int (57 : Int32)), (.long b)]) (fun t_ k_ => ?_) ?_
            · refine XS.lloadN X0.here hx rfl (hb hby dmethod_5_code_40) rfl ?_
              show Steps p_.tables e_ below (s₁.setTop (mkF m_ 41 #[.val (.int i), .val (.long a), .second, .val (.long b), .second, .val (.long c), .second, .val (.long d), .second] [(.long b)])) t_
              refine XS.bipush X0.here hx rfl (hb hby dmethod_5_code_41) ?_
              show Steps p_.tables e_ below (s₁.setTop (mkF m_ 43 #[.val (.int i), .val (.long a), .second, .val (.long b), .second, .val (.long c), .second, .val (.long d), .second] [(.int (57 : Int32)), (.long b)])) t_
              exact k_
            refine own_callS X0 hx hZ hown (hw _ (List.mem_of_getElem? (i := 26) rfl)) (hw _ (List.mem_of_getElem? (i := 27) rfl)) (hw _ (List.mem_of_getElem? (i := 4) rfl)) (hw _ (List.mem_of_getElem? (i := 28) rfl)) (by decide) [(.long b), (.int (57 : Int32))] [] (rm5 l Z a0 hw b (57 : Int32) h0 n0 Z0) 0 (by decide) (by decide) e0 (by rw [hml]; rfl) (lenOf own_pd0 rfl) rfl (Nat.le_of_eq rfl) (hb hby dmethod_5_code_43) (by decide) (by decide) ?_
            intro v3 T3 L3 X3 q3
            obtain ⟨rfl, N3q, e3⟩ := q3
            have N3 := Fr.app N0 N3q
            show own_Out p_ e_ below s_ _ _ _ T3 (mkF m_ 46 #[.val (.int i), .val (.long a), .second, .val (.long b), .second, .val (.long c), .second, .val (.long d), .second] [(.int (f5 b (57 : Int32)))])
            refine own_retN X3 hx hlk (t := .boolean) hret (by simp) (hb hby dmethod_5_code_46) (by decide) (by decide) ?_
            rw [e3]
            have hz : nar .boolean (f5 b (57 : Int32)) = (f5 b (57 : Int32)) := own_nz (by first | exact Or.inl rfl | exact Or.inr rfl | exact own_f5z _ _)
            rw [hz]
            exact ⟨by simp only [f4, if_neg hc1, if_neg hc6, if_neg hc13, if_neg hc25, if_pos hc37], N3, rfl⟩
          · refine own_st s₁ (mkF m_ 47 #[.val (.int i), .val (.long a), .second, .val (.long b), .second, .val (.long c), .second, .val (.long d), .second] []) (fun t_ k_ => XS.icmpYes X0.here hx rfl (pc0 := 37) (pc' := 47) rfl (hb hby dmethod_5_code_37) rfl (feq hc37).2 (by decide) (by decide) k_) ?_
            refine own_st s₁ (mkF m_ 49 #[.val (.int i), .val (.long a), .second, .val (.long b), .second, .val (.long c), .second, .val (.long d), .second] [(.int (5 : Int32)), (.int i)]) (fun t_ k_ => ?_) ?_
            · refine XS.iloadN X0.here hx rfl (hb hby dmethod_5_code_47) rfl ?_
              show Steps p_.tables e_ below (s₁.setTop (mkF m_ 48 #[.val (.int i), .val (.long a), .second, .val (.long b), .second, .val (.long c), .second, .val (.long d), .second] [(.int i)])) t_
              refine XS.iconst X0.here hx rfl (hb hby dmethod_5_code_48) ?_
              show Steps p_.tables e_ below (s₁.setTop (mkF m_ 49 #[.val (.int i), .val (.long a), .second, .val (.long b), .second, .val (.long c), .second, .val (.long d), .second] [(.int (5 : Int32)), (.int i)])) t_
              exact k_
            by_cases hc49 : i = (5 : Int32)
            · refine own_st s₁ (mkF m_ 52 #[.val (.int i), .val (.long a), .second, .val (.long b), .second, .val (.long c), .second, .val (.long d), .second] []) (fun t_ k_ => XS.icmpNo X0.here hx rfl (hb hby dmethod_5_code_49) rfl (teq hc49).2 k_) ?_
              refine own_st s₁ (mkF m_ 55 #[.val (.int i), .val (.long a), .second, .val (.long b), .second, .val (.long c), .second, .val (.long d), .second] [(.int (55 : Int32)), (.long b)]) (fun t_ k_ => ?_) ?_
              · refine XS.lloadN X0.here hx rfl (hb hby dmethod_5_code_52) rfl ?_
                show Steps p_.tables e_ below (s₁.setTop (mkF m_ 53 #[.val (.int i), .val (.long a), .second, .val (.long b), .second, .val (.long c), .second, .val (.long d), .second] [(.long b)])) t_
                refine XS.bipush X0.here hx rfl (hb hby dmethod_5_code_53) ?_
                show Steps p_.tables e_ below (s₁.setTop (mkF m_ 55 #[.val (.int i), .val (.long a), .second, .val (.long b), .second, .val (.long c), .second, .val (.long d), .second] [(.int (55 : Int32)), (.long b)])) t_
                exact k_
              refine own_callS X0 hx hZ hown (hw _ (List.mem_of_getElem? (i := 26) rfl)) (hw _ (List.mem_of_getElem? (i := 27) rfl)) (hw _ (List.mem_of_getElem? (i := 4) rfl)) (hw _ (List.mem_of_getElem? (i := 28) rfl)) (by decide) [(.long b), (.int (55 : Int32))] [] (rm5 l Z a0 hw b (55 : Int32) h0 n0 Z0) 0 (by decide) (by decide) e0 (by rw [hml]; rfl) (lenOf own_pd0 rfl) rfl (Nat.le_of_eq rfl) (hb hby dmethod_5_code_55) (by decide) (by decide) ?_
              intro v4 T4 L4 X4 q4
              obtain ⟨rfl, N4q, e4⟩ := q4
              have N4 := Fr.app N0 N4q
              show own_Out p_ e_ below s_ _ _ _ T4 (mkF m_ 58 #[.val (.int i), .val (.long a), .second, .val (.long b), .second, .val (.long c), .second, .val (.long d), .second] [(.int (f5 b (55 : Int32)))])
              refine own_retN X4 hx hlk (t := .boolean) hret (by simp) (hb hby dmethod_5_code_58) (by decide) (by decide) ?_
              rw [e4]
              have hz : nar .boolean (f5 b (55 : Int32)) = (f5 b (55 : Int32)) := own_nz (by first | exact Or.inl rfl | exact Or.inr rfl | exact own_f5z _ _)
              rw [hz]
              exact ⟨by simp only [f4, if_neg hc1, if_neg hc6, if_neg hc13, if_neg hc25, if_neg hc37, if_pos hc49], N4, rfl⟩
            · refine own_st s₁ (mkF m_ 59 #[.val (.int i), .val (.long a), .second, .val (.long b), .second, .val (.long c), .second, .val (.long d), .second] []) (fun t_ k_ => XS.icmpYes X0.here hx rfl (pc0 := 49) (pc' := 59) rfl (hb hby dmethod_5_code_49) rfl (feq hc49).2 (by decide) (by decide) k_) ?_
              refine own_st s₁ (mkF m_ 62 #[.val (.int i), .val (.long a), .second, .val (.long b), .second, .val (.long c), .second, .val (.long d), .second] [(.int (6 : Int32)), (.int i)]) (fun t_ k_ => ?_) ?_
              · refine XS.iloadN X0.here hx rfl (hb hby dmethod_5_code_59) rfl ?_
                show Steps p_.tables e_ below (s₁.setTop (mkF m_ 60 #[.val (.int i), .val (.long a), .second, .val (.long b), .second, .val (.long c), .second, .val (.long d), .second] [(.int i)])) t_
                refine XS.bipush X0.here hx rfl (hb hby dmethod_5_code_60) ?_
                show Steps p_.tables e_ below (s₁.setTop (mkF m_ 62 #[.val (.int i), .val (.long a), .second, .val (.long b), .second, .val (.long c), .second, .val (.long d), .second] [(.int (6 : Int32)), (.int i)])) t_
                exact k_
              by_cases hc62 : i = (6 : Int32)
              · refine own_st s₁ (mkF m_ 65 #[.val (.int i), .val (.long a), .second, .val (.long b), .second, .val (.long c), .second, .val (.long d), .second] []) (fun t_ k_ => XS.icmpNo X0.here hx rfl (hb hby dmethod_5_code_62) rfl (teq hc62).2 k_) ?_
                refine own_st s₁ (mkF m_ 69 #[.val (.int i), .val (.long a), .second, .val (.long b), .second, .val (.long c), .second, .val (.long d), .second] [(.int (9 : Int32)), (.long d)]) (fun t_ k_ => ?_) ?_
                · refine XS.lload X0.here hx rfl (hb hby dmethod_5_code_65) rfl ?_
                  show Steps p_.tables e_ below (s₁.setTop (mkF m_ 67 #[.val (.int i), .val (.long a), .second, .val (.long b), .second, .val (.long c), .second, .val (.long d), .second] [(.long d)])) t_
                  refine XS.bipush X0.here hx rfl (hb hby dmethod_5_code_67) ?_
                  show Steps p_.tables e_ below (s₁.setTop (mkF m_ 69 #[.val (.int i), .val (.long a), .second, .val (.long b), .second, .val (.long c), .second, .val (.long d), .second] [(.int (9 : Int32)), (.long d)])) t_
                  exact k_
                refine own_callS X0 hx hZ hown (hw _ (List.mem_of_getElem? (i := 26) rfl)) (hw _ (List.mem_of_getElem? (i := 27) rfl)) (hw _ (List.mem_of_getElem? (i := 4) rfl)) (hw _ (List.mem_of_getElem? (i := 28) rfl)) (by decide) [(.long d), (.int (9 : Int32))] [] (rm5 l Z a0 hw d (9 : Int32) h0 n0 Z0) 0 (by decide) (by decide) e0 (by rw [hml]; rfl) (lenOf own_pd0 rfl) rfl (Nat.le_of_eq rfl) (hb hby dmethod_5_code_69) (by decide) (by decide) ?_
                intro v5 T5 L5 X5 q5
                obtain ⟨rfl, N5q, e5⟩ := q5
                have N5 := Fr.app N0 N5q
                show own_Out p_ e_ below s_ _ _ _ T5 (mkF m_ 72 #[.val (.int i), .val (.long a), .second, .val (.long b), .second, .val (.long c), .second, .val (.long d), .second] [(.int (f5 d (9 : Int32)))])
                refine own_retN X5 hx hlk (t := .boolean) hret (by simp) (hb hby dmethod_5_code_72) (by decide) (by decide) ?_
                rw [e5]
                have hz : nar .boolean (f5 d (9 : Int32)) = (f5 d (9 : Int32)) := own_nz (by first | exact Or.inl rfl | exact Or.inr rfl | exact own_f5z _ _)
                rw [hz]
                exact ⟨by simp only [f4, if_neg hc1, if_neg hc6, if_neg hc13, if_neg hc25, if_neg hc37, if_neg hc49, if_pos hc62], N5, rfl⟩
              · refine own_st s₁ (mkF m_ 73 #[.val (.int i), .val (.long a), .second, .val (.long b), .second, .val (.long c), .second, .val (.long d), .second] []) (fun t_ k_ => XS.icmpYes X0.here hx rfl (pc0 := 62) (pc' := 73) rfl (hb hby dmethod_5_code_62) rfl (feq hc62).2 (by decide) (by decide) k_) ?_
                refine own_st s₁ (mkF m_ 76 #[.val (.int i), .val (.long a), .second, .val (.long b), .second, .val (.long c), .second, .val (.long d), .second] [(.int (7 : Int32)), (.int i)]) (fun t_ k_ => ?_) ?_
                · refine XS.iloadN X0.here hx rfl (hb hby dmethod_5_code_73) rfl ?_
                  show Steps p_.tables e_ below (s₁.setTop (mkF m_ 74 #[.val (.int i), .val (.long a), .second, .val (.long b), .second, .val (.long c), .second, .val (.long d), .second] [(.int i)])) t_
                  refine XS.bipush X0.here hx rfl (hb hby dmethod_5_code_74) ?_
                  show Steps p_.tables e_ below (s₁.setTop (mkF m_ 76 #[.val (.int i), .val (.long a), .second, .val (.long b), .second, .val (.long c), .second, .val (.long d), .second] [(.int (7 : Int32)), (.int i)])) t_
                  exact k_
                by_cases hc76 : i = (7 : Int32)
                · refine own_st s₁ (mkF m_ 79 #[.val (.int i), .val (.long a), .second, .val (.long b), .second, .val (.long c), .second, .val (.long d), .second] []) (fun t_ k_ => XS.icmpNo X0.here hx rfl (hb hby dmethod_5_code_76) rfl (teq hc76).2 k_) ?_
                  refine own_st s₁ (mkF m_ 82 #[.val (.int i), .val (.long a), .second, .val (.long b), .second, .val (.long c), .second, .val (.long d), .second] [(.int (46 : Int32)), (.long a)]) (fun t_ k_ => ?_) ?_
                  · refine XS.lloadN X0.here hx rfl (hb hby dmethod_5_code_79) rfl ?_
                    show Steps p_.tables e_ below (s₁.setTop (mkF m_ 80 #[.val (.int i), .val (.long a), .second, .val (.long b), .second, .val (.long c), .second, .val (.long d), .second] [(.long a)])) t_
                    refine XS.bipush X0.here hx rfl (hb hby dmethod_5_code_80) ?_
                    show Steps p_.tables e_ below (s₁.setTop (mkF m_ 82 #[.val (.int i), .val (.long a), .second, .val (.long b), .second, .val (.long c), .second, .val (.long d), .second] [(.int (46 : Int32)), (.long a)])) t_
                    exact k_
                  refine own_callS X0 hx hZ hown (hw _ (List.mem_of_getElem? (i := 26) rfl)) (hw _ (List.mem_of_getElem? (i := 27) rfl)) (hw _ (List.mem_of_getElem? (i := 4) rfl)) (hw _ (List.mem_of_getElem? (i := 28) rfl)) (by decide) [(.long a), (.int (46 : Int32))] [] (rm5 l Z a0 hw a (46 : Int32) h0 n0 Z0) 0 (by decide) (by decide) e0 (by rw [hml]; rfl) (lenOf own_pd0 rfl) rfl (Nat.le_of_eq rfl) (hb hby dmethod_5_code_82) (by decide) (by decide) ?_
                  intro v6 T6 L6 X6 q6
                  obtain ⟨rfl, N6q, e6⟩ := q6
                  have N6 := Fr.app N0 N6q
                  show own_Out p_ e_ below s_ _ _ _ T6 (mkF m_ 85 #[.val (.int i), .val (.long a), .second, .val (.long b), .second, .val (.long c), .second, .val (.long d), .second] [(.int (f5 a (46 : Int32)))])
                  refine own_retN X6 hx hlk (t := .boolean) hret (by simp) (hb hby dmethod_5_code_85) (by decide) (by decide) ?_
                  rw [e6]
                  have hz : nar .boolean (f5 a (46 : Int32)) = (f5 a (46 : Int32)) := own_nz (by first | exact Or.inl rfl | exact Or.inr rfl | exact own_f5z _ _)
                  rw [hz]
                  exact ⟨by simp only [f4, if_neg hc1, if_neg hc6, if_neg hc13, if_neg hc25, if_neg hc37, if_neg hc49, if_neg hc62, if_pos hc76], N6, rfl⟩
                · refine own_st s₁ (mkF m_ 86 #[.val (.int i), .val (.long a), .second, .val (.long b), .second, .val (.long c), .second, .val (.long d), .second] []) (fun t_ k_ => XS.icmpYes X0.here hx rfl (pc0 := 76) (pc' := 86) rfl (hb hby dmethod_5_code_76) rfl (feq hc76).2 (by decide) (by decide) k_) ?_
                  refine own_st s₁ (mkF m_ 89 #[.val (.int i), .val (.long a), .second, .val (.long b), .second, .val (.long c), .second, .val (.long d), .second] [(.int (8 : Int32)), (.int i)]) (fun t_ k_ => ?_) ?_
                  · refine XS.iloadN X0.here hx rfl (hb hby dmethod_5_code_86) rfl ?_
                    show Steps p_.tables e_ below (s₁.setTop (mkF m_ 87 #[.val (.int i), .val (.long a), .second, .val (.long b), .second, .val (.long c), .second, .val (.long d), .second] [(.int i)])) t_
                    refine XS.bipush X0.here hx rfl (hb hby dmethod_5_code_87) ?_
                    show Steps p_.tables e_ below (s₁.setTop (mkF m_ 89 #[.val (.int i), .val (.long a), .second, .val (.long b), .second, .val (.long c), .second, .val (.long d), .second] [(.int (8 : Int32)), (.int i)])) t_
                    exact k_
                  by_cases hc89 : i = (8 : Int32)
                  · refine own_st s₁ (mkF m_ 92 #[.val (.int i), .val (.long a), .second, .val (.long b), .second, .val (.long c), .second, .val (.long d), .second] []) (fun t_ k_ => XS.icmpNo X0.here hx rfl (hb hby dmethod_5_code_89) rfl (teq hc89).2 k_) ?_
                    refine own_st s₁ (mkF m_ 96 #[.val (.int i), .val (.long a), .second, .val (.long b), .second, .val (.long c), .second, .val (.long d), .second] [(.int (8 : Int32)), (.long d)]) (fun t_ k_ => ?_) ?_
                    · refine XS.lload X0.here hx rfl (hb hby dmethod_5_code_92) rfl ?_
                      show Steps p_.tables e_ below (s₁.setTop (mkF m_ 94 #[.val (.int i), .val (.long a), .second, .val (.long b), .second, .val (.long c), .second, .val (.long d), .second] [(.long d)])) t_
                      refine XS.bipush X0.here hx rfl (hb hby dmethod_5_code_94) ?_
                      show Steps p_.tables e_ below (s₁.setTop (mkF m_ 96 #[.val (.int i), .val (.long a), .second, .val (.long b), .second, .val (.long c), .second, .val (.long d), .second] [(.int (8 : Int32)), (.long d)])) t_
                      exact k_
                    refine own_callS X0 hx hZ hown (hw _ (List.mem_of_getElem? (i := 26) rfl)) (hw _ (List.mem_of_getElem? (i := 27) rfl)) (hw _ (List.mem_of_getElem? (i := 4) rfl)) (hw _ (List.mem_of_getElem? (i := 28) rfl)) (by decide) [(.long d), (.int (8 : Int32))] [] (rm5 l Z a0 hw d (8 : Int32) h0 n0 Z0) 0 (by decide) (by decide) e0 (by rw [hml]; rfl) (lenOf own_pd0 rfl) rfl (Nat.le_of_eq rfl) (hb hby dmethod_5_code_96) (by decide) (by decide) ?_
                    intro v7 T7 L7 X7 q7
                    obtain ⟨rfl, N7q, e7⟩ := q7
                    have N7 := Fr.app N0 N7q
                    show own_Out p_ e_ below s_ _ _ _ T7 (mkF m_ 99 #[.val (.int i), .val (.long a), .second, .val (.long b), .second, .val (.long c), .second, .val (.long d), .second] [(.int (f5 d (8 : Int32)))])
                    refine own_retN X7 hx hlk (t := .boolean) hret (by simp) (hb hby dmethod_5_code_99) (by decide) (by decide) ?_
                    rw [e7]
                    have hz : nar .boolean (f5 d (8 : Int32)) = (f5 d (8 : Int32)) := own_nz (by first | exact Or.inl rfl | exact Or.inr rfl | exact own_f5z _ _)
                    rw [hz]
                    exact ⟨by simp only [f4, if_neg hc1, if_neg hc6, if_neg hc13, if_neg hc25, if_neg hc37, if_neg hc49, if_neg hc62, if_neg hc76, if_pos hc89], N7, rfl⟩
                  · refine own_st s₁ (mkF m_ 100 #[.val (.int i), .val (.long a), .second, .val (.long b), .second, .val (.long c), .second, .val (.long d), .second] []) (fun t_ k_ => XS.icmpYes X0.here hx rfl (pc0 := 89) (pc' := 100) rfl (hb hby dmethod_5_code_89) rfl (feq hc89).2 (by decide) (by decide) k_) ?_
                    refine own_st s₁ (mkF m_ 103 #[.val (.int i), .val (.long a), .second, .val (.long b), .second, .val (.long c), .second, .val (.long d), .second] [(.int (9 : Int32)), (.int i)]) (fun t_ k_ => ?_) ?_
                    · refine XS.iloadN X0.here hx rfl (hb hby dmethod_5_code_100) rfl ?_
                      show Steps p_.tables e_ below (s₁.setTop (mkF m_ 101 #[.val (.int i), .val (.long a), .second, .val (.long b), .second, .val (.long c), .second, .val (.long d), .second] [(.int i)])) t_
                      refine XS.bipush X0.here hx rfl (hb hby dmethod_5_code_101) ?_
                      show Steps p_.tables e_ below (s₁.setTop (mkF m_ 103 #[.val (.int i), .val (.long a), .second, .val (.long b), .second, .val (.long c), .second, .val (.long d), .second] [(.int (9 : Int32)), (.int i)])) t_
                      exact k_
                    by_cases hc103 : i = (9 : Int32)
                    · refine own_st s₁ (mkF m_ 106 #[.val (.int i), .val (.long a), .second, .val (.long b), .second, .val (.long c), .second, .val (.long d), .second] []) (fun t_ k_ => XS.icmpNo X0.here hx rfl (hb hby dmethod_5_code_103) rfl (teq hc103).2 k_) ?_
                      refine own_st s₁ (mkF m_ 109 #[.val (.int i), .val (.long a), .second, .val (.long b), .second, .val (.long c), .second, .val (.long d), .second] [(.int (56 : Int32)), (.long a)]) (fun t_ k_ => ?_) ?_
                      · refine XS.lloadN X0.here hx rfl (hb hby dmethod_5_code_106) rfl ?_
                        show Steps p_.tables e_ below (s₁.setTop (mkF m_ 107 #[.val (.int i), .val (.long a), .second, .val (.long b), .second, .val (.long c), .second, .val (.long d), .second] [(.long a)])) t_
                        refine XS.bipush X0.here hx rfl (hb hby dmethod_5_code_107) ?_
                        show Steps p_.tables e_ below (s₁.setTop (mkF m_ 109 #[.val (.int i), .val (.long a), .second, .val (.long b), .second, .val (.long c), .second, .val (.long d), .second] [(.int (56 : Int32)), (.long a)])) t_
                        exact k_
                      refine own_callS X0 hx hZ hown (hw _ (List.mem_of_getElem? (i := 26) rfl)) (hw _ (List.mem_of_getElem? (i := 27) rfl)) (hw _ (List.mem_of_getElem? (i := 4) rfl)) (hw _ (List.mem_of_getElem? (i := 28) rfl)) (by decide) [(.long a), (.int (56 : Int32))] [] (rm5 l Z a0 hw a (56 : Int32) h0 n0 Z0) 0 (by decide) (by decide) e0 (by rw [hml]; rfl) (lenOf own_pd0 rfl) rfl (Nat.le_of_eq rfl) (hb hby dmethod_5_code_109) (by decide) (by decide) ?_
                      intro v8 T8 L8 X8 q8
                      obtain ⟨rfl, N8q, e8⟩ := q8
                      have N8 := Fr.app N0 N8q
                      show own_Out p_ e_ below s_ _ _ _ T8 (mkF m_ 112 #[.val (.int i), .val (.long a), .second, .val (.long b), .second, .val (.long c), .second, .val (.long d), .second] [(.int (f5 a (56 : Int32)))])
                      refine own_retN X8 hx hlk (t := .boolean) hret (by simp) (hb hby dmethod_5_code_112) (by decide) (by decide) ?_
                      rw [e8]
                      have hz : nar .boolean (f5 a (56 : Int32)) = (f5 a (56 : Int32)) := own_nz (by first | exact Or.inl rfl | exact Or.inr rfl | exact own_f5z _ _)
                      rw [hz]
                      exact ⟨by simp only [f4, if_neg hc1, if_neg hc6, if_neg hc13, if_neg hc25, if_neg hc37, if_neg hc49, if_neg hc62, if_neg hc76, if_neg hc89, if_pos hc103], N8, rfl⟩
                    · refine own_st s₁ (mkF m_ 113 #[.val (.int i), .val (.long a), .second, .val (.long b), .second, .val (.long c), .second, .val (.long d), .second] []) (fun t_ k_ => XS.icmpYes X0.here hx rfl (pc0 := 103) (pc' := 113) rfl (hb hby dmethod_5_code_103) rfl (feq hc103).2 (by decide) (by decide) k_) ?_
                      refine own_st s₁ (mkF m_ 116 #[.val (.int i), .val (.long a), .second, .val (.long b), .second, .val (.long c), .second, .val (.long d), .second] [(.int (10 : Int32)), (.int i)]) (fun t_ k_ => ?_) ?_
                      · refine XS.iloadN X0.here hx rfl (hb hby dmethod_5_code_113) rfl ?_
                        show Steps p_.tables e_ below (s₁.setTop (mkF m_ 114 #[.val (.int i), .val (.long a), .second, .val (.long b), .second, .val (.long c), .second, .val (.long d), .second] [(.int i)])) t_
                        refine XS.bipush X0.here hx rfl (hb hby dmethod_5_code_114) ?_
                        show Steps p_.tables e_ below (s₁.setTop (mkF m_ 116 #[.val (.int i), .val (.long a), .second, .val (.long b), .second, .val (.long c), .second, .val (.long d), .second] [(.int (10 : Int32)), (.int i)])) t_
                        exact k_
                      by_cases hc116 : i = (10 : Int32)
                      · refine own_st s₁ (mkF m_ 119 #[.val (.int i), .val (.long a), .second, .val (.long b), .second, .val (.long c), .second, .val (.long d), .second] []) (fun t_ k_ => XS.icmpNo X0.here hx rfl (hb hby dmethod_5_code_116) rfl (teq hc116).2 k_) ?_
                        refine own_st s₁ (mkF m_ 122 #[.val (.int i), .val (.long a), .second, .val (.long b), .second, .val (.long c), .second, .val (.long d), .second] [(.int (9 : Int32)), (.long b)]) (fun t_ k_ => ?_) ?_
                        · refine XS.lloadN X0.here hx rfl (hb hby dmethod_5_code_119) rfl ?_
                          show Steps p_.tables e_ below (s₁.setTop (mkF m_ 120 #[.val (.int i), .val (.long a), .second, .val (.long b), .second, .val (.long c), .second, .val (.long d), .second] [(.long b)])) t_
                          refine XS.bipush X0.here hx rfl (hb hby dmethod_5_code_120) ?_
                          show Steps p_.tables e_ below (s₁.setTop (mkF m_ 122 #[.val (.int i), .val (.long a), .second, .val (.long b), .second, .val (.long c), .second, .val (.long d), .second] [(.int (9 : Int32)), (.long b)])) t_
                          exact k_
                        refine own_callS X0 hx hZ hown (hw _ (List.mem_of_getElem? (i := 26) rfl)) (hw _ (List.mem_of_getElem? (i := 27) rfl)) (hw _ (List.mem_of_getElem? (i := 4) rfl)) (hw _ (List.mem_of_getElem? (i := 28) rfl)) (by decide) [(.long b), (.int (9 : Int32))] [] (rm5 l Z a0 hw b (9 : Int32) h0 n0 Z0) 0 (by decide) (by decide) e0 (by rw [hml]; rfl) (lenOf own_pd0 rfl) rfl (Nat.le_of_eq rfl) (hb hby dmethod_5_code_122) (by decide) (by decide) ?_
                        intro v9 T9 L9 X9 q9
                        obtain ⟨rfl, N9q, e9⟩ := q9
                        have N9 := Fr.app N0 N9q
                        show own_Out p_ e_ below s_ _ _ _ T9 (mkF m_ 125 #[.val (.int i), .val (.long a), .second, .val (.long b), .second, .val (.long c), .second, .val (.long d), .second] [(.int (f5 b (9 : Int32)))])
                        refine own_retN X9 hx hlk (t := .boolean) hret (by simp) (hb hby dmethod_5_code_125) (by decide) (by decide) ?_
                        rw [e9]
                        have hz : nar .boolean (f5 b (9 : Int32)) = (f5 b (9 : Int32)) := own_nz (by first | exact Or.inl rfl | exact Or.inr rfl | exact own_f5z _ _)
                        rw [hz]
                        exact ⟨by simp only [f4, if_neg hc1, if_neg hc6, if_neg hc13, if_neg hc25, if_neg hc37, if_neg hc49, if_neg hc62, if_neg hc76, if_neg hc89, if_neg hc103, if_pos hc116], N9, rfl⟩
                      · refine own_st s₁ (mkF m_ 126 #[.val (.int i), .val (.long a), .second, .val (.long b), .second, .val (.long c), .second, .val (.long d), .second] []) (fun t_ k_ => XS.icmpYes X0.here hx rfl (pc0 := 116) (pc' := 126) rfl (hb hby dmethod_5_code_116) rfl (feq hc116).2 (by decide) (by decide) k_) ?_
                        refine own_st s₁ (mkF m_ 129 #[.val (.int i), .val (.long a), .second, .val (.long b), .second, .val (.long c), .second, .val (.long d), .second] [(.int (63 : Int32)), (.long a)]) (fun t_ k_ => ?_) ?_
                        · refine XS.lloadN X0.here hx rfl (hb hby dmethod_5_code_126) rfl ?_
                          show Steps p_.tables e_ below (s₁.setTop (mkF m_ 127 #[.val (.int i), .val (.long a), .second, .val (.long b), .second, .val (.long c), .second, .val (.long d), .second] [(.long a)])) t_
                          refine XS.bipush X0.here hx rfl (hb hby dmethod_5_code_127) ?_
                          show Steps p_.tables e_ below (s₁.setTop (mkF m_ 129 #[.val (.int i), .val (.long a), .second, .val (.long b), .second, .val (.long c), .second, .val (.long d), .second] [(.int (63 : Int32)), (.long a)])) t_
                          exact k_
                        refine own_callS X0 hx hZ hown (hw _ (List.mem_of_getElem? (i := 26) rfl)) (hw _ (List.mem_of_getElem? (i := 27) rfl)) (hw _ (List.mem_of_getElem? (i := 4) rfl)) (hw _ (List.mem_of_getElem? (i := 28) rfl)) (by decide) [(.long a), (.int (63 : Int32))] [] (rm5 l Z a0 hw a (63 : Int32) h0 n0 Z0) 0 (by decide) (by decide) e0 (by rw [hml]; rfl) (lenOf own_pd0 rfl) rfl (Nat.le_of_eq rfl) (hb hby dmethod_5_code_129) (by decide) (by decide) ?_
                        intro v10 T10 L10 X10 q10
                        obtain ⟨rfl, N10q, e10⟩ := q10
                        have N10 := Fr.app N0 N10q
                        show own_Out p_ e_ below s_ _ _ _ T10 (mkF m_ 132 #[.val (.int i), .val (.long a), .second, .val (.long b), .second, .val (.long c), .second, .val (.long d), .second] [(.int (f5 a (63 : Int32)))])
                        refine own_retN X10 hx hlk (t := .boolean) hret (by simp) (hb hby dmethod_5_code_132) (by decide) (by decide) ?_
                        rw [e10]
                        have hz : nar .boolean (f5 a (63 : Int32)) = (f5 a (63 : Int32)) := own_nz (by first | exact Or.inl rfl | exact Or.inr rfl | exact own_f5z _ _)
                        rw [hz]
                        exact ⟨by simp only [f4, if_neg hc1, if_neg hc6, if_neg hc13, if_neg hc25, if_neg hc37, if_neg hc49, if_neg hc62, if_neg hc76, if_neg hc89, if_neg hc103, if_neg hc116], N10, rfl⟩
def own_k (k : Int32) : Int32 := ((k &&& (2147483647 : Int32)) % (12 : Int32))
theorem own_and (y m : Int32) (t : Nat) (ht : t < 32) (hm : m.toBitVec = BitVec.twoPow 32 t) : (y &&& m = 0) ↔ (y.toBitVec.toNat / 2 ^ t % 2 = 0) := by
  have e1 : (y &&& m = 0) ↔ (y.toBitVec &&& BitVec.twoPow 32 t = 0#32) := by
    rw [← hm, ← Int32.toBitVec_and, ← Int32.toBitVec_inj]; rfl
  rw [e1, BitVec.and_twoPow]
  have e2 : y.toBitVec.getLsbD t = decide (y.toBitVec.toNat / 2 ^ t % 2 = 1) := by
    rw [BitVec.getLsbD, Nat.testBit_eq_decide_div_mod_eq]
  have e3 := Nat.mod_two_eq_zero_or_one (y.toBitVec.toNat / 2 ^ t)
  have e4 : BitVec.twoPow 32 t ≠ 0#32 := fun q => by
    have := congrArg BitVec.toNat q
    rw [BitVec.toNat_twoPow, Nat.mod_eq_of_lt (Nat.pow_lt_pow_right (by decide) ht)] at this
    have h2 := Nat.two_pow_pos t
    simp at this
  rcases e3 with e3 | e3
  · simp [e2, e3]
  · simp [e2, e3, e4]
theorem own_q6_3 (x : Int64) : f3 (own_y6 x) 3 = f5 x 51 := by
  unfold f3 f5
  have a1 := own_and (own_y6 x) ((1 : Int32) <<< ((3 : Int32) &&& 31)) 3 (by decide) (by decide)
  have a2 : (own_y6 x).toInt = _ := BitVec.toInt_eq_toNat_cond (own_y6 x).toBitVec
  have a3 := (own_y6 x).toBitVec.isLt
  have b1 := c_lushr x 48 48 (by decide) (by decide)
  have b2 := c_l2i ((x.toUInt64 >>> ((48 : Int32) &&& 0x3f).toInt64.toUInt64).toInt64)
  have b3 := c_i2b ((x.toUInt64 >>> ((48 : Int32) &&& 0x3f).toInt64.toUInt64).toInt64).toInt32
  have d0 : own_y6 x = ((x.toUInt64 >>> ((48 : Int32) &&& 0x3f).toInt64.toUInt64).toInt64).toInt32.toInt8.toInt32 := rfl
  rw [← d0] at b3
  have c1 := c_lushr x 51 51 (by decide) (by decide)
  have c2 := c_maskL ((x.toUInt64 >>> ((51 : Int32) &&& 0x3f).toInt64.toUInt64).toInt64) 1 1 (by decide) (by decide)
  have c3 : (((x.toUInt64 >>> ((51 : Int32) &&& 0x3f).toInt64.toUInt64).toInt64) &&& (1 : Int64)) = 0 ↔ (((x.toUInt64 >>> ((51 : Int32) &&& 0x3f).toInt64.toUInt64).toInt64) &&& (1 : Int64)).toInt = 0 := ⟨fun h => by rw [h]; rfl, fun h => Int64.toInt_inj.mp h⟩
  have e : (own_y6 x &&& ((1 : Int32) <<< ((3 : Int32) &&& 31)) = 0) ↔ ((((x.toUInt64 >>> ((51 : Int32) &&& 0x3f).toInt64.toUInt64).toInt64) &&& (1 : Int64)) = 0) := by
    rw [a1, c3, c2, c1]
    rw [b1] at b2
    simp only [show ((2 ^ 48 : Nat) : Int) = 281474976710656 from rfl, show ((2 ^ 51 : Nat) : Int) = 2251799813685248 from rfl, show ((2 ^ 1 : Nat) : Int) = 2 from rfl, show (2 ^ 32 : Nat) = 4294967296 from rfl, show (2 ^ 3 : Nat) = 8 from rfl, show ((4294967296 : Nat) : Int) = 4294967296 from rfl] at *
    split at a2 <;> omega
  by_cases h : own_y6 x &&& ((1 : Int32) <<< ((3 : Int32) &&& 31)) = 0
  · rw [if_pos h, if_pos (e.mp h)]
  · rw [if_neg h, if_neg (fun g => h (e.mpr g))]
theorem own_q6_5 (x : Int64) : f3 (own_y6 x) 5 = f5 x 53 := by
  unfold f3 f5
  have a1 := own_and (own_y6 x) ((1 : Int32) <<< ((5 : Int32) &&& 31)) 5 (by decide) (by decide)
  have a2 : (own_y6 x).toInt = _ := BitVec.toInt_eq_toNat_cond (own_y6 x).toBitVec
  have a3 := (own_y6 x).toBitVec.isLt
  have b1 := c_lushr x 48 48 (by decide) (by decide)
  have b2 := c_l2i ((x.toUInt64 >>> ((48 : Int32) &&& 0x3f).toInt64.toUInt64).toInt64)
  have b3 := c_i2b ((x.toUInt64 >>> ((48 : Int32) &&& 0x3f).toInt64.toUInt64).toInt64).toInt32
  have d0 : own_y6 x = ((x.toUInt64 >>> ((48 : Int32) &&& 0x3f).toInt64.toUInt64).toInt64).toInt32.toInt8.toInt32 := rfl
  rw [← d0] at b3
  have c1 := c_lushr x 53 53 (by decide) (by decide)
  have c2 := c_maskL ((x.toUInt64 >>> ((53 : Int32) &&& 0x3f).toInt64.toUInt64).toInt64) 1 1 (by decide) (by decide)
  have c3 : (((x.toUInt64 >>> ((53 : Int32) &&& 0x3f).toInt64.toUInt64).toInt64) &&& (1 : Int64)) = 0 ↔ (((x.toUInt64 >>> ((53 : Int32) &&& 0x3f).toInt64.toUInt64).toInt64) &&& (1 : Int64)).toInt = 0 := ⟨fun h => by rw [h]; rfl, fun h => Int64.toInt_inj.mp h⟩
  have e : (own_y6 x &&& ((1 : Int32) <<< ((5 : Int32) &&& 31)) = 0) ↔ ((((x.toUInt64 >>> ((53 : Int32) &&& 0x3f).toInt64.toUInt64).toInt64) &&& (1 : Int64)) = 0) := by
    rw [a1, c3, c2, c1]
    rw [b1] at b2
    simp only [show ((2 ^ 48 : Nat) : Int) = 281474976710656 from rfl, show ((2 ^ 53 : Nat) : Int) = 9007199254740992 from rfl, show ((2 ^ 1 : Nat) : Int) = 2 from rfl, show (2 ^ 32 : Nat) = 4294967296 from rfl, show (2 ^ 5 : Nat) = 32 from rfl, show ((4294967296 : Nat) : Int) = 4294967296 from rfl] at *
    split at a2 <;> omega
  by_cases h : own_y6 x &&& ((1 : Int32) <<< ((5 : Int32) &&& 31)) = 0
  · rw [if_pos h, if_pos (e.mp h)]
  · rw [if_neg h, if_neg (fun g => h (e.mpr g))]
theorem own_q7_1 (x : Int64) : f3 (own_y7 x) 1 = f5 x 57 := by
  unfold f3 f5
  have a1 := own_and (own_y7 x) ((1 : Int32) <<< ((1 : Int32) &&& 31)) 1 (by decide) (by decide)
  have a2 : (own_y7 x).toInt = _ := BitVec.toInt_eq_toNat_cond (own_y7 x).toBitVec
  have a3 := (own_y7 x).toBitVec.isLt
  have b1 := c_lushr x 56 56 (by decide) (by decide)
  have b2 := c_l2i ((x.toUInt64 >>> ((56 : Int32) &&& 0x3f).toInt64.toUInt64).toInt64)
  have b3 := c_i2b ((x.toUInt64 >>> ((56 : Int32) &&& 0x3f).toInt64.toUInt64).toInt64).toInt32
  have d0 : own_y7 x = ((x.toUInt64 >>> ((56 : Int32) &&& 0x3f).toInt64.toUInt64).toInt64).toInt32.toInt8.toInt32 := rfl
  rw [← d0] at b3
  have c1 := c_lushr x 57 57 (by decide) (by decide)
  have c2 := c_maskL ((x.toUInt64 >>> ((57 : Int32) &&& 0x3f).toInt64.toUInt64).toInt64) 1 1 (by decide) (by decide)
  have c3 : (((x.toUInt64 >>> ((57 : Int32) &&& 0x3f).toInt64.toUInt64).toInt64) &&& (1 : Int64)) = 0 ↔ (((x.toUInt64 >>> ((57 : Int32) &&& 0x3f).toInt64.toUInt64).toInt64) &&& (1 : Int64)).toInt = 0 := ⟨fun h => by rw [h]; rfl, fun h => Int64.toInt_inj.mp h⟩
  have e : (own_y7 x &&& ((1 : Int32) <<< ((1 : Int32) &&& 31)) = 0) ↔ ((((x.toUInt64 >>> ((57 : Int32) &&& 0x3f).toInt64.toUInt64).toInt64) &&& (1 : Int64)) = 0) := by
    rw [a1, c3, c2, c1]
    rw [b1] at b2
    simp only [show ((2 ^ 56 : Nat) : Int) = 72057594037927936 from rfl, show ((2 ^ 57 : Nat) : Int) = 144115188075855872 from rfl, show ((2 ^ 1 : Nat) : Int) = 2 from rfl, show (2 ^ 32 : Nat) = 4294967296 from rfl, show (2 ^ 1 : Nat) = 2 from rfl, show ((4294967296 : Nat) : Int) = 4294967296 from rfl] at *
    split at a2 <;> omega
  by_cases h : own_y7 x &&& ((1 : Int32) <<< ((1 : Int32) &&& 31)) = 0
  · rw [if_pos h, if_pos (e.mp h)]
  · rw [if_neg h, if_neg (fun g => h (e.mpr g))]
theorem own_q6_7 (x : Int64) : f3 (own_y6 x) 7 = f5 x 55 := by
  unfold f3 f5
  have a1 := own_and (own_y6 x) ((1 : Int32) <<< ((7 : Int32) &&& 31)) 7 (by decide) (by decide)
  have a2 : (own_y6 x).toInt = _ := BitVec.toInt_eq_toNat_cond (own_y6 x).toBitVec
  have a3 := (own_y6 x).toBitVec.isLt
  have b1 := c_lushr x 48 48 (by decide) (by decide)
  have b2 := c_l2i ((x.toUInt64 >>> ((48 : Int32) &&& 0x3f).toInt64.toUInt64).toInt64)
  have b3 := c_i2b ((x.toUInt64 >>> ((48 : Int32) &&& 0x3f).toInt64.toUInt64).toInt64).toInt32
  have d0 : own_y6 x = ((x.toUInt64 >>> ((48 : Int32) &&& 0x3f).toInt64.toUInt64).toInt64).toInt32.toInt8.toInt32 := rfl
  rw [← d0] at b3
  have c1 := c_lushr x 55 55 (by decide) (by decide)
  have c2 := c_maskL ((x.toUInt64 >>> ((55 : Int32) &&& 0x3f).toInt64.toUInt64).toInt64) 1 1 (by decide) (by decide)
  have c3 : (((x.toUInt64 >>> ((55 : Int32) &&& 0x3f).toInt64.toUInt64).toInt64) &&& (1 : Int64)) = 0 ↔ (((x.toUInt64 >>> ((55 : Int32) &&& 0x3f).toInt64.toUInt64).toInt64) &&& (1 : Int64)).toInt = 0 := ⟨fun h => by rw [h]; rfl, fun h => Int64.toInt_inj.mp h⟩
  have e : (own_y6 x &&& ((1 : Int32) <<< ((7 : Int32) &&& 31)) = 0) ↔ ((((x.toUInt64 >>> ((55 : Int32) &&& 0x3f).toInt64.toUInt64).toInt64) &&& (1 : Int64)) = 0) := by
    rw [a1, c3, c2, c1]
    rw [b1] at b2
    simp only [show ((2 ^ 48 : Nat) : Int) = 281474976710656 from rfl, show ((2 ^ 55 : Nat) : Int) = 36028797018963968 from rfl, show ((2 ^ 1 : Nat) : Int) = 2 from rfl, show (2 ^ 32 : Nat) = 4294967296 from rfl, show (2 ^ 7 : Nat) = 128 from rfl, show ((4294967296 : Nat) : Int) = 4294967296 from rfl] at *
    split at a2 <;> omega
  by_cases h : own_y6 x &&& ((1 : Int32) <<< ((7 : Int32) &&& 31)) = 0
  · rw [if_pos h, if_pos (e.mp h)]
  · rw [if_neg h, if_neg (fun g => h (e.mpr g))]
theorem own_q1_1 (x : Int64) : f3 (own_y1 x) 1 = f5 x 9 := by
  unfold f3 f5
  have a1 := own_and (own_y1 x) ((1 : Int32) <<< ((1 : Int32) &&& 31)) 1 (by decide) (by decide)
  have a2 : (own_y1 x).toInt = _ := BitVec.toInt_eq_toNat_cond (own_y1 x).toBitVec
  have a3 := (own_y1 x).toBitVec.isLt
  have b1 := c_lushr x 8 8 (by decide) (by decide)
  have b2 := c_l2i ((x.toUInt64 >>> ((8 : Int32) &&& 0x3f).toInt64.toUInt64).toInt64)
  have b3 := c_i2b ((x.toUInt64 >>> ((8 : Int32) &&& 0x3f).toInt64.toUInt64).toInt64).toInt32
  have d0 : own_y1 x = ((x.toUInt64 >>> ((8 : Int32) &&& 0x3f).toInt64.toUInt64).toInt64).toInt32.toInt8.toInt32 := rfl
  rw [← d0] at b3
  have c1 := c_lushr x 9 9 (by decide) (by decide)
  have c2 := c_maskL ((x.toUInt64 >>> ((9 : Int32) &&& 0x3f).toInt64.toUInt64).toInt64) 1 1 (by decide) (by decide)
  have c3 : (((x.toUInt64 >>> ((9 : Int32) &&& 0x3f).toInt64.toUInt64).toInt64) &&& (1 : Int64)) = 0 ↔ (((x.toUInt64 >>> ((9 : Int32) &&& 0x3f).toInt64.toUInt64).toInt64) &&& (1 : Int64)).toInt = 0 := ⟨fun h => by rw [h]; rfl, fun h => Int64.toInt_inj.mp h⟩
  have e : (own_y1 x &&& ((1 : Int32) <<< ((1 : Int32) &&& 31)) = 0) ↔ ((((x.toUInt64 >>> ((9 : Int32) &&& 0x3f).toInt64.toUInt64).toInt64) &&& (1 : Int64)) = 0) := by
    rw [a1, c3, c2, c1]
    rw [b1] at b2
    simp only [show ((2 ^ 8 : Nat) : Int) = 256 from rfl, show ((2 ^ 9 : Nat) : Int) = 512 from rfl, show ((2 ^ 1 : Nat) : Int) = 2 from rfl, show (2 ^ 32 : Nat) = 4294967296 from rfl, show (2 ^ 1 : Nat) = 2 from rfl, show ((4294967296 : Nat) : Int) = 4294967296 from rfl] at *
    split at a2 <;> omega
  by_cases h : own_y1 x &&& ((1 : Int32) <<< ((1 : Int32) &&& 31)) = 0
  · rw [if_pos h, if_pos (e.mp h)]
  · rw [if_neg h, if_neg (fun g => h (e.mpr g))]
theorem own_q5_6 (x : Int64) : f3 (own_y5 x) 6 = f5 x 46 := by
  unfold f3 f5
  have a1 := own_and (own_y5 x) ((1 : Int32) <<< ((6 : Int32) &&& 31)) 6 (by decide) (by decide)
  have a2 : (own_y5 x).toInt = _ := BitVec.toInt_eq_toNat_cond (own_y5 x).toBitVec
  have a3 := (own_y5 x).toBitVec.isLt
  have b1 := c_lushr x 40 40 (by decide) (by decide)
  have b2 := c_l2i ((x.toUInt64 >>> ((40 : Int32) &&& 0x3f).toInt64.toUInt64).toInt64)
  have b3 := c_i2b ((x.toUInt64 >>> ((40 : Int32) &&& 0x3f).toInt64.toUInt64).toInt64).toInt32
  have d0 : own_y5 x = ((x.toUInt64 >>> ((40 : Int32) &&& 0x3f).toInt64.toUInt64).toInt64).toInt32.toInt8.toInt32 := rfl
  rw [← d0] at b3
  have c1 := c_lushr x 46 46 (by decide) (by decide)
  have c2 := c_maskL ((x.toUInt64 >>> ((46 : Int32) &&& 0x3f).toInt64.toUInt64).toInt64) 1 1 (by decide) (by decide)
  have c3 : (((x.toUInt64 >>> ((46 : Int32) &&& 0x3f).toInt64.toUInt64).toInt64) &&& (1 : Int64)) = 0 ↔ (((x.toUInt64 >>> ((46 : Int32) &&& 0x3f).toInt64.toUInt64).toInt64) &&& (1 : Int64)).toInt = 0 := ⟨fun h => by rw [h]; rfl, fun h => Int64.toInt_inj.mp h⟩
  have e : (own_y5 x &&& ((1 : Int32) <<< ((6 : Int32) &&& 31)) = 0) ↔ ((((x.toUInt64 >>> ((46 : Int32) &&& 0x3f).toInt64.toUInt64).toInt64) &&& (1 : Int64)) = 0) := by
    rw [a1, c3, c2, c1]
    rw [b1] at b2
    simp only [show ((2 ^ 40 : Nat) : Int) = 1099511627776 from rfl, show ((2 ^ 46 : Nat) : Int) = 70368744177664 from rfl, show ((2 ^ 1 : Nat) : Int) = 2 from rfl, show (2 ^ 32 : Nat) = 4294967296 from rfl, show (2 ^ 6 : Nat) = 64 from rfl, show ((4294967296 : Nat) : Int) = 4294967296 from rfl] at *
    split at a2 <;> omega
  by_cases h : own_y5 x &&& ((1 : Int32) <<< ((6 : Int32) &&& 31)) = 0
  · rw [if_pos h, if_pos (e.mp h)]
  · rw [if_neg h, if_neg (fun g => h (e.mpr g))]
theorem own_q1_0 (x : Int64) : f3 (own_y1 x) 0 = f5 x 8 := by
  unfold f3 f5
  have a1 := own_and (own_y1 x) ((1 : Int32) <<< ((0 : Int32) &&& 31)) 0 (by decide) (by decide)
  have a2 : (own_y1 x).toInt = _ := BitVec.toInt_eq_toNat_cond (own_y1 x).toBitVec
  have a3 := (own_y1 x).toBitVec.isLt
  have b1 := c_lushr x 8 8 (by decide) (by decide)
  have b2 := c_l2i ((x.toUInt64 >>> ((8 : Int32) &&& 0x3f).toInt64.toUInt64).toInt64)
  have b3 := c_i2b ((x.toUInt64 >>> ((8 : Int32) &&& 0x3f).toInt64.toUInt64).toInt64).toInt32
  have d0 : own_y1 x = ((x.toUInt64 >>> ((8 : Int32) &&& 0x3f).toInt64.toUInt64).toInt64).toInt32.toInt8.toInt32 := rfl
  rw [← d0] at b3
  have c1 := c_lushr x 8 8 (by decide) (by decide)
  have c2 := c_maskL ((x.toUInt64 >>> ((8 : Int32) &&& 0x3f).toInt64.toUInt64).toInt64) 1 1 (by decide) (by decide)
  have c3 : (((x.toUInt64 >>> ((8 : Int32) &&& 0x3f).toInt64.toUInt64).toInt64) &&& (1 : Int64)) = 0 ↔ (((x.toUInt64 >>> ((8 : Int32) &&& 0x3f).toInt64.toUInt64).toInt64) &&& (1 : Int64)).toInt = 0 := ⟨fun h => by rw [h]; rfl, fun h => Int64.toInt_inj.mp h⟩
  have e : (own_y1 x &&& ((1 : Int32) <<< ((0 : Int32) &&& 31)) = 0) ↔ ((((x.toUInt64 >>> ((8 : Int32) &&& 0x3f).toInt64.toUInt64).toInt64) &&& (1 : Int64)) = 0) := by
    rw [a1, c3, c2, c1]
    rw [b1] at b2
    simp only [show ((2 ^ 8 : Nat) : Int) = 256 from rfl, show ((2 ^ 8 : Nat) : Int) = 256 from rfl, show ((2 ^ 1 : Nat) : Int) = 2 from rfl, show (2 ^ 32 : Nat) = 4294967296 from rfl, show (2 ^ 0 : Nat) = 1 from rfl, show ((4294967296 : Nat) : Int) = 4294967296 from rfl] at *
    split at a2 <;> omega
  by_cases h : own_y1 x &&& ((1 : Int32) <<< ((0 : Int32) &&& 31)) = 0
  · rw [if_pos h, if_pos (e.mp h)]
  · rw [if_neg h, if_neg (fun g => h (e.mpr g))]
theorem own_q7_0 (x : Int64) : f3 (own_y7 x) 0 = f5 x 56 := by
  unfold f3 f5
  have a1 := own_and (own_y7 x) ((1 : Int32) <<< ((0 : Int32) &&& 31)) 0 (by decide) (by decide)
  have a2 : (own_y7 x).toInt = _ := BitVec.toInt_eq_toNat_cond (own_y7 x).toBitVec
  have a3 := (own_y7 x).toBitVec.isLt
  have b1 := c_lushr x 56 56 (by decide) (by decide)
  have b2 := c_l2i ((x.toUInt64 >>> ((56 : Int32) &&& 0x3f).toInt64.toUInt64).toInt64)
  have b3 := c_i2b ((x.toUInt64 >>> ((56 : Int32) &&& 0x3f).toInt64.toUInt64).toInt64).toInt32
  have d0 : own_y7 x = ((x.toUInt64 >>> ((56 : Int32) &&& 0x3f).toInt64.toUInt64).toInt64).toInt32.toInt8.toInt32 := rfl
  rw [← d0] at b3
  have c1 := c_lushr x 56 56 (by decide) (by decide)
  have c2 := c_maskL ((x.toUInt64 >>> ((56 : Int32) &&& 0x3f).toInt64.toUInt64).toInt64) 1 1 (by decide) (by decide)
  have c3 : (((x.toUInt64 >>> ((56 : Int32) &&& 0x3f).toInt64.toUInt64).toInt64) &&& (1 : Int64)) = 0 ↔ (((x.toUInt64 >>> ((56 : Int32) &&& 0x3f).toInt64.toUInt64).toInt64) &&& (1 : Int64)).toInt = 0 := ⟨fun h => by rw [h]; rfl, fun h => Int64.toInt_inj.mp h⟩
  have e : (own_y7 x &&& ((1 : Int32) <<< ((0 : Int32) &&& 31)) = 0) ↔ ((((x.toUInt64 >>> ((56 : Int32) &&& 0x3f).toInt64.toUInt64).toInt64) &&& (1 : Int64)) = 0) := by
    rw [a1, c3, c2, c1]
    rw [b1] at b2
    simp only [show ((2 ^ 56 : Nat) : Int) = 72057594037927936 from rfl, show ((2 ^ 56 : Nat) : Int) = 72057594037927936 from rfl, show ((2 ^ 1 : Nat) : Int) = 2 from rfl, show (2 ^ 32 : Nat) = 4294967296 from rfl, show (2 ^ 0 : Nat) = 1 from rfl, show ((4294967296 : Nat) : Int) = 4294967296 from rfl] at *
    split at a2 <;> omega
  by_cases h : own_y7 x &&& ((1 : Int32) <<< ((0 : Int32) &&& 31)) = 0
  · rw [if_pos h, if_pos (e.mp h)]
  · rw [if_neg h, if_neg (fun g => h (e.mpr g))]
theorem own_q7_7 (x : Int64) : f3 (own_y7 x) 7 = f5 x 63 := by
  unfold f3 f5
  have a1 := own_and (own_y7 x) ((1 : Int32) <<< ((7 : Int32) &&& 31)) 7 (by decide) (by decide)
  have a2 : (own_y7 x).toInt = _ := BitVec.toInt_eq_toNat_cond (own_y7 x).toBitVec
  have a3 := (own_y7 x).toBitVec.isLt
  have b1 := c_lushr x 56 56 (by decide) (by decide)
  have b2 := c_l2i ((x.toUInt64 >>> ((56 : Int32) &&& 0x3f).toInt64.toUInt64).toInt64)
  have b3 := c_i2b ((x.toUInt64 >>> ((56 : Int32) &&& 0x3f).toInt64.toUInt64).toInt64).toInt32
  have d0 : own_y7 x = ((x.toUInt64 >>> ((56 : Int32) &&& 0x3f).toInt64.toUInt64).toInt64).toInt32.toInt8.toInt32 := rfl
  rw [← d0] at b3
  have c1 := c_lushr x 63 63 (by decide) (by decide)
  have c2 := c_maskL ((x.toUInt64 >>> ((63 : Int32) &&& 0x3f).toInt64.toUInt64).toInt64) 1 1 (by decide) (by decide)
  have c3 : (((x.toUInt64 >>> ((63 : Int32) &&& 0x3f).toInt64.toUInt64).toInt64) &&& (1 : Int64)) = 0 ↔ (((x.toUInt64 >>> ((63 : Int32) &&& 0x3f).toInt64.toUInt64).toInt64) &&& (1 : Int64)).toInt = 0 := ⟨fun h => by rw [h]; rfl, fun h => Int64.toInt_inj.mp h⟩
  have e : (own_y7 x &&& ((1 : Int32) <<< ((7 : Int32) &&& 31)) = 0) ↔ ((((x.toUInt64 >>> ((63 : Int32) &&& 0x3f).toInt64.toUInt64).toInt64) &&& (1 : Int64)) = 0) := by
    rw [a1, c3, c2, c1]
    rw [b1] at b2
    simp only [show ((2 ^ 56 : Nat) : Int) = 72057594037927936 from rfl, show ((2 ^ 63 : Nat) : Int) = 9223372036854775808 from rfl, show ((2 ^ 1 : Nat) : Int) = 2 from rfl, show (2 ^ 32 : Nat) = 4294967296 from rfl, show (2 ^ 7 : Nat) = 128 from rfl, show ((4294967296 : Nat) : Int) = 4294967296 from rfl] at *
    split at a2 <;> omega
  by_cases h : own_y7 x &&& ((1 : Int32) <<< ((7 : Int32) &&& 31)) = 0
  · rw [if_pos h, if_pos (e.mp h)]
  · rw [if_neg h, if_neg (fun g => h (e.mpr g))]
theorem own_c0 (a b c d : Int64) (k : Int32) (h : k = (0 : Int32)) : (1 : Int32) = f4 k a b c d := by subst h; rfl
theorem own_c1 (a b c d : Int64) (k : Int32) (h : k = (1 : Int32)) : (1 : Int32) = f4 k a b c d := by subst h; rfl
theorem own_c2 (a b c d : Int64) (k : Int32) (h : k = (2 : Int32)) : f3 ((own_put (own_put (own_put (own_put (fun x => (0 : Int32)) 0 a) 8 b) 16 c) 24 d) 14) 3 = f4 k a b c d := by
  subst h
  show f3 (own_y6 b) 3 = f5 b 51
  exact own_q6_3 b
theorem own_c3 (a b c d : Int64) (k : Int32) (h : k = (3 : Int32)) : f3 ((own_put (own_put (own_put (own_put (fun x => (0 : Int32)) 0 a) 8 b) 16 c) 24 d) 14) 5 = f4 k a b c d := by
  subst h
  show f3 (own_y6 b) 5 = f5 b 53
  exact own_q6_5 b
theorem own_c4 (a b c d : Int64) (k : Int32) (h : k = (4 : Int32)) : f3 ((own_put (own_put (own_put (own_put (fun x => (0 : Int32)) 0 a) 8 b) 16 c) 24 d) 15) 1 = f4 k a b c d := by
  subst h
  show f3 (own_y7 b) 1 = f5 b 57
  exact own_q7_1 b
theorem own_c5 (a b c d : Int64) (k : Int32) (h : k = (5 : Int32)) : f3 ((own_put (own_put (own_put (own_put (fun x => (0 : Int32)) 0 a) 8 b) 16 c) 24 d) 14) 7 = f4 k a b c d := by
  subst h
  show f3 (own_y6 b) 7 = f5 b 55
  exact own_q6_7 b
theorem own_c6 (a b c d : Int64) (k : Int32) (h : k = (6 : Int32)) : f3 ((own_put (own_put (own_put (own_put (fun x => (0 : Int32)) 0 a) 8 b) 16 c) 24 d) 25) 1 = f4 k a b c d := by
  subst h
  show f3 (own_y1 d) 1 = f5 d 9
  exact own_q1_1 d
theorem own_c7 (a b c d : Int64) (k : Int32) (h : k = (7 : Int32)) : f3 ((own_put (own_put (own_put (own_put (fun x => (0 : Int32)) 0 a) 8 b) 16 c) 24 d) 5) 6 = f4 k a b c d := by
  subst h
  show f3 (own_y5 a) 6 = f5 a 46
  exact own_q5_6 a
theorem own_c8 (a b c d : Int64) (k : Int32) (h : k = (8 : Int32)) : f3 ((own_put (own_put (own_put (own_put (fun x => (0 : Int32)) 0 a) 8 b) 16 c) 24 d) 25) 0 = f4 k a b c d := by
  subst h
  show f3 (own_y1 d) 0 = f5 d 8
  exact own_q1_0 d
theorem own_c9 (a b c d : Int64) (k : Int32) (h : k = (9 : Int32)) : f3 ((own_put (own_put (own_put (own_put (fun x => (0 : Int32)) 0 a) 8 b) 16 c) 24 d) 7) 0 = f4 k a b c d := by
  subst h
  show f3 (own_y7 a) 0 = f5 a 56
  exact own_q7_0 a
theorem own_c10 (a b c d : Int64) (k : Int32) (h : k = (10 : Int32)) : f3 ((own_put (own_put (own_put (own_put (fun x => (0 : Int32)) 0 a) 8 b) 16 c) 24 d) 9) 1 = f4 k a b c d := by
  subst h
  show f3 (own_y1 b) 1 = f5 b 9
  exact own_q1_1 b
theorem own_c11 (a b c d : Int64) (k : Int32) (h0 : ¬ k = (0 : Int32)) (h1 : ¬ k = (1 : Int32)) (h2 : ¬ k = (2 : Int32)) (h3 : ¬ k = (3 : Int32)) (h4 : ¬ k = (4 : Int32)) (h5 : ¬ k = (5 : Int32)) (h6 : ¬ k = (6 : Int32)) (h7 : ¬ k = (7 : Int32)) (h8 : ¬ k = (8 : Int32)) (h9 : ¬ k = (9 : Int32)) (h10 : ¬ k = (10 : Int32)) : f3 ((own_put (own_put (own_put (own_put (fun x => (0 : Int32)) 0 a) 8 b) 16 c) 24 d) 7) 7 = f4 k a b c d := by
  have e : f4 k a b c d = f5 a 63 := by simp only [f4, if_neg h0, if_neg h1, if_neg h2, if_neg h3, if_neg h4, if_neg h5, if_neg h6, if_neg h7, if_neg h8, if_neg h9, if_neg h10]
  rw [e]
  show f3 (own_y7 a) 7 = f5 a 63
  exact own_q7_7 a

theorem own_pd1 : parseMethodDescriptor "([BIJ)V" = some ⟨[(.array .byte), .int, .long], none⟩ := by decide +kernel
theorem own_pd2 : parseMethodDescriptor "(I)Lcom/example/adapterd/adapterd/controller/HciCommand;" = some ⟨[.int], some (.object "com/example/adapterd/adapterd/controller/HciCommand")⟩ := by decide +kernel
theorem own_pd3 : parseMethodDescriptor "([B)Z" = some ⟨[(.array .byte)], some .boolean⟩ := by decide +kernel
theorem own_pd4 : parseMethodDescriptor "(IJJJJ)Z" = some ⟨[.int, .long, .long, .long, .long], some .boolean⟩ := by decide +kernel
theorem ef_rm0 (m_ : MethodId) (k : Int32) (a : Int64) (b : Int64) (c : Int64) (d : Int64) : entryFrame m_ #[(.int k), (.long a), (.long b), (.long c), (.long d)] maxLocals = mkF m_ 0 #[.val (.int k), .val (.long a), .second, .val (.long b), .second, .val (.long c), .second, .val (.long d), .second, .unset, .unset, .unset, .unset] [] := by first | (simp [entryFrame, mkF, argsToLocals, Value.category, maxLocals]; done) | rfl
set_option maxRecDepth 65536 in
set_option maxHeartbeats 40000000 in
theorem rm0 (l : Launch) (Z : State) (a0 : Array Value) (hw : ∀ d ∈ tables_1, d.before a0 Z = true) (k : Int32) (a : Int64) (b : Int64) (c : Int64) (d : Int64) (w0 w1 w2 w3 w4 w5 w6 w7 w8 w9 w10 w11 : Addr) (h0 : Heap) (n0 : Nat) (Z0 : n0 ≤ h0.size) (O : Old Z n0 h0) (S_RESET : Sta Z Z.heap "com/example/adapterd/adapterd/controller/HciCommand" "RESET" "Lcom/example/adapterd/adapterd/controller/HciCommand;" (.ref w0)) (S_READ_LOCAL_SUPPORTED_COMMANDS : Sta Z Z.heap "com/example/adapterd/adapterd/controller/HciCommand" "READ_LOCAL_SUPPORTED_COMMANDS" "Lcom/example/adapterd/adapterd/controller/HciCommand;" (.ref w1)) (S_READ_LOCAL_VERSION_INFORMATION : Sta Z Z.heap "com/example/adapterd/adapterd/controller/HciCommand" "READ_LOCAL_VERSION_INFORMATION" "Lcom/example/adapterd/adapterd/controller/HciCommand;" (.ref w2)) (S_READ_LOCAL_SUPPORTED_FEATURES : Sta Z Z.heap "com/example/adapterd/adapterd/controller/HciCommand" "READ_LOCAL_SUPPORTED_FEATURES" "Lcom/example/adapterd/adapterd/controller/HciCommand;" (.ref w3)) (S_READ_BD_ADDR : Sta Z Z.heap "com/example/adapterd/adapterd/controller/HciCommand" "READ_BD_ADDR" "Lcom/example/adapterd/adapterd/controller/HciCommand;" (.ref w4)) (S_READ_BUFFER_SIZE : Sta Z Z.heap "com/example/adapterd/adapterd/controller/HciCommand" "READ_BUFFER_SIZE" "Lcom/example/adapterd/adapterd/controller/HciCommand;" (.ref w5)) (S_LE_READ_BUFFER_SIZE : Sta Z Z.heap "com/example/adapterd/adapterd/controller/HciCommand" "LE_READ_BUFFER_SIZE" "Lcom/example/adapterd/adapterd/controller/HciCommand;" (.ref w6)) (S_SET_EVENT_MASK : Sta Z Z.heap "com/example/adapterd/adapterd/controller/HciCommand" "SET_EVENT_MASK" "Lcom/example/adapterd/adapterd/controller/HciCommand;" (.ref w7)) (S_LE_SET_EVENT_MASK : Sta Z Z.heap "com/example/adapterd/adapterd/controller/HciCommand" "LE_SET_EVENT_MASK" "Lcom/example/adapterd/adapterd/controller/HciCommand;" (.ref w8)) (S_WRITE_LOCAL_NAME : Sta Z Z.heap "com/example/adapterd/adapterd/controller/HciCommand" "WRITE_LOCAL_NAME" "Lcom/example/adapterd/adapterd/controller/HciCommand;" (.ref w9)) (S_WRITE_CLASS_OF_DEVICE : Sta Z Z.heap "com/example/adapterd/adapterd/controller/HciCommand" "WRITE_CLASS_OF_DEVICE" "Lcom/example/adapterd/adapterd/controller/HciCommand;" (.ref w10)) (S_WRITE_SCAN_ENABLE : Sta Z Z.heap "com/example/adapterd/adapterd/controller/HciCommand" "WRITE_SCAN_ENABLE" "Lcom/example/adapterd/adapterd/controller/HciCommand;" (.ref w11)) (E_w0 : Exa Z Z.heap w0 "com/example/adapterd/adapterd/controller/HciCommand") (E_w1 : Exa Z Z.heap w1 "com/example/adapterd/adapterd/controller/HciCommand") (E_w2 : Exa Z Z.heap w2 "com/example/adapterd/adapterd/controller/HciCommand") (E_w3 : Exa Z Z.heap w3 "com/example/adapterd/adapterd/controller/HciCommand") (E_w4 : Exa Z Z.heap w4 "com/example/adapterd/adapterd/controller/HciCommand") (E_w5 : Exa Z Z.heap w5 "com/example/adapterd/adapterd/controller/HciCommand") (E_w6 : Exa Z Z.heap w6 "com/example/adapterd/adapterd/controller/HciCommand") (E_w7 : Exa Z Z.heap w7 "com/example/adapterd/adapterd/controller/HciCommand") (E_w8 : Exa Z Z.heap w8 "com/example/adapterd/adapterd/controller/HciCommand") (E_w9 : Exa Z Z.heap w9 "com/example/adapterd/adapterd/controller/HciCommand") (E_w10 : Exa Z Z.heap w10 "com/example/adapterd/adapterd/controller/HciCommand") (E_w11 : Exa Z Z.heap w11 "com/example/adapterd/adapterd/controller/HciCommand") (F_octet_w0 : Fld Z Z.heap w0 "com/example/adapterd/adapterd/controller/HciCommand" "octet" "I" (.int (-1 : Int32))) (F_bit_w0 : Fld Z Z.heap w0 "com/example/adapterd/adapterd/controller/HciCommand" "bit" "I" (.int (-1 : Int32))) (F_octet_w1 : Fld Z Z.heap w1 "com/example/adapterd/adapterd/controller/HciCommand" "octet" "I" (.int (-1 : Int32))) (F_bit_w1 : Fld Z Z.heap w1 "com/example/adapterd/adapterd/controller/HciCommand" "bit" "I" (.int (-1 : Int32))) (F_octet_w2 : Fld Z Z.heap w2 "com/example/adapterd/adapterd/controller/HciCommand" "octet" "I" (.int (14 : Int32))) (F_bit_w2 : Fld Z Z.heap w2 "com/example/adapterd/adapterd/controller/HciCommand" "bit" "I" (.int (3 : Int32))) (F_octet_w3 : Fld Z Z.heap w3 "com/example/adapterd/adapterd/controller/HciCommand" "octet" "I" (.int (14 : Int32))) (F_bit_w3 : Fld Z Z.heap w3 "com/example/adapterd/adapterd/controller/HciCommand" "bit" "I" (.int (5 : Int32))) (F_octet_w4 : Fld Z Z.heap w4 "com/example/adapterd/adapterd/controller/HciCommand" "octet" "I" (.int (15 : Int32))) (F_bit_w4 : Fld Z Z.heap w4 "com/example/adapterd/adapterd/controller/HciCommand" "bit" "I" (.int (1 : Int32))) (F_octet_w5 : Fld Z Z.heap w5 "com/example/adapterd/adapterd/controller/HciCommand" "octet" "I" (.int (14 : Int32))) (F_bit_w5 : Fld Z Z.heap w5 "com/example/adapterd/adapterd/controller/HciCommand" "bit" "I" (.int (7 : Int32))) (F_octet_w6 : Fld Z Z.heap w6 "com/example/adapterd/adapterd/controller/HciCommand" "octet" "I" (.int (25 : Int32))) (F_bit_w6 : Fld Z Z.heap w6 "com/example/adapterd/adapterd/controller/HciCommand" "bit" "I" (.int (1 : Int32))) (F_octet_w7 : Fld Z Z.heap w7 "com/example/adapterd/adapterd/controller/HciCommand" "octet" "I" (.int (5 : Int32))) (F_bit_w7 : Fld Z Z.heap w7 "com/example/adapterd/adapterd/controller/HciCommand" "bit" "I" (.int (6 : Int32))) (F_octet_w8 : Fld Z Z.heap w8 "com/example/adapterd/adapterd/controller/HciCommand" "octet" "I" (.int (25 : Int32))) (F_bit_w8 : Fld Z Z.heap w8 "com/example/adapterd/adapterd/controller/HciCommand" "bit" "I" (.int (0 : Int32))) (F_octet_w9 : Fld Z Z.heap w9 "com/example/adapterd/adapterd/controller/HciCommand" "octet" "I" (.int (7 : Int32))) (F_bit_w9 : Fld Z Z.heap w9 "com/example/adapterd/adapterd/controller/HciCommand" "bit" "I" (.int (0 : Int32))) (F_octet_w10 : Fld Z Z.heap w10 "com/example/adapterd/adapterd/controller/HciCommand" "octet" "I" (.int (9 : Int32))) (F_bit_w10 : Fld Z Z.heap w10 "com/example/adapterd/adapterd/controller/HciCommand" "bit" "I" (.int (1 : Int32))) (F_octet_w11 : Fld Z Z.heap w11 "com/example/adapterd/adapterd/controller/HciCommand" "octet" "I" (.int (7 : Int32))) (F_bit_w11 : Fld Z Z.heap w11 "com/example/adapterd/adapterd/controller/HciCommand" "bit" "I" (.int (7 : Int32))) :
    own_Met l Z x code maxLocals ret room_1 #[(.int k), (.long a), (.long b), (.long c), (.long d)] h0 (fun v h L => v = some (.int 1) ∧ Fr n0 L) := by
  refine own_body #[.val (.int k), .val (.long a), .second, .val (.long b), .second, .val (.long c), .second, .val (.long d), .second, .unset, .unset, .unset, .unset] (plainFor_of_name own_pn0) (fun m_ => ef_rm0 m_ k a b c d) ?_
  intro p_ e_ s_ m_ below meth c_ s₁ X0 hx hby hml hret hlk hZ hown hnm e0
  have N0 := Fr.nil n0
  show own_Out p_ e_ below s_ _ _ _ s₁ (mkF m_ 0 #[.val (.int k), .val (.long a), .second, .val (.long b), .second, .val (.long c), .second, .val (.long d), .second, .unset, .unset, .unset, .unset] [])
  refine own_st s₁ (mkF m_ 11 #[.val (.int k), .val (.long a), .second, .val (.long b), .second, .val (.long c), .second, .val (.long d), .second, .val (.int (own_k k)), .unset, .unset, .unset] [(.int (64 : Int32))]) (fun t_ k_ => ?_) ?_
  · refine XS.iloadN X0.here hx rfl (hb hby at_0) rfl ?_
    show Steps p_.tables e_ below (s₁.setTop (mkF m_ 1 #[.val (.int k), .val (.long a), .second, .val (.long b), .second, .val (.long c), .second, .val (.long d), .second, .unset, .unset, .unset, .unset] [(.int k)])) t_
    refine X0.ldcInt hx hown (mvT hZ (hw _ (List.mem_of_getElem? (i := 0) rfl))) (g := (mkF m_ 1 #[.val (.int k), .val (.long a), .second, .val (.long b), .second, .val (.long c), .second, .val (.long d), .second, .unset, .unset, .unset, .unset] [(.int k)])) rfl (hb hby at_1) _ ?_
    show Steps p_.tables e_ below (s₁.setTop (mkF m_ 3 #[.val (.int k), .val (.long a), .second, .val (.long b), .second, .val (.long c), .second, .val (.long d), .second, .unset, .unset, .unset, .unset] [(.int (2147483647 : Int32)), (.int k)])) t_
    refine XS.iand X0.here hx rfl (hb hby at_3) rfl ?_
    show Steps p_.tables e_ below (s₁.setTop (mkF m_ 4 #[.val (.int k), .val (.long a), .second, .val (.long b), .second, .val (.long c), .second, .val (.long d), .second, .unset, .unset, .unset, .unset] [(.int (k &&& (2147483647 : Int32)))])) t_
    refine XS.bipush X0.here hx rfl (hb hby at_4) ?_
    show Steps p_.tables e_ below (s₁.setTop (mkF m_ 6 #[.val (.int k), .val (.long a), .second, .val (.long b), .second, .val (.long c), .second, .val (.long d), .second, .unset, .unset, .unset, .unset] [(.int (12 : Int32)), (.int (k &&& (2147483647 : Int32)))])) t_
    refine iremM X0 hx rfl (hb hby at_6) rfl (by decide) ?_
    show Steps p_.tables e_ below (s₁.setTop (mkF m_ 7 #[.val (.int k), .val (.long a), .second, .val (.long b), .second, .val (.long c), .second, .val (.long d), .second, .unset, .unset, .unset, .unset] [(.int (own_k k))])) t_
    refine XS.istore X0.here hx rfl (hb hby at_7) rfl (l' := #[.val (.int k), .val (.long a), .second, .val (.long b), .second, .val (.long c), .second, .val (.long d), .second, .val (.int (own_k k)), .unset, .unset, .unset]) rfl ?_
    show Steps p_.tables e_ below (s₁.setTop (mkF m_ 9 #[.val (.int k), .val (.long a), .second, .val (.long b), .second, .val (.long c), .second, .val (.long d), .second, .val (.int (own_k k)), .unset, .unset, .unset] [])) t_
    refine XS.bipush X0.here hx rfl (hb hby at_9) ?_
    show Steps p_.tables e_ below (s₁.setTop (mkF m_ 11 #[.val (.int k), .val (.long a), .second, .val (.long b), .second, .val (.long c), .second, .val (.long d), .second, .val (.int (own_k k)), .unset, .unset, .unset] [(.int (64 : Int32))])) t_
    exact k_
  obtain ⟨T1, h1, k1, X1, e1, E1, A1, st1⟩ := newP X0 hx hZ (hw _ (List.mem_of_getElem? (i := 1) rfl)) e0 (g := (mkF m_ 11 #[.val (.int k), .val (.long a), .second, .val (.long b), .second, .val (.long c), .second, .val (.long d), .second, .val (.int (own_k k)), .unset, .unset, .unset] [(.int (64 : Int32))])) rfl (hb hby at_11) rfl (by decide) (cap := 64) (by decide) (by decide) (by decide) (by decide)
  obtain ⟨b1, g1⟩ : ∃ z, z = h0.size := ⟨_, rfl⟩
  rw [← g1] at A1 st1
  have g_b1 : n0 ≤ b1 := g1 ▸ Z0
  replace O := O.ext E1
  replace Z0 : n0 ≤ h1.size := Nat.le_trans Z0 E1.1
  have A_b1 : own_A Z h1 b1 k1 .byte 64 (fun _ => .int 0) := own_A.newI A1 (by decide) 64 (by decide) rfl
  refine own_st T1 (mkF m_ 13 #[.val (.int k), .val (.long a), .second, .val (.long b), .second, .val (.long c), .second, .val (.long d), .second, .val (.int (own_k k)), .unset, .unset, .unset] [(.ref b1)]) st1 ?_
  refine own_st T1 (mkF m_ 19 #[.val (.int k), .val (.long a), .second, .val (.long b), .second, .val (.long c), .second, .val (.long d), .second, .val (.int (own_k k)), .val (.ref b1), .unset, .unset] [(.long a), (.int (0 : Int32)), (.ref b1)]) (fun t_ k_ => ?_) ?_
  · refine XS.astore X1.here hx rfl (hb hby at_13) rfl rfl (l' := #[.val (.int k), .val (.long a), .second, .val (.long b), .second, .val (.long c), .second, .val (.long d), .second, .val (.int (own_k k)), .val (.ref b1), .unset, .unset]) rfl ?_
    show Steps p_.tables e_ below (T1.setTop (mkF m_ 15 #[.val (.int k), .val (.long a), .second, .val (.long b), .second, .val (.long c), .second, .val (.long d), .second, .val (.int (own_k k)), .val (.ref b1), .unset, .unset] [])) t_
    refine XS.aload X1.here hx rfl (hb hby at_15) rfl rfl ?_
    show Steps p_.tables e_ below (T1.setTop (mkF m_ 17 #[.val (.int k), .val (.long a), .second, .val (.long b), .second, .val (.long c), .second, .val (.long d), .second, .val (.int (own_k k)), .val (.ref b1), .unset, .unset] [(.ref b1)])) t_
    refine XS.iconst X1.here hx rfl (hb hby at_17) ?_
    show Steps p_.tables e_ below (T1.setTop (mkF m_ 18 #[.val (.int k), .val (.long a), .second, .val (.long b), .second, .val (.long c), .second, .val (.long d), .second, .val (.int (own_k k)), .val (.ref b1), .unset, .unset] [(.int (0 : Int32)), (.ref b1)])) t_
    refine XS.lloadN X1.here hx rfl (hb hby at_18) rfl ?_
    show Steps p_.tables e_ below (T1.setTop (mkF m_ 19 #[.val (.int k), .val (.long a), .second, .val (.long b), .second, .val (.long c), .second, .val (.long d), .second, .val (.int (own_k k)), .val (.ref b1), .unset, .unset] [(.long a), (.int (0 : Int32)), (.ref b1)])) t_
    exact k_
  refine own_callS X1 hx hZ hown (hw _ (List.mem_of_getElem? (i := 2) rfl)) (hw _ (List.mem_of_getElem? (i := 3) rfl)) (hw _ (List.mem_of_getElem? (i := 4) rfl)) (hw _ (List.mem_of_getElem? (i := 5) rfl)) (by decide) [(.ref b1), (.int (0 : Int32)), (.long a)] [] (rm1 l Z a0 hw b1 (0 : Int32) a k1 (fun x_ => (0 : Int32)) 0 h1 n0 Z0 A_b1 (by decide) (by decide) g_b1) 0 (by decide) (by decide) e1 (by rw [hml]; rfl) (lenOf own_pd1 rfl) rfl (Nat.le_of_eq rfl) (hb hby at_19) (by decide) (by decide) ?_
  intro v2 T2 L2 X2 q2
  obtain ⟨rfl, N2q, K2, Vq2⟩ := q2
  have N2 := Fr.app N0 N2q
  replace O := O.keep K2 (allS g_b1 all0)
  -- A_b1 is dropped: written by the callee
  replace Z0 : n0 ≤ T2.heap.size := Nat.le_trans Z0 K2.1
  have A_b1 := Vq2
  show own_Out p_ e_ below s_ _ _ _ T2 (mkF m_ 22 #[.val (.int k), .val (.long a), .second, .val (.long b), .second, .val (.long c), .second, .val (.long d), .second, .val (.int (own_k k)), .val (.ref b1), .unset, .unset] [])
  refine own_st T2 (mkF m_ 27 #[.val (.int k), .val (.long a), .second, .val (.long b), .second, .val (.long c), .second, .val (.long d), .second, .val (.int (own_k k)), .val (.ref b1), .unset, .unset] [(.long b), (.int (8 : Int32)), (.ref b1)]) (fun t_ k_ => ?_) ?_
  · refine XS.aload X2.here hx rfl (hb hby at_22) rfl rfl ?_
    show Steps p_.tables e_ below (T2.setTop (mkF m_ 24 #[.val (.int k), .val (.long a), .second, .val (.long b), .second, .val (.long c), .second, .val (.long d), .second, .val (.int (own_k k)), .val (.ref b1), .unset, .unset] [(.ref b1)])) t_
    refine XS.bipush X2.here hx rfl (hb hby at_24) ?_
    show Steps p_.tables e_ below (T2.setTop (mkF m_ 26 #[.val (.int k), .val (.long a), .second, .val (.long b), .second, .val (.long c), .second, .val (.long d), .second, .val (.int (own_k k)), .val (.ref b1), .unset, .unset] [(.int (8 : Int32)), (.ref b1)])) t_
    refine XS.lloadN X2.here hx rfl (hb hby at_26) rfl ?_
    show Steps p_.tables e_ below (T2.setTop (mkF m_ 27 #[.val (.int k), .val (.long a), .second, .val (.long b), .second, .val (.long c), .second, .val (.long d), .second, .val (.int (own_k k)), .val (.ref b1), .unset, .unset] [(.long b), (.int (8 : Int32)), (.ref b1)])) t_
    exact k_
  refine own_callS X2 hx hZ hown (hw _ (List.mem_of_getElem? (i := 2) rfl)) (hw _ (List.mem_of_getElem? (i := 3) rfl)) (hw _ (List.mem_of_getElem? (i := 4) rfl)) (hw _ (List.mem_of_getElem? (i := 5) rfl)) (by decide) [(.ref b1), (.int (8 : Int32)), (.long b)] [] (rm1 l Z a0 hw b1 (8 : Int32) b k1 (fun x_ => ((own_put (fun x_ => (0 : Int32)) 0 a) x_)) 8 T2.heap n0 Z0 A_b1 (by decide) (by decide) g_b1) 0 (by decide) (by decide) rfl (by rw [hml]; rfl) (lenOf own_pd1 rfl) rfl (Nat.le_of_eq rfl) (hb hby at_27) (by decide) (by decide) ?_
  intro v3 T3 L3 X3 q3
  obtain ⟨rfl, N3q, K3, Vq3⟩ := q3
  have N3 := Fr.app N2 N3q
  replace O := O.keep K3 (allS g_b1 all0)
  -- A_b1 is dropped: written by the callee
  replace Z0 : n0 ≤ T3.heap.size := Nat.le_trans Z0 K3.1
  have A_b1 := Vq3
  show own_Out p_ e_ below s_ _ _ _ T3 (mkF m_ 30 #[.val (.int k), .val (.long a), .second, .val (.long b), .second, .val (.long c), .second, .val (.long d), .second, .val (.int (own_k k)), .val (.ref b1), .unset, .unset] [])
  refine own_st T3 (mkF m_ 36 #[.val (.int k), .val (.long a), .second, .val (.long b), .second, .val (.long c), .second, .val (.long d), .second, .val (.int (own_k k)), .val (.ref b1), .unset, .unset] [(.long c), (.int (16 : Int32)), (.ref b1)]) (fun t_ k_ => ?_) ?_
  · refine XS.aload X3.here hx rfl (hb hby at_30) rfl rfl ?_
    show Steps p_.tables e_ below (T3.setTop (mkF m_ 32 #[.val (.int k), .val (.long a), .second, .val (.long b), .second, .val (.long c), .second, .val (.long d), .second, .val (.int (own_k k)), .val (.ref b1), .unset, .unset] [(.ref b1)])) t_
    refine XS.bipush X3.here hx rfl (hb hby at_32) ?_
    show Steps p_.tables e_ below (T3.setTop (mkF m_ 34 #[.val (.int k), .val (.long a), .second, .val (.long b), .second, .val (.long c), .second, .val (.long d), .second, .val (.int (own_k k)), .val (.ref b1), .unset, .unset] [(.int (16 : Int32)), (.ref b1)])) t_
    refine XS.lload X3.here hx rfl (hb hby at_34) rfl ?_
    show Steps p_.tables e_ below (T3.setTop (mkF m_ 36 #[.val (.int k), .val (.long a), .second, .val (.long b), .second, .val (.long c), .second, .val (.long d), .second, .val (.int (own_k k)), .val (.ref b1), .unset, .unset] [(.long c), (.int (16 : Int32)), (.ref b1)])) t_
    exact k_
  refine own_callS X3 hx hZ hown (hw _ (List.mem_of_getElem? (i := 2) rfl)) (hw _ (List.mem_of_getElem? (i := 3) rfl)) (hw _ (List.mem_of_getElem? (i := 4) rfl)) (hw _ (List.mem_of_getElem? (i := 5) rfl)) (by decide) [(.ref b1), (.int (16 : Int32)), (.long c)] [] (rm1 l Z a0 hw b1 (16 : Int32) c k1 (fun x_ => ((own_put (own_put (fun x_ => (0 : Int32)) 0 a) 8 b) x_)) 16 T3.heap n0 Z0 A_b1 (by decide) (by decide) g_b1) 0 (by decide) (by decide) rfl (by rw [hml]; rfl) (lenOf own_pd1 rfl) rfl (Nat.le_of_eq rfl) (hb hby at_36) (by decide) (by decide) ?_
  intro v4 T4 L4 X4 q4
  obtain ⟨rfl, N4q, K4, Vq4⟩ := q4
  have N4 := Fr.app N3 N4q
  replace O := O.keep K4 (allS g_b1 all0)
  -- A_b1 is dropped: written by the callee
  replace Z0 : n0 ≤ T4.heap.size := Nat.le_trans Z0 K4.1
  have A_b1 := Vq4
  show own_Out p_ e_ below s_ _ _ _ T4 (mkF m_ 39 #[.val (.int k), .val (.long a), .second, .val (.long b), .second, .val (.long c), .second, .val (.long d), .second, .val (.int (own_k k)), .val (.ref b1), .unset, .unset] [])
  refine own_st T4 (mkF m_ 45 #[.val (.int k), .val (.long a), .second, .val (.long b), .second, .val (.long c), .second, .val (.long d), .second, .val (.int (own_k k)), .val (.ref b1), .unset, .unset] [(.long d), (.int (24 : Int32)), (.ref b1)]) (fun t_ k_ => ?_) ?_
  · refine XS.aload X4.here hx rfl (hb hby at_39) rfl rfl ?_
    show Steps p_.tables e_ below (T4.setTop (mkF m_ 41 #[.val (.int k), .val (.long a), .second, .val (.long b), .second, .val (.long c), .second, .val (.long d), .second, .val (.int (own_k k)), .val (.ref b1), .unset, .unset] [(.ref b1)])) t_
    refine XS.bipush X4.here hx rfl (hb hby at_41) ?_
    show Steps p_.tables e_ below (T4.setTop (mkF m_ 43 #[.val (.int k), .val (.long a), .second, .val (.long b), .second, .val (.long c), .second, .val (.long d), .second, .val (.int (own_k k)), .val (.ref b1), .unset, .unset] [(.int (24 : Int32)), (.ref b1)])) t_
    refine XS.lload X4.here hx rfl (hb hby at_43) rfl ?_
    show Steps p_.tables e_ below (T4.setTop (mkF m_ 45 #[.val (.int k), .val (.long a), .second, .val (.long b), .second, .val (.long c), .second, .val (.long d), .second, .val (.int (own_k k)), .val (.ref b1), .unset, .unset] [(.long d), (.int (24 : Int32)), (.ref b1)])) t_
    exact k_
  refine own_callS X4 hx hZ hown (hw _ (List.mem_of_getElem? (i := 2) rfl)) (hw _ (List.mem_of_getElem? (i := 3) rfl)) (hw _ (List.mem_of_getElem? (i := 4) rfl)) (hw _ (List.mem_of_getElem? (i := 5) rfl)) (by decide) [(.ref b1), (.int (24 : Int32)), (.long d)] [] (rm1 l Z a0 hw b1 (24 : Int32) d k1 (fun x_ => ((own_put (own_put (own_put (fun x_ => (0 : Int32)) 0 a) 8 b) 16 c) x_)) 24 T4.heap n0 Z0 A_b1 (by decide) (by decide) g_b1) 0 (by decide) (by decide) rfl (by rw [hml]; rfl) (lenOf own_pd1 rfl) rfl (Nat.le_of_eq rfl) (hb hby at_45) (by decide) (by decide) ?_
  intro v5 T5 L5 X5 q5
  obtain ⟨rfl, N5q, K5, Vq5⟩ := q5
  have N5 := Fr.app N4 N5q
  replace O := O.keep K5 (allS g_b1 all0)
  -- A_b1 is dropped: written by the callee
  replace Z0 : n0 ≤ T5.heap.size := Nat.le_trans Z0 K5.1
  have A_b1 := Vq5
  show own_Out p_ e_ below s_ _ _ _ T5 (mkF m_ 48 #[.val (.int k), .val (.long a), .second, .val (.long b), .second, .val (.long c), .second, .val (.long d), .second, .val (.int (own_k k)), .val (.ref b1), .unset, .unset] [])
  refine own_st T5 (mkF m_ 50 #[.val (.int k), .val (.long a), .second, .val (.long b), .second, .val (.long c), .second, .val (.long d), .second, .val (.int (own_k k)), .val (.ref b1), .unset, .unset] [(.int (own_k k))]) (fun t_ k_ => ?_) ?_
  · refine XS.iload X5.here hx rfl (hb hby at_48) rfl ?_
    show Steps p_.tables e_ below (T5.setTop (mkF m_ 50 #[.val (.int k), .val (.long a), .second, .val (.long b), .second, .val (.long c), .second, .val (.long d), .second, .val (.int (own_k k)), .val (.ref b1), .unset, .unset] [(.int (own_k k))])) t_
    exact k_
  refine own_callS X5 hx hZ hown (hw _ (List.mem_of_getElem? (i := 6) rfl)) (hw _ (List.mem_of_getElem? (i := 7) rfl)) (hw _ (List.mem_of_getElem? (i := 4) rfl)) (hw _ (List.mem_of_getElem? (i := 8) rfl)) (by decide) [(.int (own_k k))] [] (rm2 l Z a0 hw (own_k k) w0 w1 w2 w3 w4 w5 w6 w7 w8 w9 w10 w11 T5.heap n0 Z0 (S_RESET.ext O.2) (S_READ_LOCAL_SUPPORTED_COMMANDS.ext O.2) (S_READ_LOCAL_VERSION_INFORMATION.ext O.2) (S_READ_LOCAL_SUPPORTED_FEATURES.ext O.2) (S_READ_BD_ADDR.ext O.2) (S_READ_BUFFER_SIZE.ext O.2) (S_LE_READ_BUFFER_SIZE.ext O.2) (S_SET_EVENT_MASK.ext O.2) (S_LE_SET_EVENT_MASK.ext O.2) (S_WRITE_LOCAL_NAME.ext O.2) (S_WRITE_CLASS_OF_DEVICE.ext O.2) (S_WRITE_SCAN_ENABLE.ext O.2)) 0 (by decide) (by decide) rfl (by rw [hml]; rfl) (lenOf own_pd2 rfl) rfl (Nat.le_of_eq rfl) (hb hby at_50) (by decide) (by decide) ?_
  intro v6 T6 L6 X6 q6
  obtain ⟨hv6, N6q, e6⟩ := q6
  have N6 := Fr.app N5 N6q
  rcases hv6 with ⟨rfl, hi0⟩ | ⟨rfl, hi1⟩ | ⟨rfl, hi2⟩ | ⟨rfl, hi3⟩ | ⟨rfl, hi4⟩ | ⟨rfl, hi5⟩ | ⟨rfl, hi6⟩ | ⟨rfl, hi7⟩ | ⟨rfl, hi8⟩ | ⟨rfl, hi9⟩ | ⟨rfl, hi10⟩ | ⟨rfl, hn0, hn1, hn2, hn3, hn4, hn5, hn6, hn7, hn8, hn9, hn10⟩
  · show own_Out p_ e_ below s_ _ _ _ T6 (mkF m_ 53 #[.val (.int k), .val (.long a), .second, .val (.long b), .second, .val (.long c), .second, .val (.long d), .second, .val (.int (own_k k)), .val (.ref b1), .unset, .unset] [(.ref w0)])
    refine own_st T6 (mkF m_ 59 #[.val (.int k), .val (.long a), .second, .val (.long b), .second, .val (.long c), .second, .val (.long d), .second, .val (.int (own_k k)), .val (.ref b1), .val (.ref w0), .unset] [(.ref b1), (.ref w0)]) (fun t_ k_ => ?_) ?_
    · refine XS.astore X6.here hx rfl (hb hby at_53) rfl rfl (l' := #[.val (.int k), .val (.long a), .second, .val (.long b), .second, .val (.long c), .second, .val (.long d), .second, .val (.int (own_k k)), .val (.ref b1), .val (.ref w0), .unset]) rfl ?_
      show Steps p_.tables e_ below (T6.setTop (mkF m_ 55 #[.val (.int k), .val (.long a), .second, .val (.long b), .second, .val (.long c), .second, .val (.long d), .second, .val (.int (own_k k)), .val (.ref b1), .val (.ref w0), .unset] [])) t_
      refine XS.aload X6.here hx rfl (hb hby at_55) rfl rfl ?_
      show Steps p_.tables e_ below (T6.setTop (mkF m_ 57 #[.val (.int k), .val (.long a), .second, .val (.long b), .second, .val (.long c), .second, .val (.long d), .second, .val (.int (own_k k)), .val (.ref b1), .val (.ref w0), .unset] [(.ref w0)])) t_
      refine XS.aload X6.here hx rfl (hb hby at_57) rfl rfl ?_
      show Steps p_.tables e_ below (T6.setTop (mkF m_ 59 #[.val (.int k), .val (.long a), .second, .val (.long b), .second, .val (.long c), .second, .val (.long d), .second, .val (.int (own_k k)), .val (.ref b1), .val (.ref w0), .unset] [(.ref b1), (.ref w0)])) t_
      exact k_
    refine own_callV X6 hx hZ (y := (⟨"com/example/adapterd/adapterd/controller/HciCommand", "isListedIn", "([B)Z"⟩ : MethodName)) (z := (⟨"com/example/adapterd/adapterd/controller/HciCommand", "isListedIn", "([B)Z"⟩ : MethodName)) hown (hw _ (List.mem_of_getElem? (i := 12) rfl)) (hw _ (List.mem_of_getElem? (i := 13) rfl)) (notFace_of_selects (args := #[]) (mvT hZ (hw _ (List.mem_of_getElem? (i := 15) rfl)))) (hw _ (List.mem_of_getElem? (i := 15) rfl)) (hw _ (List.mem_of_getElem? (i := 14) rfl)) (hw _ (List.mem_of_getElem? (i := 10) rfl)) (hw _ (List.mem_of_getElem? (i := 16) rfl)) (by decide) w0 [(.ref b1)] [] (E_w0.ext O.2) (rm3a l Z a0 hw w0 b1 T5.heap n0 Z0 (F_octet_w0.ext O.2)) 0 (by decide) (by decide) e6 (by rw [hml]; rfl) (lenOf own_pd3 rfl) rfl (Nat.le_of_eq rfl) (hb hby at_59) (by decide) (by decide) ?_
    intro v7 T7 L7 X7 q7
    obtain ⟨rfl, N7q, e7⟩ := q7
    have N7 := Fr.app N6 N7q
    show own_Out p_ e_ below s_ _ _ _ T7 (mkF m_ 62 #[.val (.int k), .val (.long a), .second, .val (.long b), .second, .val (.long c), .second, .val (.long d), .second, .val (.int (own_k k)), .val (.ref b1), .val (.ref w0), .unset] [(.int (1 : Int32))])
    refine own_st T7 (mkF m_ 74 #[.val (.int k), .val (.long a), .second, .val (.long b), .second, .val (.long c), .second, .val (.long d), .second, .val (.int (own_k k)), .val (.ref b1), .val (.ref w0), .val (.int (1 : Int32))] [(.long d), (.long c), (.long b), (.long a), (.int (own_k k)), (.int (1 : Int32))]) (fun t_ k_ => ?_) ?_
    · refine XS.istore X7.here hx rfl (hb hby at_62) rfl (l' := #[.val (.int k), .val (.long a), .second, .val (.long b), .second, .val (.long c), .second, .val (.long d), .second, .val (.int (own_k k)), .val (.ref b1), .val (.ref w0), .val (.int (1 : Int32))]) rfl ?_
      show Steps p_.tables e_ below (T7.setTop (mkF m_ 64 #[.val (.int k), .val (.long a), .second, .val (.long b), .second, .val (.long c), .second, .val (.long d), .second, .val (.int (own_k k)), .val (.ref b1), .val (.ref w0), .val (.int (1 : Int32))] [])) t_
      refine XS.iload X7.here hx rfl (hb hby at_64) rfl ?_
      show Steps p_.tables e_ below (T7.setTop (mkF m_ 66 #[.val (.int k), .val (.long a), .second, .val (.long b), .second, .val (.long c), .second, .val (.long d), .second, .val (.int (own_k k)), .val (.ref b1), .val (.ref w0), .val (.int (1 : Int32))] [(.int (1 : Int32))])) t_
      refine XS.iload X7.here hx rfl (hb hby at_66) rfl ?_
      show Steps p_.tables e_ below (T7.setTop (mkF m_ 68 #[.val (.int k), .val (.long a), .second, .val (.long b), .second, .val (.long c), .second, .val (.long d), .second, .val (.int (own_k k)), .val (.ref b1), .val (.ref w0), .val (.int (1 : Int32))] [(.int (own_k k)), (.int (1 : Int32))])) t_
      refine XS.lloadN X7.here hx rfl (hb hby at_68) rfl ?_
      show Steps p_.tables e_ below (T7.setTop (mkF m_ 69 #[.val (.int k), .val (.long a), .second, .val (.long b), .second, .val (.long c), .second, .val (.long d), .second, .val (.int (own_k k)), .val (.ref b1), .val (.ref w0), .val (.int (1 : Int32))] [(.long a), (.int (own_k k)), (.int (1 : Int32))])) t_
      refine XS.lloadN X7.here hx rfl (hb hby at_69) rfl ?_
      show Steps p_.tables e_ below (T7.setTop (mkF m_ 70 #[.val (.int k), .val (.long a), .second, .val (.long b), .second, .val (.long c), .second, .val (.long d), .second, .val (.int (own_k k)), .val (.ref b1), .val (.ref w0), .val (.int (1 : Int32))] [(.long b), (.long a), (.int (own_k k)), (.int (1 : Int32))])) t_
      refine XS.lload X7.here hx rfl (hb hby at_70) rfl ?_
      show Steps p_.tables e_ below (T7.setTop (mkF m_ 72 #[.val (.int k), .val (.long a), .second, .val (.long b), .second, .val (.long c), .second, .val (.long d), .second, .val (.int (own_k k)), .val (.ref b1), .val (.ref w0), .val (.int (1 : Int32))] [(.long c), (.long b), (.long a), (.int (own_k k)), (.int (1 : Int32))])) t_
      refine XS.lload X7.here hx rfl (hb hby at_72) rfl ?_
      show Steps p_.tables e_ below (T7.setTop (mkF m_ 74 #[.val (.int k), .val (.long a), .second, .val (.long b), .second, .val (.long c), .second, .val (.long d), .second, .val (.int (own_k k)), .val (.ref b1), .val (.ref w0), .val (.int (1 : Int32))] [(.long d), (.long c), (.long b), (.long a), (.int (own_k k)), (.int (1 : Int32))])) t_
      exact k_
    refine own_callS X7 hx hZ hown (hw _ (List.mem_of_getElem? (i := 19) rfl)) (hw _ (List.mem_of_getElem? (i := 20) rfl)) (hw _ (List.mem_of_getElem? (i := 4) rfl)) (hw _ (List.mem_of_getElem? (i := 21) rfl)) (by decide) [(.int (own_k k)), (.long a), (.long b), (.long c), (.long d)] [(.int (1 : Int32))] (rm4 l Z a0 hw (own_k k) a b c d T5.heap n0 Z0) 1 (by decide) (by decide) e7 (by rw [hml]; rfl) (lenOf own_pd4 rfl) rfl (Nat.le_of_eq rfl) (hb hby at_74) (by decide) (by decide) ?_
    intro v8 T8 L8 X8 q8
    obtain ⟨rfl, N8q, e8⟩ := q8
    have N8 := Fr.app N7 N8q
    show own_Out p_ e_ below s_ _ _ _ T8 (mkF m_ 77 #[.val (.int k), .val (.long a), .second, .val (.long b), .second, .val (.long c), .second, .val (.long d), .second, .val (.int (own_k k)), .val (.ref b1), .val (.ref w0), .val (.int (1 : Int32))] [(.int (f4 (own_k k) a b c d)), (.int (1 : Int32))])
    refine own_st T8 (mkF m_ 85 #[.val (.int k), .val (.long a), .second, .val (.long b), .second, .val (.long c), .second, .val (.long d), .second, .val (.int (own_k k)), .val (.ref b1), .val (.ref w0), .val (.int (1 : Int32))] [(.int (1 : Int32))]) (fun t_ k_ => ?_) ?_
    · refine XS.icmpNo X8.here hx rfl (hb hby at_77) rfl (teq (own_c0 a b c d _ hi0 : (1 : Int32) = (f4 (own_k k) a b c d))).2 ?_
      show Steps p_.tables e_ below (T8.setTop (mkF m_ 80 #[.val (.int k), .val (.long a), .second, .val (.long b), .second, .val (.long c), .second, .val (.long d), .second, .val (.int (own_k k)), .val (.ref b1), .val (.ref w0), .val (.int (1 : Int32))] [])) t_
      refine XS.iconst X8.here hx rfl (hb hby at_80) ?_
      show Steps p_.tables e_ below (T8.setTop (mkF m_ 81 #[.val (.int k), .val (.long a), .second, .val (.long b), .second, .val (.long c), .second, .val (.long d), .second, .val (.int (own_k k)), .val (.ref b1), .val (.ref w0), .val (.int (1 : Int32))] [(.int (1 : Int32))])) t_
      refine XS.goto X8.here hx rfl (pc0 := 81) (pc' := 85) rfl (hb hby at_81) (by decide) (by decide) ?_
      show Steps p_.tables e_ below (T8.setTop (mkF m_ 85 #[.val (.int k), .val (.long a), .second, .val (.long b), .second, .val (.long c), .second, .val (.long d), .second, .val (.int (own_k k)), .val (.ref b1), .val (.ref w0), .val (.int (1 : Int32))] [(.int (1 : Int32))])) t_
      exact k_
    refine own_retN X8 hx hlk (t := .boolean) hret (by simp) (hb hby at_85) (by decide) (by decide) ?_
    exact ⟨rfl, N8⟩
  · show own_Out p_ e_ below s_ _ _ _ T6 (mkF m_ 53 #[.val (.int k), .val (.long a), .second, .val (.long b), .second, .val (.long c), .second, .val (.long d), .second, .val (.int (own_k k)), .val (.ref b1), .unset, .unset] [(.ref w1)])
    refine own_st T6 (mkF m_ 59 #[.val (.int k), .val (.long a), .second, .val (.long b), .second, .val (.long c), .second, .val (.long d), .second, .val (.int (own_k k)), .val (.ref b1), .val (.ref w1), .unset] [(.ref b1), (.ref w1)]) (fun t_ k_ => ?_) ?_
    · refine XS.astore X6.here hx rfl (hb hby at_53) rfl rfl (l' := #[.val (.int k), .val (.long a), .second, .val (.long b), .second, .val (.long c), .second, .val (.long d), .second, .val (.int (own_k k)), .val (.ref b1), .val (.ref w1), .unset]) rfl ?_
      show Steps p_.tables e_ below (T6.setTop (mkF m_ 55 #[.val (.int k), .val (.long a), .second, .val (.long b), .second, .val (.long c), .second, .val (.long d), .second, .val (.int (own_k k)), .val (.ref b1), .val (.ref w1), .unset] [])) t_
      refine XS.aload X6.here hx rfl (hb hby at_55) rfl rfl ?_
      show Steps p_.tables e_ below (T6.setTop (mkF m_ 57 #[.val (.int k), .val (.long a), .second, .val (.long b), .second, .val (.long c), .second, .val (.long d), .second, .val (.int (own_k k)), .val (.ref b1), .val (.ref w1), .unset] [(.ref w1)])) t_
      refine XS.aload X6.here hx rfl (hb hby at_57) rfl rfl ?_
      show Steps p_.tables e_ below (T6.setTop (mkF m_ 59 #[.val (.int k), .val (.long a), .second, .val (.long b), .second, .val (.long c), .second, .val (.long d), .second, .val (.int (own_k k)), .val (.ref b1), .val (.ref w1), .unset] [(.ref b1), (.ref w1)])) t_
      exact k_
    refine own_callV X6 hx hZ (y := (⟨"com/example/adapterd/adapterd/controller/HciCommand", "isListedIn", "([B)Z"⟩ : MethodName)) (z := (⟨"com/example/adapterd/adapterd/controller/HciCommand", "isListedIn", "([B)Z"⟩ : MethodName)) hown (hw _ (List.mem_of_getElem? (i := 12) rfl)) (hw _ (List.mem_of_getElem? (i := 13) rfl)) (notFace_of_selects (args := #[]) (mvT hZ (hw _ (List.mem_of_getElem? (i := 15) rfl)))) (hw _ (List.mem_of_getElem? (i := 15) rfl)) (hw _ (List.mem_of_getElem? (i := 14) rfl)) (hw _ (List.mem_of_getElem? (i := 10) rfl)) (hw _ (List.mem_of_getElem? (i := 16) rfl)) (by decide) w1 [(.ref b1)] [] (E_w1.ext O.2) (rm3a l Z a0 hw w1 b1 T5.heap n0 Z0 (F_octet_w1.ext O.2)) 0 (by decide) (by decide) e6 (by rw [hml]; rfl) (lenOf own_pd3 rfl) rfl (Nat.le_of_eq rfl) (hb hby at_59) (by decide) (by decide) ?_
    intro v9 T9 L9 X9 q9
    obtain ⟨rfl, N9q, e9⟩ := q9
    have N9 := Fr.app N6 N9q
    show own_Out p_ e_ below s_ _ _ _ T9 (mkF m_ 62 #[.val (.int k), .val (.long a), .second, .val (.long b), .second, .val (.long c), .second, .val (.long d), .second, .val (.int (own_k k)), .val (.ref b1), .val (.ref w1), .unset] [(.int (1 : Int32))])
    refine own_st T9 (mkF m_ 74 #[.val (.int k), .val (.long a), .second, .val (.long b), .second, .val (.long c), .second, .val (.long d), .second, .val (.int (own_k k)), .val (.ref b1), .val (.ref w1), .val (.int (1 : Int32))] [(.long d), (.long c), (.long b), (.long a), (.int (own_k k)), (.int (1 : Int32))]) (fun t_ k_ => ?_) ?_
    · refine XS.istore X9.here hx rfl (hb hby at_62) rfl (l' := #[.val (.int k), .val (.long a), .second, .val (.long b), .second, .val (.long c), .second, .val (.long d), .second, .val (.int (own_k k)), .val (.ref b1), .val (.ref w1), .val (.int (1 : Int32))]) rfl ?_
      show Steps p_.tables e_ below (T9.setTop (mkF m_ 64 #[.val (.int k), .val (.long a), .second, .val (.long b), .second, .val (.long c), .second, .val (.long d), .second, .val (.int (own_k k)), .val (.ref b1), .val (.ref w1), .val (.int (1 : Int32))] [])) t_
      refine XS.iload X9.here hx rfl (hb hby at_64) rfl ?_
      show Steps p_.tables e_ below (T9.setTop (mkF m_ 66 #[.val (.int k), .val (.long a), .second, .val (.long b), .second, .val (.long c), .second, .val (.long d), .second, .val (.int (own_k k)), .val (.ref b1), .val (.ref w1), .val (.int (1 : Int32))] [(.int (1 : Int32))])) t_
      refine XS.iload X9.here hx rfl (hb hby at_66) rfl ?_
      show Steps p_.tables e_ below (T9.setTop (mkF m_ 68 #[.val (.int k), .val (.long a), .second, .val (.long b), .second, .val (.long c), .second, .val (.long d), .second, .val (.int (own_k k)), .val (.ref b1), .val (.ref w1), .val (.int (1 : Int32))] [(.int (own_k k)), (.int (1 : Int32))])) t_
      refine XS.lloadN X9.here hx rfl (hb hby at_68) rfl ?_
      show Steps p_.tables e_ below (T9.setTop (mkF m_ 69 #[.val (.int k), .val (.long a), .second, .val (.long b), .second, .val (.long c), .second, .val (.long d), .second, .val (.int (own_k k)), .val (.ref b1), .val (.ref w1), .val (.int (1 : Int32))] [(.long a), (.int (own_k k)), (.int (1 : Int32))])) t_
      refine XS.lloadN X9.here hx rfl (hb hby at_69) rfl ?_
      show Steps p_.tables e_ below (T9.setTop (mkF m_ 70 #[.val (.int k), .val (.long a), .second, .val (.long b), .second, .val (.long c), .second, .val (.long d), .second, .val (.int (own_k k)), .val (.ref b1), .val (.ref w1), .val (.int (1 : Int32))] [(.long b), (.long a), (.int (own_k k)), (.int (1 : Int32))])) t_
      refine XS.lload X9.here hx rfl (hb hby at_70) rfl ?_
      show Steps p_.tables e_ below (T9.setTop (mkF m_ 72 #[.val (.int k), .val (.long a), .second, .val (.long b), .second, .val (.long c), .second, .val (.long d), .second, .val (.int (own_k k)), .val (.ref b1), .val (.ref w1), .val (.int (1 : Int32))] [(.long c), (.long b), (.long a), (.int (own_k k)), (.int (1 : Int32))])) t_
      refine XS.lload X9.here hx rfl (hb hby at_72) rfl ?_
      show Steps p_.tables e_ below (T9.setTop (mkF m_ 74 #[.val (.int k), .val (.long a), .second, .val (.long b), .second, .val (.long c), .second, .val (.long d), .second, .val (.int (own_k k)), .val (.ref b1), .val (.ref w1), .val (.int (1 : Int32))] [(.long d), (.long c), (.long b), (.long a), (.int (own_k k)), (.int (1 : Int32))])) t_
      exact k_
    refine own_callS X9 hx hZ hown (hw _ (List.mem_of_getElem? (i := 19) rfl)) (hw _ (List.mem_of_getElem? (i := 20) rfl)) (hw _ (List.mem_of_getElem? (i := 4) rfl)) (hw _ (List.mem_of_getElem? (i := 21) rfl)) (by decide) [(.int (own_k k)), (.long a), (.long b), (.long c), (.long d)] [(.int (1 : Int32))] (rm4 l Z a0 hw (own_k k) a b c d T5.heap n0 Z0) 1 (by decide) (by decide) e9 (by rw [hml]; rfl) (lenOf own_pd4 rfl) rfl (Nat.le_of_eq rfl) (hb hby at_74) (by decide) (by decide) ?_
    intro v10 T10 L10 X10 q10
    obtain ⟨rfl, N10q, e10⟩ := q10
    have N10 := Fr.app N9 N10q
    show own_Out p_ e_ below s_ _ _ _ T10 (mkF m_ 77 #[.val (.int k), .val (.long a), .second, .val (.long b), .second, .val (.long c), .second, .val (.long d), .second, .val (.int (own_k k)), .val (.ref b1), .val (.ref w1), .val (.int (1 : Int32))] [(.int (f4 (own_k k) a b c d)), (.int (1 : Int32))])
    refine own_st T10 (mkF m_ 85 #[.val (.int k), .val (.long a), .second, .val (.long b), .second, .val (.long c), .second, .val (.long d), .second, .val (.int (own_k k)), .val (.ref b1), .val (.ref w1), .val (.int (1 : Int32))] [(.int (1 : Int32))]) (fun t_ k_ => ?_) ?_
    · refine XS.icmpNo X10.here hx rfl (hb hby at_77) rfl (teq (own_c1 a b c d _ hi1 : (1 : Int32) = (f4 (own_k k) a b c d))).2 ?_
      show Steps p_.tables e_ below (T10.setTop (mkF m_ 80 #[.val (.int k), .val (.long a), .second, .val (.long b), .second, .val (.long c), .second, .val (.long d), .second, .val (.int (own_k k)), .val (.ref b1), .val (.ref w1), .val (.int (1 : Int32))] [])) t_
      refine XS.iconst X10.here hx rfl (hb hby at_80) ?_
      show Steps p_.tables e_ below (T10.setTop (mkF m_ 81 #[.val (.int k), .val (.long a), .second, .val (.long b), .second, .val (.long c), .second, .val (.long d), .second, .val (.int (own_k k)), .val (.ref b1), .val (.ref w1), .val (.int (1 : Int32))] [(.int (1 : Int32))])) t_
      refine XS.goto X10.here hx rfl (pc0 := 81) (pc' := 85) rfl (hb hby at_81) (by decide) (by decide) ?_
      show Steps p_.tables e_ below (T10.setTop (mkF m_ 85 #[.val (.int k), .val (.long a), .second, .val (.long b), .second, .val (.long c), .second, .val (.long d), .second, .val (.int (own_k k)), .val (.ref b1), .val (.ref w1), .val (.int (1 : Int32))] [(.int (1 : Int32))])) t_
      exact k_
    refine own_retN X10 hx hlk (t := .boolean) hret (by simp) (hb hby at_85) (by decide) (by decide) ?_
    exact ⟨rfl, N10⟩
  · show own_Out p_ e_ below s_ _ _ _ T6 (mkF m_ 53 #[.val (.int k), .val (.long a), .second, .val (.long b), .second, .val (.long c), .second, .val (.long d), .second, .val (.int (own_k k)), .val (.ref b1), .unset, .unset] [(.ref w2)])
    refine own_st T6 (mkF m_ 59 #[.val (.int k), .val (.long a), .second, .val (.long b), .second, .val (.long c), .second, .val (.long d), .second, .val (.int (own_k k)), .val (.ref b1), .val (.ref w2), .unset] [(.ref b1), (.ref w2)]) (fun t_ k_ => ?_) ?_
    · refine XS.astore X6.here hx rfl (hb hby at_53) rfl rfl (l' := #[.val (.int k), .val (.long a), .second, .val (.long b), .second, .val (.long c), .second, .val (.long d), .second, .val (.int (own_k k)), .val (.ref b1), .val (.ref w2), .unset]) rfl ?_
      show Steps p_.tables e_ below (T6.setTop (mkF m_ 55 #[.val (.int k), .val (.long a), .second, .val (.long b), .second, .val (.long c), .second, .val (.long d), .second, .val (.int (own_k k)), .val (.ref b1), .val (.ref w2), .unset] [])) t_
      refine XS.aload X6.here hx rfl (hb hby at_55) rfl rfl ?_
      show Steps p_.tables e_ below (T6.setTop (mkF m_ 57 #[.val (.int k), .val (.long a), .second, .val (.long b), .second, .val (.long c), .second, .val (.long d), .second, .val (.int (own_k k)), .val (.ref b1), .val (.ref w2), .unset] [(.ref w2)])) t_
      refine XS.aload X6.here hx rfl (hb hby at_57) rfl rfl ?_
      show Steps p_.tables e_ below (T6.setTop (mkF m_ 59 #[.val (.int k), .val (.long a), .second, .val (.long b), .second, .val (.long c), .second, .val (.long d), .second, .val (.int (own_k k)), .val (.ref b1), .val (.ref w2), .unset] [(.ref b1), (.ref w2)])) t_
      exact k_
    refine own_callV X6 hx hZ (y := (⟨"com/example/adapterd/adapterd/controller/HciCommand", "isListedIn", "([B)Z"⟩ : MethodName)) (z := (⟨"com/example/adapterd/adapterd/controller/HciCommand", "isListedIn", "([B)Z"⟩ : MethodName)) hown (hw _ (List.mem_of_getElem? (i := 12) rfl)) (hw _ (List.mem_of_getElem? (i := 13) rfl)) (notFace_of_selects (args := #[]) (mvT hZ (hw _ (List.mem_of_getElem? (i := 15) rfl)))) (hw _ (List.mem_of_getElem? (i := 15) rfl)) (hw _ (List.mem_of_getElem? (i := 14) rfl)) (hw _ (List.mem_of_getElem? (i := 10) rfl)) (hw _ (List.mem_of_getElem? (i := 16) rfl)) (by decide) w2 [(.ref b1)] [] (E_w2.ext O.2) (rm3 l Z a0 hw w2 b1 k1 (own_put (own_put (own_put (own_put (fun x_ => (0 : Int32)) 0 a) 8 b) 16 c) 24 d) 14 3 14 T5.heap n0 Z0 (F_octet_w2.ext O.2) (F_bit_w2.ext O.2) A_b1 (by decide) (by decide) (by decide)) 0 (by decide) (by decide) e6 (by rw [hml]; rfl) (lenOf own_pd3 rfl) rfl (Nat.le_of_eq rfl) (hb hby at_59) (by decide) (by decide) ?_
    intro v11 T11 L11 X11 q11
    obtain ⟨rfl, N11q, e11⟩ := q11
    have N11 := Fr.app N6 N11q
    show own_Out p_ e_ below s_ _ _ _ T11 (mkF m_ 62 #[.val (.int k), .val (.long a), .second, .val (.long b), .second, .val (.long c), .second, .val (.long d), .second, .val (.int (own_k k)), .val (.ref b1), .val (.ref w2), .unset] [(.int (f3 ((own_put (own_put (own_put (own_put (fun x_ => (0 : Int32)) 0 a) 8 b) 16 c) 24 d) 14) 3))])
    refine own_st T11 (mkF m_ 74 #[.val (.int k), .val (.long a), .second, .val (.long b), .second, .val (.long c), .second, .val (.long d), .second, .val (.int (own_k k)), .val (.ref b1), .val (.ref w2), .val (.int (f3 ((own_put (own_put (own_put (own_put (fun x_ => (0 : Int32)) 0 a) 8 b) 16 c) 24 d) 14) 3))] [(.long d), (.long c), (.long b), (.long a), (.int (own_k k)), (.int (f3 ((own_put (own_put (own_put (own_put (fun x_ => (0 : Int32)) 0 a) 8 b) 16 c) 24 d) 14) 3))]) (fun t_ k_ => ?_) ?_
    · refine XS.istore X11.here hx rfl (hb hby at_62) rfl (l' := #[.val (.int k), .val (.long a), .second, .val (.long b), .second, .val (.long c), .second, .val (.long d), .second, .val (.int (own_k k)), .val (.ref b1), .val (.ref w2), .val (.int (f3 ((own_put (own_put (own_put (own_put (fun x_ => (0 : Int32)) 0 a) 8 b) 16 c) 24 d) 14) 3))]) rfl ?_
      show Steps p_.tables e_ below (T11.setTop (mkF m_ 64 #[.val (.int k), .val (.long a), .second, .val (.long b), .second, .val (.long c), .second, .val (.long d), .second, .val (.int (own_k k)), .val (.ref b1), .val (.ref w2), .val (.int (f3 ((own_put (own_put (own_put (own_put (fun x_ => (0 : Int32)) 0 a) 8 b) 16 c) 24 d) 14) 3))] [])) t_
      refine XS.iload X11.here hx rfl (hb hby at_64) rfl ?_
      show Steps p_.tables e_ below (T11.setTop (mkF m_ 66 #[.val (.int k), .val (.long a), .second, .val (.long b), .second, .val (.long c), .second, .val (.long d), .second, .val (.int (own_k k)), .val (.ref b1), .val (.ref w2), .val (.int (f3 ((own_put (own_put (own_put (own_put (fun x_ => (0 : Int32)) 0 a) 8 b) 16 c) 24 d) 14) 3))] [(.int (f3 ((own_put (own_put (own_put (own_put (fun x_ => (0 : Int32)) 0 a) 8 b) 16 c) 24 d) 14) 3))])) t_
      refine XS.iload X11.here hx rfl (hb hby at_66) rfl ?_
      show Steps p_.tables e_ below (T11.setTop (mkF m_ 68 #[.val (.int k), .val (.long a), .second, .val (.long b), .second, .val (.long c), .second, .val (.long d), .second, .val (.int (own_k k)), .val (.ref b1), .val (.ref w2), .val (.int (f3 ((own_put (own_put (own_put (own_put (fun x_ => (0 : Int32)) 0 a) 8 b) 16 c) 24 d) 14) 3))] [(.int (own_k k)), (.int (f3 ((own_put (own_put (own_put (own_put (fun x_ => (0 : Int32)) 0 a) 8 b) 16 c) 24 d) 14) 3))])) t_
      refine XS.lloadN X11.here hx rfl (hb hby at_68) rfl ?_
      show Steps p_.tables e_ below (T11.setTop (mkF m_ 69 #[.val (.int k), .val (.long a), .second, .val (.long b), .second, .val (.long c), .second, .val (.long d), .second, .val (.int (own_k k)), .val (.ref b1), .val (.ref w2), .val (.int (f3 ((own_put (own_put (own_put (own_put (fun x_ => (0 : Int32)) 0 a) 8 b) 16 c) 24 d) 14) 3))] [(.long a), (.int (own_k k)), (.int (f3 ((own_put (own_put (own_put (own_put (fun x_ => (0 : Int32)) 0 a) 8 b) 16 c) 24 d) 14) 3))])) t_
      refine XS.lloadN X11.here hx rfl (hb hby at_69) rfl ?_
      show Steps p_.tables e_ below (T11.setTop (mkF m_ 70 #[.val (.int k), .val (.long a), .second, .val (.long b), .second, .val (.long c), .second, .val (.long d), .second, .val (.int (own_k k)), .val (.ref b1), .val (.ref w2), .val (.int (f3 ((own_put (own_put (own_put (own_put (fun x_ => (0 : Int32)) 0 a) 8 b) 16 c) 24 d) 14) 3))] [(.long b), (.long a), (.int (own_k k)), (.int (f3 ((own_put (own_put (own_put (own_put (fun x_ => (0 : Int32)) 0 a) 8 b) 16 c) 24 d) 14) 3))])) t_
      refine XS.lload X11.here hx rfl (hb hby at_70) rfl ?_
      show Steps p_.tables e_ below (T11.setTop (mkF m_ 72 #[.val (.int k), .val (.long a), .second, .val (.long b), .second, .val (.long c), .second, .val (.long d), .second, .val (.int (own_k k)), .val (.ref b1), .val (.ref w2), .val (.int (f3 ((own_put (own_put (own_put (own_put (fun x_ => (0 : Int32)) 0 a) 8 b) 16 c) 24 d) 14) 3))] [(.long c), (.long b), (.long a), (.int (own_k k)), (.int (f3 ((own_put (own_put (own_put (own_put (fun x_ => (0 : Int32)) 0 a) 8 b) 16 c) 24 d) 14) 3))])) t_
      refine XS.lload X11.here hx rfl (hb hby at_72) rfl ?_
      show Steps p_.tables e_ below (T11.setTop (mkF m_ 74 #[.val (.int k), .val (.long a), .second, .val (.long b), .second, .val (.long c), .second, .val (.long d), .second, .val (.int (own_k k)), .val (.ref b1), .val (.ref w2), .val (.int (f3 ((own_put (own_put (own_put (own_put (fun x_ => (0 : Int32)) 0 a) 8 b) 16 c) 24 d) 14) 3))] [(.long d), (.long c), (.long b), (.long a), (.int (own_k k)), (.int (f3 ((own_put (own_put (own_put (own_put (fun x_ => (0 : Int32)) 0 a) 8 b) 16 c) 24 d) 14) 3))])) t_
      exact k_
    refine own_callS X11 hx hZ hown (hw _ (List.mem_of_getElem? (i := 19) rfl)) (hw _ (List.mem_of_getElem? (i := 20) rfl)) (hw _ (List.mem_of_getElem? (i := 4) rfl)) (hw _ (List.mem_of_getElem? (i := 21) rfl)) (by decide) [(.int (own_k k)), (.long a), (.long b), (.long c), (.long d)] [(.int (f3 ((own_put (own_put (own_put (own_put (fun x_ => (0 : Int32)) 0 a) 8 b) 16 c) 24 d) 14) 3))] (rm4 l Z a0 hw (own_k k) a b c d T5.heap n0 Z0) 1 (by decide) (by decide) e11 (by rw [hml]; rfl) (lenOf own_pd4 rfl) rfl (Nat.le_of_eq rfl) (hb hby at_74) (by decide) (by decide) ?_
    intro v12 T12 L12 X12 q12
    obtain ⟨rfl, N12q, e12⟩ := q12
    have N12 := Fr.app N11 N12q
    show own_Out p_ e_ below s_ _ _ _ T12 (mkF m_ 77 #[.val (.int k), .val (.long a), .second, .val (.long b), .second, .val (.long c), .second, .val (.long d), .second, .val (.int (own_k k)), .val (.ref b1), .val (.ref w2), .val (.int (f3 ((own_put (own_put (own_put (own_put (fun x_ => (0 : Int32)) 0 a) 8 b) 16 c) 24 d) 14) 3))] [(.int (f4 (own_k k) a b c d)), (.int (f3 ((own_put (own_put (own_put (own_put (fun x_ => (0 : Int32)) 0 a) 8 b) 16 c) 24 d) 14) 3))])
    refine own_st T12 (mkF m_ 85 #[.val (.int k), .val (.long a), .second, .val (.long b), .second, .val (.long c), .second, .val (.long d), .second, .val (.int (own_k k)), .val (.ref b1), .val (.ref w2), .val (.int (f3 ((own_put (own_put (own_put (own_put (fun x_ => (0 : Int32)) 0 a) 8 b) 16 c) 24 d) 14) 3))] [(.int (1 : Int32))]) (fun t_ k_ => ?_) ?_
    · refine XS.icmpNo X12.here hx rfl (hb hby at_77) rfl (teq (own_c2 a b c d _ hi2 : (f3 ((own_put (own_put (own_put (own_put (fun x_ => (0 : Int32)) 0 a) 8 b) 16 c) 24 d) 14) 3) = (f4 (own_k k) a b c d))).2 ?_
      show Steps p_.tables e_ below (T12.setTop (mkF m_ 80 #[.val (.int k), .val (.long a), .second, .val (.long b), .second, .val (.long c), .second, .val (.long d), .second, .val (.int (own_k k)), .val (.ref b1), .val (.ref w2), .val (.int (f3 ((own_put (own_put (own_put (own_put (fun x_ => (0 : Int32)) 0 a) 8 b) 16 c) 24 d) 14) 3))] [])) t_
      refine XS.iconst X12.here hx rfl (hb hby at_80) ?_
      show Steps p_.tables e_ below (T12.setTop (mkF m_ 81 #[.val (.int k), .val (.long a), .second, .val (.long b), .second, .val (.long c), .second, .val (.long d), .second, .val (.int (own_k k)), .val (.ref b1), .val (.ref w2), .val (.int (f3 ((own_put (own_put (own_put (own_put (fun x_ => (0 : Int32)) 0 a) 8 b) 16 c) 24 d) 14) 3))] [(.int (1 : Int32))])) t_
      refine XS.goto X12.here hx rfl (pc0 := 81) (pc' := 85) rfl (hb hby at_81) (by decide) (by decide) ?_
      show Steps p_.tables e_ below (T12.setTop (mkF m_ 85 #[.val (.int k), .val (.long a), .second, .val (.long b), .second, .val (.long c), .second, .val (.long d), .second, .val (.int (own_k k)), .val (.ref b1), .val (.ref w2), .val (.int (f3 ((own_put (own_put (own_put (own_put (fun x_ => (0 : Int32)) 0 a) 8 b) 16 c) 24 d) 14) 3))] [(.int (1 : Int32))])) t_
      exact k_
    refine own_retN X12 hx hlk (t := .boolean) hret (by simp) (hb hby at_85) (by decide) (by decide) ?_
    exact ⟨rfl, N12⟩
  · show own_Out p_ e_ below s_ _ _ _ T6 (mkF m_ 53 #[.val (.int k), .val (.long a), .second, .val (.long b), .second, .val (.long c), .second, .val (.long d), .second, .val (.int (own_k k)), .val (.ref b1), .unset, .unset] [(.ref w3)])
    refine own_st T6 (mkF m_ 59 #[.val (.int k), .val (.long a), .second, .val (.long b), .second, .val (.long c), .second, .val (.long d), .second, .val (.int (own_k k)), .val (.ref b1), .val (.ref w3), .unset] [(.ref b1), (.ref w3)]) (fun t_ k_ => ?_) ?_
    · refine XS.astore X6.here hx rfl (hb hby at_53) rfl rfl (l' := #[.val (.int k), .val (.long a), .second, .val (.long b), .second, .val (.long c), .second, .val (.long d), .second, .val (.int (own_k k)), .val (.ref b1), .val (.ref w3), .unset]) rfl ?_
      show Steps p_.tables e_ below (T6.setTop (mkF m_ 55 #[.val (.int k), .val (.long a), .second, .val (.long b), .second, .val (.long c), .second, .val (.long d), .second, .val (.int (own_k k)), .val (.ref b1), .val (.ref w3), .unset] [])) t_
      refine XS.aload X6.here hx rfl (hb hby at_55) rfl rfl ?_
      show Steps p_.tables e_ below (T6.setTop (mkF m_ 57 #[.val (.int k), .val (.long a), .second, .val (.long b), .second, .val (.long c), .second, .val (.long d), .second, .val (.int (own_k k)), .val (.ref b1), .val (.ref w3), .unset] [(.ref w3)])) t_
      refine XS.aload X6.here hx rfl (hb hby at_57) rfl rfl ?_
      show Steps p_.tables e_ below (T6.setTop (mkF m_ 59 #[.val (.int k), .val (.long a), .second, .val (.long b), .second, .val (.long c), .second, .val (.long d), .second, .val (.int (own_k k)), .val (.ref b1), .val (.ref w3), .unset] [(.ref b1), (.ref w3)])) t_
      exact k_
    refine own_callV X6 hx hZ (y := (⟨"com/example/adapterd/adapterd/controller/HciCommand", "isListedIn", "([B)Z"⟩ : MethodName)) (z := (⟨"com/example/adapterd/adapterd/controller/HciCommand", "isListedIn", "([B)Z"⟩ : MethodName)) hown (hw _ (List.mem_of_getElem? (i := 12) rfl)) (hw _ (List.mem_of_getElem? (i := 13) rfl)) (notFace_of_selects (args := #[]) (mvT hZ (hw _ (List.mem_of_getElem? (i := 15) rfl)))) (hw _ (List.mem_of_getElem? (i := 15) rfl)) (hw _ (List.mem_of_getElem? (i := 14) rfl)) (hw _ (List.mem_of_getElem? (i := 10) rfl)) (hw _ (List.mem_of_getElem? (i := 16) rfl)) (by decide) w3 [(.ref b1)] [] (E_w3.ext O.2) (rm3 l Z a0 hw w3 b1 k1 (own_put (own_put (own_put (own_put (fun x_ => (0 : Int32)) 0 a) 8 b) 16 c) 24 d) 14 5 14 T5.heap n0 Z0 (F_octet_w3.ext O.2) (F_bit_w3.ext O.2) A_b1 (by decide) (by decide) (by decide)) 0 (by decide) (by decide) e6 (by rw [hml]; rfl) (lenOf own_pd3 rfl) rfl (Nat.le_of_eq rfl) (hb hby at_59) (by decide) (by decide) ?_
    intro v13 T13 L13 X13 q13
    obtain ⟨rfl, N13q, e13⟩ := q13
    have N13 := Fr.app N6 N13q
    show own_Out p_ e_ below s_ _ _ _ T13 (mkF m_ 62 #[.val (.int k), .val (.long a), .second, .val (.long b), .second, .val (.long c), .second, .val (.long d), .second, .val (.int (own_k k)), .val (.ref b1), .val (.ref w3), .unset] [(.int (f3 ((own_put (own_put (own_put (own_put (fun x_ => (0 : Int32)) 0 a) 8 b) 16 c) 24 d) 14) 5))])
    refine own_st T13 (mkF m_ 74 #[.val (.int k), .val (.long a), .second, .val (.long b), .second, .val (.long c), .second, .val (.long d), .second, .val (.int (own_k k)), .val (.ref b1), .val (.ref w3), .val (.int (f3 ((own_put (own_put (own_put (own_put (fun x_ => (0 : Int32)) 0 a) 8 b) 16 c) 24 d) 14) 5))] [(.long d), (.long c), (.long b), (.long a), (.int (own_k k)), (.int (f3 ((own_put (own_put (own_put (own_put (fun x_ => (0 : Int32)) 0 a) 8 b) 16 c) 24 d) 14) 5))]) (fun t_ k_ => ?_) ?_
    · refine XS.istore X13.here hx rfl (hb hby at_62) rfl (l' := #[.val (.int k), .val (.long a), .second, .val (.long b), .second, .val (.long c), .second, .val (.long d), .second, .val (.int (own_k k)), .val (.ref b1), .val (.ref w3), .val (.int (f3 ((own_put (own_put (own_put (own_put (fun x_ => (0 : Int32)) 0 a) 8 b) 16 c) 24 d) 14) 5))]) rfl ?_
      show Steps p_.tables e_ below (T13.setTop (mkF m_ 64 #[.val (.int k), .val (.long a), .second, .val (.long b), .second, .val (.long c), .second, .val (.long d), .second, .val (.int (own_k k)), .val (.ref b1), .val (.ref w3), .val (.int (f3 ((own_put (own_put (own_put (own_put (fun x_ => (0 : Int32)) 0 a) 8 b) 16 c) 24 d) 14) 5))] [])) t_
      refine XS.iload X13.here hx rfl (hb hby at_64) rfl ?_
      show Steps p_.tables e_ below (T13.setTop (mkF m_ 66 #[.val (.int k), .val (.long a), .second, .val (.long b), .second, .val (.long c), .second, .val (.long d), .second, .val (.int (own_k k)), .val (.ref b1), .val (.ref w3), .val (.int (f3 ((own_put (own_put (own_put (own_put (fun x_ => (0 : Int32)) 0 a) 8 b) 16 c) 24 d) 14) 5))] [(.int (f3 ((own_put (own_put (own_put (own_put (fun x_ => (0 : Int32)) 0 a) 8 b) 16 c) 24 d) 14) 5))])) t_
      refine XS.iload X13.here hx rfl (hb hby at_66) rfl ?_
      show Steps p_.tables e_ below (T13.setTop (mkF m_ 68 #[.val (.int k), .val (.long a), .second, .val (.long b), .second, .val (.long c), .second, .val (.long d), .second, .val (.int (own_k k)), .val (.ref b1), .val (.ref w3), .val (.int (f3 ((own_put (own_put (own_put (own_put (fun x_ => (0 : Int32)) 0 a) 8 b) 16 c) 24 d) 14) 5))] [(.int (own_k k)), (.int (f3 ((own_put (own_put (own_put (own_put (fun x_ => (0 : Int32)) 0 a) 8 b) 16 c) 24 d) 14) 5))])) t_
      refine XS.lloadN X13.here hx rfl (hb hby at_68) rfl ?_
      show Steps p_.tables e_ below (T13.setTop (mkF m_ 69 #[.val (.int k), .val (.long a), .second, .val (.long b), .second, .val (.long c), .second, .val (.long d), .second, .val (.int (own_k k)), .val (.ref b1), .val (.ref w3), .val (.int (f3 ((own_put (own_put (own_put (own_put (fun x_ => (0 : Int32)) 0 a) 8 b) 16 c) 24 d) 14) 5))] [(.long a), (.int (own_k k)), (.int (f3 ((own_put (own_put (own_put (own_put (fun x_ => (0 : Int32)) 0 a) 8 b) 16 c) 24 d) 14) 5))])) t_
      refine XS.lloadN X13.here hx rfl (hb hby at_69) rfl ?_
      show Steps p_.tables e_ below (T13.setTop (mkF m_ 70 #[.val (.int k), .val (.long a), .second, .val (.long b), .second, .val (.long c), .second, .val (.long d), .second, .val (.int (own_k k)), .val (.ref b1), .val (.ref w3), .val (.int (f3 ((own_put (own_put (own_put (own_put (fun x_ => (0 : Int32)) 0 a) 8 b) 16 c) 24 d) 14) 5))] [(.long b), (.long a), (.int (own_k k)), (.int (f3 ((own_put (own_put (own_put (own_put (fun x_ => (0 : Int32)) 0 a) 8 b) 16 c) 24 d) 14) 5))])) t_
      refine XS.lload X13.here hx rfl (hb hby at_70) rfl ?_
      show Steps p_.tables e_ below (T13.setTop (mkF m_ 72 #[.val (.int k), .val (.long a), .second, .val (.long b), .second, .val (.long c), .second, .val (.long d), .second, .val (.int (own_k k)), .val (.ref b1), .val (.ref w3), .val (.int (f3 ((own_put (own_put (own_put (own_put (fun x_ => (0 : Int32)) 0 a) 8 b) 16 c) 24 d) 14) 5))] [(.long c), (.long b), (.long a), (.int (own_k k)), (.int (f3 ((own_put (own_put (own_put (own_put (fun x_ => (0 : Int32)) 0 a) 8 b) 16 c) 24 d) 14) 5))])) t_
      refine XS.lload X13.here hx rfl (hb hby at_72) rfl ?_
      show Steps p_.tables e_ below (T13.setTop (mkF m_ 74 #[.val (.int k), .val (.long a), .second, .val (.long b), .second, .val (.long c), .second, .val (.long d), .second, .val (.int (own_k k)), .val (.ref b1), .val (.ref w3), .val (.int (f3 ((own_put (own_put (own_put (own_put (fun x_ => (0 : Int32)) 0 a) 8 b) 16 c) 24 d) 14) 5))] [(.long d), (.long c), (.long b), (.long a), (.int (own_k k)), (.int (f3 ((own_put (own_put (own_put (own_put (fun x_ => (0 : Int32)) 0 a) 8 b) 16 c) 24 d) 14) 5))])) t_
      exact k_
    refine own_callS X13 hx hZ hown (hw _ (List.mem_of_getElem? (i := 19) rfl)) (hw _ (List.mem_of_getElem? (i := 20) rfl)) (hw _ (List.mem_of_getElem? (i := 4) rfl)) (hw _ (List.mem_of_getElem? (i := 21) rfl)) (by decide) [(.int (own_k k)), (.long a), (.long b), (.long c), (.long d)] [(.int (f3 ((own_put (own_put (own_put (own_put (fun x_ => (0 : Int32)) 0 a) 8 b) 16 c) 24 d) 14) 5))] (rm4 l Z a0 hw (own_k k) a b c d T5.heap n0 Z0) 1 (by decide) (by decide) e13 (by rw [hml]; rfl) (lenOf own_pd4 rfl) rfl (Nat.le_of_eq rfl) (hb hby at_74) (by decide) (by decide) ?_
    intro v14 T14 L14 X14 q14
    obtain ⟨rfl, N14q, e14⟩ := q14
    have N14 := Fr.app N13 N14q
    show own_Out p_ e_ below s_ _ _ _ T14 (mkF m_ 77 #[.val (.int k), .val (.long a), .second, .val (.long b), .second, .val (.long c), .second, .val (.long d), .second, .val (.int (own_k k)), .val (.ref b1), .val (.ref w3), .val (.int (f3 ((own_put (own_put (own_put (own_put (fun x_ => (0 : Int32)) 0 a) 8 b) 16 c) 24 d) 14) 5))] [(.int (f4 (own_k k) a b c d)), (.int (f3 ((own_put (own_put (own_put (own_put (fun x_ => (0 : Int32)) 0 a) 8 b) 16 c) 24 d) 14) 5))])
    refine own_st T14 (mkF m_ 85 #[.val (.int k), .val (.long a), .second, .val (.long b), .second, .val (.long c), .second, .val (.long d), .second, .val (.int (own_k k)), .val (.ref b1), .val (.ref w3), .val (.int (f3 ((own_put (own_put (own_put (own_put (fun x_ => (0 : Int32)) 0 a) 8 b) 16 c) 24 d) 14) 5))] [(.int (1 : Int32))]) (fun t_ k_ => ?_) ?_
    · refine XS.icmpNo X14.here hx rfl (hb hby at_77) rfl (teq (own_c3 a b c d _ hi3 : (f3 ((own_put (own_put (own_put (own_put (fun x_ => (0 : Int32)) 0 a) 8 b) 16 c) 24 d) 14) 5) = (f4 (own_k k) a b c d))).2 ?_
      show Steps p_.tables e_ below (T14.setTop (mkF m_ 80 #[.val (.int k), .val (.long a), .second, .val (.long b), .second, .val (.long c), .second, .val (.long d), .second, .val (.int (own_k k)), .val (.ref b1), .val (.ref w3), .val (.int (f3 ((own_put (own_put (own_put (own_put (fun x_ => (0 : Int32)) 0 a) 8 b) 16 c) 24 d) 14) 5))] [])) t_
      refine XS.iconst X14.here hx rfl (hb hby at_80) ?_
      show Steps p_.tables e_ below (T14.setTop (mkF m_ 81 #[.val (.int k), .val (.long a), .second, .val (.long b), .second, .val (.long c), .second, .val (.long d), .second, .val (.int (own_k k)), .val (.ref b1), .val (.ref w3), .val (.int (f3 ((own_put (own_put (own_put (own_put (fun x_ => (0 : Int32)) 0 a) 8 b) 16 c) 24 d) 14) 5))] [(.int (1 : Int32))])) t_
      refine XS.goto X14.here hx rfl (pc0 := 81) (pc' := 85) rfl (hb hby at_81) (by decide) (by decide) ?_
      show Steps p_.tables e_ below (T14.setTop (mkF m_ 85 #[.val (.int k), .val (.long a), .second, .val (.long b), .second, .val (.long c), .second, .val (.long d), .second, .val (.int (own_k k)), .val (.ref b1), .val (.ref w3), .val (.int (f3 ((own_put (own_put (own_put (own_put (fun x_ => (0 : Int32)) 0 a) 8 b) 16 c) 24 d) 14) 5))] [(.int (1 : Int32))])) t_
      exact k_
    refine own_retN X14 hx hlk (t := .boolean) hret (by simp) (hb hby at_85) (by decide) (by decide) ?_
    exact ⟨rfl, N14⟩
  · show own_Out p_ e_ below s_ _ _ _ T6 (mkF m_ 53 #[.val (.int k), .val (.long a), .second, .val (.long b), .second, .val (.long c), .second, .val (.long d), .second, .val (.int (own_k k)), .val (.ref b1), .unset, .unset] [(.ref w4)])
    refine own_st T6 (mkF m_ 59 #[.val (.int k), .val (.long a), .second, .val (.long b), .second, .val (.long c), .second, .val (.long d), .second, .val (.int (own_k k)), .val (.ref b1), .val (.ref w4), .unset] [(.ref b1), (.ref w4)]) (fun t_ k_ => ?_) ?_
    · refine XS.astore X6.here hx rfl (hb hby at_53) rfl rfl (l' := #[.val (.int k), .val (.long a), .second, .val (.long b), .second, .val (.long c), .second, .val (.long d), .second, .val (.int (own_k k)), .val (.ref b1), .val (.ref w4), .unset]) rfl ?_
      show Steps p_.tables e_ below (T6.setTop (mkF m_ 55 #[.val (.int k), .val (.long a), .second, .val (.long b), .second, .val (.long c), .second, .val (.long d), .second, .val (.int (own_k k)), .val (.ref b1), .val (.ref w4), .unset] [])) t_
      refine XS.aload X6.here hx rfl (hb hby at_55) rfl rfl ?_
      show Steps p_.tables e_ below (T6.setTop (mkF m_ 57 #[.val (.int k), .val (.long a), .second, .val (.long b), .second, .val (.long c), .second, .val (.long d), .second, .val (.int (own_k k)), .val (.ref b1), .val (.ref w4), .unset] [(.ref w4)])) t_
      refine XS.aload X6.here hx rfl (hb hby at_57) rfl rfl ?_
      show Steps p_.tables e_ below (T6.setTop (mkF m_ 59 #[.val (.int k), .val (.long a), .second, .val (.long b), .second, .val (.long c), .second, .val (.long d), .second, .val (.int (own_k k)), .val (.ref b1), .val (.ref w4), .unset] [(.ref b1), (.ref w4)])) t_
      exact k_
    refine own_callV X6 hx hZ (y := (⟨"com/example/adapterd/adapterd/controller/HciCommand", "isListedIn", "([B)Z"⟩ : MethodName)) (z := (⟨"com/example/adapterd/adapterd/controller/HciCommand", "isListedIn", "([B)Z"⟩ : MethodName)) hown (hw _ (List.mem_of_getElem? (i := 12) rfl)) (hw _ (List.mem_of_getElem? (i := 13) rfl)) (notFace_of_selects (args := #[]) (mvT hZ (hw _ (List.mem_of_getElem? (i := 15) rfl)))) (hw _ (List.mem_of_getElem? (i := 15) rfl)) (hw _ (List.mem_of_getElem? (i := 14) rfl)) (hw _ (List.mem_of_getElem? (i := 10) rfl)) (hw _ (List.mem_of_getElem? (i := 16) rfl)) (by decide) w4 [(.ref b1)] [] (E_w4.ext O.2) (rm3 l Z a0 hw w4 b1 k1 (own_put (own_put (own_put (own_put (fun x_ => (0 : Int32)) 0 a) 8 b) 16 c) 24 d) 15 1 15 T5.heap n0 Z0 (F_octet_w4.ext O.2) (F_bit_w4.ext O.2) A_b1 (by decide) (by decide) (by decide)) 0 (by decide) (by decide) e6 (by rw [hml]; rfl) (lenOf own_pd3 rfl) rfl (Nat.le_of_eq rfl) (hb hby at_59) (by decide) (by decide) ?_
    intro v15 T15 L15 X15 q15
    obtain ⟨rfl, N15q, e15⟩ := q15
    have N15 := Fr.app N6 N15q
    show own_Out p_ e_ below s_ _ _ _ T15 (mkF m_ 62 #[.val (.int k), .val (.long a), .second, .val (.long b), .second, .val (.long c), .second, .val (.long d), .second, .val (.int (own_k k)), .val (.ref b1), .val (.ref w4), .unset] [(.int (f3 ((own_put (own_put (own_put (own_put (fun x_ => (0 : Int32)) 0 a) 8 b) 16 c) 24 d) 15) 1))])
    refine own_st T15 (mkF m_ 74 #[.val (.int k), .val (.long a), .second, .val (.long b), .second, .val (.long c), .second, .val (.long d), .second, .val (.int (own_k k)), .val (.ref b1), .val (.ref w4), .val (.int (f3 ((own_put (own_put (own_put (own_put (fun x_ => (0 : Int32)) 0 a) 8 b) 16 c) 24 d) 15) 1))] [(.long d), (.long c), (.long b), (.long a), (.int (own_k k)), (.int (f3 ((own_put (own_put (own_put (own_put (fun x_ => (0 : Int32)) 0 a) 8 b) 16 c) 24 d) 15) 1))]) (fun t_ k_ => ?_) ?_
    · refine XS.istore X15.here hx rfl (hb hby at_62) rfl (l' := #[.val (.int k), .val (.long a), .second, .val (.long b), .second, .val (.long c), .second, .val (.long d), .second, .val (.int (own_k k)), .val (.ref b1), .val (.ref w4), .val (.int (f3 ((own_put (own_put (own_put (own_put (fun x_ => (0 : Int32)) 0 a) 8 b) 16 c) 24 d) 15) 1))]) rfl ?_
      show Steps p_.tables e_ below (T15.setTop (mkF m_ 64 #[.val (.int k), .val (.long a), .second, .val (.long b), .second, .val (.long c), .second, .val (.long d), .second, .val (.int (own_k k)), .val (.ref b1), .val (.ref w4), .val (.int (f3 ((own_put (own_put (own_put (own_put (fun x_ => (0 : Int32)) 0 a) 8 b) 16 c) 24 d) 15) 1))] [])) t_
      refine XS.iload X15.here hx rfl (hb hby at_64) rfl ?_
      show Steps p_.tables e_ below (T15.setTop (mkF m_ 66 #[.val (.int k), .val (.long a), .second, .val (.long b), .second, .val (.long c), .second, .val (.long d), .second, .val (.int (own_k k)), .val (.ref b1), .val (.ref w4), .val (.int (f3 ((own_put (own_put (own_put (own_put (fun x_ => (0 : Int32)) 0 a) 8 b) 16 c) 24 d) 15) 1))] [(.int (f3 ((own_put (own_put (own_put (own_put (fun x_ => (0 : Int32)) 0 a) 8 b) 16 c) 24 d) 15) 1))])) t_
      refine XS.iload X15.here hx rfl (hb hby at_66) rfl ?_
      show Steps p_.tables e_ below (T15.setTop (mkF m_ 68 #[.val (.int k), .val (.long a), .second, .val (.long b), .second, .val (.long c), .second, .val (.long d), .second, .val (.int (own_k k)), .val (.ref b1), .val (.ref w4), .val (.int (f3 ((own_put (own_put (own_put (own_put (fun x_ => (0 : Int32)) 0 a) 8 b) 16 c) 24 d) 15) 1))] [(.int (own_k k)), (.int (f3 ((own_put (own_put (own_put (own_put (fun x_ => (0 : Int32)) 0 a) 8 b) 16 c) 24 d) 15) 1))])) t_
      refine XS.lloadN X15.here hx rfl (hb hby at_68) rfl ?_
      show Steps p_.tables e_ below (T15.setTop (mkF m_ 69 #[.val (.int k), .val (.long a), .second, .val (.long b), .second, .val (.long c), .second, .val (.long d), .second, .val (.int (own_k k)), .val (.ref b1), .val (.ref w4), .val (.int (f3 ((own_put (own_put (own_put (own_put (fun x_ => (0 : Int32)) 0 a) 8 b) 16 c) 24 d) 15) 1))] [(.long a), (.int (own_k k)), (.int (f3 ((own_put (own_put (own_put (own_put (fun x_ => (0 : Int32)) 0 a) 8 b) 16 c) 24 d) 15) 1))])) t_
      refine XS.lloadN X15.here hx rfl (hb hby at_69) rfl ?_
      show Steps p_.tables e_ below (T15.setTop (mkF m_ 70 #[.val (.int k), .val (.long a), .second, .val (.long b), .second, .val (.long c), .second, .val (.long d), .second, .val (.int (own_k k)), .val (.ref b1), .val (.ref w4), .val (.int (f3 ((own_put (own_put (own_put (own_put (fun x_ => (0 : Int32)) 0 a) 8 b) 16 c) 24 d) 15) 1))] [(.long b), (.long a), (.int (own_k k)), (.int (f3 ((own_put (own_put (own_put (own_put (fun x_ => (0 : Int32)) 0 a) 8 b) 16 c) 24 d) 15) 1))])) t_
      refine XS.lload X15.here hx rfl (hb hby at_70) rfl ?_
      show Steps p_.tables e_ below (T15.setTop (mkF m_ 72 #[.val (.int k), .val (.long a), .second, .val (.long b), .second, .val (.long c), .second, .val (.long d), .second, .val (.int (own_k k)), .val (.ref b1), .val (.ref w4), .val (.int (f3 ((own_put (own_put (own_put (own_put (fun x_ => (0 : Int32)) 0 a) 8 b) 16 c) 24 d) 15) 1))] [(.long c), (.long b), (.long a), (.int (own_k k)), (.int (f3 ((own_put (own_put (own_put (own_put (fun x_ => (0 : Int32)) 0 a) 8 b) 16 c) 24 d) 15) 1))])) t_
      refine XS.lload X15.here hx rfl (hb hby at_72) rfl ?_
      show Steps p_.tables e_ below (T15.setTop (mkF m_ 74 #[.val (.int k), .val (.long a), .second, .val (.long b), .second, .val (.long c), .second, .val (.long d), .second, .val (.int (own_k k)), .val (.ref b1), .val (.ref w4), .val (.int (f3 ((own_put (own_put (own_put (own_put (fun x_ => (0 : Int32)) 0 a) 8 b) 16 c) 24 d) 15) 1))] [(.long d), (.long c), (.long b), (.long a), (.int (own_k k)), (.int (f3 ((own_put (own_put (own_put (own_put (fun x_ => (0 : Int32)) 0 a) 8 b) 16 c) 24 d) 15) 1))])) t_
      exact k_
    refine own_callS X15 hx hZ hown (hw _ (List.mem_of_getElem? (i := 19) rfl)) (hw _ (List.mem_of_getElem? (i := 20) rfl)) (hw _ (List.mem_of_getElem? (i := 4) rfl)) (hw _ (List.mem_of_getElem? (i := 21) rfl)) (by decide) [(.int (own_k k)), (.long a), (.long b), (.long c), (.long d)] [(.int (f3 ((own_put (own_put (own_put (own_put (fun x_ => (0 : Int32)) 0 a) 8 b) 16 c) 24 d) 15) 1))] (rm4 l Z a0 hw (own_k k) a b c d T5.heap n0 Z0) 1 (by decide) (by decide) e15 (by rw [hml]; rfl) (lenOf own_pd4 rfl) rfl (Nat.le_of_eq rfl) (hb hby at_74) (by decide) (by decide) ?_
    intro v16 T16 L16 X16 q16
    obtain ⟨rfl, N16q, e16⟩ := q16
    have N16 := Fr.app N15 N16q
    show own_Out p_ e_ below s_ _ _ _ T16 (mkF m_ 77 #[.val (.int k), .val (.long a), .second, .val (.long b), .second, .val (.long c), .second, .val (.long d), .second, .val (.int (own_k k)), .val (.ref b1), .val (.ref w4), .val (.int (f3 ((own_put (own_put (own_put (own_put (fun x_ => (0 : Int32)) 0 a) 8 b) 16 c) 24 d) 15) 1))] [(.int (f4 (own_k k) a b c d)), (.int (f3 ((own_put (own_put (own_put (own_put (fun x_ => (0 : Int32)) 0 a) 8 b) 16 c) 24 d) 15) 1))])
    refine own_st T16 (mkF m_ 85 #[.val (.int k), .val (.long a), .second, .val (.long b), .second, .val (.long c), .second, .val (.long d), .second, .val (.int (own_k k)), .val (.ref b1), .val (.ref w4), .val (.int (f3 ((own_put (own_put (own_put (own_put (fun x_ => (0 : Int32)) 0 a) 8 b) 16 c) 24 d) 15) 1))] [(.int (1 : Int32))]) (fun t_ k_ => ?_) ?_
    · refine XS.icmpNo X16.here hx rfl (hb hby at_77) rfl (teq (own_c4 a b c d _ hi4 : (f3 ((own_put (own_put (own_put (own_put (fun x_ => (0 : Int32)) 0 a) 8 b) 16 c) 24 d) 15) 1) = (f4 (own_k k) a b c d))).2 ?_
      show Steps p_.tables e_ below (T16.setTop (mkF m_ 80 #[.val (.int k), .val (.long a), .second, .val (.long b), .second, .val (.long c), .second, .val (.long d), .second, .val (.int (own_k k)), .val (.ref b1), .val (.ref w4), .val (.int (f3 ((own_put (own_put (own_put (own_put (fun x_ => (0 : Int32)) 0 a) 8 b) 16 c) 24 d) 15) 1))] [])) t_
      refine XS.iconst X16.here hx rfl (hb hby at_80) ?_
      show Steps p_.tables e_ below (T16.setTop (mkF m_ 81 #[.val (.int k), .val (.long a), .second, .val (.long b), .second, .val (.long c), .second, .val (.long d), .second, .val (.int (own_k k)), .val (.ref b1), .val (.ref w4), .val (.int (f3 ((own_put (own_put (own_put (own_put (fun x_ => (0 : Int32)) 0 a) 8 b) 16 c) 24 d) 15) 1))] [(.int (1 : Int32))])) t_
      refine XS.goto X16.here hx rfl (pc0 := 81) (pc' := 85) rfl (hb hby at_81) (by decide) (by decide) ?_
      show Steps p_.tables e_ below (T16.setTop (mkF m_ 85 #[.val (.int k), .val (.long a), .second, .val (.long b), .second, .val (.long c), .second, .val (.long d), .second, .val (.int (own_k k)), .val (.ref b1), .val (.ref w4), .val (.int (f3 ((own_put (own_put (own_put (own_put (fun x_ => (0 : Int32)) 0 a) 8 b) 16 c) 24 d) 15) 1))] [(.int (1 : Int32))])) t_
      exact k_
    refine own_retN X16 hx hlk (t := .boolean) hret (by simp) (hb hby at_85) (by decide) (by decide) ?_
    exact ⟨rfl, N16⟩
  · show own_Out p_ e_ below s_ _ _ _ T6 (mkF m_ 53 #[.val (.int k), .val (.long a), .second, .val (.long b), .second, .val (.long c), .second, .val (.long d), .second, .val (.int (own_k k)), .val (.ref b1), .unset, .unset] [(.ref w5)])
    refine own_st T6 (mkF m_ 59 #[.val (.int k), .val (.long a), .second, .val (.long b), .second, .val (.long c), .second, .val (.long d), .second, .val (.int (own_k k)), .val (.ref b1), .val (.ref w5), .unset] [(.ref b1), (.ref w5)]) (fun t_ k_ => ?_) ?_
    · refine XS.astore X6.here hx rfl (hb hby at_53) rfl rfl (l' := #[.val (.int k), .val (.long a), .second, .val (.long b), .second, .val (.long c), .second, .val (.long d), .second, .val (.int (own_k k)), .val (.ref b1), .val (.ref w5), .unset]) rfl ?_
      show Steps p_.tables e_ below (T6.setTop (mkF m_ 55 #[.val (.int k), .val (.long a), .second, .val (.long b), .second, .val (.long c), .second, .val (.long d), .second, .val (.int (own_k k)), .val (.ref b1), .val (.ref w5), .unset] [])) t_
      refine XS.aload X6.here hx rfl (hb hby at_55) rfl rfl ?_
      show Steps p_.tables e_ below (T6.setTop (mkF m_ 57 #[.val (.int k), .val (.long a), .second, .val (.long b), .second, .val (.long c), .second, .val (.long d), .second, .val (.int (own_k k)), .val (.ref b1), .val (.ref w5), .unset] [(.ref w5)])) t_
      refine XS.aload X6.here hx rfl (hb hby at_57) rfl rfl ?_
      show Steps p_.tables e_ below (T6.setTop (mkF m_ 59 #[.val (.int k), .val (.long a), .second, .val (.long b), .second, .val (.long c), .second, .val (.long d), .second, .val (.int (own_k k)), .val (.ref b1), .val (.ref w5), .unset] [(.ref b1), (.ref w5)])) t_
      exact k_
    refine own_callV X6 hx hZ (y := (⟨"com/example/adapterd/adapterd/controller/HciCommand", "isListedIn", "([B)Z"⟩ : MethodName)) (z := (⟨"com/example/adapterd/adapterd/controller/HciCommand", "isListedIn", "([B)Z"⟩ : MethodName)) hown (hw _ (List.mem_of_getElem? (i := 12) rfl)) (hw _ (List.mem_of_getElem? (i := 13) rfl)) (notFace_of_selects (args := #[]) (mvT hZ (hw _ (List.mem_of_getElem? (i := 15) rfl)))) (hw _ (List.mem_of_getElem? (i := 15) rfl)) (hw _ (List.mem_of_getElem? (i := 14) rfl)) (hw _ (List.mem_of_getElem? (i := 10) rfl)) (hw _ (List.mem_of_getElem? (i := 16) rfl)) (by decide) w5 [(.ref b1)] [] (E_w5.ext O.2) (rm3 l Z a0 hw w5 b1 k1 (own_put (own_put (own_put (own_put (fun x_ => (0 : Int32)) 0 a) 8 b) 16 c) 24 d) 14 7 14 T5.heap n0 Z0 (F_octet_w5.ext O.2) (F_bit_w5.ext O.2) A_b1 (by decide) (by decide) (by decide)) 0 (by decide) (by decide) e6 (by rw [hml]; rfl) (lenOf own_pd3 rfl) rfl (Nat.le_of_eq rfl) (hb hby at_59) (by decide) (by decide) ?_
    intro v17 T17 L17 X17 q17
    obtain ⟨rfl, N17q, e17⟩ := q17
    have N17 := Fr.app N6 N17q
    show own_Out p_ e_ below s_ _ _ _ T17 (mkF m_ 62 #[.val (.int k), .val (.long a), .second, .val (.long b), .second, .val (.long c), .second, .val (.long d), .second, .val (.int (own_k k)), .val (.ref b1), .val (.ref w5), .unset] [(.int (f3 ((own_put (own_put (own_put (own_put (fun x_ => (0 : Int32)) 0 a) 8 b) 16 c) 24 d) 14) 7))])
    refine own_st T17 (mkF m_ 74 #[.val (.int k), .val (.long a), .second, .val (.long b), .second, .val (.long c), .second, .val (.long d), .second, .val (.int (own_k k)), .val (.ref b1), .val (.ref w5), .val (.int (f3 ((own_put (own_put (own_put (own_put (fun x_ => (0 : Int32)) 0 a) 8 b) 16 c) 24 d) 14) 7))] [(.long d), (.long c), (.long b), (.long a), (.int (own_k k)), (.int (f3 ((own_put (own_put (own_put (own_put (fun x_ => (0 : Int32)) 0 a) 8 b) 16 c) 24 d) 14) 7))]) (fun t_ k_ => ?_) ?_
    · refine XS.istore X17.here hx rfl (hb hby at_62) rfl (l' := #[.val (.int k), .val (.long a), .second, .val (.long b), .second, .val (.long c), .second, .val (.long d), .second, .val (.int (own_k k)), .val (.ref b1), .val (.ref w5), .val (.int (f3 ((own_put (own_put (own_put (own_put (fun x_ => (0 : Int32)) 0 a) 8 b) 16 c) 24 d) 14) 7))]) rfl ?_
      show Steps p_.tables e_ below (T17.setTop (mkF m_ 64 #[.val (.int k), .val (.long a), .second, .val (.long b), .second, .val (.long c), .second, .val (.long d), .second, .val (.int (own_k k)), .val (.ref b1), .val (.ref w5), .val (.int (f3 ((own_put (own_put (own_put (own_put (fun x_ => (0 : Int32)) 0 a) 8 b) 16 c) 24 d) 14) 7))] [])) t_
      refine XS.iload X17.here hx rfl (hb hby at_64) rfl ?_
      show Steps p_.tables e_ below (T17.setTop (mkF m_ 66 #[.val (.int k), .val (.long a), .second, .val (.long b), .second, .val (.long c), .second, .val (.long d), .second, .val (.int (own_k k)), .val (.ref b1), .val (.ref w5), .val (.int (f3 ((own_put (own_put (own_put (own_put (fun x_ => (0 : Int32)) 0 a) 8 b) 16 c) 24 d) 14) 7))] [(.int (f3 ((own_put (own_put (own_put (own_put (fun x_ => (0 : Int32)) 0 a) 8 b) 16 c) 24 d) 14) 7))])) t_
      refine XS.iload X17.here hx rfl (hb hby at_66) rfl ?_
      show Steps p_.tables e_ below (T17.setTop (mkF m_ 68 #[.val (.int k), .val (.long a), .second, .val (.long b), .second, .val (.long c), .second, .val (.long d), .second, .val (.int (own_k k)), .val (.ref b1), .val (.ref w5), .val (.int (f3 ((own_put (own_put (own_put (own_put (fun x_ => (0 : Int32)) 0 a) 8 b) 16 c) 24 d) 14) 7))] [(.int (own_k k)), (.int (f3 ((own_put (own_put (own_put (own_put (fun x_ => (0 : Int32)) 0 a) 8 b) 16 c) 24 d) 14) 7))])) t_
      refine XS.lloadN X17.here hx rfl (hb hby at_68) rfl ?_
      show Steps p_.tables e_ below (T17.setTop (mkF m_ 69 #[.val (.int k), .val (.long a), .second, .val (.long b), .second, .val (.long c), .second, .val (.long d), .second, .val (.int (own_k k)), .val (.ref b1), .val (.ref w5), .val (.int (f3 ((own_put (own_put (own_put (own_put (fun x_ => (0 : Int32)) 0 a) 8 b) 16 c) 24 d) 14) 7))] [(.long a), (.int (own_k k)), (.int (f3 ((own_put (own_put (own_put (own_put (fun x_ => (0 : Int32)) 0 a) 8 b) 16 c) 24 d) 14) 7))])) t_
      refine XS.lloadN X17.here hx rfl (hb hby at_69) rfl ?_
      show Steps p_.tables e_ below (T17.setTop (mkF m_ 70 #[.val (.int k), .val (.long a), .second, .val (.long b), .second, .val (.long c), .second, .val (.long d), .second, .val (.int (own_k k)), .val (.ref b1), .val (.ref w5), .val (.int (f3 ((own_put (own_put (own_put (own_put (fun x_ => (0 : Int32)) 0 a) 8 b) 16 c) 24 d) 14) 7))] [(.long b), (.long a), (.int (own_k k)), (.int (f3 ((own_put (own_put (own_put (own_put (fun x_ => (0 : Int32)) 0 a) 8 b) 16 c) 24 d) 14) 7))])) t_
      refine XS.lload X17.here hx rfl (hb hby at_70) rfl ?_
      show Steps p_.tables e_ below (T17.setTop (mkF m_ 72 #[.val (.int k), .val (.long a), .second, .val (.long b), .second, .val (.long c), .second, .val (.long d), .second, .val (.int (own_k k)), .val (.ref b1), .val (.ref w5), .val (.int (f3 ((own_put (own_put (own_put (own_put (fun x_ => (0 : Int32)) 0 a) 8 b) 16 c) 24 d) 14) 7))] [(.long c), (.long b), (.long a), (.int (own_k k)), (.int (f3 ((own_put (own_put (own_put (own_put (fun x_ => (0 : Int32)) 0 a) 8 b) 16 c) 24 d) 14) 7))])) t_
      refine XS.lload X17.here hx rfl (hb hby at_72) rfl ?_
      show Steps p_.tables e_ below (T17.setTop (mkF m_ 74 #[.val (.int k), .val (.long a), .second, .val (.long b), .second, .val (.long c), .second, .val (.long d), .second, .val (.int (own_k k)), .val (.ref b1), .val (.ref w5), .val (.int (f3 ((own_put (own_put (own_put (own_put (fun x_ => (0 : Int32)) 0 a) 8 b) 16 c) 24 d) 14) 7))] [(.long d), (.long c), (.long b), (.long a), (.int (own_k k)), (.int (f3 ((own_put (own_put (own_put (own_put (fun x_ => (0 : Int32)) 0 a) 8 b) 16 c) 24 d) 14) 7))])) t_
      exact k_
    refine own_callS X17 hx hZ hown (hw _ (List.mem_of_getElem? (i := 19) rfl)) (hw _ (List.mem_of_getElem? (i := 20) rfl)) (hw _ (List.mem_of_getElem? (i := 4) rfl)) (hw _ (List.mem_of_getElem? (i := 21) rfl)) (by decide) [(.int (own_k k)), (.long a), (.long b), (.long c), (.long d)] [(.int (f3 ((own_put (own_put (own_put (own_put (fun x_ => (0 : Int32)) 0 a) 8 b) 16 c) 24 d) 14) 7))] (rm4 l Z a0 hw (own_k k) a b c d T5.heap n0 Z0) 1 (by decide) (by decide) e17 (by rw [hml]; rfl) (lenOf own_pd4 rfl) rfl (Nat.le_of_eq rfl) (hb hby at_74) (by decide) (by decide) ?_
    intro v18 T18 L18 X18 q18
    obtain ⟨rfl, N18q, e18⟩ := q18
    have N18 := Fr.app N17 N18q
    show own_Out p_ e_ below s_ _ _ _ T18 (mkF m_ 77 #[.val (.int k), .val (.long a), .second, .val (.long b), .second, .val (.long c), .second, .val (.long d), .second, .val (.int (own_k k)), .val (.ref b1), .val (.ref w5), .val (.int (f3 ((own_put (own_put (own_put (own_put (fun x_ => (0 : Int32)) 0 a) 8 b) 16 c) 24 d) 14) 7))] [(.int (f4 (own_k k) a b c d)), (.int (f3 ((own_put (own_put (own_put (own_put (fun x_ => (0 : Int32)) 0 a) 8 b) 16 c) 24 d) 14) 7))])
    refine own_st T18 (mkF m_ 85 #[.val (.int k), .val (.long a), .second, .val (.long b), .second, .val (.long c), .second, .val (.long d), .second, .val (.int (own_k k)), .val (.ref b1), .val (.ref w5), .val (.int (f3 ((own_put (own_put (own_put (own_put (fun x_ => (0 : Int32)) 0 a) 8 b) 16 c) 24 d) 14) 7))] [(.int (1 : Int32))]) (fun t_ k_ => ?_) ?_
    · refine XS.icmpNo X18.here hx rfl (hb hby at_77) rfl (teq (own_c5 a b c d _ hi5 : (f3 ((own_put (own_put (own_put (own_put (fun x_ => (0 : Int32)) 0 a) 8 b) 16 c) 24 d) 14) 7) = (f4 (own_k k) a b c d))).2 ?_
      show Steps p_.tables e_ below (T18.setTop (mkF m_ 80 #[.val (.int k), .val (.long a), .second, .val (.long b), .second, .val (.long c), .second, .val (.long d), .second, .val (.int (own_k k)), .val (.ref b1), .val (.ref w5), .val (.int (f3 ((own_put (own_put (own_put (own_put (fun x_ => (0 : Int32)) 0 a) 8 b) 16 c) 24 d) 14) 7))] [])) t_
      refine XS.iconst X18.here hx rfl (hb hby at_80) ?_
      show Steps p_.tables e_ below (T18.setTop (mkF m_ 81 #[.val (.int k), .val (.long a), .second, .val (.long b), .second, .val (.long c), .second, .val (.long d), .second, .val (.int (own_k k)), .val (.ref b1), .val (.ref w5), .val (.int (f3 ((own_put (own_put (own_put (own_put (fun x_ => (0 : Int32)) 0 a) 8 b) 16 c) 24 d) 14) 7))] [(.int (1 : Int32))])) t_
      refine XS.goto X18.here hx rfl (pc0 := 81) (pc' := 85) rfl (hb hby at_81) (by decide) (by decide) ?_
      show Steps p_.tables e_ below (T18.setTop (mkF m_ 85 #[.val (.int k), .val (.long a), .second, .val (.long b), .second, .val (.long c), .second, .val (.long d), .second, .val (.int (own_k k)), .val (.ref b1), .val (.ref w5), .val (.int (f3 ((own_put (own_put (own_put (own_put (fun x_ => (0 : Int32)) 0 a) 8 b) 16 c) 24 d) 14) 7))] [(.int (1 : Int32))])) t_
      exact k_
    refine own_retN X18 hx hlk (t := .boolean) hret (by simp) (hb hby at_85) (by decide) (by decide) ?_
    exact ⟨rfl, N18⟩
  · show own_Out p_ e_ below s_ _ _ _ T6 (mkF m_ 53 #[.val (.int k), .val (.long a), .second, .val (.long b), .second, .val (.long c), .second, .val (.long d), .second, .val (.int (own_k k)), .val (.ref b1), .unset, .unset] [(.ref w6)])
    refine own_st T6 (mkF m_ 59 #[.val (.int k), .val (.long a), .second, .val (.long b), .second, .val (.long c), .second, .val (.long d), .second, .val (.int (own_k k)), .val (.ref b1), .val (.ref w6), .unset] [(.ref b1), (.ref w6)]) (fun t_ k_ => ?_) ?_
    · refine XS.astore X6.here hx rfl (hb hby at_53) rfl rfl (l' := #[.val (.int k), .val (.long a), .second, .val (.long b), .second, .val (.long c), .second, .val (.long d), .second, .val (.int (own_k k)), .val (.ref b1), .val (.ref w6), .unset]) rfl ?_
      show Steps p_.tables e_ below (T6.setTop (mkF m_ 55 #[.val (.int k), .val (.long a), .second, .val (.long b), .second, .val (.long c), .second, .val (.long d), .second, .val (.int (own_k k)), .val (.ref b1), .val (.ref w6), .unset] [])) t_
      refine XS.aload X6.here hx rfl (hb hby at_55) rfl rfl ?_
      show Steps p_.tables e_ below (T6.setTop (mkF m_ 57 #[.val (.int k), .val (.long a), .second, .val (.long b), .second, .val (.long c), .second, .val (.long d), .second, .val (.int (own_k k)), .val (.ref b1), .val (.ref w6), .unset] [(.ref w6)])) t_
      refine XS.aload X6.here hx rfl (hb hby at_57) rfl rfl ?_
      show Steps p_.tables e_ below (T6.setTop (mkF m_ 59 #[.val (.int k), .val (.long a), .second, .val (.long b), .second, .val (.long c), .second, .val (.long d), .second, .val (.int (own_k k)), .val (.ref b1), .val (.ref w6), .unset] [(.ref b1), (.ref w6)])) t_
      exact k_
    refine own_callV X6 hx hZ (y := (⟨"com/example/adapterd/adapterd/controller/HciCommand", "isListedIn", "([B)Z"⟩ : MethodName)) (z := (⟨"com/example/adapterd/adapterd/controller/HciCommand", "isListedIn", "([B)Z"⟩ : MethodName)) hown (hw _ (List.mem_of_getElem? (i := 12) rfl)) (hw _ (List.mem_of_getElem? (i := 13) rfl)) (notFace_of_selects (args := #[]) (mvT hZ (hw _ (List.mem_of_getElem? (i := 15) rfl)))) (hw _ (List.mem_of_getElem? (i := 15) rfl)) (hw _ (List.mem_of_getElem? (i := 14) rfl)) (hw _ (List.mem_of_getElem? (i := 10) rfl)) (hw _ (List.mem_of_getElem? (i := 16) rfl)) (by decide) w6 [(.ref b1)] [] (E_w6.ext O.2) (rm3 l Z a0 hw w6 b1 k1 (own_put (own_put (own_put (own_put (fun x_ => (0 : Int32)) 0 a) 8 b) 16 c) 24 d) 25 1 25 T5.heap n0 Z0 (F_octet_w6.ext O.2) (F_bit_w6.ext O.2) A_b1 (by decide) (by decide) (by decide)) 0 (by decide) (by decide) e6 (by rw [hml]; rfl) (lenOf own_pd3 rfl) rfl (Nat.le_of_eq rfl) (hb hby at_59) (by decide) (by decide) ?_
    intro v19 T19 L19 X19 q19
    obtain ⟨rfl, N19q, e19⟩ := q19
    have N19 := Fr.app N6 N19q
    show own_Out p_ e_ below s_ _ _ _ T19 (mkF m_ 62 #[.val (.int k), .val (.long a), .second, .val (.long b), .second, .val (.long c), .second, .val (.long d), .second, .val (.int (own_k k)), .val (.ref b1), .val (.ref w6), .unset] [(.int (f3 ((own_put (own_put (own_put (own_put (fun x_ => (0 : Int32)) 0 a) 8 b) 16 c) 24 d) 25) 1))])
    refine own_st T19 (mkF m_ 74 #[.val (.int k), .val (.long a), .second, .val (.long b), .second, .val (.long c), .second, .val (.long d), .second, .val (.int (own_k k)), .val (.ref b1), .val (.ref w6), .val (.int (f3 ((own_put (own_put (own_put (own_put (fun x_ => (0 : Int32)) 0 a) 8 b) 16 c) 24 d) 25) 1))] [(.long d), (.long c), (.long b), (.long a), (.int (own_k k)), (.int (f3 ((own_put (own_put (own_put (own_put (fun x_ => (0 : Int32)) 0 a) 8 b) 16 c) 24 d) 25) 1))]) (fun t_ k_ => ?_) ?_
    · refine XS.istore X19.here hx rfl (hb hby at_62) rfl (l' := #[.val (.int k), .val (.long a), .second, .val (.long b), .second, .val (.long c), .second, .val (.long d), .second, .val (.int (own_k k)), .val (.ref b1), .val (.ref w6), .val (.int (f3 ((own_put (own_put (own_put (own_put (fun x_ => (0 : Int32)) 0 a) 8 b) 16 c) 24 d) 25) 1))]) rfl ?_
      show Steps p_.tables e_ below (T19.setTop (mkF m_ 64 #[.val (.int k), .val (.long a), .second, .val (.long b), .second, .val (.long c), .second, .val (.long d), .second, .val (.int (own_k k)), .val (.ref b1), .val (.ref w6), .val (.int (f3 ((own_put (own_put (own_put (own_put (fun x_ => (0 : Int32)) 0 a) 8 b) 16 c) 24 d) 25) 1))] [])) t_
      refine XS.iload X19.here hx rfl (hb hby at_64) rfl ?_
      show Steps p_.tables e_ below (T19.setTop (mkF m_ 66 #[.val (.int k), .val (.long a), .second, .val (.long b), .second, .val (.long c), .second, .val (.long d), .second, .val (.int (own_k k)), .val (.ref b1), .val (.ref w6), .val (.int (f3 ((own_put (own_put (own_put (own_put (fun x_ => (0 : Int32)) 0 a) 8 b) 16 c) 24 d) 25) 1))] [(.int (f3 ((own_put (own_put (own_put (own_put (fun x_ => (0 : Int32)) 0 a) 8 b) 16 c) 24 d) 25) 1))])) t_
      refine XS.iload X19.here hx rfl (hb hby at_66) rfl ?_
      show Steps p_.tables e_ below (T19.setTop (mkF m_ 68 #[.val (.int k), .val (.long a), .second, .val (.long b), .second, .val (.long c), .second, .val (.long d), .second, .val (.int (own_k k)), .val (.ref b1), .val (.ref w6), .val (.int (f3 ((own_put (own_put (own_put (own_put (fun x_ => (0 : Int32)) 0 a) 8 b) 16 c) 24 d) 25) 1))] [(.int (own_k k)), (.int (f3 ((own_put (own_put (own_put (own_put (fun x_ => (0 : Int32)) 0 a) 8 b) 16 c) 24 d) 25) 1))])) t_
      refine XS.lloadN X19.here hx rfl (hb hby at_68) rfl ?_
      show Steps p_.tables e_ below (T19.setTop (mkF m_ 69 #[.val (.int k), .val (.long a), .second, .val (.long b), .second, .val (.long c), .second, .val (.long d), .second, .val (.int (own_k k)), .val (.ref b1), .val (.ref w6), .val (.int (f3 ((own_put (own_put (own_put (own_put (fun x_ => (0 : Int32)) 0 a) 8 b) 16 c) 24 d) 25) 1))] [(.long a), (.int (own_k k)), (.int (f3 ((own_put (own_put (own_put (own_put (fun x_ => (0 : Int32)) 0 a) 8 b) 16 c) 24 d) 25) 1))])) t_
      refine XS.lloadN X19.here hx rfl (hb hby at_69) rfl ?_
      show Steps p_.tables e_ below (T19.setTop (mkF m_ 70 #[.val (.int k), .val (.long a), .second, .val (.long b), .second, .val (.long c), .second, .val (.long d), .second, .val (.int (own_k k)), .val (.ref b1), .val (.ref w6), .val (.int (f3 ((own_put (own_put (own_put (own_put (fun x_ => (0 : Int32)) 0 a) 8 b) 16 c) 24 d) 25) 1))] [(.long b), (.long a), (.int (own_k k)), (.int (f3 ((own_put (own_put (own_put (own_put (fun x_ => (0 : Int32)) 0 a) 8 b) 16 c) 24 d) 25) 1))])) t_
      refine XS.lload X19.here hx rfl (hb hby at_70) rfl ?_
      show Steps p_.tables e_ below (T19.setTop (mkF m_ 72 #[.val (.int k), .val (.long a), .second, .val (.long b), .second, .val (.long c), .second, .val (.long d), .second, .val (.int (own_k k)), .val (.ref b1), .val (.ref w6), .val (.int (f3 ((own_put (own_put (own_put (own_put (fun x_ => (0 : Int32)) 0 a) 8 b) 16 c) 24 d) 25) 1))] [(.long c), (.long b), (.long a), (.int (own_k k)), (.int (f3 ((own_put (own_put (own_put (own_put (fun x_ => (0 : Int32)) 0 a) 8 b) 16 c) 24 d) 25) 1))])) t_
      refine XS.lload X19.here hx rfl (hb hby at_72) rfl ?_
      show Steps p_.tables e_ below (T19.setTop (mkF m_ 74 #[.val (.int k), .val (.long a), .second, .val (.long b), .second, .val (.long c), .second, .val (.long d), .second, .val (.int (own_k k)), .val (.ref b1), .val (.ref w6), .val (.int (f3 ((own_put (own_put (own_put (own_put (fun x_ => (0 : Int32)) 0 a) 8 b) 16 c) 24 d) 25) 1))] [(.long d), (.long c), (.long b), (.long a), (.int (own_k k)), (.int (f3 ((own_put (own_put (own_put (own_put (fun x_ => (0 : Int32)) 0 a) 8 b) 16 c) 24 d) 25) 1))])) t_
      exact k_
    refine own_callS X19 hx hZ hown (hw _ (List.mem_of_getElem? (i := 19) rfl)) (hw _ (List.mem_of_getElem? (i := 20) rfl)) (hw _ (List.mem_of_getElem? (i := 4) rfl)) (hw _ (List.mem_of_getElem? (i := 21) rfl)) (by decide) [(.int (own_k k)), (.long a), (.long b), (.long c), (.long d)] [(.int (f3 ((own_put (own_put (own_put (own_put (fun x_ => (0 : Int32)) 0 a) 8 b) 16 c) 24 d) 25) 1))] (rm4 l Z a0 hw (own_k k) a b c d T5.heap n0 Z0) 1 (by decide) (by decide) e19 (by rw [hml]; rfl) (lenOf own_pd4 rfl) rfl (Nat.le_of_eq rfl) (hb hby at_74) (by decide) (by decide) ?_
    intro v20 T20 L20 X20 q20
    obtain ⟨rfl, N20q, e20⟩ := q20
    have N20 := Fr.app N19 N20q
    show own_Out p_ e_ below s_ _ _ _ T20 (mkF m_ 77 #[.val (.int k), .val (.long a), .second, .val (.long b), .second, .val (.long c), .second, .val (.long d), .second, .val (.int (own_k k)), .val (.ref b1), .val (.ref w6), .val (.int (f3 ((own_put (own_put (own_put (own_put (fun x_ => (0 : Int32)) 0 a) 8 b) 16 c) 24 d) 25) 1))] [(.int (f4 (own_k k) a b c d)), (.int (f3 ((own_put (own_put (own_put (own_put (fun x_ => (0 : Int32)) 0 a) 8 b) 16 c) 24 d) 25) 1))])
    refine own_st T20 (mkF m_ 85 #[.val (.int k), .val (.long a), .second, .val (.long b), .second, .val (.long c), .second, .val (.long d), .second, .val (.int (own_k k)), .val (.ref b1), .val (.ref w6), .val (.int (f3 ((own_put (own_put (own_put (own_put (fun x_ => (0 : Int32)) 0 a) 8 b) 16 c) 24 d) 25) 1))] [(.int (1 : Int32))]) (fun t_ k_ => ?_) ?_
    · refine XS.icmpNo X20.here hx rfl (hb hby at_77) rfl (teq (own_c6 a b c d _ hi6 : (f3 ((own_put (own_put (own_put (own_put (fun x_ => (0 : Int32)) 0 a) 8 b) 16 c) 24 d) 25) 1) = (f4 (own_k k) a b c d))).2 ?_
      show Steps p_.tables e_ below (T20.setTop (mkF m_ 80 #[.val (.int k), .val (.long a), .second, .val (.long b), .second, .val (.long c), .second, .val (.long d), .second, .val (.int (own_k k)), .val (.ref b1), .val (.ref w6), .val (.int (f3 ((own_put (own_put (own_put (own_put (fun x_ => (0 : Int32)) 0 a) 8 b) 16 c) 24 d) 25) 1))] [])) t_
      refine XS.iconst X20.here hx rfl (hb hby at_80) ?_
      show Steps p_.tables e_ below (T20.setTop (mkF m_ 81 #[.val (.int k), .val (.long a), .second, .val (.long b), .second, .val (.long c), .second, .val (.long d), .second, .val (.int (own_k k)), .val (.ref b1), .val (.ref w6), .val (.int (f3 ((own_put (own_put (own_put (own_put (fun x_ => (0 : Int32)) 0 a) 8 b) 16 c) 24 d) 25) 1))] [(.int (1 : Int32))])) t_
      refine XS.goto X20.here hx rfl (pc0 := 81) (pc' := 85) rfl (hb hby at_81) (by decide) (by decide) ?_
      show Steps p_.tables e_ below (T20.setTop (mkF m_ 85 #[.val (.int k), .val (.long a), .second, .val (.long b), .second, .val (.long c), .second, .val (.long d), .second, .val (.int (own_k k)), .val (.ref b1), .val (.ref w6), .val (.int (f3 ((own_put (own_put (own_put (own_put (fun x_ => (0 : Int32)) 0 a) 8 b) 16 c) 24 d) 25) 1))] [(.int (1 : Int32))])) t_
      exact k_
    refine own_retN X20 hx hlk (t := .boolean) hret (by simp) (hb hby at_85) (by decide) (by decide) ?_
    exact ⟨rfl, N20⟩
  · show own_Out p_ e_ below s_ _ _ _ T6 (mkF m_ 53 #[.val (.int k), .val (.long a), .second, .val (.long b), .second, .val (.long c), .second, .val (.long d), .second, .val (.int (own_k k)), .val (.ref b1), .unset, .unset] [(.ref w7)])
    refine own_st T6 (mkF m_ 59 #[.val (.int k), .val (.long a), .second, .val (.long b), .second, .val (.long c), .second, .val (.long d), .second, .val (.int (own_k k)), .val (.ref b1), .val (.ref w7), .unset] [(.ref b1), (.ref w7)]) (fun t_ k_ => ?_) ?_
    · refine XS.astore X6.here hx rfl (hb hby at_53) rfl rfl (l' := #[.val (.int k), .val (.long a), .second, .val (.long b), .second, .val (.long c), .second, .val (.long d), .second, .val (.int (own_k k)), .val (.ref b1), .val (.ref w7), .unset]) rfl ?_
      show Steps p_.tables e_ below (T6.setTop (mkF m_ 55 #[.val (.int k), .val (.long a), .second, .val (.long b), .second, .val (.long c), .second, .val (.long d), .second, .val (.int (own_k k)), .val (.ref b1), .val (.ref w7), .unset] [])) t_
      refine XS.aload X6.here hx rfl (hb hby at_55) rfl rfl ?_
      show Steps p_.tables e_ below (T6.setTop (mkF m_ 57 #[.val (.int k), .val (.long a), .second, .val (.long b), .second, .val (.long c), .second, .val (.long d), .second, .val (.int (own_k k)), .val (.ref b1), .val (.ref w7), .unset] [(.ref w7)])) t_
      refine XS.aload X6.here hx rfl (hb hby at_57) rfl rfl ?_
      show Steps p_.tables e_ below (T6.setTop (mkF m_ 59 #[.val (.int k), .val (.long a), .second, .val (.long b), .second, .val (.long c), .second, .val (.long d), .second, .val (.int (own_k k)), .val (.ref b1), .val (.ref w7), .unset] [(.ref b1), (.ref w7)])) t_
      exact k_
    refine own_callV X6 hx hZ (y := (⟨"com/example/adapterd/adapterd/controller/HciCommand", "isListedIn", "([B)Z"⟩ : MethodName)) (z := (⟨"com/example/adapterd/adapterd/controller/HciCommand", "isListedIn", "([B)Z"⟩ : MethodName)) hown (hw _ (List.mem_of_getElem? (i := 12) rfl)) (hw _ (List.mem_of_getElem? (i := 13) rfl)) (notFace_of_selects (args := #[]) (mvT hZ (hw _ (List.mem_of_getElem? (i := 15) rfl)))) (hw _ (List.mem_of_getElem? (i := 15) rfl)) (hw _ (List.mem_of_getElem? (i := 14) rfl)) (hw _ (List.mem_of_getElem? (i := 10) rfl)) (hw _ (List.mem_of_getElem? (i := 16) rfl)) (by decide) w7 [(.ref b1)] [] (E_w7.ext O.2) (rm3 l Z a0 hw w7 b1 k1 (own_put (own_put (own_put (own_put (fun x_ => (0 : Int32)) 0 a) 8 b) 16 c) 24 d) 5 6 5 T5.heap n0 Z0 (F_octet_w7.ext O.2) (F_bit_w7.ext O.2) A_b1 (by decide) (by decide) (by decide)) 0 (by decide) (by decide) e6 (by rw [hml]; rfl) (lenOf own_pd3 rfl) rfl (Nat.le_of_eq rfl) (hb hby at_59) (by decide) (by decide) ?_
    intro v21 T21 L21 X21 q21
    obtain ⟨rfl, N21q, e21⟩ := q21
    have N21 := Fr.app N6 N21q
    show own_Out p_ e_ below s_ _ _ _ T21 (mkF m_ 62 #[.val (.int k), .val (.long a), .second, .val (.long b), .second, .val (.long c), .second, .val (.long d), .second, .val (.int (own_k k)), .val (.ref b1), .val (.ref w7), .unset] [(.int (f3 ((own_put (own_put (own_put (own_put (fun x_ => (0 : Int32)) 0 a) 8 b) 16 c) 24 d) 5) 6))])
    refine own_st T21 (mkF m_ 74 #[.val (.int k), .val (.long a), .second, .val (.long b), .second, .val (.long c), .second, .val (.long d), .second, .val (.int (own_k k)), .val (.ref b1), .val (.ref w7), .val (.int (f3 ((own_put (own_put (own_put (own_put (fun x_ => (0 : Int32)) 0 a) 8 b) 16 c) 24 d) 5) 6))] [(.long d), (.long c), (.long b), (.long a), (.int (own_k k)), (.int (f3 ((own_put (own_put (own_put (own_put (fun x_ => (0 : Int32)) 0 a) 8 b) 16 c) 24 d) 5) 6))]) (fun t_ k_ => ?_) ?_
    · refine XS.istore X21.here hx rfl (hb hby at_62) rfl (l' := #[.val (.int k), .val (.long a), .second, .val (.long b), .second, .val (.long c), .second, .val (.long d), .second, .val (.int (own_k k)), .val (.ref b1), .val (.ref w7), .val (.int (f3 ((own_put (own_put (own_put (own_put (fun x_ => (0 : Int32)) 0 a) 8 b) 16 c) 24 d) 5) 6))]) rfl ?_
      show Steps p_.tables e_ below (T21.setTop (mkF m_ 64 #[.val (.int k), .val (.long a), .second, .val (.long b), .second, .val (.long c), .second, .val (.long d), .second, .val (.int (own_k k)), .val (.ref b1), .val (.ref w7), .val (.int (f3 ((own_put (own_put (own_put (own_put (fun x_ => (0 : Int32)) 0 a) 8 b) 16 c) 24 d) 5) 6))] [])) t_
      refine XS.iload X21.here hx rfl (hb hby at_64) rfl ?_
      show Steps p_.tables e_ below (T21.setTop (mkF m_ 66 #[.val (.int k), .val (.long a), .second, .val (.long b), .second, .val (.long c), .second, .val (.long d), .second, .val (.int (own_k k)), .val (.ref b1), .val (.ref w7), .val (.int (f3 ((own_put (own_put (own_put (own_put (fun x_ => (0 : Int32)) 0 a) 8 b) 16 c) 24 d) 5) 6))] [(.int (f3 ((own_put (own_put (own_put (own_put (fun x_ => (0 : Int32)) 0 a) 8 b) 16 c) 24 d) 5) 6))])) t_
      refine XS.iload X21.here hx rfl (hb hby at_66) rfl ?_
      show Steps p_.tables e_ below (T21.setTop (mkF m_ 68 #[.val (.int k), .val (.long a), .second, .val (.long b), .second, .val (.long c), .second, .val (.long d), .second, .val (.int (own_k k)), .val (.ref b1), .val (.ref w7), .val (.int (f3 ((own_put (own_put (own_put (own_put (fun x_ => (0 : Int32)) 0 a) 8 b) 16 c) 24 d) 5) 6))] [(.int (own_k k)), (.int (f3 ((own_put (own_put (own_put (own_put (fun x_ => (0 : Int32)) 0 a) 8 b) 16 c) 24 d) 5) 6))])) t_
      refine XS.lloadN X21.here hx rfl (hb hby at_68) rfl ?_
      show Steps p_.tables e_ below (T21.setTop (mkF m_ 69 #[.val (.int k), .val (.long a), .second, .val (.long b), .second, .val (.long c), .second, .val (.long d), .second, .val (.int (own_k k)), .val (.ref b1), .val (.ref w7), .val (.int (f3 ((own_put (own_put (own_put (own_put (fun x_ => (0 : Int32)) 0 a) 8 b) 16 c) 24 d) 5) 6))] [(.long a), (.int (own_k k)), (.int (f3 ((own_put (own_put (own_put (own_put (fun x_ => (0 : Int32)) 0 a) 8 b) 16 c) 24 d) 5) 6))])) t_
      refine XS.lloadN X21.here hx rfl (hb hby at_69) rfl ?_
      show Steps p_.tables e_ below (T21.setTop (mkF m_ 70 #[.val (.int k), .val (.long a), .second, .val (.long b), .second, .val (.long c), .second, .val (.long d), .second, .val (.int (own_k k)), .val (.ref b1), .val (.ref w7), .val (.int (f3 ((own_put (own_put (own_put (own_put (fun x_ => (0 : Int32)) 0 a) 8 b) 16 c) 24 d) 5) 6))] [(.long b), (.long a), (.int (own_k k)), (.int (f3 ((own_put (own_put (own_put (own_put (fun x_ => (0 : Int32)) 0 a) 8 b) 16 c) 24 d) 5) 6))])) t_
      refine XS.lload X21.here hx rfl (hb hby at_70) rfl ?_
      show Steps p_.tables e_ below (T21.setTop (mkF m_ 72 #[.val (.int k), .val (.long a), .second, .val (.long b), .second, .val (.long c), .second, .val (.long d), .second, .val (.int (own_k k)), .val (.ref b1), .val (.ref w7), .val (.int (f3 ((own_put (own_put (own_put (own_put (fun x_ => (0 : Int32)) 0 a) 8 b) 16 c) 24 d) 5) 6))] [(.long c), (.long b), (.long a), (.int (own_k k)), (.int (f3 ((own_put (own_put (own_put (own_put (fun x_ => (0 : Int32)) 0 a) 8 b) 16 c) 24 d) 5) 6))])) t_
      refine XS.lload X21.here hx rfl (hb hby at_72) rfl ?_
      show Steps p_.tables e_ below (T21.setTop (mkF m_ 74 #[.val (.int k), .val (.long a), .second, .val (.long b), .second, .val (.long c), .second, .val (.long d), .second, .val (.int (own_k k)), .val (.ref b1), .val (.ref w7), .val (.int (f3 ((own_put (own_put (own_put (own_put (fun x_ => (0 : Int32)) 0 a) 8 b) 16 c) 24 d) 5) 6))] [(.long d), (.long c), (.long b), (.long a), (.int (own_k k)), (.int (f3 ((own_put (own_put (own_put (own_put (fun x_ => (0 : Int32)) 0 a) 8 b) 16 c) 24 d) 5) 6))])) t_
      exact k_
    refine own_callS X21 hx hZ hown (hw _ (List.mem_of_getElem? (i := 19) rfl)) (hw _ (List.mem_of_getElem? (i := 20) rfl)) (hw _ (List.mem_of_getElem? (i := 4) rfl)) (hw _ (List.mem_of_getElem? (i := 21) rfl)) (by decide) [(.int (own_k k)), (.long a), (.long b), (.long c), (.long d)] [(.int (f3 ((own_put (own_put (own_put (own_put (fun x_ => (0 : Int32)) 0 a) 8 b) 16 c) 24 d) 5) 6))] (rm4 l Z a0 hw (own_k k) a b c d T5.heap n0 Z0) 1 (by decide) (by decide) e21 (by rw [hml]; rfl) (lenOf own_pd4 rfl) rfl (Nat.le_of_eq rfl) (hb hby at_74) (by decide) (by decide) ?_
    intro v22 T22 L22 X22 q22
    obtain ⟨rfl, N22q, e22⟩ := q22
    have N22 := Fr.app N21 N22q
    show own_Out p_ e_ below s_ _ _ _ T22 (mkF m_ 77 #[.val (.int k), .val (.long a), .second, .val (.long b), .second, .val (.long c), .second, .val (.long d), .second, .val (.int (own_k k)), .val (.ref b1), .val (.ref w7), .val (.int (f3 ((own_put (own_put (own_put (own_put (fun x_ => (0 : Int32)) 0 a) 8 b) 16 c) 24 d) 5) 6))] [(.int (f4 (own_k k) a b c d)), (.int (f3 ((own_put (own_put (own_put (own_put (fun x_ => (0 : Int32)) 0 a) 8 b) 16 c) 24 d) 5) 6))])
    refine own_st T22 (mkF m_ 85 #[.val (.int k), .val (.long a), .second, .val (.long b), .second, .val (.long c), .second, .val (.long d), .second, .val (.int (own_k k)), .val (.ref b1), .val (.ref w7), .val (.int (f3 ((own_put (own_put (own_put (own_put (fun x_ => (0 : Int32)) 0 a) 8 b) 16 c) 24 d) 5) 6))] [(.int (1 : Int32))]) (fun t_ k_ => ?_) ?_
    · refine XS.icmpNo X22.here hx rfl (hb hby at_77) rfl (teq (own_c7 a b c d _ hi7 : (f3 ((own_put (own_put (own_put (own_put (fun x_ => (0 : Int32)) 0 a) 8 b) 16 c) 24 d) 5) 6) = (f4 (own_k k) a b c d))).2 ?_
      show Steps p_.tables e_ below (T22.setTop (mkF m_ 80 #[.val (.int k), .val (.long a), .second, .val (.long b), .second, .val (.long c), .second, .val (.long d), .second, .val (.int (own_k k)), .val (.ref b1), .val (.ref w7), .val (.int (f3 ((own_put (own_put (own_put (own_put (fun x_ => (0 : Int32)) 0 a) 8 b) 16 c) 24 d) 5) 6))] [])) t_
      refine XS.iconst X22.here hx rfl (hb hby at_80) ?_
      show Steps p_.tables e_ below (T22.setTop (mkF m_ 81 #[.val (.int k), .val (.long a), .second, .val (.long b), .second, .val (.long c), .second, .val (.long d), .second, .val (.int (own_k k)), .val (.ref b1), .val (.ref w7), .val (.int (f3 ((own_put (own_put (own_put (own_put (fun x_ => (0 : Int32)) 0 a) 8 b) 16 c) 24 d) 5) 6))] [(.int (1 : Int32))])) t_
      refine XS.goto X22.here hx rfl (pc0 := 81) (pc' := 85) rfl (hb hby at_81) (by decide) (by decide) ?_
      show Steps p_.tables e_ below (T22.setTop (mkF m_ 85 #[.val (.int k), .val (.long a), .second, .val (.long b), .second, .val (.long c), .second, .val (.long d), .second, .val (.int (own_k k)), .val (.ref b1), .val (.ref w7), .val (.int (f3 ((own_put (own_put (own_put (own_put (fun x_ => (0 : Int32)) 0 a) 8 b) 16 c) 24 d) 5) 6))] [(.int (1 : Int32))])) t_
      exact k_
    refine own_retN X22 hx hlk (t := .boolean) hret (by simp) (hb hby at_85) (by decide) (by decide) ?_
    exact ⟨rfl, N22⟩
  · show own_Out p_ e_ below s_ _ _ _ T6 (mkF m_ 53 #[.val (.int k), .val (.long a), .second, .val (.long b), .second, .val (.long c), .second, .val (.long d), .second, .val (.int (own_k k)), .val (.ref b1), .unset, .unset] [(.ref w8)])
    refine own_st T6 (mkF m_ 59 #[.val (.int k), .val (.long a), .second, .val (.long b), .second, .val (.long c), .second, .val (.long d), .second, .val (.int (own_k k)), .val (.ref b1), .val (.ref w8), .unset] [(.ref b1), (.ref w8)]) (fun t_ k_ => ?_) ?_
    · refine XS.astore X6.here hx rfl (hb hby at_53) rfl rfl (l' := #[.val (.int k), .val (.long a), .second, .val (.long b), .second, .val (.long c), .second, .val (.long d), .second, .val (.int (own_k k)), .val (.ref b1), .val (.ref w8), .unset]) rfl ?_
      show Steps p_.tables e_ below (T6.setTop (mkF m_ 55 #[.val (.int k), .val (.long a), .second, .val (.long b), .second, .val (.long c), .second, .val (.long d), .second, .val (.int (own_k k)), .val (.ref b1), .val (.ref w8), .unset] [])) t_
      refine XS.aload X6.here hx rfl (hb hby at_55) rfl rfl ?_
      show Steps p_.tables e_ below (T6.setTop (mkF m_ 57 #[.val (.int k), .val (.long a), .second, .val (.long b), .second, .val (.long c), .second, .val (.long d), .second, .val (.int (own_k k)), .val (.ref b1), .val (.ref w8), .unset] [(.ref w8)])) t_
      refine XS.aload X6.here hx rfl (hb hby at_57) rfl rfl ?_
      show Steps p_.tables e_ below (T6.setTop (mkF m_ 59 #[.val (.int k), .val (.long a), .second, .val (.long b), .second, .val (.long c), .second, .val (.long d), .second, .val (.int (own_k k)), .val (.ref b1), .val (.ref w8), .unset] [(.ref b1), (.ref w8)])) t_
      exact k_
    refine own_callV X6 hx hZ (y := (⟨"com/example/adapterd/adapterd/controller/HciCommand", "isListedIn", "([B)Z"⟩ : MethodName)) (z := (⟨"com/example/adapterd/adapterd/controller/HciCommand", "isListedIn", "([B)Z"⟩ : MethodName)) hown (hw _ (List.mem_of_getElem? (i := 12) rfl)) (hw _ (List.mem_of_getElem? (i := 13) rfl)) (notFace_of_selects (args := #[]) (mvT hZ (hw _ (List.mem_of_getElem? (i := 15) rfl)))) (hw _ (List.mem_of_getElem? (i := 15) rfl)) (hw _ (List.mem_of_getElem? (i := 14) rfl)) (hw _ (List.mem_of_getElem? (i := 10) rfl)) (hw _ (List.mem_of_getElem? (i := 16) rfl)) (by decide) w8 [(.ref b1)] [] (E_w8.ext O.2) (rm3 l Z a0 hw w8 b1 k1 (own_put (own_put (own_put (own_put (fun x_ => (0 : Int32)) 0 a) 8 b) 16 c) 24 d) 25 0 25 T5.heap n0 Z0 (F_octet_w8.ext O.2) (F_bit_w8.ext O.2) A_b1 (by decide) (by decide) (by decide)) 0 (by decide) (by decide) e6 (by rw [hml]; rfl) (lenOf own_pd3 rfl) rfl (Nat.le_of_eq rfl) (hb hby at_59) (by decide) (by decide) ?_
    intro v23 T23 L23 X23 q23
    obtain ⟨rfl, N23q, e23⟩ := q23
    have N23 := Fr.app N6 N23q
    show own_Out p_ e_ below s_ _ _ _ T23 (mkF m_ 62 #[.val (.int k), .val (.long a), .second, .val (.long b), .second, .val (.long c), .second, .val (.long d), .second, .val (.int (own_k k)), .val (.ref b1), .val (.ref w8), .unset] [(.int (f3 ((own_put (own_put (own_put (own_put (fun x_ => (0 : Int32)) 0 a) 8 b) 16 c) 24 d) 25) 0))])
    refine own_st T23 (mkF m_ 74 #[.val (.int k), .val (.long a), .second, .val (.long b), .second, .val (.long c), .second, .val (.long d), .second, .val (.int (own_k k)), .val (.ref b1), .val (.ref w8), .val (.int (f3 ((own_put (own_put (own_put (own_put (fun x_ => (0 : Int32)) 0 a) 8 b) 16 c) 24 d) 25) 0))] [(.long d), (.long c), (.long b), (.long a), (.int (own_k k)), (.int (f3 ((own_put (own_put (own_put (own_put (fun x_ => (0 : Int32)) 0 a) 8 b) 16 c) 24 d) 25) 0))]) (fun t_ k_ => ?_) ?_
    · refine XS.istore X23.here hx rfl (hb hby at_62) rfl (l' := #[.val (.int k), .val (.long a), .second, .val (.long b), .second, .val (.long c), .second, .val (.long d), .second, .val (.int (own_k k)), .val (.ref b1), .val (.ref w8), .val (.int (f3 ((own_put (own_put (own_put (own_put (fun x_ => (0 : Int32)) 0 a) 8 b) 16 c) 24 d) 25) 0))]) rfl ?_
      show Steps p_.tables e_ below (T23.setTop (mkF m_ 64 #[.val (.int k), .val (.long a), .second, .val (.long b), .second, .val (.long c), .second, .val (.long d), .second, .val (.int (own_k k)), .val (.ref b1), .val (.ref w8), .val (.int (f3 ((own_put (own_put (own_put (own_put (fun x_ => (0 : Int32)) 0 a) 8 b) 16 c) 24 d) 25) 0))] [])) t_
      refine XS.iload X23.here hx rfl (hb hby at_64) rfl ?_
      show Steps p_.tables e_ below (T23.setTop (mkF m_ 66 #[.val (.int k), .val (.long a), .second, .val (.long b), .second, .val (.long c), .second, .val (.long d), .second, .val (.int (own_k k)), .val (.ref b1), .val (.ref w8), .val (.int (f3 ((own_put (own_put (own_put (own_put (fun x_ => (0 : Int32)) 0 a) 8 b) 16 c) 24 d) 25) 0))] [(.int (f3 ((own_put (own_put (own_put (own_put (fun x_ => (0 : Int32)) 0 a) 8 b) 16 c) 24 d) 25) 0))])) t_
      refine XS.iload X23.here hx rfl (hb hby at_66) rfl ?_
      show Steps p_.tables e_ below (T23.setTop (mkF m_ 68 #[.val (.int k), .val (.long a), .second, .val (.long b), .second, .val (.long c), .second, .val (.long d), .second, .val (.int (own_k k)), .val (.ref b1), .val (.ref w8), .val (.int (f3 ((own_put (own_put (own_put (own_put (fun x_ => (0 : Int32)) 0 a) 8 b) 16 c) 24 d) 25) 0))] [(.int (own_k k)), (.int (f3 ((own_put (own_put (own_put (own_put (fun x_ => (0 : Int32)) 0 a) 8 b) 16 c) 24 d) 25) 0))])) t_
      refine XS.lloadN X23.here hx rfl (hb hby at_68) rfl ?_
      show Steps p_.tables e_ below (T23.setTop (mkF m_ 69 #[.val (.int k), .val (.long a), .second, .val (.long b), .second, .val (.long c), .second, .val (.long d), .second, .val (.int (own_k k)), .val (.ref b1), .val (.ref w8), .val (.int (f3 ((own_put (own_put (own_put (own_put (fun x_ => (0 : Int32)) 0 a) 8 b) 16 c) 24 d) 25) 0))] [(.long a), (.int (own_k k)), (.int (f3 ((own_put (own_put (own_put (own_put (fun x_ => (0 : Int32)) 0 a) 8 b) 16 c) 24 d) 25) 0))])) t_
      refine XS.lloadN X23.here hx rfl (hb hby at_69) rfl ?_
      show Steps p_.tables e_ below (T23.setTop (mkF m_ 70 #[.val (.int k), .val (.long a), .second, .val (.long b), .second, .val (.long c), .second, .val (.long d), .second, .val (.int (own_k k)), .val (.ref b1), .val (.ref w8), .val (.int (f3 ((own_put (own_put (own_put (own_put (fun x_ => (0 : Int32)) 0 a) 8 b) 16 c) 24 d) 25) 0))] [(.long b), (.long a), (.int (own_k k)), (.int (f3 ((own_put (own_put (own_put (own_put (fun x_ => (0 : Int32)) 0 a) 8 b) 16 c) 24 d) 25) 0))])) t_
      refine XS.lload X23.here hx rfl (hb hby at_70) rfl ?_
      show Steps p_.tables e_ below (T23.setTop (mkF m_ 72 #[.val (.int k), .val (.long a), .second, .val (.long b), .second, .val (.long c), .second, .val (.long d), .second, .val (.int (own_k k)), .val (.ref b1), .val (.ref w8), .val (.int (f3 ((own_put (own_put (own_put (own_put (fun x_ => (0 : Int32)) 0 a) 8 b) 16 c) 24 d) 25) 0))] [(.long c), (.long b), (.long a), (.int (own_k k)), (.int (f3 ((own_put (own_put (own_put (own_put (fun x_ => (0 : Int32)) 0 a) 8 b) 16 c) 24 d) 25) 0))])) t_
      refine XS.lload X23.here hx rfl (hb hby at_72) rfl ?_
      show Steps p_.tables e_ below (T23.setTop (mkF m_ 74 #[.val (.int k), .val (.long a), .second, .val (.long b), .second, .val (.long c), .second, .val (.long d), .second, .val (.int (own_k k)), .val (.ref b1), .val (.ref w8), .val (.int (f3 ((own_put (own_put (own_put (own_put (fun x_ => (0 : Int32)) 0 a) 8 b) 16 c) 24 d) 25) 0))] [(.long d), (.long c), (.long b), (.long a), (.int (own_k k)), (.int (f3 ((own_put (own_put (own_put (own_put (fun x_ => (0 : Int32)) 0 a) 8 b) 16 c) 24 d) 25) 0))])) t_
      exact k_
    refine own_callS X23 hx hZ hown (hw _ (List.mem_of_getElem? (i := 19) rfl)) (hw _ (List.mem_of_getElem? (i := 20) rfl)) (hw _ (List.mem_of_getElem? (i := 4) rfl)) (hw _ (List.mem_of_getElem? (i := 21) rfl)) (by decide) [(.int (own_k k)), (.long a), (.long b), (.long c), (.long d)] [(.int (f3 ((own_put (own_put (own_put (own_put (fun x_ => (0 : Int32)) 0 a) 8 b) 16 c) 24 d) 25) 0))] (rm4 l Z a0 hw (own_k k) a b c d T5.heap n0 Z0) 1 (by decide) (by decide) e23 (by rw [hml]; rfl) (lenOf own_pd4 rfl) rfl (Nat.le_of_eq rfl) (hb hby at_74) (by decide) (by decide) ?_
    intro v24 T24 L24 X24 q24
    obtain ⟨rfl, N24q, e24⟩ := q24
    have N24 := Fr.app N23 N24q
    show own_Out p_ e_ below s_ _ _ _ T24 (mkF m_ 77 #[.val (.int k), .val (.long a), .second, .val (.long b), .second, .val (.long c), .second, .val (.long d), .second, .val (.int (own_k k)), .val (.ref b1), .val (.ref w8), .val (.int (f3 ((own_put (own_put (own_put (own_put (fun x_ => (0 : Int32)) 0 a) 8 b) 16 c) 24 d) 25) 0))] [(.int (f4 (own_k k) a b c d)), (.int (f3 ((own_put (own_put (own_put (own_put (fun x_ => (0 : Int32)) 0 a) 8 b) 16 c) 24 d) 25) 0))])
    refine own_st T24 (mkF m_ 85 #[.val (.int k), .val (.long a), .second, .val (.long b), .second, .val (.long c), .second, .val (.long d), .second, .val (.int (own_k k)), .val (.ref b1), .val (.ref w8), .val (.int (f3 ((own_put (own_put (own_put (own_put (fun x_ => (0 : Int32)) 0 a) 8 b) 16 c) 24 d) 25) 0))] [(.int (1 : Int32))]) (fun t_ k_ => ?_) ?_
    · refine XS.icmpNo X24.here hx rfl (hb hby at_77) rfl (teq (own_c8 a b c d _ hi8 : (f3 ((own_put (own_put (own_put (own_put (fun x_ => (0 : Int32)) 0 a) 8 b) 16 c) 24 d) 25) 0) = (f4 (own_k k) a b c d))).2 ?_
      show Steps p_.tables e_ below (T24.setTop (mkF m_ 80 #[.val (.int k), .val (.long a), .second, .val (.long b), .second, .val (.long c), .second, .val (.long d), .second, .val (.int (own_k k)), .val (.ref b1), .val (.ref w8), .val (.int (f3 ((own_put (own_put (own_put (own_put (fun x_ => (0 : Int32)) 0 a) 8 b) 16 c) 24 d) 25) 0))] [])) t_
      refine XS.iconst X24.here hx rfl (hb hby at_80) ?_
      show Steps p_.tables e_ below (T24.setTop (mkF m_ 81 #[.val (.int k), .val (.long a), .second, .val (.long b), .second, .val (.long c), .second, .val (.long d), .second, .val (.int (own_k k)), .val (.ref b1), .val (.ref w8), .val (.int (f3 ((own_put (own_put (own_put (own_put (fun x_ => (0 : Int32)) 0 a) 8 b) 16 c) 24 d) 25) 0))] [(.int (1 : Int32))])) t_
      refine XS.goto X24.here hx rfl (pc0 := 81) (pc' := 85) rfl (hb hby at_81) (by decide) (by decide) ?_
      show Steps p_.tables e_ below (T24.setTop (mkF m_ 85 #[.val (.int k), .val (.long a), .second, .val (.long b), .second, .val (.long c), .second, .val (.long d), .second, .val (.int (own_k k)), .val (.ref b1), .val (.ref w8), .val (.int (f3 ((own_put (own_put (own_put (own_put (fun x_ => (0 : Int32)) 0 a) 8 b) 16 c) 24 d) 25) 0))] [(.int (1 : Int32))])) t_
      exact k_
    refine own_retN X24 hx hlk (t := .boolean) hret (by simp) (hb hby at_85) (by decide) (by decide) ?_
    exact ⟨rfl, N24⟩
  · show own_Out p_ e_ below s_ _ _ _ T6 (mkF m_ 53 #[.val (.int k), .val (.long a), .second, .val (.long b), .second, .val (.long c), .second, .val (.long d), .second, .val (.int (own_k k)), .val (.ref b1), .unset, .unset] [(.ref w9)])
    refine own_st T6 (mkF m_ 59 #[.val (.int k), .val (.long a), .second, .val (.long b), .second, .val (.long c), .second, .val (.long d), .second, .val (.int (own_k k)), .val (.ref b1), .val (.ref w9), .unset] [(.ref b1), (.ref w9)]) (fun t_ k_ => ?_) ?_
    · refine XS.astore X6.here hx rfl (hb hby at_53) rfl rfl (l' := #[.val (.int k), .val (.long a), .second, .val (.long b), .second, .val (.long c), .second, .val (.long d), .second, .val (.int (own_k k)), .val (.ref b1), .val (.ref w9), .unset]) rfl ?_
      show Steps p_.tables e_ below (T6.setTop (mkF m_ 55 #[.val (.int k), .val (.long a), .second, .val (.long b), .second, .val (.long c), .second, .val (.long d), .second, .val (.int (own_k k)), .val (.ref b1), .val (.ref w9), .unset] [])) t_
      refine XS.aload X6.here hx rfl (hb hby at_55) rfl rfl ?_
      show Steps p_.tables e_ below (T6.setTop (mkF m_ 57 #[.val (.int k), .val (.long a), .second, .val (.long b), .second, .val (.long c), .second, .val (.long d), .second, .val (.int (own_k k)), .val (.ref b1), .val (.ref w9), .unset] [(.ref w9)])) t_
      refine XS.aload X6.here hx rfl (hb hby at_57) rfl rfl ?_
      show Steps p_.tables e_ below (T6.setTop (mkF m_ 59 #[.val (.int k), .val (.long a), .second, .val (.long b), .second, .val (.long c), .second, .val (.long d), .second, .val (.int (own_k k)), .val (.ref b1), .val (.ref w9), .unset] [(.ref b1), (.ref w9)])) t_
      exact k_
    refine own_callV X6 hx hZ (y := (⟨"com/example/adapterd/adapterd/controller/HciCommand", "isListedIn", "([B)Z"⟩ : MethodName)) (z := (⟨"com/example/adapterd/adapterd/controller/HciCommand", "isListedIn", "([B)Z"⟩ : MethodName)) hown (hw _ (List.mem_of_getElem? (i := 12) rfl)) (hw _ (List.mem_of_getElem? (i := 13) rfl)) (notFace_of_selects (args := #[]) (mvT hZ (hw _ (List.mem_of_getElem? (i := 15) rfl)))) (hw _ (List.mem_of_getElem? (i := 15) rfl)) (hw _ (List.mem_of_getElem? (i := 14) rfl)) (hw _ (List.mem_of_getElem? (i := 10) rfl)) (hw _ (List.mem_of_getElem? (i := 16) rfl)) (by decide) w9 [(.ref b1)] [] (E_w9.ext O.2) (rm3 l Z a0 hw w9 b1 k1 (own_put (own_put (own_put (own_put (fun x_ => (0 : Int32)) 0 a) 8 b) 16 c) 24 d) 7 0 7 T5.heap n0 Z0 (F_octet_w9.ext O.2) (F_bit_w9.ext O.2) A_b1 (by decide) (by decide) (by decide)) 0 (by decide) (by decide) e6 (by rw [hml]; rfl) (lenOf own_pd3 rfl) rfl (Nat.le_of_eq rfl) (hb hby at_59) (by decide) (by decide) ?_
    intro v25 T25 L25 X25 q25
    obtain ⟨rfl, N25q, e25⟩ := q25
    have N25 := Fr.app N6 N25q
    show own_Out p_ e_ below s_ _ _ _ T25 (mkF m_ 62 #[.val (.int k), .val (.long a), .second, .val (.long b), .second, .val (.long c), .second, .val (.long d), .second, .val (.int (own_k k)), .val (.ref b1), .val (.ref w9), .unset] [(.int (f3 ((own_put (own_put (own_put (own_put (fun x_ => (0 : Int32)) 0 a) 8 b) 16 c) 24 d) 7) 0))])
    refine own_st T25 (mkF m_ 74 #[.val (.int k), .val (.long a), .second, .val (.long b), .second, .val (.long c), .second, .val (.long d), .second, .val (.int (own_k k)), .val (.ref b1), .val (.ref w9), .val (.int (f3 ((own_put (own_put (own_put (own_put (fun x_ => (0 : Int32)) 0 a) 8 b) 16 c) 24 d) 7) 0))] [(.long d), (.long c), (.long b), (.long a), (.int (own_k k)), (.int (f3 ((own_put (own_put (own_put (own_put (fun x_ => (0 : Int32)) 0 a) 8 b) 16 c) 24 d) 7) 0))]) (fun t_ k_ => ?_) ?_
    · refine XS.istore X25.here hx rfl (hb hby at_62) rfl (l' := #[.val (.int k), .val (.long a), .second, .val (.long b), .second, .val (.long c), .second, .val (.long d), .second, .val (.int (own_k k)), .val (.ref b1), .val (.ref w9), .val (.int (f3 ((own_put (own_put (own_put (own_put (fun x_ => (0 : Int32)) 0 a) 8 b) 16 c) 24 d) 7) 0))]) rfl ?_
      show Steps p_.tables e_ below (T25.setTop (mkF m_ 64 #[.val (.int k), .val (.long a), .second, .val (.long b), .second, .val (.long c), .second, .val (.long d), .second, .val (.int (own_k k)), .val (.ref b1), .val (.ref w9), .val (.int (f3 ((own_put (own_put (own_put (own_put (fun x_ => (0 : Int32)) 0 a) 8 b) 16 c) 24 d) 7) 0))] [])) t_
      refine XS.iload X25.here hx rfl (hb hby at_64) rfl ?_
      show Steps p_.tables e_ below (T25.setTop (mkF m_ 66 #[.val (.int k), .val (.long a), .second, .val (.long b), .second, .val (.long c), .second, .val (.long d), .second, .val (.int (own_k k)), .val (.ref b1), .val (.ref w9), .val (.int (f3 ((own_put (own_put (own_put (own_put (fun x_ => (0 : Int32)) 0 a) 8 b) 16 c) 24 d) 7) 0))] [(.int (f3 ((own_put (own_put (own_put (own_put (fun x_ => (0 : Int32)) 0 a) 8 b) 16 c) 24 d) 7) 0))])) t_
      refine XS.iload X25.here hx rfl (hb hby at_66) rfl ?_
      show Steps p_.tables e_ below (T25.setTop (mkF m_ 68 #[.val (.int k), .val (.long a), .second, .val (.long b), .second, .val (.long c), .second, .val (.long d), .second, .val (.int (own_k k)), .val (.ref b1), .val (.ref w9), .val (.int (f3 ((own_put (own_put (own_put (own_put (fun x_ => (0 : Int32)) 0 a) 8 b) 16 c) 24 d) 7) 0))] [(.int (own_k k)), (.int (f3 ((own_put (own_put (own_put (own_put (fun x_ => (0 : Int32)) 0 a) 8 b) 16 c) 24 d) 7) 0))])) t_
      refine XS.lloadN X25.here hx rfl (hb hby at_68) rfl ?_
      show Steps p_.tables e_ below (T25.setTop (mkF m_ 69 #[.val (.int k), .val (.long a), .second, .val (.long b), .second, .val (.long c), .second, .val (.long d), .second, .val (.int (own_k k)), .val (.ref b1), .val (.ref w9), .val (.int (f3 ((own_put (own_put (own_put (own_put (fun x_ => (0 : Int32)) 0 a) 8 b) 16 c) 24 d) 7) 0))] [(.long a), (.int (own_k k)), (.int (f3 ((own_put (own_put (own_put (own_put (fun x_ => (0 : Int32)) 0 a) 8 b) 16 c) 24 d) 7) 0))])) t_
      refine XS.lloadN X25.here hx rfl (hb hby at_69) rfl ?_
      show Steps p_.tables e_ below (T25.setTop (mkF m_ 70 #[.val (.int k), .val (.long a), .second, .val (.long b), .second, .val (.long c), .second, .val (.long d), .second, .val (.int (own_k k)), .val (.ref b1), .val (.ref w9), .val (.int (f3 ((own_put (own_put (own_put (own_put (fun x_ => (0 : Int32)) 0 a) 8 b) 16 c) 24 d) 7) 0))] [(.long b), (.long a), (.int (own_k k)), (.int (f3 ((own_put (own_put (own_put (own_put (fun x_ => (0 : Int32)) 0 a) 8 b) 16 c) 24 d) 7) 0))])) t_
      refine XS.lload X25.here hx rfl (hb hby at_70) rfl ?_
      show Steps p_.tables e_ below (T25.setTop (mkF m_ 72 #[.val (.int k), .val (.long a), .second, .val (.long b), .second, .val (.long c), .second, .val (.long d), .second, .val (.int (own_k k)), .val (.ref b1), .val (.ref w9), .val (.int (f3 ((own_put (own_put (own_put (own_put (fun x_ => (0 : Int32)) 0 a) 8 b) 16 c) 24 d) 7) 0))] [(.long c), (.long b), (.long a), (.int (own_k k)), (.int (f3 ((own_put (own_put (own_put (own_put (fun x_ => (0 : Int32)) 0 a) 8 b) 16 c) 24 d) 7) 0))])) t_
      refine XS.lload X25.here hx rfl (hb hby at_72) rfl ?_
      show Steps p_.tables e_ below (T25.setTop (mkF m_ 74 #[.val (.int k), .val (.long a), .second, .val (.long b), .second, .val (.long c), .second, .val (.long d), .second, .val (.int (own_k k)), .val (.ref b1), .val (.ref w9), .val (.int (f3 ((own_put (own_put (own_put (own_put (fun x_ => (0 : Int32)) 0 a) 8 b) 16 c) 24 d) 7) 0))] [(.long d), (.long c), (.long b), (.long a), (.int (own_k k)), (.int (f3 ((own_put (own_put (own_put (own_put (fun x_ => (0 : Int32)) 0 a) 8 b) 16 c) 24 d) 7) 0))])) t_
      exact k_
    refine own_callS X25 hx hZ hown (hw _ (List.mem_of_getElem? (i := 19) rfl)) (hw _ (List.mem_of_getElem? (i := 20) rfl)) (hw _ (List.mem_of_getElem? (i := 4) rfl)) (hw _ (List.mem_of_getElem? (i := 21) rfl)) (by decide) [(.int (own_k k)), (.long a), (.long b), (.long c), (.long d)] [(.int (f3 ((own_put (own_put (own_put (own_put (fun x_ => (0 : Int32)) 0 a) 8 b) 16 c) 24 d) 7) 0))] (rm4 l Z a0 hw (own_k k) a b c d T5.heap n0 Z0) 1 (by decide) (by decide) e25 (by rw [hml]; rfl) (lenOf own_pd4 rfl) rfl (Nat.le_of_eq rfl) (hb hby at_74) (by decide) (by decide) ?_
    intro v26 T26 L26 X26 q26
    obtain ⟨rfl, N26q, e26⟩ := q26
    have N26 := Fr.app N25 N26q
    show own_Out p_ e_ below s_ _ _ _ T26 (mkF m_ 77 #[.val (.int k), .val (.long a), .second, .val (.long b), .second, .val (.long c), .second, .val (.long d), .second, .val (.int (own_k k)), .val (.ref b1), .val (.ref w9), .val (.int (f3 ((own_put (own_put (own_put (own_put (fun x_ => (0 : Int32)) 0 a) 8 b) 16 c) 24 d) 7) 0))] [(.int (f4 (own_k k) a b c d)), (.int (f3 ((own_put (own_put (own_put (own_put (fun x_ => (0 : Int32)) 0 a) 8 b) 16 c) 24 d) 7) 0))])
    refine own_st T26 (mkF m_ 85 #[.val (.int k), .val (.long a), .second, .val (.long b), .second, .val (.long c), .second, .val (.long d), .second, .val (.int (own_k k)), .val (.ref b1), .val (.ref w9), .val (.int (f3 ((own_put (own_put (own_put (own_put (fun x_ => (0 : Int32)) 0 a) 8 b) 16 c) 24 d) 7) 0))] [(.int (1 : Int32))]) (fun t_ k_ => ?_) ?_
    · refine XS.icmpNo X26.here hx rfl (hb hby at_77) rfl (teq (own_c9 a b c d _ hi9 : (f3 ((own_put (own_put (own_put (own_put (fun x_ => (0 : Int32)) 0 a) 8 b) 16 c) 24 d) 7) 0) = (f4 (own_k k) a b c d))).2 ?_
      show Steps p_.tables e_ below (T26.setTop (mkF m_ 80 #[.val (.int k), .val (.long a), .second, .val (.long b), .second, .val (.long c), .second, .val (.long d), .second, .val (.int (own_k k)), .val (.ref b1), .val (.ref w9), .val (.int (f3 ((own_put (own_put (own_put (own_put (fun x_ => (0 : Int32)) 0 a) 8 b) 16 c) 24 d) 7) 0))] [])) t_
      refine XS.iconst X26.here hx rfl (hb hby at_80) ?_
      show Steps p_.tables e_ below (T26.setTop (mkF m_ 81 #[.val (.int k), .val (.long a), .second, .val (.long b), .second, .val (.long c), .second, .val (.long d), .second, .val (.int (own_k k)), .val (.ref b1), .val (.ref w9), .val (.int (f3 ((own_put (own_put (own_put (own_put (fun x_ => (0 : Int32)) 0 a) 8 b) 16 c) 24 d) 7) 0))] [(.int (1 : Int32))])) t_
      refine XS.goto X26.here hx rfl (pc0 := 81) (pc' := 85) rfl (hb hby at_81) (by decide) (by decide) ?_
      show Steps p_.tables e_ below (T26.setTop (mkF m_ 85 #[.val (.int k), .val (.long a), .second, .val (.long b), .second, .val (.long c), .second, .val (.long d), .second, .val (.int (own_k k)), .val (.ref b1), .val (.ref w9), .val (.int (f3 ((own_put (own_put (own_put (own_put (fun x_ => (0 : Int32)) 0 a) 8 b) 16 c) 24 d) 7) 0))] [(.int (1 : Int32))])) t_
      exact k_
    refine own_retN X26 hx hlk (t := .boolean) hret (by simp) (hb hby at_85) (by decide) (by decide) ?_
    exact ⟨rfl, N26⟩
  · show own_Out p_ e_ below s_ _ _ _ T6 (mkF m_ 53 #[.val (.int k), .val (.long a), .second, .val (.long b), .second, .val (.long c), .second, .val (.long d), .second, .val (.int (own_k k)), .val (.ref b1), .unset, .unset] [(.ref w10)])
    refine own_st T6 (mkF m_ 59 #[.val (.int k), .val (.long a), .second, .val (.long b), .second, .val (.long c), .second, .val (.long d), .second, .val (.int (own_k k)), .val (.ref b1), .val (.ref w10), .unset] [(.ref b1), (.ref w10)]) (fun t_ k_ => ?_) ?_
    · refine XS.astore X6.here hx rfl (hb hby at_53) rfl rfl (l' := #[.val (.int k), .val (.long a), .second, .val (.long b), .second, .val (.long c), .second, .val (.long d), .second, .val (.int (own_k k)), .val (.ref b1), .val (.ref w10), .unset]) rfl ?_
      show Steps p_.tables e_ below (T6.setTop (mkF m_ 55 #[.val (.int k), .val (.long a), .second, .val (.long b), .second, .val (.long c), .second, .val (.long d), .second, .val (.int (own_k k)), .val (.ref b1), .val (.ref w10), .unset] [])) t_
      refine XS.aload X6.here hx rfl (hb hby at_55) rfl rfl ?_
      show Steps p_.tables e_ below (T6.setTop (mkF m_ 57 #[.val (.int k), .val (.long a), .second, .val (.long b), .second, .val (.long c), .second, .val (.long d), .second, .val (.int (own_k k)), .val (.ref b1), .val (.ref w10), .unset] [(.ref w10)])) t_
      refine XS.aload X6.here hx rfl (hb hby at_57) rfl rfl ?_
      show Steps p_.tables e_ below (T6.setTop (mkF m_ 59 #[.val (.int k), .val (.long a), .second, .val (.long b), .second, .val (.long c), .second, .val (.long d), .second, .val (.int (own_k k)), .val (.ref b1), .val (.ref w10), .unset] [(.ref b1), (.ref w10)])) t_
      exact k_
    refine own_callV X6 hx hZ (y := (⟨"com/example/adapterd/adapterd/controller/HciCommand", "isListedIn", "([B)Z"⟩ : MethodName)) (z := (⟨"com/example/adapterd/adapterd/controller/HciCommand", "isListedIn", "([B)Z"⟩ : MethodName)) hown (hw _ (List.mem_of_getElem? (i := 12) rfl)) (hw _ (List.mem_of_getElem? (i := 13) rfl)) (notFace_of_selects (args := #[]) (mvT hZ (hw _ (List.mem_of_getElem? (i := 15) rfl)))) (hw _ (List.mem_of_getElem? (i := 15) rfl)) (hw _ (List.mem_of_getElem? (i := 14) rfl)) (hw _ (List.mem_of_getElem? (i := 10) rfl)) (hw _ (List.mem_of_getElem? (i := 16) rfl)) (by decide) w10 [(.ref b1)] [] (E_w10.ext O.2) (rm3 l Z a0 hw w10 b1 k1 (own_put (own_put (own_put (own_put (fun x_ => (0 : Int32)) 0 a) 8 b) 16 c) 24 d) 9 1 9 T5.heap n0 Z0 (F_octet_w10.ext O.2) (F_bit_w10.ext O.2) A_b1 (by decide) (by decide) (by decide)) 0 (by decide) (by decide) e6 (by rw [hml]; rfl) (lenOf own_pd3 rfl) rfl (Nat.le_of_eq rfl) (hb hby at_59) (by decide) (by decide) ?_
    intro v27 T27 L27 X27 q27
    obtain ⟨rfl, N27q, e27⟩ := q27
    have N27 := Fr.app N6 N27q
    show own_Out p_ e_ below s_ _ _ _ T27 (mkF m_ 62 #[.val (.int k), .val (.long a), .second, .val (.long b), .second, .val (.long c), .second, .val (.long d), .second, .val (.int (own_k k)), .val (.ref b1), .val (.ref w10), .unset] [(.int (f3 ((own_put (own_put (own_put (own_put (fun x_ => (0 : Int32)) 0 a) 8 b) 16 c) 24 d) 9) 1))])
    refine own_st T27 (mkF m_ 74 #[.val (.int k), .val (.long a), .second, .val (.long b), .second, .val (.long c), .second, .val (.long d), .second, .val (.int (own_k k)), .val (.ref b1), .val (.ref w10), .val (.int (f3 ((own_put (own_put (own_put (own_put (fun x_ => (0 : Int32)) 0 a) 8 b) 16 c) 24 d) 9) 1))] [(.long d), (.long c), (.long b), (.long a), (.int (own_k k)), (.int (f3 ((own_put (own_put (own_put (own_put (fun x_ => (0 : Int32)) 0 a) 8 b) 16 c) 24 d) 9) 1))]) (fun t_ k_ => ?_) ?_
    · refine XS.istore X27.here hx rfl (hb hby at_62) rfl (l' := #[.val (.int k), .val (.long a), .second, .val (.long b), .second, .val (.long c), .second, .val (.long d), .second, .val (.int (own_k k)), .val (.ref b1), .val (.ref w10), .val (.int (f3 ((own_put (own_put (own_put (own_put (fun x_ => (0 : Int32)) 0 a) 8 b) 16 c) 24 d) 9) 1))]) rfl ?_
      show Steps p_.tables e_ below (T27.setTop (mkF m_ 64 #[.val (.int k), .val (.long a), .second, .val (.long b), .second, .val (.long c), .second, .val (.long d), .second, .val (.int (own_k k)), .val (.ref b1), .val (.ref w10), .val (.int (f3 ((own_put (own_put (own_put (own_put (fun x_ => (0 : Int32)) 0 a) 8 b) 16 c) 24 d) 9) 1))] [])) t_
      refine XS.iload X27.here hx rfl (hb hby at_64) rfl ?_
      show Steps p_.tables e_ below (T27.setTop (mkF m_ 66 #[.val (.int k), .val (.long a), .second, .val (.long b), .second, .val (.long c), .second, .val (.long d), .second, .val (.int (own_k k)), .val (.ref b1), .val (.ref w10), .val (.int (f3 ((own_put (own_put (own_put (own_put (fun x_ => (0 : Int32)) 0 a) 8 b) 16 c) 24 d) 9) 1))] [(.int (f3 ((own_put (own_put (own_put (own_put (fun x_ => (0 : Int32)) 0 a) 8 b) 16 c) 24 d) 9) 1))])) t_
      refine XS.iload X27.here hx rfl (hb hby at_66) rfl ?_
      show Steps p_.tables e_ below (T27.setTop (mkF m_ 68 #[.val (.int k), .val (.long a), .second, .val (.long b), .second, .val (.long c), .second, .val (.long d), .second, .val (.int (own_k k)), .val (.ref b1), .val (.ref w10), .val (.int (f3 ((own_put (own_put (own_put (own_put (fun x_ => (0 : Int32)) 0 a) 8 b) 16 c) 24 d) 9) 1))] [(.int (own_k k)), (.int (f3 ((own_put (own_put (own_put (own_put (fun x_ => (0 : Int32)) 0 a) 8 b) 16 c) 24 d) 9) 1))])) t_
      refine XS.lloadN X27.here hx rfl (hb hby at_68) rfl ?_
      show Steps p_.tables e_ below (T27.setTop (mkF m_ 69 #[.val (.int k), .val (.long a), .second, .val (.long b), .second, .val (.long c), .second, .val (.long d), .second, .val (.int (own_k k)), .val (.ref b1), .val (.ref w10), .val (.int (f3 ((own_put (own_put (own_put (own_put (fun x_ => (0 : Int32)) 0 a) 8 b) 16 c) 24 d) 9) 1))] [(.long a), (.int (own_k k)), (.int (f3 ((own_put (own_put (own_put (own_put (fun x_ => (0 : Int32)) 0 a) 8 b) 16 c) 24 d) 9) 1))])) t_
      refine XS.lloadN X27.here hx rfl (hb hby at_69) rfl ?_
      show Steps p_.tables e_ below (T27.setTop (mkF m_ 70 #[.val (.int k), .val (.long a), .second, .val (.long b), .second, .val (.long c), .second, .val (.long d), .second, .val (.int (own_k k)), .val (.ref b1), .val (.ref w10), .val (.int (f3 ((own_put (own_put (own_put (own_put (fun x_ => (0 : Int32)) 0 a) 8 b) 16 c) 24 d) 9) 1))] [(.long b), (.long a), (.int (own_k k)), (.int (f3 ((own_put (own_put (own_put (own_put (fun x_ => (0 : Int32)) 0 a) 8 b) 16 c) 24 d) 9) 1))])) t_
      refine XS.lload X27.here hx rfl (hb hby at_70) rfl ?_
      show Steps p_.tables e_ below (T27.setTop (mkF m_ 72 #[.val (.int k), .val (.long a), .second, .val (.long b), .second, .val (.long c), .second, .val (.long d), .second, .val (.int (own_k k)), .val (.ref b1), .val (.ref w10), .val (.int (f3 ((own_put (own_put (own_put (own_put (fun x_ => (0 : Int32)) 0 a) 8 b) 16 c) 24 d) 9) 1))] [(.long c), (.long b), (.long a), (.int (own_k k)), (.int (f3 ((own_put (own_put (own_put (own_put (fun x_ => (0 : Int32)) 0 a) 8 b) 16 c) 24 d) 9) 1))])) t_
      refine XS.lload X27.here hx rfl (hb hby at_72) rfl ?_
      show Steps p_.tables e_ below (T27.setTop (mkF m_ 74 #[.val (.int k), .val (.long a), .second, .val (.long b), .second, .val (.long c), .second, .val (.long d), .second, .val (.int (own_k k)), .val (.ref b1), .val (.ref w10), .val (.int (f3 ((own_put (own_put (own_put (own_put (fun x_ => (0 : Int32)) 0 a) 8 b) 16 c) 24 d) 9) 1))] [(.long d), (.long c), (.long b), (.long a), (.int (own_k k)), (.int (f3 ((own_put (own_put (own_put (own_put (fun x_ => (0 : Int32)) 0 a) 8 b) 16 c) 24 d) 9) 1))])) t_
      exact k_
    refine own_callS X27 hx hZ hown (hw _ (List.mem_of_getElem? (i := 19) rfl)) (hw _ (List.mem_of_getElem? (i := 20) rfl)) (hw _ (List.mem_of_getElem? (i := 4) rfl)) (hw _ (List.mem_of_getElem? (i := 21) rfl)) (by decide) [(.int (own_k k)), (.long a), (.long b), (.long c), (.long d)] [(.int (f3 ((own_put (own_put (own_put (own_put (fun x_ => (0 : Int32)) 0 a) 8 b) 16 c) 24 d) 9) 1))] (rm4 l Z a0 hw (own_k k) a b c d T5.heap n0 Z0) 1 (by decide) (by decide) e27 (by rw [hml]; rfl) (lenOf own_pd4 rfl) rfl (Nat.le_of_eq rfl) (hb hby at_74) (by decide) (by decide) ?_
    intro v28 T28 L28 X28 q28
    obtain ⟨rfl, N28q, e28⟩ := q28
    have N28 := Fr.app N27 N28q
    show own_Out p_ e_ below s_ _ _ _ T28 (mkF m_ 77 #[.val (.int k), .val (.long a), .second, .val (.long b), .second, .val (.long c), .second, .val (.long d), .second, .val (.int (own_k k)), .val (.ref b1), .val (.ref w10), .val (.int (f3 ((own_put (own_put (own_put (own_put (fun x_ => (0 : Int32)) 0 a) 8 b) 16 c) 24 d) 9) 1))] [(.int (f4 (own_k k) a b c d)), (.int (f3 ((own_put (own_put (own_put (own_put (fun x_ => (0 : Int32)) 0 a) 8 b) 16 c) 24 d) 9) 1))])
    refine own_st T28 (mkF m_ 85 #[.val (.int k), .val (.long a), .second, .val (.long b), .second, .val (.long c), .second, .val (.long d), .second, .val (.int (own_k k)), .val (.ref b1), .val (.ref w10), .val (.int (f3 ((own_put (own_put (own_put (own_put (fun x_ => (0 : Int32)) 0 a) 8 b) 16 c) 24 d) 9) 1))] [(.int (1 : Int32))]) (fun t_ k_ => ?_) ?_
    · refine XS.icmpNo X28.here hx rfl (hb hby at_77) rfl (teq (own_c10 a b c d _ hi10 : (f3 ((own_put (own_put (own_put (own_put (fun x_ => (0 : Int32)) 0 a) 8 b) 16 c) 24 d) 9) 1) = (f4 (own_k k) a b c d))).2 ?_
      show Steps p_.tables e_ below (T28.setTop (mkF m_ 80 #[.val (.int k), .val (.long a), .second, .val (.long b), .second, .val (.long c), .second, .val (.long d), .second, .val (.int (own_k k)), .val (.ref b1), .val (.ref w10), .val (.int (f3 ((own_put (own_put (own_put (own_put (fun x_ => (0 : Int32)) 0 a) 8 b) 16 c) 24 d) 9) 1))] [])) t_
      refine XS.iconst X28.here hx rfl (hb hby at_80) ?_
      show Steps p_.tables e_ below (T28.setTop (mkF m_ 81 #[.val (.int k), .val (.long a), .second, .val (.long b), .second, .val (.long c), .second, .val (.long d), .second, .val (.int (own_k k)), .val (.ref b1), .val (.ref w10), .val (.int (f3 ((own_put (own_put (own_put (own_put (fun x_ => (0 : Int32)) 0 a) 8 b) 16 c) 24 d) 9) 1))] [(.int (1 : Int32))])) t_
      refine XS.goto X28.here hx rfl (pc0 := 81) (pc' := 85) rfl (hb hby at_81) (by decide) (by decide) ?_
      show Steps p_.tables e_ below (T28.setTop (mkF m_ 85 #[.val (.int k), .val (.long a), .second, .val (.long b), .second, .val (.long c), .second, .val (.long d), .second, .val (.int (own_k k)), .val (.ref b1), .val (.ref w10), .val (.int (f3 ((own_put (own_put (own_put (own_put (fun x_ => (0 : Int32)) 0 a) 8 b) 16 c) 24 d) 9) 1))] [(.int (1 : Int32))])) t_
      exact k_
    refine own_retN X28 hx hlk (t := .boolean) hret (by simp) (hb hby at_85) (by decide) (by decide) ?_
    exact ⟨rfl, N28⟩
  · show own_Out p_ e_ below s_ _ _ _ T6 (mkF m_ 53 #[.val (.int k), .val (.long a), .second, .val (.long b), .second, .val (.long c), .second, .val (.long d), .second, .val (.int (own_k k)), .val (.ref b1), .unset, .unset] [(.ref w11)])
    refine own_st T6 (mkF m_ 59 #[.val (.int k), .val (.long a), .second, .val (.long b), .second, .val (.long c), .second, .val (.long d), .second, .val (.int (own_k k)), .val (.ref b1), .val (.ref w11), .unset] [(.ref b1), (.ref w11)]) (fun t_ k_ => ?_) ?_
    · refine XS.astore X6.here hx rfl (hb hby at_53) rfl rfl (l' := #[.val (.int k), .val (.long a), .second, .val (.long b), .second, .val (.long c), .second, .val (.long d), .second, .val (.int (own_k k)), .val (.ref b1), .val (.ref w11), .unset]) rfl ?_
      show Steps p_.tables e_ below (T6.setTop (mkF m_ 55 #[.val (.int k), .val (.long a), .second, .val (.long b), .second, .val (.long c), .second, .val (.long d), .second, .val (.int (own_k k)), .val (.ref b1), .val (.ref w11), .unset] [])) t_
      refine XS.aload X6.here hx rfl (hb hby at_55) rfl rfl ?_
      show Steps p_.tables e_ below (T6.setTop (mkF m_ 57 #[.val (.int k), .val (.long a), .second, .val (.long b), .second, .val (.long c), .second, .val (.long d), .second, .val (.int (own_k k)), .val (.ref b1), .val (.ref w11), .unset] [(.ref w11)])) t_
      refine XS.aload X6.here hx rfl (hb hby at_57) rfl rfl ?_
      show Steps p_.tables e_ below (T6.setTop (mkF m_ 59 #[.val (.int k), .val (.long a), .second, .val (.long b), .second, .val (.long c), .second, .val (.long d), .second, .val (.int (own_k k)), .val (.ref b1), .val (.ref w11), .unset] [(.ref b1), (.ref w11)])) t_
      exact k_
    refine own_callV X6 hx hZ (y := (⟨"com/example/adapterd/adapterd/controller/HciCommand", "isListedIn", "([B)Z"⟩ : MethodName)) (z := (⟨"com/example/adapterd/adapterd/controller/HciCommand", "isListedIn", "([B)Z"⟩ : MethodName)) hown (hw _ (List.mem_of_getElem? (i := 12) rfl)) (hw _ (List.mem_of_getElem? (i := 13) rfl)) (notFace_of_selects (args := #[]) (mvT hZ (hw _ (List.mem_of_getElem? (i := 15) rfl)))) (hw _ (List.mem_of_getElem? (i := 15) rfl)) (hw _ (List.mem_of_getElem? (i := 14) rfl)) (hw _ (List.mem_of_getElem? (i := 10) rfl)) (hw _ (List.mem_of_getElem? (i := 16) rfl)) (by decide) w11 [(.ref b1)] [] (E_w11.ext O.2) (rm3 l Z a0 hw w11 b1 k1 (own_put (own_put (own_put (own_put (fun x_ => (0 : Int32)) 0 a) 8 b) 16 c) 24 d) 7 7 7 T5.heap n0 Z0 (F_octet_w11.ext O.2) (F_bit_w11.ext O.2) A_b1 (by decide) (by decide) (by decide)) 0 (by decide) (by decide) e6 (by rw [hml]; rfl) (lenOf own_pd3 rfl) rfl (Nat.le_of_eq rfl) (hb hby at_59) (by decide) (by decide) ?_
    intro v29 T29 L29 X29 q29
    obtain ⟨rfl, N29q, e29⟩ := q29
    have N29 := Fr.app N6 N29q
    show own_Out p_ e_ below s_ _ _ _ T29 (mkF m_ 62 #[.val (.int k), .val (.long a), .second, .val (.long b), .second, .val (.long c), .second, .val (.long d), .second, .val (.int (own_k k)), .val (.ref b1), .val (.ref w11), .unset] [(.int (f3 ((own_put (own_put (own_put (own_put (fun x_ => (0 : Int32)) 0 a) 8 b) 16 c) 24 d) 7) 7))])
    refine own_st T29 (mkF m_ 74 #[.val (.int k), .val (.long a), .second, .val (.long b), .second, .val (.long c), .second, .val (.long d), .second, .val (.int (own_k k)), .val (.ref b1), .val (.ref w11), .val (.int (f3 ((own_put (own_put (own_put (own_put (fun x_ => (0 : Int32)) 0 a) 8 b) 16 c) 24 d) 7) 7))] [(.long d), (.long c), (.long b), (.long a), (.int (own_k k)), (.int (f3 ((own_put (own_put (own_put (own_put (fun x_ => (0 : Int32)) 0 a) 8 b) 16 c) 24 d) 7) 7))]) (fun t_ k_ => ?_) ?_
    · refine XS.istore X29.here hx rfl (hb hby at_62) rfl (l' := #[.val (.int k), .val (.long a), .second, .val (.long b), .second, .val (.long c), .second, .val (.long d), .second, .val (.int (own_k k)), .val (.ref b1), .val (.ref w11), .val (.int (f3 ((own_put (own_put (own_put (own_put (fun x_ => (0 : Int32)) 0 a) 8 b) 16 c) 24 d) 7) 7))]) rfl ?_
      show Steps p_.tables e_ below (T29.setTop (mkF m_ 64 #[.val (.int k), .val (.long a), .second, .val (.long b), .second, .val (.long c), .second, .val (.long d), .second, .val (.int (own_k k)), .val (.ref b1), .val (.ref w11), .val (.int (f3 ((own_put (own_put (own_put (own_put (fun x_ => (0 : Int32)) 0 a) 8 b) 16 c) 24 d) 7) 7))] [])) t_
      refine XS.iload X29.here hx rfl (hb hby at_64) rfl ?_
      show Steps p_.tables e_ below (T29.setTop (mkF m_ 66 #[.val (.int k), .val (.long a), .second, .val (.long b), .second, .val (.long c), .second, .val (.long d), .second, .val (.int (own_k k)), .val (.ref b1), .val (.ref w11), .val (.int (f3 ((own_put (own_put (own_put (own_put (fun x_ => (0 : Int32)) 0 a) 8 b) 16 c) 24 d) 7) 7))] [(.int (f3 ((own_put (own_put (own_put (own_put (fun x_ => (0 : Int32)) 0 a) 8 b) 16 c) 24 d) 7) 7))])) t_
      refine XS.iload X29.here hx rfl (hb hby at_66) rfl ?_
      show Steps p_.tables e_ below (T29.setTop (mkF m_ 68 #[.val (.int k), .val (.long a), .second, .val (.long b), .second, .val (.long c), .second, .val (.long d), .second, .val (.int (own_k k)), .val (.ref b1), .val (.ref w11), .val (.int (f3 ((own_put (own_put (own_put (own_put (fun x_ => (0 : Int32)) 0 a) 8 b) 16 c) 24 d) 7) 7))] [(.int (own_k k)), (.int (f3 ((own_put (own_put (own_put (own_put (fun x_ => (0 : Int32)) 0 a) 8 b) 16 c) 24 d) 7) 7))])) t_
      refine XS.lloadN X29.here hx rfl (hb hby at_68) rfl ?_
      show Steps p_.tables e_ below (T29.setTop (mkF m_ 69 #[.val (.int k), .val (.long a), .second, .val (.long b), .second, .val (.long c), .second, .val (.long d), .second, .val (.int (own_k k)), .val (.ref b1), .val (.ref w11), .val (.int (f3 ((own_put (own_put (own_put (own_put (fun x_ => (0 : Int32)) 0 a) 8 b) 16 c) 24 d) 7) 7))] [(.long a), (.int (own_k k)), (.int (f3 ((own_put (own_put (own_put (own_put (fun x_ => (0 : Int32)) 0 a) 8 b) 16 c) 24 d) 7) 7))])) t_
      refine XS.lloadN X29.here hx rfl (hb hby at_69) rfl ?_
      show Steps p_.tables e_ below (T29.setTop (mkF m_ 70 #[.val (.int k), .val (.long a), .second, .val (.long b), .second, .val (.long c), .second, .val (.long d), .second, .val (.int (own_k k)), .val (.ref b1), .val (.ref w11), .val (.int (f3 ((own_put (own_put (own_put (own_put (fun x_ => (0 : Int32)) 0 a) 8 b) 16 c) 24 d) 7) 7))] [(.long b), (.long a), (.int (own_k k)), (.int (f3 ((own_put (own_put (own_put (own_put (fun x_ => (0 : Int32)) 0 a) 8 b) 16 c) 24 d) 7) 7))])) t_
      refine XS.lload X29.here hx rfl (hb hby at_70) rfl ?_
      show Steps p_.tables e_ below (T29.setTop (mkF m_ 72 #[.val (.int k), .val (.long a), .second, .val (.long b), .second, .val (.long c), .second, .val (.long d), .second, .val (.int (own_k k)), .val (.ref b1), .val (.ref w11), .val (.int (f3 ((own_put (own_put (own_put (own_put (fun x_ => (0 : Int32)) 0 a) 8 b) 16 c) 24 d) 7) 7))] [(.long c), (.long b), (.long a), (.int (own_k k)), (.int (f3 ((own_put (own_put (own_put (own_put (fun x_ => (0 : Int32)) 0 a) 8 b) 16 c) 24 d) 7) 7))])) t_
      refine XS.lload X29.here hx rfl (hb hby at_72) rfl ?_
      show Steps p_.tables e_ below (T29.setTop (mkF m_ 74 #[.val (.int k), .val (.long a), .second, .val (.long b), .second, .val (.long c), .second, .val (.long d), .second, .val (.int (own_k k)), .val (.ref b1), .val (.ref w11), .val (.int (f3 ((own_put (own_put (own_put (own_put (fun x_ => (0 : Int32)) 0 a) 8 b) 16 c) 24 d) 7) 7))] [(.long d), (.long c), (.long b), (.long a), (.int (own_k k)), (.int (f3 ((own_put (own_put (own_put (own_put (fun x_ => (0 : Int32)) 0 a) 8 b) 16 c) 24 d) 7) 7))])) t_
      exact k_
    refine own_callS X29 hx hZ hown (hw _ (List.mem_of_getElem? (i := 19) rfl)) (hw _ (List.mem_of_getElem? (i := 20) rfl)) (hw _ (List.mem_of_getElem? (i := 4) rfl)) (hw _ (List.mem_of_getElem? (i := 21) rfl)) (by decide) [(.int (own_k k)), (.long a), (.long b), (.long c), (.long d)] [(.int (f3 ((own_put (own_put (own_put (own_put (fun x_ => (0 : Int32)) 0 a) 8 b) 16 c) 24 d) 7) 7))] (rm4 l Z a0 hw (own_k k) a b c d T5.heap n0 Z0) 1 (by decide) (by decide) e29 (by rw [hml]; rfl) (lenOf own_pd4 rfl) rfl (Nat.le_of_eq rfl) (hb hby at_74) (by decide) (by decide) ?_
    intro v30 T30 L30 X30 q30
    obtain ⟨rfl, N30q, e30⟩ := q30
    have N30 := Fr.app N29 N30q
    show own_Out p_ e_ below s_ _ _ _ T30 (mkF m_ 77 #[.val (.int k), .val (.long a), .second, .val (.long b), .second, .val (.long c), .second, .val (.long d), .second, .val (.int (own_k k)), .val (.ref b1), .val (.ref w11), .val (.int (f3 ((own_put (own_put (own_put (own_put (fun x_ => (0 : Int32)) 0 a) 8 b) 16 c) 24 d) 7) 7))] [(.int (f4 (own_k k) a b c d)), (.int (f3 ((own_put (own_put (own_put (own_put (fun x_ => (0 : Int32)) 0 a) 8 b) 16 c) 24 d) 7) 7))])
    refine own_st T30 (mkF m_ 85 #[.val (.int k), .val (.long a), .second, .val (.long b), .second, .val (.long c), .second, .val (.long d), .second, .val (.int (own_k k)), .val (.ref b1), .val (.ref w11), .val (.int (f3 ((own_put (own_put (own_put (own_put (fun x_ => (0 : Int32)) 0 a) 8 b) 16 c) 24 d) 7) 7))] [(.int (1 : Int32))]) (fun t_ k_ => ?_) ?_
    · refine XS.icmpNo X30.here hx rfl (hb hby at_77) rfl (teq (own_c11 a b c d _ hn0 hn1 hn2 hn3 hn4 hn5 hn6 hn7 hn8 hn9 hn10 : (f3 ((own_put (own_put (own_put (own_put (fun x_ => (0 : Int32)) 0 a) 8 b) 16 c) 24 d) 7) 7) = (f4 (own_k k) a b c d))).2 ?_
      show Steps p_.tables e_ below (T30.setTop (mkF m_ 80 #[.val (.int k), .val (.long a), .second, .val (.long b), .second, .val (.long c), .second, .val (.long d), .second, .val (.int (own_k k)), .val (.ref b1), .val (.ref w11), .val (.int (f3 ((own_put (own_put (own_put (own_put (fun x_ => (0 : Int32)) 0 a) 8 b) 16 c) 24 d) 7) 7))] [])) t_
      refine XS.iconst X30.here hx rfl (hb hby at_80) ?_
      show Steps p_.tables e_ below (T30.setTop (mkF m_ 81 #[.val (.int k), .val (.long a), .second, .val (.long b), .second, .val (.long c), .second, .val (.long d), .second, .val (.int (own_k k)), .val (.ref b1), .val (.ref w11), .val (.int (f3 ((own_put (own_put (own_put (own_put (fun x_ => (0 : Int32)) 0 a) 8 b) 16 c) 24 d) 7) 7))] [(.int (1 : Int32))])) t_
      refine XS.goto X30.here hx rfl (pc0 := 81) (pc' := 85) rfl (hb hby at_81) (by decide) (by decide) ?_
      show Steps p_.tables e_ below (T30.setTop (mkF m_ 85 #[.val (.int k), .val (.long a), .second, .val (.long b), .second, .val (.long c), .second, .val (.long d), .second, .val (.int (own_k k)), .val (.ref b1), .val (.ref w11), .val (.int (f3 ((own_put (own_put (own_put (own_put (fun x_ => (0 : Int32)) 0 a) 8 b) 16 c) 24 d) 7) 7))] [(.int (1 : Int32))])) t_
      exact k_
    refine own_retN X30 hx hlk (t := .boolean) hret (by simp) (hb hby at_85) (by decide) (by decide) ?_
    exact ⟨rfl, N30⟩
set_option maxRecDepth 65536 in
set_option maxHeartbeats 40000000 in
theorem comes_1 {Post : Tables → Env → Array Value → State → Outcome → State → Prop} (hpost : ∀ tb e args s v u, (limb_1_1.after args s (.returned v) u = true ∧ limb_1_2.after args s (.returned v) u = true ∧ True) → FrameEnd s (.returned v) u (Jvm.fieldLocs frame_1_writes args s ++ Jvm.arrayLocs frame_1_arrays args s ++ Jvm.staticLocs frame_1_statics s) 16 192 → Post tb e args s (.returned v) u) :
    ArmFor flags0 classFile x code maxLocals ret World_1 tables_1 room_1 Calls_1 rest_1 Pre_1 Post := by
  intro l hfl _ _ p e ha hc hk s m args below hf hA hF happ hP
  obtain ⟨hcalls, hrest, hpre⟩ := hP
  obtain ⟨-, -, -, hnamed, -, -, -, hat⟩ := (Spec.applies_iff hf).mp happ
  obtain ⟨hg, hn⟩ := and_e (Cond.before_iff.mp (show (Jvm.Cond.and given_1 narrow_1).before args s = true from hpre))
  obtain ⟨c0, r0⟩ := and_e hg
  obtain ⟨k0, r1⟩ := and_e r0
  obtain ⟨k1, r2⟩ := and_e r1
  obtain ⟨k2, r3⟩ := and_e r2
  obtain ⟨k3, r4⟩ := and_e r3
  obtain ⟨w0, w1, w2, w3, w4, rfl⟩ : ∃ w0 w1 w2 w3 w4 : Value, args = #[w0, w1, w2, w3, w4] := by
    have hs : args.size = 5 := by simpa [Cond.value, given_1] using c0
    obtain ⟨L⟩ := args
    match L, hs with
    | [w0, w1, w2, w3, w4], _ => exact ⟨w0, w1, w2, w3, w4, rfl⟩
  have hw := fun d (hd : d ∈ tables_1) => atoms_spec (ws := Jvm.Cond.code x code maxLocals ret :: tables_1) hat d (List.mem_cons_of_mem _ hd)
  have hfit : Fit s := fun {y c} hc i hi => by
    obtain ⟨ha, rfl⟩ := Array.getElem?_eq_some_iff.mp hc
    have q := List.all_eq_true.mp ((Array.all_eq_true_iff_forall_mem.mp hF) _ (Array.getElem_mem ha)) i (List.mem_range.mpr hi)
    simpa [Array.getElem?_eq_getElem hi] using q
  obtain ⟨i0, ei0⟩ := is_v k0
  obtain rfl : w0 = (.int i0) := Option.some.inj ei0
  obtain ⟨i1, ei1⟩ := isL_v k1
  obtain rfl : w1 = (.long i1) := Option.some.inj ei1
  obtain ⟨i2, ei2⟩ := isL_v k2
  obtain rfl : w2 = (.long i2) := Option.some.inj ei2
  obtain ⟨i3, ei3⟩ := isL_v k3
  obtain rfl : w3 = (.long i3) := Option.some.inj ei3
  obtain ⟨i4, ei4⟩ := isL_v r4
  obtain rfl : w4 = (.long i4) := Option.some.inj ei4
  obtain ⟨xe0, rr0⟩ := and_e hn
  obtain ⟨xo0, rr1⟩ := and_e rr0
  obtain ⟨xe8, rr2⟩ := and_e rr1
  obtain ⟨xo8, rr3⟩ := and_e rr2
  obtain ⟨xt8, rr4⟩ := and_e rr3
  obtain ⟨xe1, rr5⟩ := and_e rr4
  obtain ⟨xo1, rr6⟩ := and_e rr5
  obtain ⟨xe10, rr7⟩ := and_e rr6
  obtain ⟨xo10, rr8⟩ := and_e rr7
  obtain ⟨xt10, rr9⟩ := and_e rr8
  obtain ⟨xe2, rr10⟩ := and_e rr9
  obtain ⟨xo2, rr11⟩ := and_e rr10
  obtain ⟨xt2, rr12⟩ := and_e rr11
  obtain ⟨xe11, rr13⟩ := and_e rr12
  obtain ⟨xo11, rr14⟩ := and_e rr13
  obtain ⟨xt11, rr15⟩ := and_e rr14
  obtain ⟨xe5, rr16⟩ := and_e rr15
  obtain ⟨xo5, rr17⟩ := and_e rr16
  obtain ⟨xt5, rr18⟩ := and_e rr17
  obtain ⟨xe4, rr19⟩ := and_e rr18
  obtain ⟨xo4, rr20⟩ := and_e rr19
  obtain ⟨xt4, rr21⟩ := and_e rr20
  obtain ⟨xe6, rr22⟩ := and_e rr21
  obtain ⟨xo6, rr23⟩ := and_e rr22
  obtain ⟨xt6, rr24⟩ := and_e rr23
  obtain ⟨xe3, rr25⟩ := and_e rr24
  obtain ⟨xo3, rr26⟩ := and_e rr25
  obtain ⟨xt3, rr27⟩ := and_e rr26
  obtain ⟨xe9, rr28⟩ := and_e rr27
  obtain ⟨xo9, rr29⟩ := and_e rr28
  obtain ⟨xt9, rr30⟩ := and_e rr29
  obtain ⟨xe7, rr31⟩ := and_e rr30
  obtain ⟨xo7, rr32⟩ := and_e rr31
  obtain ⟨xt7, rr33⟩ := and_e rr32
  obtain ⟨xt0, rr34⟩ := and_e rr33
  have xt1 := rr34
  obtain ⟨w0v, v0⟩ := exa_v xe0
  have E0 := Exa.start v0 xe0
  have Fo0 := own_fv xo0 v0
  have Fb0 := own_fv xt0 v0
  have S0 := Sta.start v0 (Or.inr ⟨(hw _ (List.mem_of_getElem? (i := 10) rfl)), (hw _ (List.mem_of_getElem? (i := 11) rfl))⟩)
  obtain ⟨w1v, v1⟩ := exa_v xe1
  have E1 := Exa.start v1 xe1
  have Fo1 := own_fv xo1 v1
  have Fb1 := own_fv xt1 v1
  have S1 := Sta.start v1 (Or.inr ⟨(hw _ (List.mem_of_getElem? (i := 10) rfl)), (hw _ (List.mem_of_getElem? (i := 30) rfl))⟩)
  obtain ⟨w2v, v2⟩ := exa_v xe2
  have E2 := Exa.start v2 xe2
  have Fo2 := own_fv xo2 v2
  have Fb2 := own_fv xt2 v2
  have S2 := Sta.start v2 (Or.inr ⟨(hw _ (List.mem_of_getElem? (i := 10) rfl)), (hw _ (List.mem_of_getElem? (i := 34) rfl))⟩)
  obtain ⟨w3v, v3⟩ := exa_v xe3
  have E3 := Exa.start v3 xe3
  have Fo3 := own_fv xo3 v3
  have Fb3 := own_fv xt3 v3
  have S3 := Sta.start v3 (Or.inr ⟨(hw _ (List.mem_of_getElem? (i := 10) rfl)), (hw _ (List.mem_of_getElem? (i := 44) rfl))⟩)
  obtain ⟨w4v, v4⟩ := exa_v xe4
  have E4 := Exa.start v4 xe4
  have Fo4 := own_fv xo4 v4
  have Fb4 := own_fv xt4 v4
  have S4 := Sta.start v4 (Or.inr ⟨(hw _ (List.mem_of_getElem? (i := 10) rfl)), (hw _ (List.mem_of_getElem? (i := 40) rfl))⟩)
  obtain ⟨w5v, v5⟩ := exa_v xe5
  have E5 := Exa.start v5 xe5
  have Fo5 := own_fv xo5 v5
  have Fb5 := own_fv xt5 v5
  have S5 := Sta.start v5 (Or.inr ⟨(hw _ (List.mem_of_getElem? (i := 10) rfl)), (hw _ (List.mem_of_getElem? (i := 38) rfl))⟩)
  obtain ⟨w6v, v6⟩ := exa_v xe6
  have E6 := Exa.start v6 xe6
  have Fo6 := own_fv xo6 v6
  have Fb6 := own_fv xt6 v6
  have S6 := Sta.start v6 (Or.inr ⟨(hw _ (List.mem_of_getElem? (i := 10) rfl)), (hw _ (List.mem_of_getElem? (i := 42) rfl))⟩)
  obtain ⟨w7v, v7⟩ := exa_v xe7
  have E7 := Exa.start v7 xe7
  have Fo7 := own_fv xo7 v7
  have Fb7 := own_fv xt7 v7
  have S7 := Sta.start v7 (Or.inr ⟨(hw _ (List.mem_of_getElem? (i := 10) rfl)), (hw _ (List.mem_of_getElem? (i := 48) rfl))⟩)
  obtain ⟨w8v, v8⟩ := exa_v xe8
  have E8 := Exa.start v8 xe8
  have Fo8 := own_fv xo8 v8
  have Fb8 := own_fv xt8 v8
  have S8 := Sta.start v8 (Or.inr ⟨(hw _ (List.mem_of_getElem? (i := 10) rfl)), (hw _ (List.mem_of_getElem? (i := 23) rfl))⟩)
  obtain ⟨w9v, v9⟩ := exa_v xe9
  have E9 := Exa.start v9 xe9
  have Fo9 := own_fv xo9 v9
  have Fb9 := own_fv xt9 v9
  have S9 := Sta.start v9 (Or.inr ⟨(hw _ (List.mem_of_getElem? (i := 10) rfl)), (hw _ (List.mem_of_getElem? (i := 46) rfl))⟩)
  obtain ⟨w10v, v10⟩ := exa_v xe10
  have E10 := Exa.start v10 xe10
  have Fo10 := own_fv xo10 v10
  have Fb10 := own_fv xt10 v10
  have S10 := Sta.start v10 (Or.inr ⟨(hw _ (List.mem_of_getElem? (i := 10) rfl)), (hw _ (List.mem_of_getElem? (i := 32) rfl))⟩)
  obtain ⟨w11v, v11⟩ := exa_v xe11
  have E11 := Exa.start v11 xe11
  have Fo11 := own_fv xo11 v11
  have Fb11 := own_fv xt11 v11
  have S11 := Sta.start v11 (Or.inr ⟨(hw _ (List.mem_of_getElem? (i := 10) rfl)), (hw _ (List.mem_of_getElem? (i := 36) rfl))⟩)
  obtain ⟨n, o, h1, h2, h3, _, L, rfl, ⟨rfl, N⟩, hq⟩ := rm0 l s _ hw i0 i1 i2 i3 i4 w0v w1v w2v w3v w4v w5v w6v w7v w8v w9v w10v w11v s.heap s.heap.size (Nat.le_refl _) (Old.start s) S0 S1 S2 S3 S4 S5 S6 S7 S8 S9 S10 S11 E0 E1 E2 E3 E4 E5 E6 E7 E8 E9 E10 E11 Fo0 Fb0 Fo1 Fb1 Fo2 Fb2 Fo3 Fb3 Fo4 Fb4 Fo5 Fb5 Fo6 Fb6 Fo7 Fb7 Fo8 Fb8 Fo9 Fb9 Fo10 Fb10 Fo11 Fb11 tables_1 p e ha hc hk s m _ below hf ((Spec.applies_iff_loose hf).mp happ).1 ⟨rfl, State.Warmed39.refl s, rfl⟩ trivial
  refine ⟨n, _, h1, h2, h3, hpost _ _ _ _ _ _ ⟨Cond.after_iff.mpr rfl, Cond.after_iff.mpr (eq_i res_at (Term.int_eval (1)) rfl), trivial⟩ ⟨hq.1, hq.2.1, (hq.2.2.sift fun y hy => Or.inr (N y hy)).mono (by decide) (by decide)⟩⟩
theorem main_1_1 : Claimed_1_1 := comes_1 fun _ _ _ _ _ _ h hF => ⟨h.1, hF⟩
theorem main_1_2 : Claimed_1_2 := comes_1 fun _ _ _ _ _ _ h hF => ⟨h.2.1, hF⟩
end Jvm.Pilot.@@N@@
namespace Jvm.Pilot.@@N@@
open Jvm Jvm.ClassFile Sem Op Lib Jvm.Free Jvm.Stand Jvm.Pilot.@@N@@.Jvm.D
/-! MADE BY PROGRAM (witnessworld.py) out of the Statement's table words and the real class files: 12 classes; the members and pool entries that the words name. The judged class is class 1, her method 5. -/
namespace start1
open Jvm.ClassFile
def u (s : String) : CpInfo := .utf8 (stringToUtf16 s)
/-- a pool by its gaps: so many unusable entries, then the entry; so many at the end -/
def gap : Nat → List CpInfo → List CpInfo
  | 0, r => r
  | n + 1, r => .unusable :: gap n r
def poolList (es : List (Nat × CpInfo)) (last : Nat) : List CpInfo := es.foldr (fun e r => gap e.1 (e.2 :: r)) (gap last [])
def pool (es : List (Nat × CpInfo)) (last : Nat) : Array CpInfo := ⟨poolList es last⟩
def fileOf (pool : Array CpInfo) (this : Nat) (attrs : Array Attribute := #[]) (ms : Array MethodInfo := #[]) (fl : Nat := 33) (sup : Nat := 0) (ifs : Array Nat := #[]) (fds : Array FieldInfo := #[]) : ClassFile where
  minorVersion := 0
  majorVersion := 65
  constantPool := pool
  accessFlags := fl
  thisClass := this
  superClass := sup
  interfaces := ifs
  fields := fds
  methods := ms
  attributes := attrs
def plain (name : String) (sup : Option ClassId) : Class where
  name := name
  kind := .ordinary
  loader := none
  accessFlags := 33
  super := sup
  interfaces := #[]
  cf := none
  fields := #[]
  methods := #[]
  instanceTypes := #[]
  staticTypes := #[]
  resolved := #[]
  callSites := []
  init := .initialized
  statics := none
  mirror := none

def pool0 : Array CpInfo := pool [(5, u "<init>"), (0, u "()V"), (1, .class_ 10), (1, u "java/lang/Object")] 113

def k0m0 : Method := { name := "<init>", desc := "()V", sig := { parameters := [], returnType := none }, accessFlags := 1, code := none }
/-- java/lang/Object -/
def k0 : Class := { plain "java/lang/Object" none with
  accessFlags := 33
  interfaces := #[]
  cf := some (fileOf pool0 8 #[] #[{ accessFlags := 1, nameIndex := 5, descriptorIndex := 6, attributes := #[] }] 33 0 #[] #[])
  fields := #[]
  methods := #[k0m0]
  instanceTypes := #[]
  staticTypes := #[]
  resolved := Array.replicate 124 none
  statics := none }

def pool1 : Array CpInfo := pool [(2, .class_ 4), (1, u "java/lang/Object"), (0, u "<init>"), (0, u "()V"), (0, .fieldref 8 9), (0, .class_ 10), (0, .nameAndType 11 12), (0, u "com/example/adapterd/adapterd/controller/HciCommand"), (0, u "RESET"), (0, u "Lcom/example/adapterd/adapterd/controller/HciCommand;"), (0, .fieldref 8 14), (0, .nameAndType 15 12), (0, u "READ_LOCAL_SUPPORTED_COMMANDS"), (0, .fieldref 8 17), (0, .nameAndType 18 12), (0, u "READ_LOCAL_VERSION_INFORMATION"), (0, .fieldref 8 20), (0, .nameAndType 21 12), (0, u "READ_LOCAL_SUPPORTED_FEATURES"), (0, .fieldref 8 23), (0, .nameAndType 24 12), (0, u "READ_BD_ADDR"), (0, .fieldref 8 26), (0, .nameAndType 27 12), (0, u "READ_BUFFER_SIZE"), (0, .fieldref 8 29), (0, .nameAndType 30 12), (0, u "LE_READ_BUFFER_SIZE"), (0, .fieldref 8 32), (0, .nameAndType 33 12), (0, u "SET_EVENT_MASK"), (0, .fieldref 8 35), (0, .nameAndType 36 12), (0, u "LE_SET_EVENT_MASK"), (0, .fieldref 8 38), (0, .nameAndType 39 12), (0, u "WRITE_LOCAL_NAME"), (0, .fieldref 8 41), (0, .nameAndType 42 12), (0, u "WRITE_CLASS_OF_DEVICE"), (0, .fieldref 8 44), (0, .nameAndType 45 12), (0, u "WRITE_SCAN_ENABLE"), (0, .methodref 47 48), (0, .class_ 49), (0, .nameAndType 50 51), (0, u "com/example/adapterd/adapterd/controller/HciCommandIsListedInPinLaw"), (0, u "bitOf"), (0, u "(JI)Z"), (0, .integer 2147483647), (0, .methodref 47 54), (0, .nameAndType 55 56), (0, u "put"), (0, u "([BIJ)V"), (0, .methodref 47 58), (0, .nameAndType 59 60), (0, u "cmd"), (0, u "(I)Lcom/example/adapterd/adapterd/controller/HciCommand;"), (0, .methodref 8 62), (0, .nameAndType 63 64), (0, u "isListedIn"), (0, u "([B)Z"), (0, .methodref 47 66), (0, .nameAndType 67 68), (0, u "expected"), (0, u "(IJJJJ)Z"), (3, u "law")] 4

def k1m0 : Method := { name := "<init>", desc := "()V", sig := { parameters := [], returnType := none }, accessFlags := 1, code := none }
def k1c1 : Code := { maxStack := 5, maxLocals := 4, code := method_2_code, exceptionTable := #[], attributes := #[] }
def k1m1 : Method := { name := "put", desc := "([BIJ)V", sig := { parameters := [(.array .byte), .int, .long], returnType := none }, accessFlags := 10, code := some k1c1 }
def k1c2 : Code := { maxStack := 2, maxLocals := 1, code := method_3_code, exceptionTable := #[], attributes := #[] }
def k1m2 : Method := { name := "cmd", desc := "(I)Lcom/example/adapterd/adapterd/controller/HciCommand;", sig := { parameters := [.int], returnType := some (.object "com/example/adapterd/adapterd/controller/HciCommand") }, accessFlags := 10, code := some k1c2 }
def k1c3 : Code := { maxStack := 4, maxLocals := 3, code := method_4_code, exceptionTable := #[], attributes := #[] }
def k1m3 : Method := { name := "bitOf", desc := "(JI)Z", sig := { parameters := [.long, .int], returnType := some .boolean }, accessFlags := 10, code := some k1c3 }
def k1c4 : Code := { maxStack := 3, maxLocals := 9, code := method_5_code, exceptionTable := #[], attributes := #[] }
def k1m4 : Method := { name := "expected", desc := "(IJJJJ)Z", sig := { parameters := [.int, .long, .long, .long, .long], returnType := some .boolean }, accessFlags := 10, code := some k1c4 }
def k1c5 : Code := { maxStack := 10, maxLocals := 13, code := code, exceptionTable := #[], attributes := #[] }
def k1m5 : Method := { name := "law", desc := "(IJJJJ)Z", sig := { parameters := [.int, .long, .long, .long, .long], returnType := some .boolean }, accessFlags := 9, code := some k1c5 }
/-- com/example/adapterd/adapterd/controller/HciCommandIsListedInPinLaw -/
def k1 : Class := { plain "com/example/adapterd/adapterd/controller/HciCommandIsListedInPinLaw" (some 0) with
  accessFlags := 49
  interfaces := #[]
  cf := some (fileOf pool1 47 #[] #[{ accessFlags := 1, nameIndex := 5, descriptorIndex := 6, attributes := #[] }, { accessFlags := 10, nameIndex := 55, descriptorIndex := 56, attributes := #[] }, { accessFlags := 10, nameIndex := 59, descriptorIndex := 60, attributes := #[] }, { accessFlags := 10, nameIndex := 50, descriptorIndex := 51, attributes := #[] }, { accessFlags := 10, nameIndex := 67, descriptorIndex := 68, attributes := #[] }, { accessFlags := 9, nameIndex := 72, descriptorIndex := 68, attributes := #[] }] 49 2 #[] #[])
  fields := #[]
  methods := #[k1m0, k1m1, k1m2, k1m3, k1m4, k1m5]
  instanceTypes := #[]
  staticTypes := #[]
  resolved := Array.replicate 77 none
  statics := none }

def pool2 : Array CpInfo := pool [(1, .class_ 2), (0, u "java/lang/constant/Constable"), (0, .class_ 4), (0, u "java/lang/Object")] 6

/-- java/lang/constant/Constable -/
def k2 : Class := { plain "java/lang/constant/Constable" (some 0) with
  accessFlags := 1537
  interfaces := #[]
  cf := some (fileOf pool2 1 #[] #[] 1537 3 #[] #[])
  fields := #[]
  methods := #[]
  instanceTypes := #[]
  staticTypes := #[]
  resolved := Array.replicate 11 none
  statics := none }

def pool3 : Array CpInfo := pool [(1, .class_ 2), (0, u "java/lang/Comparable"), (0, .class_ 4), (0, u "java/lang/Object")] 7

/-- java/lang/Comparable -/
def k3 : Class := { plain "java/lang/Comparable" (some 0) with
  accessFlags := 1537
  interfaces := #[]
  cf := some (fileOf pool3 1 #[] #[] 1537 3 #[] #[])
  fields := #[]
  methods := #[]
  instanceTypes := #[]
  staticTypes := #[]
  resolved := Array.replicate 12 none
  statics := none }

def pool4 : Array CpInfo := pool [(1, .class_ 2), (0, u "java/io/Serializable"), (0, .class_ 4), (0, u "java/lang/Object")] 2

/-- java/io/Serializable -/
def k4 : Class := { plain "java/io/Serializable" (some 0) with
  accessFlags := 1537
  interfaces := #[]
  cf := some (fileOf pool4 1 #[] #[] 1537 3 #[] #[])
  fields := #[]
  methods := #[]
  instanceTypes := #[]
  staticTypes := #[]
  resolved := Array.replicate 7 none
  statics := none }

def pool5 : Array CpInfo := pool [(2, .class_ 4), (1, u "java/lang/Enum"), (0, u "name"), (0, u "Ljava/lang/String;"), (2, u "ordinal"), (0, u "I"), (1, .class_ 14), (1, u "java/lang/Object"), (4, u "hash"), (86, .class_ 108), (1, u "java/lang/Enum$EnumDesc"), (2, .class_ 112), (0, u "java/lang/constant/Constable"), (0, .class_ 114), (0, u "java/lang/Comparable"), (0, .class_ 116), (0, u "java/io/Serializable")] 87

/-- java/lang/Enum -/
def k5 : Class := { plain "java/lang/Enum" (some 0) with
  accessFlags := 1057
  interfaces := #[2, 3, 4]
  cf := some (fileOf pool5 2 #[.nestMembers #[106]] #[] 1057 12 #[111, 113, 115] #[{ accessFlags := 18, nameIndex := 5, descriptorIndex := 6, attributes := #[] }, { accessFlags := 18, nameIndex := 9, descriptorIndex := 10, attributes := #[] }, { accessFlags := 2, nameIndex := 19, descriptorIndex := 10, attributes := #[] }])
  fields := #[{ name := "name", type := (.object "java/lang/String"), accessFlags := 18, slot := 0, constantValue := 0 }, { name := "ordinal", type := .int, accessFlags := 18, slot := 1, constantValue := 0 }, { name := "hash", type := .int, accessFlags := 2, slot := 2, constantValue := 0 }]
  methods := #[]
  instanceTypes := #[(.object "java/lang/String"), .int, .int]
  staticTypes := #[]
  resolved := Array.replicate 204 none
  statics := none }

def pool6 : Array CpInfo := pool [(1, .class_ 2), (0, u "com/example/adapterd/adapterd/controller/HciCommand"), (2, u "RESET"), (0, u "Lcom/example/adapterd/adapterd/controller/HciCommand;"), (2, u "READ_LOCAL_SUPPORTED_COMMANDS"), (2, u "READ_LOCAL_VERSION_INFORMATION"), (2, u "READ_LOCAL_SUPPORTED_FEATURES"), (2, u "READ_BD_ADDR"), (2, u "READ_BUFFER_SIZE"), (2, u "LE_READ_BUFFER_SIZE"), (2, u "SET_EVENT_MASK"), (2, u "LE_SET_EVENT_MASK"), (2, u "WRITE_LOCAL_NAME"), (2, u "WRITE_CLASS_OF_DEVICE"), (2, u "WRITE_SCAN_ENABLE"), (2, u "$VALUES"), (0, u "[Lcom/example/adapterd/adapterd/controller/HciCommand;"), (6, .class_ 52), (1, u "java/lang/Enum"), (11, u "opcode"), (0, u "I"), (2, u "specName"), (0, u "Ljava/lang/String;"), (2, u "returnLength"), (0, .fieldref 1 74), (0, .nameAndType 75 65), (0, u "octet"), (0, .fieldref 1 77), (0, .nameAndType 78 65), (0, u "bit"), (58, u "NAME_LENGTH"), (2, u "ALWAYS"), (10, u "isListedIn"), (0, u "([B)Z")] 8

def k6c0 : Code := { maxStack := 3, maxLocals := 2, code := prog_18_method_7_code, exceptionTable := #[], attributes := #[] }
def k6m0 : Method := { name := "isListedIn", desc := "([B)Z", sig := { parameters := [(.array .byte)], returnType := some .boolean }, accessFlags := 0, code := some k6c0 }
/-- com/example/adapterd/adapterd/controller/HciCommand -/
def k6 : Class := { plain "com/example/adapterd/adapterd/controller/HciCommand" (some 5) with
  accessFlags := 16433
  interfaces := #[]
  cf := some (fileOf pool6 1 #[] #[{ accessFlags := 0, nameIndex := 151, descriptorIndex := 152, attributes := #[] }] 16433 50 #[] #[{ accessFlags := 16409, nameIndex := 5, descriptorIndex := 6, attributes := #[] }, { accessFlags := 16409, nameIndex := 9, descriptorIndex := 6, attributes := #[] }, { accessFlags := 16409, nameIndex := 12, descriptorIndex := 6, attributes := #[] }, { accessFlags := 16409, nameIndex := 15, descriptorIndex := 6, attributes := #[] }, { accessFlags := 16409, nameIndex := 18, descriptorIndex := 6, attributes := #[] }, { accessFlags := 16409, nameIndex := 21, descriptorIndex := 6, attributes := #[] }, { accessFlags := 16409, nameIndex := 24, descriptorIndex := 6, attributes := #[] }, { accessFlags := 16409, nameIndex := 27, descriptorIndex := 6, attributes := #[] }, { accessFlags := 16409, nameIndex := 30, descriptorIndex := 6, attributes := #[] }, { accessFlags := 16409, nameIndex := 33, descriptorIndex := 6, attributes := #[] }, { accessFlags := 16409, nameIndex := 36, descriptorIndex := 6, attributes := #[] }, { accessFlags := 16409, nameIndex := 39, descriptorIndex := 6, attributes := #[] }, { accessFlags := 25, nameIndex := 137, descriptorIndex := 65, attributes := #[] }, { accessFlags := 26, nameIndex := 140, descriptorIndex := 65, attributes := #[] }, { accessFlags := 18, nameIndex := 64, descriptorIndex := 65, attributes := #[] }, { accessFlags := 18, nameIndex := 68, descriptorIndex := 69, attributes := #[] }, { accessFlags := 18, nameIndex := 72, descriptorIndex := 65, attributes := #[] }, { accessFlags := 18, nameIndex := 75, descriptorIndex := 65, attributes := #[] }, { accessFlags := 18, nameIndex := 78, descriptorIndex := 65, attributes := #[] }, { accessFlags := 4122, nameIndex := 42, descriptorIndex := 43, attributes := #[] }])
  fields := #[{ name := "RESET", type := (.object "com/example/adapterd/adapterd/controller/HciCommand"), accessFlags := 16409, slot := 0, constantValue := 0 }, { name := "READ_LOCAL_SUPPORTED_COMMANDS", type := (.object "com/example/adapterd/adapterd/controller/HciCommand"), accessFlags := 16409, slot := 1, constantValue := 0 }, { name := "READ_LOCAL_VERSION_INFORMATION", type := (.object "com/example/adapterd/adapterd/controller/HciCommand"), accessFlags := 16409, slot := 2, constantValue := 0 }, { name := "READ_LOCAL_SUPPORTED_FEATURES", type := (.object "com/example/adapterd/adapterd/controller/HciCommand"), accessFlags := 16409, slot := 3, constantValue := 0 }, { name := "READ_BD_ADDR", type := (.object "com/example/adapterd/adapterd/controller/HciCommand"), accessFlags := 16409, slot := 4, constantValue := 0 }, { name := "READ_BUFFER_SIZE", type := (.object "com/example/adapterd/adapterd/controller/HciCommand"), accessFlags := 16409, slot := 5, constantValue := 0 }, { name := "LE_READ_BUFFER_SIZE", type := (.object "com/example/adapterd/adapterd/controller/HciCommand"), accessFlags := 16409, slot := 6, constantValue := 0 }, { name := "SET_EVENT_MASK", type := (.object "com/example/adapterd/adapterd/controller/HciCommand"), accessFlags := 16409, slot := 7, constantValue := 0 }, { name := "LE_SET_EVENT_MASK", type := (.object "com/example/adapterd/adapterd/controller/HciCommand"), accessFlags := 16409, slot := 8, constantValue := 0 }, { name := "WRITE_LOCAL_NAME", type := (.object "com/example/adapterd/adapterd/controller/HciCommand"), accessFlags := 16409, slot := 9, constantValue := 0 }, { name := "WRITE_CLASS_OF_DEVICE", type := (.object "com/example/adapterd/adapterd/controller/HciCommand"), accessFlags := 16409, slot := 10, constantValue := 0 }, { name := "WRITE_SCAN_ENABLE", type := (.object "com/example/adapterd/adapterd/controller/HciCommand"), accessFlags := 16409, slot := 11, constantValue := 0 }, { name := "NAME_LENGTH", type := .int, accessFlags := 25, slot := 12, constantValue := 0 }, { name := "ALWAYS", type := .int, accessFlags := 26, slot := 13, constantValue := 0 }, { name := "opcode", type := .int, accessFlags := 18, slot := 3, constantValue := 0 }, { name := "specName", type := (.object "java/lang/String"), accessFlags := 18, slot := 4, constantValue := 0 }, { name := "returnLength", type := .int, accessFlags := 18, slot := 5, constantValue := 0 }, { name := "octet", type := .int, accessFlags := 18, slot := 6, constantValue := 0 }, { name := "bit", type := .int, accessFlags := 18, slot := 7, constantValue := 0 }, { name := "$VALUES", type := (.array (.object "com/example/adapterd/adapterd/controller/HciCommand")), accessFlags := 4122, slot := 14, constantValue := 0 }]
  methods := #[k6m0]
  instanceTypes := #[(.object "java/lang/String"), .int, .int, .int, (.object "java/lang/String"), .int, .int, .int]
  staticTypes := #[(.object "com/example/adapterd/adapterd/controller/HciCommand"), (.object "com/example/adapterd/adapterd/controller/HciCommand"), (.object "com/example/adapterd/adapterd/controller/HciCommand"), (.object "com/example/adapterd/adapterd/controller/HciCommand"), (.object "com/example/adapterd/adapterd/controller/HciCommand"), (.object "com/example/adapterd/adapterd/controller/HciCommand"), (.object "com/example/adapterd/adapterd/controller/HciCommand"), (.object "com/example/adapterd/adapterd/controller/HciCommand"), (.object "com/example/adapterd/adapterd/controller/HciCommand"), (.object "com/example/adapterd/adapterd/controller/HciCommand"), (.object "com/example/adapterd/adapterd/controller/HciCommand"), (.object "com/example/adapterd/adapterd/controller/HciCommand"), .int, .int, (.array (.object "com/example/adapterd/adapterd/controller/HciCommand"))]
  resolved := Array.replicate 161 none
  statics := some 0 }

def pool7 : Array CpInfo := pool [(1, u "java/lang/Cloneable"), (0, .class_ 1), (0, u "java/lang/Object"), (0, .class_ 3)] 3

/-- java/lang/Cloneable -/
def k7 : Class := { plain "java/lang/Cloneable" (some 0) with
  accessFlags := 1537
  interfaces := #[]
  cf := some (fileOf pool7 2 #[] #[] 1537 4 #[] #[])
  fields := #[]
  methods := #[]
  instanceTypes := #[]
  staticTypes := #[]
  resolved := Array.replicate 8 none
  statics := none }

/-- the primitive byte -/
def k8 : Class := { plain "byte" none with kind := .primitive 'B', accessFlags := 0x411 }
/-- [B -/
def k9 : Class := { plain "[B" (some 0) with kind := .array 8 .byte, interfaces := #[7, 4], accessFlags := 1041 }

/-- the primitive int -/
def k10 : Class := { plain "int" none with kind := .primitive 'I', accessFlags := 0x411 }
/-- [I -/
def k11 : Class := { plain "[I" (some 0) with kind := .array 10 .int, interfaces := #[7, 4], accessFlags := 1041 }

def heap : Heap := #[{ cls := 6, slots := #[.ref 1, .ref 3, .ref 5, .ref 10, .ref 8, .ref 7, .ref 9, .ref 12, .ref 2, .ref 11, .ref 4, .ref 6, .int 0, .int 0, .null], vm := .statics 6 },
  { cls := 6, slots := #[.null, .int 0, .int 0, .int 0, .null, .int 0, .int (-1), .int (-1)], vm := .none },
  { cls := 6, slots := #[.null, .int 1, .int 0, .int 0, .null, .int 0, .int 25, .int 0], vm := .none },
  { cls := 6, slots := #[.null, .int 2, .int 0, .int 0, .null, .int 0, .int (-1), .int (-1)], vm := .none },
  { cls := 6, slots := #[.null, .int 3, .int 0, .int 0, .null, .int 0, .int 9, .int 1], vm := .none },
  { cls := 6, slots := #[.null, .int 4, .int 0, .int 0, .null, .int 0, .int 14, .int 3], vm := .none },
  { cls := 6, slots := #[.null, .int 5, .int 0, .int 0, .null, .int 0, .int 7, .int 7], vm := .none },
  { cls := 6, slots := #[.null, .int 6, .int 0, .int 0, .null, .int 0, .int 14, .int 7], vm := .none },
  { cls := 6, slots := #[.null, .int 7, .int 0, .int 0, .null, .int 0, .int 15, .int 1], vm := .none },
  { cls := 6, slots := #[.null, .int 8, .int 0, .int 0, .null, .int 0, .int 25, .int 1], vm := .none },
  { cls := 6, slots := #[.null, .int 9, .int 0, .int 0, .null, .int 0, .int 14, .int 5], vm := .none },
  { cls := 6, slots := #[.null, .int 10, .int 0, .int 0, .null, .int 0, .int 7, .int 0], vm := .none },
  { cls := 6, slots := #[.null, .int 11, .int 0, .int 0, .null, .int 0, .int 5, .int 6], vm := .none }]
def classes : Array Class := #[k0, k1, k2, k3, k4, k5, k6, k7, k8, k9, k10, k11]
def interned : List (Array UInt16 × Addr) := []
def slotsUsed : Nat := 111
def theMethod : MethodId := ⟨1, 5⟩
def args0 : Array Value := #[.int 5, .long 1, .long 2, .long 3, .long 4]
def aboutOver (below : List Frame) : State where
  vm := { classes := classes, interned := interned.toArray }
  heap := heap
  slotsUsed := slotsUsed
  threads := #[{ frames := .invoking theMethod args0 :: below }]
def below0 : List Frame := [.native { method := ⟨0, 0⟩, args := #[] }]
def about1 : State := aboutOver below0
def p0 : Program := .bare "" "" ""
def e0 : Env := launch0.env 0 0 0
theorem w_frames : about1.frames = Frame.invoking theMethod args0 :: below0 := rfl
set_option maxRecDepth 65536 in
theorem w_args : argsFit about1.vm theMethod args0 = true := by decide +kernel
set_option maxRecDepth 65536 in
theorem w_heap : heapFits about1 = true := by decide +kernel
set_option maxRecDepth 65536 in
theorem w_runnable : about1.curStatus? = some .runnable := by decide +kernel
set_option maxRecDepth 65536 in
theorem w_alone : about1.alone = true := by decide +kernel
set_option maxRecDepth 65536 in
theorem w_named : about1.methodNamed? x = some theMethod := by decide +kernel
set_option maxRecDepth 65536 in
theorem w_hears : about1.hears theMethod below0 = true := by decide +kernel
set_option maxRecDepth 65536 in
theorem w_ripe : about1.ripe theMethod args0 below0 = true := by decide +kernel
theorem w_running : about1.status = .running := rfl
set_option maxRecDepth 65536 in
theorem w_room : about1.hasRoom e0.platform room_1 = true :=
  launch0.hasRoom_least _ room_1 (by decide +kernel) (by decide +kernel) (by decide +kernel) (by decide +kernel) (by decide +kernel) (by decide +kernel)
theorem allAtoms_all (ts : List Jvm.Cond) (a : Array Jvm.Value) (st : Jvm.State) : (allAtoms ts).before a st = ts.all (fun c => c.before a st) := by
  induction ts with
  | nil => rfl
  | cons c t ih =>
    show (Jvm.Cond.and c (allAtoms t)).before a st = _
    rw [Jvm.Cond.before_and, ih, List.all_cons]
def words1 : List Jvm.Cond := Jvm.Cond.code x code maxLocals ret :: tables_1
/-- a 'code' word, met by the world's own term for the bytes: nothing is compared byte by byte -/
theorem code_word {y : MethodName} {bytes : ByteArray} {mx : Nat} {rt : Option FieldType} {a : Array Value} {s : State} {m : MethodId} {meth : Method} {c : Code} (h1 : s.methodNamed? y = some m) (h2 : s.vm.method? m = some meth) (h3 : meth.code = some c) (h4 : c.code = bytes)
    (h5 : (c.maxLocals == mx && c.exceptionTable.isEmpty && decide (c.maxStack ≤ mostOperands) && decide (meth.sig.returnType = rt) && !meth.locks && decide (parseMethodDescriptor y.desc = some meth.sig)) = true) : (Jvm.Cond.code y bytes mx rt).before a s = true := by
  simp only [Bool.and_eq_true, beq_iff_eq, Bool.not_eq_true', decide_eq_true_eq] at h5
  obtain ⟨⟨⟨⟨⟨g1, g2⟩, g3⟩, g4⟩, g5⟩, g6⟩ := h5
  simp [Cond.before, Cond.holds, Cond.value, h1, h2, h3, h4, g1, g2, g3, g4, g5, g6]
def isCode : Jvm.Cond → Bool
  | .code _ _ _ _ => true
  | _ => false
theorem all_split {L : List Jvm.Cond} {P : Jvm.Cond → Bool} (h1 : L.all (fun c => isCode c || P c) = true) (h2 : ∀ c ∈ L.filter isCode, P c = true) : L.all P = true := by
  refine List.all_eq_true.mpr fun c hc => ?_
  have h := List.all_eq_true.mp h1 c hc
  rcases Bool.eq_false_or_eq_true (isCode c) with hi | hi
  · exact h2 c (List.mem_filter.mpr ⟨hc, hi⟩)
  · simpa [hi] using h
set_option maxRecDepth 65536 in
theorem w_c0 : (Jvm.Cond.code x code maxLocals ret).before args0 about1 = true := code_word (m := ⟨1, 5⟩) (meth := k1m5) (c := k1c5) (by decide +kernel) rfl rfl rfl (by decide +kernel)
set_option maxRecDepth 65536 in
theorem w_c1 : (Jvm.Cond.code ({ cls := "com/example/adapterd/adapterd/controller/HciCommandIsListedInPinLaw", name := "put", desc := "([BIJ)V" } : Jvm.MethodName) method_2_code (4 : Nat) (Option.none : Option Jvm.ClassFile.FieldType)).before args0 about1 = true := code_word (m := ⟨1, 1⟩) (meth := k1m1) (c := k1c1) (by decide +kernel) rfl rfl rfl (by decide +kernel)
set_option maxRecDepth 65536 in
theorem w_c2 : (Jvm.Cond.code ({ cls := "com/example/adapterd/adapterd/controller/HciCommandIsListedInPinLaw", name := "cmd", desc := "(I)Lcom/example/adapterd/adapterd/controller/HciCommand;" } : Jvm.MethodName) method_3_code (1 : Nat) (Option.some (Jvm.ClassFile.FieldType.object "com/example/adapterd/adapterd/controller/HciCommand"))).before args0 about1 = true := code_word (m := ⟨1, 2⟩) (meth := k1m2) (c := k1c2) (by decide +kernel) rfl rfl rfl (by decide +kernel)
set_option maxRecDepth 65536 in
theorem w_c3 : (Jvm.Cond.code ({ cls := "com/example/adapterd/adapterd/controller/HciCommand", name := "isListedIn", desc := "([B)Z" } : Jvm.MethodName) prog_18_method_7_code (2 : Nat) (Option.some Jvm.ClassFile.FieldType.boolean)).before args0 about1 = true := code_word (m := ⟨6, 0⟩) (meth := k6m0) (c := k6c0) (by decide +kernel) rfl rfl rfl (by decide +kernel)
set_option maxRecDepth 65536 in
theorem w_c4 : (Jvm.Cond.code ({ cls := "com/example/adapterd/adapterd/controller/HciCommandIsListedInPinLaw", name := "expected", desc := "(IJJJJ)Z" } : Jvm.MethodName) method_5_code (9 : Nat) (Option.some Jvm.ClassFile.FieldType.boolean)).before args0 about1 = true := code_word (m := ⟨1, 4⟩) (meth := k1m4) (c := k1c4) (by decide +kernel) rfl rfl rfl (by decide +kernel)
set_option maxRecDepth 65536 in
theorem w_c5 : (Jvm.Cond.code ({ cls := "com/example/adapterd/adapterd/controller/HciCommandIsListedInPinLaw", name := "bitOf", desc := "(JI)Z" } : Jvm.MethodName) method_4_code (3 : Nat) (Option.some Jvm.ClassFile.FieldType.boolean)).before args0 about1 = true := code_word (m := ⟨1, 3⟩) (meth := k1m3) (c := k1c3) (by decide +kernel) rfl rfl rfl (by decide +kernel)
def codes1 : List Jvm.Cond := [Jvm.Cond.code x code maxLocals ret, Jvm.Cond.code ({ cls := "com/example/adapterd/adapterd/controller/HciCommandIsListedInPinLaw", name := "put", desc := "([BIJ)V" } : Jvm.MethodName) method_2_code (4 : Nat) (Option.none : Option Jvm.ClassFile.FieldType), Jvm.Cond.code ({ cls := "com/example/adapterd/adapterd/controller/HciCommandIsListedInPinLaw", name := "cmd", desc := "(I)Lcom/example/adapterd/adapterd/controller/HciCommand;" } : Jvm.MethodName) method_3_code (1 : Nat) (Option.some (Jvm.ClassFile.FieldType.object "com/example/adapterd/adapterd/controller/HciCommand")), Jvm.Cond.code ({ cls := "com/example/adapterd/adapterd/controller/HciCommand", name := "isListedIn", desc := "([B)Z" } : Jvm.MethodName) prog_18_method_7_code (2 : Nat) (Option.some Jvm.ClassFile.FieldType.boolean), Jvm.Cond.code ({ cls := "com/example/adapterd/adapterd/controller/HciCommandIsListedInPinLaw", name := "expected", desc := "(IJJJJ)Z" } : Jvm.MethodName) method_5_code (9 : Nat) (Option.some Jvm.ClassFile.FieldType.boolean), Jvm.Cond.code ({ cls := "com/example/adapterd/adapterd/controller/HciCommandIsListedInPinLaw", name := "bitOf", desc := "(JI)Z" } : Jvm.MethodName) method_4_code (3 : Nat) (Option.some Jvm.ClassFile.FieldType.boolean)]
set_option maxRecDepth 65536 in
theorem codes_eq : words1.filter isCode = codes1 := rfl
theorem w_codes : ∀ c ∈ words1.filter isCode, c.before args0 about1 = true := by
  rw [codes_eq]
  intro c hc
  simp only [codes1, List.mem_cons, List.not_mem_nil, or_false] at hc
  rcases hc with rfl | rfl | rfl | rfl | rfl | rfl
  · exact w_c0
  · exact w_c1
  · exact w_c2
  · exact w_c3
  · exact w_c4
  · exact w_c5
set_option maxRecDepth 65536 in
theorem w_t1 : (words1.take 24).all (fun c => isCode c || c.before args0 about1) = true := by decide +kernel
set_option maxRecDepth 65536 in
theorem w_t2 : ((words1.drop 24).take 24).all (fun c => isCode c || c.before args0 about1) = true := by decide +kernel
set_option maxRecDepth 65536 in
theorem w_t3 : ((words1.drop 24).drop 24).all (fun c => isCode c || c.before args0 about1) = true := by decide +kernel
theorem w_tables : (allAtoms (Jvm.Cond.code x code maxLocals ret :: tables_1)).before args0 about1 = true := by
  rw [allAtoms_all]
  show words1.all (fun c => c.before args0 about1) = true
  refine all_split ?_ w_codes
  rw [← List.take_append_drop 24 words1, List.all_append, w_t1, ← List.take_append_drop 24 (words1.drop 24), List.all_append, w_t2, w_t3]
  rfl
set_option maxRecDepth 65536 in
theorem w_case : (Jvm.Cond.and given_1 narrow_1).before args0 about1 = true := by decide +kernel
theorem w_applies : (headSpec (Jvm.Cond.code x code maxLocals ret :: tables_1) room_1).applies x e0.platform about1 = true :=
  (Spec.applies_iff w_frames).mpr ⟨w_running, w_runnable, w_alone, w_named, w_hears, w_ripe, w_room, w_tables⟩
theorem atStart : AtStart classFile x code maxLocals ret World_1 tables_1 room_1 Calls_1 rest_1 Pre_1 launch0 p0 e0 about1 theMethod args0 below0 :=
  ⟨lists_1, trivial, launch0.admits_env _ _ _, launch0.least_env, fairChoices_fair.cas, fairChoices_fair.clock, w_frames, w_args, w_heap, w_applies, trivial, trivial, w_case⟩
end start1
theorem witness_1 : WitnessClaimed_1 := ⟨start1.p0, start1.e0, start1.about1, start1.theMethod, start1.args0, start1.below0, start1.atStart⟩
end Jvm.Pilot.@@N@@
